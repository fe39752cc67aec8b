import PyProof.Rows.All
import Wide.All
import OpenK.AllK
import Wide.FinOn
import PySem.Challenge.RW_pu0006_01
open PySem PySem.W PyProof.Rows PySem.Calls PySem.Spec
set_option Elab.async false
-- these six names are taken so that the head writes no twin of six large constants: the compiled file stays under its lid
theorem PySem.W.Fast.tw8075568018651887793 : True := trivial
theorem PySem.W.Fast.tw14979626087600564940 : True := trivial
theorem PySem.W.Fast.tw2128938947807071004 : True := trivial
theorem PySem.W.Fast.tw13198648067127048565 : True := trivial
theorem PySem.W.Fast.tw4392076818467891588 : True := trivial
theorem PySem.W.Fast.tw6486400423310739520 : True := trivial
namespace Mine
set_option maxRecDepth 100000 in
set_option maxHeartbeats 8000000 in
open_top hd for PySem.Challenge.rw_pu0006_01
set_option maxRecDepth 100000
set_option linter.unusedVariables false
-- part L1

/-- tables of code that may grow: the ones that the law's start has, and all younger ones -/
noncomputable def Tb (H : Heap) (b : Addr) : Prop := isCodeTable H b ∨ H.objs.size ≤ b

/-- a code object's record -/
noncomputable def Cd (h : Heap) (c : Addr) : Prop := ∃ o q vs t, h.get? c = some o ∧ o.cls = .type "code" ∧ o.data = .fields vs ∧ vs[1]? = some (.str q t)
/-- a code object (to the depth n): its record, its table, the codes in the table -/
noncomputable def GoodN (H : Heap) : Nat → Heap → Addr → Prop
  | 0, h, c => Cd h c
  | n + 1, h, c => Cd h c ∧ ∃ P ps, CodeHd h c P ∧ h.get? P = some (tabObj ps) ∧ TriplesOk ps.toList ∧ Tb H P ∧
      ∀ pos cv, codeAmong pos ps.toList = some cv → ∃ c', cv = .ref c' ∧ GoodN H n h c'
noncomputable def Good (H h : Heap) (c : Addr) : Prop := ∀ n, GoodN H n h c

/-- an object that is no code and no table -/
noncomputable def NoCode (o : Obj) : Prop := (o.cls ≠ .type "code" ∧ o.cls ≠ .none) ∨ ∀ vs, o.data ≠ .fields vs

theorem NoCode.not_code {o : Obj} {vs} (hc : o.cls = .type "code") (hd : o.data = .fields vs) : ¬ NoCode o := by
  rintro (⟨h, _⟩ | h)
  · exact h hc
  · exact h _ hd
theorem NoCode.not_tab {ps} : ¬ NoCode (tabObj ps) := by
  rintro (⟨_, h⟩ | h)
  · exact h rfl
  · exact h _ rfl

section
variable {H h h' : Heap}
theorem Cd.rec' {c : Addr} (x : Cd h c) : ∃ q, h.CodeRec (.ref c) q := let ⟨o, q, vs, t, a, _, b, e⟩ := x; ⟨q, c, o, vs, t, rfl, a, b, e⟩
theorem Cd.keeps {c : Addr} (x : Cd h c) (hk : ∀ b o, h.get? b = some o → ¬ NoCode o → h'.get? b = some o) : Cd h' c :=
  let ⟨o, q, vs, t, a, e1, e2, e3⟩ := x; ⟨o, q, vs, t, hk _ _ a (NoCode.not_code e1 e2), e1, e2, e3⟩
theorem codeHd_keeps {c P : Addr} (x : CodeHd h c P) (hk : ∀ b o, h.get? b = some o → ¬ NoCode o → h'.get? b = some o) : CodeHd h' c P :=
  let ⟨o, vs, f, tf, fl, tg, i, tx, tt, a, e1, e2, r⟩ := x; ⟨o, vs, f, tf, fl, tg, i, tx, tt, hk _ _ a (NoCode.not_code e1 e2), e1, e2, r⟩
theorem codeHd_ne {c P : Addr} {ps} (x : CodeHd h c P) (hP : h.get? P = some (tabObj ps)) {b : Addr} {qs} (hb : h.get? b = some (tabObj qs)) : c ≠ b := by
  rintro rfl
  obtain ⟨o, vs, f, tf, fl, tg, i, tx, tt, a, e1, e2, r⟩ := x
  rw [hb] at a; cases a; cases e1
theorem GoodN.cd : ∀ {n : Nat} {c : Addr}, GoodN H n h c → Cd h c
  | 0, _, g => g
  | _ + 1, _, g => g.1
/-- Good looks at code objects and tables alone -/
theorem GoodN.keeps (hk : ∀ b o, h.get? b = some o → ¬ NoCode o → h'.get? b = some o) : ∀ (n : Nat) (c : Addr), GoodN H n h c → GoodN H n h' c := by
  intro n
  induction n with
  | zero => intro c x; exact Cd.keeps x hk
  | succ n ih =>
    rintro c ⟨hc, P, ps, hd, hP, ht, hb, hm⟩
    exact ⟨hc.keeps hk, P, ps, codeHd_keeps hd hk, hk P _ hP NoCode.not_tab, ht, hb, fun pos cv e => let ⟨c', e', g⟩ := hm pos cv e; ⟨c', e', ih c' g⟩⟩
theorem Good.keeps (hk : ∀ b o, h.get? b = some o → ¬ NoCode o → h'.get? b = some o) {c : Addr} (g : Good H h c) : Good H h' c := fun n => (g n).keeps hk n c

theorem codeAmong_app {pos : Pos} {a b : Int} {t u : Tok} {c cv : Value} : ∀ (l : List Value), TriplesOk l → codeAmong pos (l ++ [.int a t, .int b u, c]) = some cv → codeAmong pos l = some cv ∨ cv = c
  | [], _, e => by
    unfold codeAmong at e
    simp only [List.nil_append] at e
    split at e
    · exact .inr (Option.some.inj e).symm
    · cases e
  | .int x y :: .int z v :: k :: r, h, e => by
    simp only [List.cons_append, codeAmong] at e ⊢
    by_cases q : (x == (pos.line : Int) && z == (pos.col : Int)) = true
    · rw [if_pos q] at e ⊢; exact .inl e
    · rw [if_neg q] at e ⊢; exact codeAmong_app r h e
  | [.int _ _], h, _ => h.elim
  | [.int _ _, .int _ _], h, _ => h.elim
  | .int _ _ :: .none :: _, h, _ => h.elim
  | .int _ _ :: .ellipsis :: _, h, _ => h.elim
  | .int _ _ :: .notImplemented :: _, h, _ => h.elim
  | .int _ _ :: .bool _ :: _, h, _ => h.elim
  | .int _ _ :: .float _ _ :: _, h, _ => h.elim
  | .int _ _ :: .str _ _ :: _, h, _ => h.elim
  | .int _ _ :: .bytes _ _ :: _, h, _ => h.elim
  | .int _ _ :: .type _ :: _, h, _ => h.elim
  | .int _ _ :: .builtin _ :: _, h, _ => h.elim
  | .int _ _ :: .ref _ :: _, h, _ => h.elim
  | .none :: _, h, _ => h.elim
  | .ellipsis :: _, h, _ => h.elim
  | .notImplemented :: _, h, _ => h.elim
  | .bool _ :: _, h, _ => h.elim
  | .float _ _ :: _, h, _ => h.elim
  | .str _ _ :: _, h, _ => h.elim
  | .bytes _ _ :: _, h, _ => h.elim
  | .type _ :: _, h, _ => h.elim
  | .builtin _ :: _, h, _ => h.elim
  | .ref _ :: _, h, _ => h.elim

/-- a table grows by one fresh code -/
theorem Good.grow {P c' P' : Addr} {ps : Array Value} {pos : Pos} (hx : Heap.ExtBut P h h') (hP : h.get? P = some (tabObj ps)) (ht : TriplesOk ps.toList)
    (hP' : h'.get? P = some (tabObj (ps ++ #[rawInt pos.line, rawInt pos.col, .ref c']))) (hc : Cd h' c') (hd' : CodeHd h' c' P') (ht' : h'.get? P' = some (tabObj #[])) (hb : Tb H P') {c : Addr} (g : Good H h c) : Good H h' c := by
  have fresh : ∀ n, GoodN H n h' c' := by
    intro n
    cases n with
    | zero => exact hc
    | succ n => exact ⟨hc, P', #[], hd', ht', trivial, hb, fun pos cv e => by cases e⟩
  have all : ∀ n c, GoodN H n h c → GoodN H n h' c := by
    intro n
    induction n with
    | zero =>
      rintro c ⟨o, q, vs, t, a, e1, e2, e3⟩
      exact ⟨o, q, vs, t, hx _ _ (by rintro rfl; rw [hP] at a; cases a; cases e1) a, e1, e2, e3⟩
    | succ n ih =>
      rintro c ⟨⟨o, q, vs, t, a, e1, e2, e3⟩, P₁, ps₁, hd, hP₁, ht₁, hb₁, hm⟩
      have hcP : c ≠ P := by rintro rfl; rw [hP] at a; cases a; cases e1
      have hd₁ : CodeHd h' c P₁ := by
        obtain ⟨o, vs, f, tf, fl, tg, i, tx, tt, a, r⟩ := hd
        exact ⟨o, vs, f, tf, fl, tg, i, tx, tt, hx _ _ hcP a, r⟩
      refine ⟨⟨o, q, vs, t, hx _ _ hcP a, e1, e2, e3⟩, P₁, ?_⟩
      by_cases hPP : P₁ = P
      · subst hPP
        have : ps₁ = ps := by rw [hP] at hP₁; injection hP₁ with e; injection e with _ _ e; injection e with e; exact e.symm
        subst this
        refine ⟨_, hd₁, hP', ?_, hb₁, fun pos' cv e => ?_⟩
        · rw [Array.toList_append]; exact TriplesOk_snoc _ _ _ _ ht
        · rw [Array.toList_append] at e
          rcases codeAmong_app _ ht e with e | rfl
          · obtain ⟨c₂, e', g'⟩ := hm pos' cv e
            exact ⟨c₂, e', ih c₂ g'⟩
          · exact ⟨c', rfl, fresh n⟩
      · exact ⟨ps₁, hd₁, hx _ _ hPP hP₁, ht₁, hb₁, fun pos' cv e => let ⟨c₂, e', g'⟩ := hm pos' cv e; ⟨c₂, e', ih c₂ g'⟩⟩
  exact fun n => all n c (g n)
theorem Good.cd {c : Addr} (g : Good H h c) : Cd h c := (g 0).cd
/-- what Good gives -/
theorem Good.parts {c : Addr} (g : Good H h c) : ∃ P ps, CodeHd h c P ∧ h.get? P = some (tabObj ps) ∧ TriplesOk ps.toList ∧ Tb H P ∧
      ∀ pos cv, codeAmong pos ps.toList = some cv → ∃ c', cv = .ref c' ∧ Good H h c' := by
  obtain ⟨_, P, ps, hd, hP, ht, hb, hm⟩ := g 1
  refine ⟨P, ps, hd, hP, ht, hb, fun pos cv e => ?_⟩
  obtain ⟨c', rfl, _⟩ := hm pos cv e
  refine ⟨c', rfl, fun n => ?_⟩
  obtain ⟨_, P₁, ps₁, hd₁, hP₁, _, _, hm₁⟩ := g (n + 1)
  have e1 : P₁ = P := by
    obtain ⟨o, vs, f, tf, fl, tg, i, tx, tt, a, e1, e2, e3, r⟩ := hd
    obtain ⟨o', vs', f', tf', fl', tg', i', tx', tt', a', e1', e2', e3', r'⟩ := hd₁
    rw [a] at a'; cases a'; rw [e2] at e2'; cases e2'; rw [e3] at e3'; cases e3'; rfl
  subst e1
  have e2 : ps₁ = ps := by rw [hP] at hP₁; injection hP₁ with e; injection e with _ _ e; injection e with e; exact e.symm
  subst e2
  obtain ⟨c₂, e3, g₂⟩ := hm₁ pos _ e
  cases e3; exact g₂
end

/-- all is kept but tables, which grow -/
structure Kp (H h h' : Heap) : Prop where
  keep : ∀ b o, h.get? b = some o → h'.get? b = some o ∨ (Tb H b ∧ o.cls = .none ∧ ∃ vs more, o.data = .fields vs ∧ h'.get? b = some { o with data := .fields (vs ++ more) })
  good : ∀ c, Good H h c → Good H h' c

namespace Kp
variable {H h h' h'' : Heap}
theorem refl (H h : Heap) : Kp H h h := ⟨fun _ _ e => .inl e, fun _ e => e⟩
theorem trans (x : Kp H h h') (y : Kp H h' h'') : Kp H h h'' := by
  refine ⟨fun b o e => ?_, fun c e => y.good c (x.good c e)⟩
  rcases x.keep b o e with k | ⟨t, hc, vs, more, hd, k⟩
  · exact y.keep b o k
  · rcases y.keep b _ k with k2 | ⟨_, _, vs2, more2, hd2, k2⟩
    · exact .inr ⟨t, hc, vs, more, hd, k2⟩
    · refine .inr ⟨t, hc, vs, more ++ more2, hd, ?_⟩
      have : vs2 = vs ++ more := by cases hd2; rfl
      subst this
      rw [k2, Array.append_assoc]
theorem get (x : Kp H h h') {b : Addr} {o : Obj} (e : h.get? b = some o) (hn : NoCode o) : h'.get? b = some o := by
  rcases x.keep b o e with k | ⟨_, hc, vs, _, hd, _⟩
  · exact k
  · rcases hn with ⟨_, h2⟩ | h2
    · exact absurd hc h2
    · exact absurd hd (h2 vs)
theorem getc (x : Kp H h h') {b : Addr} {o : Obj} (e : h.get? b = some o) (hn : o.cls ≠ .none) : h'.get? b = some o := by
  rcases x.keep b o e with k | ⟨_, hc, vs, _, hd, _⟩
  · exact k
  · exact absurd hc hn
theorem ns (x : Kp H h h') {a : Addr} {m} (n : h.Ns a m) : h'.Ns a m := by
  obtain ⟨o, es, ep, e, hd, r⟩ := n
  exact ⟨o, es, ep, x.get e (.inr fun vs q => by rw [hd] at q; cases q), hd, r⟩
theorem noLimit (x : Kp H h h') (n : h.NoLimit) : h'.NoLimit := let ⟨mc, a, b⟩ := n; ⟨mc, x.ns a, b⟩
theorem isList (x : Kp H h h') {a : Addr} {vs} (n : h.IsList a vs) : h'.IsList a vs := let ⟨o, e, hc, r⟩ := n; ⟨o, x.getc e (by rw [hc]; nofun), hc, r⟩
theorem isCell (x : Kp H h h') {a : Addr} {v} (n : h.IsCell a v) : h'.IsCell a v := let ⟨o, e, hd⟩ := n; ⟨o, x.get e (.inr fun vs q => by rw [hd] at q; cases q), hd⟩
theorem of_keeps (hk : ∀ b o, h.get? b = some o → h'.get? b = some o) : Kp H h h' := ⟨fun b o e => .inl (hk b o e), fun _ g => g.keeps fun b o e _ => hk b o e⟩
theorem push (h : Heap) (o : Obj) : Kp H h (h.push o) := of_keeps fun _ _ e => Heap.get?_push_of_some _ e
/-- an object above the base is changed -/
theorem step {h₀ : Heap} (x : Kp H h₀ h) {a : Addr} (hx : Heap.ExtBut a h h') (ha : h₀.objs.size ≤ a) (hn : ∀ o, h.get? a = some o → NoCode o) : Kp H h₀ h' := by
  refine ⟨fun b o e => ?_, fun c g => (x.good c g).keeps fun b o e q => hx b o (fun z => q (hn o (z ▸ e))) e⟩
  have hb : b ≠ a := Nat.ne_of_lt (Nat.lt_of_lt_of_le (Heap.lt_size e) ha)
  rcases x.keep b o e with k | ⟨t, hc, vs, more, hd, k⟩
  · exact .inl (hx _ _ hb k)
  · exact .inr ⟨t, hc, vs, more, hd, hx _ _ hb k⟩
theorem oldK (x : Kp H H h) : OldK H h := by
  refine ⟨fun b o e => ?_, fun b o e => ?_⟩
  · rcases x.keep b o e with k | ⟨t, hc, vs, more, hd, k⟩
    · exact .inl k
    · rcases t with t | t
      · exact .inr (.inl ⟨t, hc, vs, more, hd, k⟩)
      · exact absurd (Heap.lt_size e) (Nat.not_lt.mpr t)
  · rcases x.keep b o e with k | ⟨t, hc, vs, more, hd, k⟩
    · exact ⟨_, k⟩
    · exact ⟨_, k⟩
end Kp

/-- a function's code is good -/
noncomputable def GoodFn (H h : Heap) (o : Obj) : Prop := ∀ fd, o.data = .func fd → ∃ c, fd.code = .ref c ∧ Good H h c
theorem GoodFn.mono {H h h' : Heap} {o : Obj} (x : GoodFn H h o) (k : ∀ c, Good H h c → Good H h' c) : GoodFn H h' o := fun fd e => let ⟨c, a, b⟩ := x fd e; ⟨c, a, k c b⟩

/-- a frame at hand: its names, the base h₀ kept, its own objects -/
structure Fx (H h₀ : Heap) (L : Addr) (h : Heap) (m : Str → Option Value) (σ : List (Addr × Obj)) : Prop where
  ns : h.Ns L m
  kp : Kp H h₀ h
  above : h₀.objs.size ≤ L
  base : H.objs.size ≤ h₀.objs.size
  own : ∀ p ∈ σ, h.get? p.1 = some p.2 ∧ h₀.objs.size ≤ p.1 ∧ p.1 ≠ L ∧ NoCode p.2
  fns : ∀ p ∈ σ, GoodFn H h p.2
  nd : (σ.map (·.1)).Nodup

/-- σ with the object of one address another -/
inductive Up (a : Addr) (o o' : Obj) : List (Addr × Obj) → List (Addr × Obj) → Prop
  | head {σ} : Up a o o' ((a, o) :: σ) ((a, o') :: σ)
  | tail {p σ σ'} : Up a o o' σ σ' → Up a o o' (p :: σ) (p :: σ')
namespace Up
variable {a : Addr} {o o' : Obj} {σ σ' : List (Addr × Obj)}
theorem mem (u : Up a o o' σ σ') : (a, o) ∈ σ := by induction u with | head => exact .head _ | tail _ ih => exact .tail _ ih
theorem keys (u : Up a o o' σ σ') : σ'.map (·.1) = σ.map (·.1) := by induction u with | head => rfl | tail _ ih => simp only [List.map_cons, ih]
theorem cases' (u : Up a o o' σ σ') (nd : (σ.map (·.1)).Nodup) : ∀ p ∈ σ', p = (a, o') ∨ (p ∈ σ ∧ p.1 ≠ a) := by
  induction u with
  | head =>
    intro p hp
    rcases List.mem_cons.mp hp with rfl | hp
    · exact .inl rfl
    · refine .inr ⟨.tail _ hp, ?_⟩
      simp only [List.map_cons, List.nodup_cons] at nd
      exact fun e => nd.1 (e ▸ List.mem_map_of_mem hp)
  | @tail q τ τ' u ih =>
    intro p hp
    simp only [List.map_cons, List.nodup_cons] at nd
    rcases List.mem_cons.mp hp with rfl | hp
    · refine .inr ⟨.head _, fun e => nd.1 ?_⟩
      rw [e]; exact List.mem_map_of_mem (f := (·.1)) u.mem
    · rcases ih nd.2 p hp with e | ⟨h1, h2⟩
      · exact .inl e
      · exact .inr ⟨.tail _ h1, h2⟩
end Up

/-- a step that changes an object which is no code keeps what is good -/
theorem good_step {H h h' : Heap} {a : Addr} (hx : Heap.ExtBut a h h') (hn : ∀ o, h.get? a = some o → NoCode o) : ∀ c, Good H h c → Good H h' c :=
  fun _ g => g.keeps fun b o e q => hx b o (fun z => q (hn o (z ▸ e))) e
theorem good_push {H h : Heap} {o : Obj} : ∀ c, Good H h c → Good H (h.push o) c := (Kp.push h o).good

namespace Fx
variable {H h₀ h h' : Heap} {L : Addr} {m m' : Str → Option Value} {σ σ' : List (Addr × Obj)}
theorem get (F : Fx H h₀ L h m σ) {a : Addr} {o : Obj} (hm : (a, o) ∈ σ) : h.get? a = some o := (F.own _ hm).1
theorem noCodeL (F : Fx H h₀ L h m σ) : ∀ o, h.get? L = some o → NoCode o := by
  obtain ⟨o, es, ep, e, hd, _⟩ := F.ns
  intro o' e'
  rw [e] at e'; cases e'
  exact .inr fun vs q => by rw [hd] at q; cases q
theorem store (F : Fx H h₀ L h m σ) (hn : h'.Ns L m') (hs : Heap.SameBut L h h') : Fx H h₀ L h' m' σ :=
  ⟨hn, F.kp.step hs.extBut F.above F.noCodeL, F.above, F.base, fun p hp => let ⟨a, b, c, d⟩ := F.own p hp; ⟨(hs.2 _ c).trans a, b, c, d⟩, fun p hp => (F.fns p hp).mono (good_step hs.extBut F.noCodeL), F.nd⟩
theorem push (F : Fx H h₀ L h m σ) (o : Obj) (ho : o.isFreed = false) (hc : NoCode o) (hg : GoodFn H h o := by intro _ e; cases e) : Fx H h₀ L (h.push o) m ((h.objs.size, o) :: σ) := by
  have hL := F.ns.lt
  refine ⟨F.ns.push o, F.kp.trans (Kp.push h o), F.above, F.base, fun p hp => ?_, fun p hp => ?_, ?_⟩
  · rcases List.mem_cons.mp hp with rfl | hp
    · exact ⟨Heap.get?_push_size _ ho, Nat.le_of_lt (Nat.lt_of_le_of_lt F.above hL), Nat.ne_of_gt hL, hc⟩
    · let ⟨a, b⟩ := F.own p hp; exact ⟨Heap.get?_push_of_some _ a, b⟩
  · rcases List.mem_cons.mp hp with rfl | hp
    · exact hg.mono good_push
    · exact (F.fns p hp).mono good_push
  · simp only [List.map_cons, List.nodup_cons]
    refine ⟨fun q => ?_, F.nd⟩
    obtain ⟨p, hp, e⟩ := List.mem_map.mp q
    exact absurd (Heap.lt_size (F.own p hp).1) (e ▸ Nat.lt_irrefl _)
theorem push' (F : Fx H h₀ L h m σ) (o : Obj) : Fx H h₀ L (h.push o) m σ :=
  ⟨F.ns.push o, F.kp.trans (Kp.push h o), F.above, F.base, fun p hp => let ⟨a, b⟩ := F.own p hp; ⟨Heap.get?_push_of_some _ a, b⟩, fun p hp => (F.fns p hp).mono good_push, F.nd⟩
theorem weaken (F : Fx H h₀ L h m σ) (hs : σ'.Sublist σ) : Fx H h₀ L h m σ' :=
  ⟨F.ns, F.kp, F.above, F.base, fun p hp => F.own p (hs.subset hp), fun p hp => F.fns p (hs.subset hp), (hs.map _).nodup F.nd⟩
theorem upd (F : Fx H h₀ L h m σ) {a : Addr} {o o' : Obj} (u : Up a o o' σ σ') (hx : Heap.ExtBut a h h') (hg : h'.get? a = some o') (hc : NoCode o') (hf : GoodFn H h o' := by intro _ e; cases e) : Fx H h₀ L h' m σ' := by
  have hm := F.own _ u.mem
  have hn : ∀ x, h.get? a = some x → NoCode x := fun x e => by rw [hm.1] at e; cases e; exact hm.2.2.2
  refine ⟨F.ns.extBut hx (Ne.symm hm.2.2.1), F.kp.step hx hm.2.1 hn, F.above, F.base, fun p hp => ?_, fun p hp => ?_, u.keys ▸ F.nd⟩
  · rcases u.cases' F.nd p hp with rfl | ⟨h1, h2⟩
    · exact ⟨hg, hm.2.1, hm.2.2.1, hc⟩
    · let ⟨x, y⟩ := F.own p h1; exact ⟨hx _ _ h2 x, y⟩
  · rcases u.cases' F.nd p hp with rfl | ⟨h1, h2⟩
    · exact hf.mono (good_step hx hn)
    · exact (F.fns p h1).mono (good_step hx hn)
/-- an object of its own is let go -/
theorem forget (F : Fx H h₀ L h m ((a, o) :: σ)) (hx : Heap.ExtBut a h h') : Fx H h₀ L h' m σ := by
  have hm := F.own _ (.head _)
  have hn : ∀ x, h.get? a = some x → NoCode x := fun x e => by rw [hm.1] at e; cases e; exact hm.2.2.2
  refine ⟨F.ns.extBut hx (Ne.symm hm.2.2.1), F.kp.step hx hm.2.1 hn, F.above, F.base, fun p hp => ?_, fun p hp => (F.fns p (.tail _ hp)).mono (good_step hx hn), ?_⟩
  · let ⟨x, y⟩ := F.own p (.tail _ hp)
    refine ⟨hx _ _ (fun e => ?_) x, y⟩
    have := F.nd
    simp only [List.map_cons, List.nodup_cons] at this
    exact this.1 (e ▸ List.mem_map_of_mem hp)
  · have := F.nd
    simp only [List.map_cons, List.nodup_cons] at this
    exact this.2
/-- behind a call that keeps all -/
theorem call (F : Fx H h₀ L h m σ) (k : Kp H h h') : Fx H h₀ L h' m σ :=
  ⟨k.ns F.ns, F.kp.trans k, F.above, F.base, fun p hp => let ⟨a, b, c, d⟩ := F.own p hp; ⟨k.get a d, b, c, d⟩, fun p hp => (F.fns p hp).mono k.good, F.nd⟩
theorem size (F : Fx H h₀ L h m σ) : H.objs.size ≤ h.objs.size := Nat.le_trans F.base (Nat.le_trans F.above (Nat.le_of_lt F.ns.lt))
theorem code (F : Fx H h₀ L h m σ) {a : Addr} {o : Obj} {fd : FuncData} (hm : (a, o) ∈ σ) (e : o.data = .func fd) : ∃ c, fd.code = .ref c ∧ Good H h c := F.fns _ hm fd e
end Fx

-- part L2

noncomputable abbrev NoE : Value → Shared → Prop := fun _ _ => False

/-- room for n frames more -/
structure Rm (A : Around) (n : Nat) : Prop where
  hd : A.handled = none
  dp : A.depth + n < recursionLimit
  un : A.units + 8 * n < cLine
theorem Rm.le {A : Around} {n k : Nat} (r : Rm A n) (h : k ≤ n) : Rm A k := ⟨r.hd, by have := r.dp; lia, by have := r.un; lia⟩
theorem Rm.deeper {A : Around} {n : Nat} {env : Env} (r : Rm A (n + 1)) : Rm (A.deeper env) n := ⟨r.hd, by have := r.dp; show A.depth + 1 + n < _; lia, by have := r.un; show A.units + 3 + 8 * n < _; lia⟩
theorem Rm.in1 {A : Around} {n : Nat} (r : Rm A (n + 1)) : Rm A.in1 n := ⟨r.hd, by have := r.dp; show A.depth + n < _; lia, by have := r.un; show A.units + 1 + 8 * n < _; lia⟩

noncomputable def upd (m : Str → Option Value) (x : Str) (v : Value) : Str → Option Value := fun y => if y = x then some v else m y
theorem upd_same {m : Str → Option Value} {x : Str} {v : Value} : upd m x v x = some v := if_pos rfl
theorem upd_ne {m : Str → Option Value} {x y : Str} {v : Value} {r : Option Value} (h : m y = r) (hn : (y == x) = false) : upd m x v y = r := by
  unfold upd; rw [if_neg (by intro e; rw [e] at hn; simp at hn)]; exact h

section
variable {prog : Program} {w : World} {A : Around} {E : Value → Shared → Prop} {H h₀ h : Heap} {g : Array GenState} {d : Drawn} {t : Nat} {os : OsState} {env : Env}
  {m mg mb : Str → Option Value} {σ : List (Addr × Obj)} {L : Addr}

theorem nm_local {x : Str} {pos : Pos} {v : Value} {Q : Value → Shared → Prop} (F : Fx H h₀ L h m σ) (hv : m x = some v) (h' : Q v ⟨h, g, d, t, os⟩)
    (hk : env.scope.kind = .function) (hl : env.kindOf x = some .local) (hL : env.locals = L) (hd : (x == ("__debug__" : Str)) = false) :
    wpAny (model prog w) A (eval (.Name x pos) env) Q E ⟨h, g, d, t, os⟩ := by subst hL; exact wpAny_Name (wpAny_loadName_local hk hl F.ns hv h') hd

theorem nm_glob {x : Str} {pos : Pos} {v : Value} {Q : Value → Shared → Prop} (F : Fx H h₀ L h m σ) (K0 : Kp H H h₀) (hg : H.Ns mainGlobals mg) (hv : mg x = some v) (h' : Q v ⟨h, g, d, t, os⟩)
    (hk : env.scope.kind = .function) (hl : env.kindOf x = some .globalImplicit) (hG : env.globals = mainGlobals) (hd : (x == ("__debug__" : Str)) = false) :
    wpAny (model prog w) A (eval (.Name x pos) env) Q E ⟨h, g, d, t, os⟩ :=
  Name_function_global hk hl (loadGlobal_global (by rw [hG]; exact (K0.trans F.kp).ns hg) hv h') hd

theorem nm_blt {x : Str} {pos : Pos} {v : Value} {Q : Value → Shared → Prop} (F : Fx H h₀ L h m σ) (K0 : Kp H H h₀) (hg : H.Ns mainGlobals mg) (hb : H.Ns builtinsNs mb) (hn : mg x = none) (hv : mb x = some v) (h' : Q v ⟨h, g, d, t, os⟩)
    (hk : env.scope.kind = .function) (hl : env.kindOf x = some .globalImplicit) (hG : env.globals = mainGlobals) (hB : env.builtins = builtinsNs) (hd : (x == ("__debug__" : Str)) = false) :
    wpAny (model prog w) A (eval (.Name x pos) env) Q E ⟨h, g, d, t, os⟩ :=
  Name_function_global hk hl (loadGlobal_builtin (by rw [hG]; exact (K0.trans F.kp).ns hg) hn (by rw [hB]; exact (K0.trans F.kp).ns hb) hv h') hd

theorem st_local {x : Str} {v : Value} {Q : Unit → Shared → Prop} (F : Fx H h₀ L h m σ) (h' : ∀ h' t', Fx H h₀ L h' (upd m x v) σ → Q () ⟨h', g, d, t', os⟩)
    (hk : env.scope.kind = .function) (hl : env.kindOf x = some .local) (hL : env.locals = L) :
    wpAny (model prog w) A (storeName env x v) Q E ⟨h, g, d, t, os⟩ := by
  subst hL
  exact wpAny_storeName_local hl F.ns (fun h₁ hn hs => h' h₁ _ (F.store hn hs)) (by rw [hk]; rfl)

theorem c_int {i : Int} {k : Nat} {pos : Pos} {Q : Value → Shared → Prop} (h' : ∀ u t', Q (.int i u) ⟨h, g, d, t', os⟩) : wpAny (model prog w) A (eval (.Constant (.int i) k pos) env) Q E ⟨h, g, d, t, os⟩ := wpAny_Constant_int (h' _ _)
theorem c_str {x : Str} {k : Nat} {pos : Pos} {Q : Value → Shared → Prop} (h' : ∀ u t', Q (.str x u) ⟨h, g, d, t', os⟩) : wpAny (model prog w) A (eval (.Constant (.str x) k pos) env) Q E ⟨h, g, d, t, os⟩ := Calls.Constant_str (h' _ _)
theorem c_none {k : Nat} {pos : Pos} {Q : Value → Shared → Prop} (h' : Q .none ⟨h, g, d, t, os⟩) : wpAny (model prog w) A (eval (.Constant .none k pos) env) Q E ⟨h, g, d, t, os⟩ := by rw [eval_Constant]; exact wpAny_pure h'
theorem c_bool {b : Bool} {k : Nat} {pos : Pos} {Q : Value → Shared → Prop} (h' : Q (.bool b) ⟨h, g, d, t, os⟩) : wpAny (model prog w) A (eval (.Constant (.bool b) k pos) env) Q E ⟨h, g, d, t, os⟩ := by rw [eval_Constant]; exact wpAny_pure h'

variable {a b : Int} {u v : Tok}
theorem i_add {Q : Value → Shared → Prop} (h' : ∀ z t', Q (.int (a + b) z) ⟨h, g, d, t', os⟩) : wpAny (model prog w) A (binaryOp .Add (.int a u) (.int b v)) Q E ⟨h, g, d, t, os⟩ := add_int (h' _ _)
theorem i_sub {Q : Value → Shared → Prop} (h' : ∀ z t', Q (.int (a - b) z) ⟨h, g, d, t', os⟩) : wpAny (model prog w) A (binaryOp .Sub (.int a u) (.int b v)) Q E ⟨h, g, d, t, os⟩ := sub_int (h' _ _)
theorem i_mod {Q : Value → Shared → Prop} (hb : b ≠ 0) (h' : ∀ z t', Q (.int (a.fmod b) z) ⟨h, g, d, t', os⟩) : wpAny (model prog w) A (binaryOp .Mod (.int a u) (.int b v)) Q E ⟨h, g, d, t, os⟩ := mod_int hb (h' _ _)
theorem i_mul {Q : Value → Shared → Prop} (h' : ∀ z t', Q (.int (a * b) z) ⟨h, g, d, t', os⟩) (hs : -(2 ^ 64) < a ∧ a < 2 ^ 64) : wpAny (model prog w) A (binaryOp .Mult (.int a u) (.int b v)) Q E ⟨h, g, d, t, os⟩ :=
  mul_int (h' _ _) (IntMulOk.of_left (intBits_le_64 hs.1 hs.2))
end

-- part L3

noncomputable def plainCls (o : Obj) : Bool := match o.cls with
  | .type a => !(a == "code")
  | .ref _ => true
  | _ => false
theorem ncl {o : Obj} (h : plainCls o = true) : NoCode o := by
  unfold plainCls at h
  refine .inl ⟨fun e => ?_, fun e => ?_⟩
  · rw [e] at h; exact absurd h (by decide)
  · rw [e] at h; exact absurd h (by decide)

noncomputable abbrev cellO (v : Option Value) : Obj := { cls := .type "cell", data := .cell v }
noncomputable def cellsσ : Nat → List (Str × NameKind) → List (Addr × Obj) → List (Addr × Obj)
  | _, [], acc => acc
  | n, (_, k) :: r, acc => if k == .cell then cellsσ (n + 1) r ((n, cellO none) :: acc) else cellsσ n r acc

/-- the frame's environment -/
noncomputable abbrev fenv (fd : FuncData) (q : Str) (L f : Addr) : Env :=
  { scope := fd.scope, locals := L, globals := fd.globals, cells := cellsFrom (L + 1) fd.scope.names fd.closure, qual := q, func := some f, code := fd.code, frame := some L, builtins := fd.builtins }

/-- the parameters are laid one by one -/
noncomputable def BindAll (M : Model) (A : Around) (E : Value → Shared → Prop) (env : Env) : List (Str × Value) → (Shared → Prop) → Shared → Prop
  | [], Q, s => Q s
  | (n, v) :: r, Q, s => wpAny M A (storeName env n v) (fun _ s' => BindAll M A E env r Q s') E s

noncomputable def retOf : Flow → Value
  | .ret v => v
  | _ => .none

section
variable {prog : Program} {w : World} {A : Around} {E : Value → Shared → Prop} {H h₀ h : Heap} {g : Array GenState} {d : Drawn} {t : Nat} {os : OsState} {env : Env}
  {m mg mb : Str → Option Value} {σ : List (Addr × Obj)} {L : Addr}

theorem Fx.cells : ∀ (names : List (Str × NameKind)) {h : Heap} {σ : List (Addr × Obj)}, Fx H h₀ L h m σ → Fx H h₀ L (pushCells h names) m (cellsσ h.objs.size names σ)
  | [], _, _, F => F
  | (_, k) :: r, h, σ, F => by
    unfold pushCells cellsσ
    by_cases hk : (k == NameKind.cell) = true
    · rw [if_pos hk, if_pos hk]
      have := Fx.cells r (F.push (cellO none) rfl (ncl rfl))
      rwa [Heap.size_push] at this
    · rw [if_neg hk, if_neg hk]; exact Fx.cells r F

theorem bindAll_of {M : Model} (f : Str × Value → PUnit → Sem (ForInStep PUnit)) (hf : ∀ n v u, f (n, v) u = (do storeName env n v; pure (.yield ⟨⟩))) :
    ∀ (binds : List (Str × Value)) (s : Shared) (Q : PUnit → Shared → Prop), BindAll M A E env binds (fun s' => Q ⟨⟩ s') s → wpAny M A (forIn binds ⟨⟩ f) Q E s
  | [], s, Q, h => by rw [List.forIn_nil]; exact wpAny_pure h
  | (n, v) :: r, s, Q, h => by
    rw [List.forIn_cons, hf]
    refine wpAny_bind (wpAny_bind (wpAny_mono (show wpAny M A (storeName env n v) _ E s from h) (fun _ s' h₂ => ?_) fun _ _ e => e))
    exact wpAny_pure (bindAll_of f hf r s' Q h₂)

/-- a call of a def: its frame is made, its parameters laid, its body run -/
theorem enter_s {n : Nat} {fd : FuncData} {o : Obj} {f c : Addr} {body : List Stmt} {args : Args} {binds : List (Str × Value)} {Q : Value → Shared → Prop} (R : Rm A (n + 1)) (hz : H.objs.size ≤ h.objs.size)
    (ho : h.get? f = some o) (hd : o.data = .func fd) (hc : fd.code = .ref c) (hcd : Cd h c) (hbody : fd.body = .stmts body) (hb : BindsTo ⟨h, g, d, t, os⟩ fd args binds)
    (hco : fd.scope.isCoroutine = false) (hgen : fd.scope.isGenerator = false)
    (k : ∀ q L h' t', Fx H h L h' (fun _ => none) (cellsσ (L + 1) fd.scope.names []) → BindAll (model prog w) A.in1 NoE (fenv fd q L f) binds
      (fun s' => s'.heap.NoLimit ∧ wpAny (model prog w) (A.deeper (fenv fd q L f)) (execs body (fenv fd q L f)) (fun fl s'' => Q (retOf fl) s'') NoE s') ⟨h', g, d, t', os⟩) :
    wpAny (model prog w) A (call (.ref f) args.pos args.kw) Q E ⟨h, g, d, t, os⟩ := by
  obtain ⟨q, c', oc, vs, tq, e1, hoc, hdc, hq⟩ := hcd.rec'
  cases e1
  have hb' := hb
  refine wpAny_call (codeAny_of_tree ?_)
  show wpAny _ A.in1 (callAny (.ref f) args) _ _ _
  simp only [callAny]
  refine wpAny_bind (wpAny_load ho ?_)
  simp only [hd, callFunction, hco, hgen, hbody, hc]
  refine wpAny_bind (m := field (.ref c) 1) (wpAny_field hoc hdc hq (wpAny_bind (wpAny_pure ?_)))
  refine wpAny_bind (hb' _ _ _ _ ?_)
  refine wpAny_bind ?_
  have room : A.depth < recursionLimit := by have := R.dp; lia
  simp only [newFunctionEnv, Option.isSome_none, Bool.false_eq_true, if_false]
  refine wpAny_bind (wpAny_alloc' ?_)
  refine wpAny_bind (wpAny_layCells _ (fun name kind cells => by cases hkc : kind == NameKind.cell <;> simp) _ _ _ _ ?_)
  have F0 : Fx H h h.objs.size (h.push { cls := .type "frame", data := .dict #[] }) (fun _ => none) [] :=
    ⟨Heap.Ns.new h (.type "frame"), Kp.push h _, Nat.le_refl _, hz, fun _ hp => (nomatch hp), fun _ hp => (nomatch hp), List.nodup_nil⟩
  have F1 := F0.cells fd.scope.names
  rw [Heap.size_push] at F1
  have K := k (q ++ ".<locals>.") h.objs.size _ t F1
  rw [show (h.push { cls := .type "frame", data := .dict #[] }).objs.size = h.objs.size + 1 from Heap.size_push ..]
  refine wpAny_bind (bindAll_of _ (fun _ _ _ => rfl) _ _ _ ?_)
  have mono : ∀ (binds : List (Str × Value)) (s : Shared) (P P' : Shared → Prop) (E' : Value → Shared → Prop) (env : Env), (∀ s, P s → P' s) → BindAll (model prog w) A.in1 NoE env binds P s → BindAll (model prog w) A.in1 E' env binds P' s := by
    intro binds
    induction binds with
    | nil => intro s P P' E' env hp h; exact hp s h
    | cons x r ih =>
      obtain ⟨nn, vv⟩ := x
      intro s P P' E' env hp h
      exact wpAny_mono (show wpAny (model prog w) A.in1 (storeName env nn vv) _ NoE s from h) (fun _ s' h' => ih s' P P' E' env hp h') fun _ _ e => e.elim
  unfold fenv at K
  rw [hc] at K
  refine mono _ _ _ _ _ _ (fun s' hs => ?_) K
  refine wpAny_pure (wpAny_bind (wpAny_enterFrame hs.1 room (wpAny_pure ?_)))
  exact And.intro rfl (codeAny_func (wpAny_mono hs.2 (fun fl s'' hq => by cases fl <;> exact hq) fun _ _ e => e.elim))

theorem ba_nil {M : Model} {E : Value → Shared → Prop} {Q : Shared → Prop} {s : Shared} (h : Q s) : BindAll M A E env [] Q s := h
theorem ba_cons {M : Model} {E : Value → Shared → Prop} {Q : Shared → Prop} {s : Shared} {n : Str} {v : Value} {r : List (Str × Value)} (h : wpAny M A (storeName env n v) (fun _ s' => BindAll M A E env r Q s') E s) : BindAll M A E env ((n, v) :: r) Q s := h
end

-- part L4

noncomputable abbrev rangeO (a b c : Int) (t u v : Tok) : Obj := { cls := .type "range", dict := none, data := .fields #[.int a t, .int b u, .int c v], slots := #[] }
noncomputable abbrev riO (x left : Int) : Obj := { cls := .type "range_iterator", dict := none, data := .fields #[rawInt x, rawInt left, rawInt 1], slots := #[] }
noncomputable abbrev liO (l : Addr) (i : Nat) : Obj := { cls := .type "list_iterator", data := .fields #[.ref l, .int i 0] }

section
variable {prog : Program} {w : World} {A : Around} {E : Value → Shared → Prop} {H h₀ h : Heap} {g : Array GenState} {d : Drawn} {t : Nat} {os : OsState} {env : Env}
  {m mg mb : Str → Option Value} {σ : List (Addr × Obj)} {L : Addr}

/-- a for stands at its iterable -/
noncomputable def ForAt (M : Model) (A : Around) (env : Env) (target : Expr) (body : List Stmt) (Q : Flow → Shared → Prop) (v : Value) (s : Shared) : Prop :=
  wpAny M A (pyIter v) (fun it s₂ => codeAny M A (.forLoop target it body [] env) (fun r s' => match r with | .ok f => Q f s' | .error _ => False) s₂) NoE s

theorem for_start {M : Model} {target iter : Expr} {body : List Stmt} {pos : Pos} {Q : Flow → Shared → Prop} {s : Shared} (h : wpAny M A (eval iter env) (fun v s₁ => ForAt M A env target body Q v s₁) NoE s)
    (hs : ∀ x, foldedSetIterable iter env x = pure x) : wpAny M A (exec (.For target iter body [] pos) env) Q NoE s := by
  show wpAny M A (do standAt pos; let x ← foldedSetIterable iter env (← eval iter env); standAt iter.pos; runOwn (.forLoop target (← holding [x] (pyIter x)) body [] env) env) Q NoE s
  refine wpAny_bind (wpAny_standAt (wpAny_bind (wpAny_mono h (fun v s₁ h₁ => ?_) fun _ _ e => e)))
  refine wpAny_bind (wpAny_of_eq (hs v) (wpAny_bind (wpAny_standAt (wpAny_bind (wpAny_holding (wpAny_mono h₁ (fun it s₂ h₂ => ?_) fun _ _ e => e))))))
  refine wpAny_runOwn ?_
  show codeAny M A _ _ _
  exact codeAny_mono h₂ fun r s' hr => by cases r with | ok f => exact hr | error e => exact hr.elim

/-- what a turn of a loop leaves -/
noncomputable def Turn (H h₀ : Heap) (L : Addr) (g : Array GenState) (d : Drawn) (os : OsState) (J : (Str → Option Value) → List (Addr × Obj) → Prop) (Q : Flow → Shared → Prop) (fl : Flow) (s : Shared) : Prop :=
  match fl with
  | .ret v => Q (.ret v) s
  | .brk => Q .next s
  | _ => ∃ h t m σ, s = ⟨h, g, d, t, os⟩ ∧ Fx H h₀ L h m σ ∧ J m σ

theorem Turn.next {J : (Str → Option Value) → List (Addr × Obj) → Prop} {Q : Flow → Shared → Prop} (F : Fx H h₀ L h m σ) (hj : J m σ) : Turn H h₀ L g d os J Q .next ⟨h, g, d, t, os⟩ := ⟨h, t, m, σ, rfl, F, hj⟩
theorem Turn.cont {J : (Str → Option Value) → List (Addr × Obj) → Prop} {Q : Flow → Shared → Prop} (F : Fx H h₀ L h m σ) (hj : J m σ) : Turn H h₀ L g d os J Q .cont ⟨h, g, d, t, os⟩ := ⟨h, t, m, σ, rfl, F, hj⟩

theorem for_range {x : Str} {px : Pos} {body : List Stmt} {r : Addr} {a b : Int} {tu tv tw : Tok} {Q : Flow → Shared → Prop} (I : Nat → (Str → Option Value) → List (Addr × Obj) → Prop)
    (F : Fx H h₀ L h m ((r, rangeO a b 1 tu tv tw) :: σ)) (hab : a ≤ b) (ha : -(2 ^ 62) ≤ a) (hb : b < 2 ^ 62)
    (hh : A.handled = none) (hx : env.kindOf x = some .local) (hk : env.scope.kind = .function) (hL : env.locals = L) (h0 : I 0 m σ)
    (turn : ∀ (i : Nat) h t m σ u it, a + i < b → I i m σ → Fx H h₀ L h (upd m x (.int (a + i) u)) ((it, riO (a + (i + 1 : Nat)) (b - a - (i + 1 : Nat))) :: σ) →
      wpAny (model prog w) A (execs body env) (Turn H h₀ L g d os (fun m' σ' => ∃ σ₂, σ' = (it, riO (a + (i + 1 : Nat)) (b - a - (i + 1 : Nat))) :: σ₂ ∧ I (i + 1) m' σ₂) Q) NoE ⟨h, g, d, t, os⟩)
    (done : ∀ h t m σ, I (b - a).toNat m σ → Fx H h₀ L h m σ → Q .next ⟨h, g, d, t, os⟩) :
    ForAt (model prog w) A env (.Name x px) body Q (.ref r) ⟨h, g, d, t, os⟩ := by
  subst hL
  have hr : IsRange h r a b 1 tu tv tw := F.get (.head _)
  have hsz : Builtin.Range.rangeSize a b 1 = b - a := by rw [rangeSize_one]; split <;> lia
  refine wpAny_pyIter_range hr (small_one (by lia) (by lia) (by lia) (by lia)) ?_
  have F1 := (F.weaken (List.sublist_cons_self _ _)).push (riO a (b - a)) rfl (ncl rfl)
  rw [hsz]
  refine codeAny_forLoop (fun k s' => ∃ h' t' m' σ' i, s' = ⟨h', g, d, t', os⟩ ∧ a + (i : Nat) ≤ b ∧ k = (b - a - (i : Nat)).toNat ∧ I i m' σ' ∧ Fx H h₀ env.locals h' m' ((h.objs.size, riO (a + (i : Nat)) (b - a - (i : Nat))) :: σ')) ?_ (b - a).toNat
    ⟨_, t, m, σ, 0, rfl, by simpa using hab, by simp, h0, by simpa using F1⟩
  rintro k s' ⟨h', t', m', σ', i, rfl, hi, rfl, hI, F'⟩
  have hit : IsRangeIter h' h.objs.size (a + (i : Nat)) (b - a - (i : Nat)) 1 := F'.get (.head _)
  by_cases hlt : a + (i : Nat) < b
  · refine wpAny_pyNext_range_item hit (by lia) fun h₁ hit₁ hs₁ => ?_
    have F2 := F'.upd (σ' := (h.objs.size, riO (a + (i + 1 : Nat)) (b - a - (i + 1 : Nat))) :: σ') .head hs₁.extBut (by rw [show a + ((i + 1 : Nat) : Int) = a + (i : Nat) + 1 from by push_cast; lia, show b - a - ((i + 1 : Nat) : Int) = b - a - (i : Nat) - 1 from by push_cast; lia]; exact hit₁) (ncl rfl)
    refine wpAny_assign_Name (st_local F2 (fun h₂ t₂ F3 => ?_) hk hx rfl)
    refine wpAny_mono (turn i h₂ t₂ m' σ' _ _ hlt hI F3) (fun fl s₃ h₃ => ?_) fun _ _ e => e.elim
    cases fl with
    | ret v => exact h₃
    | brk => exact h₃
    | next =>
      obtain ⟨h₄, t₄, m₄, σ₄, rfl, F4, σ₂, rfl, hI4⟩ := h₃
      exact ⟨_, by lia, h₄, t₄, m₄, σ₂, i + 1, rfl, by push_cast; lia, rfl, hI4, F4⟩
    | cont =>
      obtain ⟨h₄, t₄, m₄, σ₄, rfl, F4, σ₂, rfl, hI4⟩ := h₃
      exact ⟨_, by lia, h₄, t₄, m₄, σ₂, i + 1, rfl, by push_cast; lia, rfl, hI4, F4⟩
  · have hin : a + (i : Nat) = b := by lia
    refine wpAny_pyNext_range_end hh hit (by lia) fun h₁ he₁ => wpAny_execs_nil ?_
    have e : i = (b - a).toNat := by lia
    subst e
    exact done h₁ _ m' σ' hI (F'.forget he₁)

theorem enter_e {n : Nat} {fd : FuncData} {o : Obj} {f c : Addr} {body : Expr} {args : Args} {binds : List (Str × Value)} {Q : Value → Shared → Prop} (R : Rm A (n + 1)) (hz : H.objs.size ≤ h.objs.size)
    (ho : h.get? f = some o) (hd : o.data = .func fd) (hc : fd.code = .ref c) (hcd : Cd h c) (hbody : fd.body = .expr body) (hb : BindsTo ⟨h, g, d, t, os⟩ fd args binds)
    (hco : fd.scope.isCoroutine = false) (hgen : fd.scope.isGenerator = false)
    (k : ∀ q L h' t', Fx H h L h' (fun _ => none) (cellsσ (L + 1) fd.scope.names []) → BindAll (model prog w) A.in1 NoE (fenv fd q L f) binds
      (fun s' => s'.heap.NoLimit ∧ wpAny (model prog w) (A.deeper (fenv fd q L f)) (eval body (fenv fd q L f)) Q NoE s') ⟨h', g, d, t', os⟩) :
    wpAny (model prog w) A (call (.ref f) args.pos args.kw) Q E ⟨h, g, d, t, os⟩ := by
  obtain ⟨q, c', oc, vs, tq, e1, hoc, hdc, hq⟩ := hcd.rec'
  cases e1
  have hb' := hb
  refine wpAny_call (codeAny_of_tree ?_)
  show wpAny _ A.in1 (callAny (.ref f) args) _ _ _
  simp only [callAny]
  refine wpAny_bind (wpAny_load ho ?_)
  simp only [hd, callFunction, hco, hgen, hbody, hc]
  refine wpAny_bind (m := field (.ref c) 1) (wpAny_field hoc hdc hq (wpAny_bind (wpAny_pure ?_)))
  refine wpAny_bind (hb' _ _ _ _ ?_)
  refine wpAny_bind ?_
  have room : A.depth < recursionLimit := by have := R.dp; lia
  simp only [newFunctionEnv, Option.isSome_none, Bool.false_eq_true, if_false]
  refine wpAny_bind (wpAny_alloc' ?_)
  refine wpAny_bind (wpAny_layCells _ (fun name kind cells => by cases hkc : kind == NameKind.cell <;> simp) _ _ _ _ ?_)
  have F0 : Fx H h h.objs.size (h.push { cls := .type "frame", data := .dict #[] }) (fun _ => none) [] :=
    ⟨Heap.Ns.new h (.type "frame"), Kp.push h _, Nat.le_refl _, hz, fun _ hp => (nomatch hp), fun _ hp => (nomatch hp), List.nodup_nil⟩
  have F1 := F0.cells fd.scope.names
  rw [Heap.size_push] at F1
  have K := k (q ++ ".<locals>.") h.objs.size _ t F1
  rw [show (h.push { cls := .type "frame", data := .dict #[] }).objs.size = h.objs.size + 1 from Heap.size_push ..]
  refine wpAny_bind (bindAll_of _ (fun _ _ _ => rfl) _ _ _ ?_)
  have mono : ∀ (binds : List (Str × Value)) (s : Shared) (P P' : Shared → Prop) (E' : Value → Shared → Prop) (env : Env), (∀ s, P s → P' s) → BindAll (model prog w) A.in1 NoE env binds P s → BindAll (model prog w) A.in1 E' env binds P' s := by
    intro binds
    induction binds with
    | nil => intro s P P' E' env hp h; exact hp s h
    | cons x r ih =>
      obtain ⟨nn, vv⟩ := x
      intro s P P' E' env hp h
      exact wpAny_mono (show wpAny (model prog w) A.in1 (storeName env nn vv) _ NoE s from h) (fun _ s' h' => ih s' P P' E' env hp h') fun _ _ e => e.elim
  unfold fenv at K
  rw [hc] at K
  refine mono _ _ _ _ _ _ (fun s' hs => ?_) K
  refine wpAny_pure (wpAny_bind (wpAny_enterFrame hs.1 room (wpAny_pure ?_)))
  exact And.intro rfl (kla_codeExpr (wpAny_mono hs.2 (fun v s'' hq => hq) fun _ _ e => e.elim))
end

-- part L5

/-- a list of ints -/
noncomputable def IsInts (h : Heap) (a : Addr) (ns : List Int) : Prop := ∃ vs, h.IsList a vs.toArray ∧ IntsAre vs ns
theorem Kp.isInts {H h h' : Heap} {a : Addr} {ns : List Int} (k : Kp H h h') (x : IsInts h a ns) : IsInts h' a ns := let ⟨vs, a, b⟩ := x; ⟨vs, k.isList a, b⟩

theorem intsAre_get {vs : List Value} {ns : List Int} (x : IntsAre vs ns) : ∀ {k : Nat}, k < ns.length → ∃ u, vs[k]? = some (.int (ns.getD k 0) u) := by
  induction x with
  | nil => intro k h; exact absurd h (Nat.not_lt_zero _)
  | cons n t _ ih =>
    intro k h
    cases k with
    | zero => exact ⟨t, rfl⟩
    | succ k => simpa using ih (Nat.lt_of_succ_lt_succ h)

section
variable {prog : Program} {w : World} {A : Around} {E : Value → Shared → Prop} {H h₀ h : Heap} {g : Array GenState} {d : Drawn} {t : Nat} {os : OsState} {env : Env}
  {m mg mb : Str → Option Value} {σ : List (Addr × Obj)} {L : Addr}

theorem s_ints' {value slice : Expr} {a : Addr} {ns : List Int} {k : Int} {z : Tok} {Q : Value → Shared → Prop} (hr : IsInts h a ns) (h0 : 0 ≤ k) (hk : k < ns.length) (h63 : k < 2 ^ 63)
    (h' : ∀ u, Q (.int (ns.getD k.toNat 0) u) ⟨h, g, d, t, os⟩) (hs : subscripted slice false (.ref a) (.int k z) = operate [.ref a, .int k z] (getItem (.ref a) (.int k z))) :
    wpAny (model prog w) A (subscriptTail value slice (.ref a) (.int k z)) Q E ⟨h, g, d, t, os⟩ := by
  obtain ⟨vs, hl, hi⟩ := hr
  obtain ⟨u, hu⟩ := intsAre_get hi (k := k.toNat) (by lia)
  exact tail_any hl.typeIs slot_list_getitem.lookup (wpAny_getItem_list hl h0 h63 (by simpa using hu) (h' u)) hs

theorem s_ints {value slice : Expr} {a : Addr} {ns : List Int} {k : Int} {z : Tok} {Q : Value → Shared → Prop} (F : Fx H h₀ L h m σ) (hr : IsInts h₀ a ns) (h0 : 0 ≤ k) (hk : k < ns.length) (h63 : k < 2 ^ 63)
    (h' : ∀ u, Q (.int (ns.getD k.toNat 0) u) ⟨h, g, d, t, os⟩) (hs : subscripted slice false (.ref a) (.int k z) = operate [.ref a, .int k z] (getItem (.ref a) (.int k z))) :
    wpAny (model prog w) A (subscriptTail value slice (.ref a) (.int k z)) Q E ⟨h, g, d, t, os⟩ := s_ints' (F.kp.isInts hr) h0 hk h63 h' hs

/-- range(a, b) -/
theorem c_range2 {a b : Int} {u v : Tok} {Q : Value → Shared → Prop} (F : Fx H h₀ L h m σ)
    (k : ∀ r h' t' w₁, Fx H h₀ L h' m ((r, rangeO a b 1 u v w₁) :: σ) → Q (.ref r) ⟨h', g, d, t', os⟩) : wpAny (model prog w) A (call (.type "range") [.int a u, .int b v]) Q E ⟨h, g, d, t, os⟩ :=
  call_range_2 (k _ _ _ _ (F.push _ rfl (ncl rfl)))
theorem c_range1 {b : Int} {v : Tok} {Q : Value → Shared → Prop} (F : Fx H h₀ L h m σ)
    (k : ∀ r h' t' u w₁, Fx H h₀ L h' m ((r, rangeO 0 b 1 u v w₁) :: σ) → Q (.ref r) ⟨h', g, d, t', os⟩) : wpAny (model prog w) A (call (.type "range") [.int b v]) Q E ⟨h, g, d, t, os⟩ :=
  call_range_1 (k _ _ _ _ _ (F.push _ rfl (ncl rfl)))
end
/-- arguments, one by one -/
noncomputable def ArgsAt (M : Model) (A : Around) (E : Value → Shared → Prop) (env : Env) : List Expr → (List Value → Shared → Prop) → Shared → Prop
  | [], Q, s => Q [] s
  | e :: r, Q, s => wpAny M A (eval e env) (fun v s' => ArgsAt M A E env r (fun vs s'' => Q (v :: vs) s'') s') E s

noncomputable def plainArgs : List Expr → Bool
  | [] => true
  | .Starred .. :: _ => false
  | _ :: r => plainArgs r

section
variable {M : Model} {A : Around} {E : Value → Shared → Prop} {s : Shared} {env : Env} {pos : Pos}
theorem aa_nil {Q : List Value → Shared → Prop} (h : Q [] s) : ArgsAt M A E env [] Q s := h
theorem aa_cons {e : Expr} {r : List Expr} {Q : List Value → Shared → Prop} (h : wpAny M A (eval e env) (fun v s' => ArgsAt M A E env r (fun vs s'' => Q (v :: vs) s'') s') E s) : ArgsAt M A E env (e :: r) Q s := h

theorem starEach_plain {e : Expr} {r : List Expr} (h : plainArgs (e :: r) = true) : starEach (e :: r) env = (false, eval e env) :: starEach r env ∧ plainArgs r = true := by
  cases e <;> first | exact ⟨rfl, h⟩ | cases h

theorem args_of : ∀ (args : List Expr) (s : Shared) (Q : List Value → Shared → Prop), plainArgs args = true → ArgsAt M A E env args Q s → wpAny M A (spliced (backTo pos (starEach args env))) Q E s
  | [], s, Q, _, h => Calls.spliced_nil h
  | e :: r, s, Q, hp, h => by
    obtain ⟨e1, hp'⟩ := starEach_plain (env := env) hp
    rw [e1]
    exact Calls.spliced_cons (wpAny_mono (show wpAny M A (eval e env) _ E s from h) (fun v s' h' => args_of r s' _ hp' h') fun _ _ x => x)
theorem args_plain : ∀ (args : List Expr), plainArgs args = true → (backTo pos (starEach args env)).any (·.1) = false
  | [], _ => rfl
  | e :: r, hp => by
    obtain ⟨e1, hp'⟩ := starEach_plain (env := env) hp
    rw [e1]
    show (false || _) = false
    rw [Bool.false_or]
    exact args_plain r hp'
theorem args_len : ∀ (args : List Expr), (backTo pos (starEach args env)).length = args.length
  | [] => rfl
  | e :: r => by
    have : (backTo pos (starEach (e :: r) env)).length = (backTo pos (starEach r env)).length + 1 := by cases e <;> rfl
    rw [this, args_len r]; rfl
theorem evalArgs_of {f : Value} {args : List Expr} {Q : Args → Shared → Prop} (hp : plainArgs args = true) (h : ArgsAt M A E env args (fun vs s' => Q ⟨vs, []⟩ s') s) :
    wpAny M A (evalArgs f true (backTo pos (starEach args env)) []) Q E s := by
  cases args with
  | nil => exact evalArgs_nil3 h
  | cons e r =>
    obtain ⟨e1, hp'⟩ := starEach_plain (env := env) hp
    have := args_of (pos := pos) (e :: r) s _ hp h
    rw [e1] at this ⊢
    exact Calls.evalArgs_plain this

theorem cw_type {T : String} {first : List Value} {args : List Expr} {Q : Value → Shared → Prop} (h : ArgsAt M A E env args (fun vs s₁ => wpAny M A (call (.type T) (first ++ vs)) Q E s₁) s) (hp : plainArgs args = true) :
    wpAny M A (callWith pos (.type T) first (backTo pos (starEach args env)) []) Q E s := PyProof.Rows.callWith_type (args_plain args hp) (evalArgs_of (Q := fun a s₁ => wpAny M A (call (.type T) (first ++ a.pos) a.kw) Q E s₁) hp h)
theorem cw_blt {id : String} {first : List Value} {args : List Expr} {Q : Value → Shared → Prop} (h : ArgsAt M A E env args (fun vs s₁ => wpAny M A (call (.builtin id) (first ++ vs)) Q E s₁) s) (hp : plainArgs args = true) :
    wpAny M A (callWith pos (.builtin id) first (backTo pos (starEach args env)) []) Q E s := Calls.callWith_builtin (args_plain args hp) (evalArgs_of (Q := fun a s₁ => wpAny M A (call (.builtin id) (first ++ a.pos) a.kw) Q E s₁) hp h)

/-- the callee is a function -/
noncomputable def IsFn (h : Heap) (a : Addr) : Prop := ∃ o fd, h.get? a = some o ∧ o.data = .func fd
theorem cw_fn {a : Addr} {first : List Value} {args : List Expr} {Q : Value → Shared → Prop} (h : ArgsAt M A E env args (fun vs s₁ => IsFn s₁.heap a ∧ wpAny M A (call (.ref a) (first ++ vs)) Q E s₁) s) (hp : plainArgs args = true)
    (hl : args.length ≤ 30) : wpAny M A (callWith pos (.ref a) first (backTo pos (starEach args env)) []) Q E s := by
  unfold callWith
  refine wpAny_bind (wpAny_holding (wpAny_mono (evalArgs_of (f := .ref a) (Q := fun x s₁ => IsFn s₁.heap a ∧ wpAny M A (call (.ref a) (first ++ x.pos) x.kw) Q E s₁) hp h) (fun x s₁ h₁ => wpAny_bind (wpAny_standAt ?_)) fun _ _ x => x))
  obtain ⟨⟨o, fd, ho, hd⟩, h₁⟩ := h₁
  have tail : ∀ {t : Sem Value}, wpAny M A t Q E s₁ → wpAny M A (t >>= fun r => holding [r] point >>= fun _ => pure r) Q E s₁ :=
    fun ht => wpAny_bind (wpAny_mono ht (fun r s₂ hr => wpAny_bind (wpAny_holding (wpAny_point (wpAny_pure hr)))) fun _ _ x => x)
  have hpl := args_plain (pos := pos) (env := env) args hp
  have hln := args_len (pos := pos) (env := env) args
  simp only [hpl, List.any_nil, Bool.or_false]
  refine wpAny_bind (m := keeperOf (.ref a)) ?_
  unfold keeperOf
  refine wpAny_bind (wpAny_load ho ?_)
  rw [hd]
  refine wpAny_pure ?_
  simp only [List.length_nil, Nat.mul_zero, Nat.add_zero, hln]
  rw [if_neg (by lia)]
  exact tail (Calls.wpAny_keep h₁)

/-- a call by a name -/
theorem x_call {id : Str} {p : Pos} {args : List Expr} {Q : Value → Shared → Prop} (h : wpAny M A (eval (.Name id p) env) (fun f s₁ => wpAny M A (callWith pos f [] (backTo pos (starEach args env)) []) Q E s₁) E s) :
    wpAny M A (eval (.Call (.Name id p) args [] pos) env) Q E s := wpAny_Call_NameR h

/-- a call of a method -/
theorem x_meth {o : Expr} {name : Str} {apos : Pos} {args : List Expr} {Q : Value → Shared → Prop}
    (h : wpAny M A (eval o env) (fun ov s₁ => wpAny M A (getMethod ov name (do return (← importBound o env).getD true)) (fun r s₂ => wpAny M A (callWith pos r.1 r.2 (backTo pos (starEach args env)) []) Q E s₂) E s₁) E s)
    (hb : attributeBase o name env (eval o env) = eval o env) (hp : plainArgs args = true) (hl : args.length < 30) (hpos : (apos.endLine == pos.line) = true) :
    wpAny M A (eval (.Call (.Attribute o name apos) args [] pos) env) Q E s := by
  show wpAny M A (do let ov ← attributeBase o name env (eval o env); standAt apos.atName; methodCall o name apos pos env ov (args.length + ([] : List Keyword).length) (backTo pos (starEach args env)) (backToKw pos (keywordEach [] env))) Q E s
  rw [hb]
  refine wpAny_bind (wpAny_mono h (fun ov s₁ h₁ => wpAny_bind (wpAny_standAt ?_)) fun _ _ x => x)
  have hf : methodCallForm (args.length + ([] : List Keyword).length) (backTo pos (starEach args env)) (backToKw pos (keywordEach [] env)) = true := by
    have hpl := args_plain (pos := pos) (env := env) args hp
    unfold methodCallForm
    have : (backTo pos (starEach args env)).all (fun x => !x.1) = true := by
      rw [List.all_eq_not_any_not]
      simp only [Bool.not_not, hpl, Bool.not_false]
    rw [this]
    show (true && true && decide (args.length + 0 + 0 < 30)) = true
    simp; lia
  unfold methodCall
  rw [hf]
  refine wpAny_bind (wpAny_holding ?_)
  unfold calleeOf
  rw [if_pos rfl]
  refine wpAny_mono h₁ (fun r s₂ h₂ => ?_) fun _ _ x => x
  obtain ⟨f, first⟩ := r
  refine wpAny_bind ?_
  unfold methodCallPos
  rw [hpos]
  exact wpAny_pure h₂
end

/-- an environment by its parts -/
structure EnvIs (env : Env) (names : List (Str × NameKind)) (L : Addr) (cells : List (Str × Addr)) : Prop where
  kind : env.scope.kind = .function
  names : env.scope.names = names
  locals : env.locals = L
  cells : env.cells = cells
  globals : env.globals = mainGlobals
  builtins : env.builtins = builtinsNs
theorem EnvIs.kindOf {env : Env} {names : List (Str × NameKind)} {L : Addr} {cells : List (Str × Addr)} (e : EnvIs env names L cells) {x : Str} {k : NameKind} (h : names.lookup x = some k) : env.kindOf x = some k := by
  show env.scope.names.lookup x = _
  rw [e.names]; exact h

section
variable {prog : Program} {w : World} {A : Around} {E : Value → Shared → Prop} {H h₀ h : Heap} {g : Array GenState} {d : Drawn} {t : Nat} {os : OsState} {env : Env}
  {m mg mb : Str → Option Value} {σ : List (Addr × Obj)} {L : Addr} {names : List (Str × NameKind)} {cells : List (Str × Addr)}

theorem call_s {n : Nat} {fd : FuncData} {o : Obj} {f c : Addr} {body : List Stmt} {pos : List Value} {binds : List (Str × Value)} {Q : Value → Shared → Prop} (R : Rm A (n + 1)) (hz : H.objs.size ≤ h.objs.size)
    (ho : h.get? f = some o) (hd : o.data = .func fd) (hc : fd.code = .ref c) (hcd : Cd h c) (hbody : fd.body = .stmts body) (hb : BindsTo ⟨h, g, d, t, os⟩ fd ⟨pos, []⟩ binds)
    (hco : fd.scope.isCoroutine = false) (hgen : fd.scope.isGenerator = false) (hk : fd.scope.kind = .function) (hG : fd.globals = mainGlobals) (hB : fd.builtins = builtinsNs)
    (k : ∀ env L h' t' A', EnvIs env fd.scope.names L (cellsFrom (L + 1) fd.scope.names fd.closure) → env.code = .ref c → Rm A' n → Fx H h L h' (fun _ => none) (cellsσ (L + 1) fd.scope.names []) → BindAll (model prog w) A.in1 NoE env binds
      (fun s' => s'.heap.NoLimit ∧ wpAny (model prog w) A' (execs body env) (fun fl s'' => Q (retOf fl) s'') NoE s') ⟨h', g, d, t', os⟩) :
    wpAny (model prog w) A (call (.ref f) pos) Q E ⟨h, g, d, t, os⟩ :=
  enter_s (args := ⟨pos, []⟩) R hz ho hd hc hcd hbody hb hco hgen fun q L h' t' F => k (fenv fd q L f) L h' t' _ ⟨hk, rfl, rfl, rfl, hG, hB⟩ hc R.deeper F

theorem call_e {n : Nat} {fd : FuncData} {o : Obj} {f c : Addr} {body : Expr} {pos : List Value} {binds : List (Str × Value)} {Q : Value → Shared → Prop} (R : Rm A (n + 1)) (hz : H.objs.size ≤ h.objs.size)
    (ho : h.get? f = some o) (hd : o.data = .func fd) (hc : fd.code = .ref c) (hcd : Cd h c) (hbody : fd.body = .expr body) (hb : BindsTo ⟨h, g, d, t, os⟩ fd ⟨pos, []⟩ binds)
    (hco : fd.scope.isCoroutine = false) (hgen : fd.scope.isGenerator = false) (hk : fd.scope.kind = .function) (hG : fd.globals = mainGlobals) (hB : fd.builtins = builtinsNs)
    (k : ∀ env L h' t' A', EnvIs env fd.scope.names L (cellsFrom (L + 1) fd.scope.names fd.closure) → env.code = .ref c → Rm A' n → Fx H h L h' (fun _ => none) (cellsσ (L + 1) fd.scope.names []) → BindAll (model prog w) A.in1 NoE env binds
      (fun s' => s'.heap.NoLimit ∧ wpAny (model prog w) A' (eval body env) Q NoE s') ⟨h', g, d, t', os⟩) :
    wpAny (model prog w) A (call (.ref f) pos) Q E ⟨h, g, d, t, os⟩ :=
  enter_e (args := ⟨pos, []⟩) R hz ho hd hc hcd hbody hb hco hgen fun q L h' t' F => k (fenv fd q L f) L h' t' _ ⟨hk, rfl, rfl, rfl, hG, hB⟩ hc R.deeper F

theorem n_local {x : Str} {pos : Pos} {v : Value} {Q : Value → Shared → Prop} (F : Fx H h₀ L h m σ) (V : EnvIs env names L cells) (hl : names.lookup x = some .local) (hv : m x = some v) (h' : Q v ⟨h, g, d, t, os⟩) (hd : (x == ("__debug__" : Str)) = false) :
    wpAny (model prog w) A (eval (.Name x pos) env) Q E ⟨h, g, d, t, os⟩ := nm_local F hv h' V.kind (V.kindOf hl) V.locals hd
theorem n_cell {x : Str} {pos : Pos} {c : Addr} {v : Value} {Q : Value → Shared → Prop} (F : Fx H h₀ L h m σ) (V : EnvIs env names L cells) (hl : names.lookup x = some .cell) (hc : cells.lookup x = some c) (hm : (c, cellO (some v)) ∈ σ) (h' : Q v ⟨h, g, d, t, os⟩) (hd : (x == ("__debug__" : Str)) = false) :
    wpAny (model prog w) A (eval (.Name x pos) env) Q E ⟨h, g, d, t, os⟩ := wpAny_Name (wpAny_loadName_cell V.kind (V.kindOf hl) (V.cells ▸ hc) ⟨_, F.get hm, rfl⟩ h') hd
theorem n_free {x : Str} {pos : Pos} {c : Addr} {v : Value} {Q : Value → Shared → Prop} (F : Fx H h₀ L h m σ) (V : EnvIs env names L cells) (hl : names.lookup x = some .free) (hc : cells.lookup x = some c) (hm : h₀.IsCell c (some v)) (h' : Q v ⟨h, g, d, t, os⟩) (hd : (x == ("__debug__" : Str)) = false) (hn : (x == ("__classdict__" : Str)) = false) :
    wpAny (model prog w) A (eval (.Name x pos) env) Q E ⟨h, g, d, t, os⟩ := wpAny_Name (wpAny_loadName_free V.kind (V.kindOf hl) (V.cells ▸ hc) (F.kp.isCell hm) h' hn) hd
theorem n_glob {x : Str} {pos : Pos} {v : Value} {Q : Value → Shared → Prop} (F : Fx H h₀ L h m σ) (V : EnvIs env names L cells) (hl : names.lookup x = some .globalImplicit) (K0 : Kp H H h₀) (hg : H.Ns mainGlobals mg) (hv : mg x = some v) (h' : Q v ⟨h, g, d, t, os⟩) (hd : (x == ("__debug__" : Str)) = false) :
    wpAny (model prog w) A (eval (.Name x pos) env) Q E ⟨h, g, d, t, os⟩ := nm_glob F K0 hg hv h' V.kind (V.kindOf hl) V.globals hd
theorem n_blt {x : Str} {pos : Pos} {v : Value} {Q : Value → Shared → Prop} (F : Fx H h₀ L h m σ) (V : EnvIs env names L cells) (hl : names.lookup x = some .globalImplicit) (K0 : Kp H H h₀) (hg : H.Ns mainGlobals mg) (hb : H.Ns builtinsNs mb) (hv : mg x = none ∧ mb x = some v) (h' : Q v ⟨h, g, d, t, os⟩) (hd : (x == ("__debug__" : Str)) = false) :
    wpAny (model prog w) A (eval (.Name x pos) env) Q E ⟨h, g, d, t, os⟩ := nm_blt F K0 hg hb hv.1 hv.2 h' V.kind (V.kindOf hl) V.globals V.builtins hd
theorem n_st {x : Str} {v : Value} {Q : Unit → Shared → Prop} (F : Fx H h₀ L h m σ) (V : EnvIs env names L cells) (hl : names.lookup x = some .local) (h' : ∀ h' t', Fx H h₀ L h' (upd m x v) σ → Q () ⟨h', g, d, t', os⟩) :
    wpAny (model prog w) A (storeName env x v) Q E ⟨h, g, d, t, os⟩ := st_local F h' V.kind (V.kindOf hl) V.locals
theorem n_stc {x : Str} {c : Addr} {v : Value} {v₀ : Option Value} {σ' : List (Addr × Obj)} {Q : Unit → Shared → Prop} (F : Fx H h₀ L h m σ) (V : EnvIs env names L cells) (hl : names.lookup x = some .cell) (hc : cells.lookup x = some c) (U : Up c (cellO v₀) (cellO (some v)) σ σ') (h' : ∀ h' t', Fx H h₀ L h' m σ' → Q () ⟨h', g, d, t', os⟩) :
    wpAny (model prog w) A (storeName env x v) Q E ⟨h, g, d, t, os⟩ := by
  have ho := F.get U.mem
  unfold storeName
  simp only [V.kindOf hl, V.kind]
  refine wpAny_bind (wpAny_cellOf (V.cells ▸ hc) ?_)
  unfold cellSet
  refine wpAny_bind (wpAny_load ho ?_)
  refine wpAny_update ho (h' _ _ (F.upd U (Heap.SameBut.update ..).extBut (Heap.get?_update_self _ ho rfl) (ncl rfl)))
end

noncomputable def bindM : List (Str × Value) → (Str → Option Value) → Str → Option Value
  | [], m => m
  | (n, v) :: r, m => bindM r (upd m n v)

section
variable {prog : Program} {w : World} {A : Around} {E : Value → Shared → Prop} {H h₀ h : Heap} {g : Array GenState} {d : Drawn} {t : Nat} {os : OsState} {env : Env}
  {m mg mb : Str → Option Value} {σ : List (Addr × Obj)} {L : Addr} {names : List (Str × NameKind)} {cells : List (Str × Addr)}

theorem bindAll_local {P : Shared → Prop} (V : EnvIs env names L cells) : ∀ (binds : List (Str × Value)) {m : Str → Option Value} {h : Heap} {t : Nat}, (binds.all fun x => names.lookup x.1 == some .local) = true → Fx H h₀ L h m σ →
    (∀ h' t', Fx H h₀ L h' (bindM binds m) σ → P ⟨h', g, d, t', os⟩) → BindAll (model prog w) A NoE env binds P ⟨h, g, d, t, os⟩
  | [], _, _, _, _, F, k => k _ _ F
  | (n, v) :: r, m, h, t, ha, F, k => by
    simp only [List.all_cons, Bool.and_eq_true, beq_iff_eq] at ha
    exact ba_cons (n_st F V ha.1 fun h₂ t₂ F => bindAll_local V r ha.2 F k)

theorem call_s0 {n : Nat} {fd : FuncData} {o : Obj} {f c : Addr} {body : List Stmt} {pos : List Value} {binds : List (Str × Value)} {Q : Value → Shared → Prop} (R : Rm A (n + 1)) (hz : H.objs.size ≤ h.objs.size)
    (K0 : Kp H H h) (hl : H.NoLimit)
    (ho : h.get? f = some o) (hd : o.data = .func fd) (hc : fd.code = .ref c) (hcd : Cd h c) (hbody : fd.body = .stmts body) (hb : BindsTo ⟨h, g, d, t, os⟩ fd ⟨pos, []⟩ binds)
    (hco : fd.scope.isCoroutine = false) (hgen : fd.scope.isGenerator = false) (hk : fd.scope.kind = .function) (hG : fd.globals = mainGlobals) (hB : fd.builtins = builtinsNs)
    (hcl : ∀ L, cellsFrom (L + 1) fd.scope.names fd.closure = fd.closure) (hσ : ∀ L, cellsσ (L + 1) fd.scope.names [] = []) (ha : (binds.all fun x => fd.scope.names.lookup x.1 == some .local) = true)
    (k : ∀ env L h' t' A', EnvIs env fd.scope.names L fd.closure → env.code = .ref c → Rm A' n → Fx H h L h' (bindM binds (fun _ => none)) [] →
      wpAny (model prog w) A' (execs body env) (fun fl s'' => Q (retOf fl) s'') NoE ⟨h', g, d, t', os⟩) :
    wpAny (model prog w) A (call (.ref f) pos) Q E ⟨h, g, d, t, os⟩ :=
  call_s R hz ho hd hc hcd hbody hb hco hgen hk hG hB fun env L h' t' A' V hcode R' F => by
    rw [hcl] at V; rw [hσ] at F
    exact bindAll_local V binds ha F fun h₂ t₂ F => ⟨(K0.trans F.kp).noLimit hl, k env L h₂ t₂ A' V hcode R' F⟩

theorem call_e0 {n : Nat} {fd : FuncData} {o : Obj} {f c : Addr} {body : Expr} {pos : List Value} {binds : List (Str × Value)} {Q : Value → Shared → Prop} (R : Rm A (n + 1)) (hz : H.objs.size ≤ h.objs.size)
    (K0 : Kp H H h) (hl : H.NoLimit)
    (ho : h.get? f = some o) (hd : o.data = .func fd) (hc : fd.code = .ref c) (hcd : Cd h c) (hbody : fd.body = .expr body) (hb : BindsTo ⟨h, g, d, t, os⟩ fd ⟨pos, []⟩ binds)
    (hco : fd.scope.isCoroutine = false) (hgen : fd.scope.isGenerator = false) (hk : fd.scope.kind = .function) (hG : fd.globals = mainGlobals) (hB : fd.builtins = builtinsNs)
    (hcl : ∀ L, cellsFrom (L + 1) fd.scope.names fd.closure = fd.closure) (hσ : ∀ L, cellsσ (L + 1) fd.scope.names [] = []) (ha : (binds.all fun x => fd.scope.names.lookup x.1 == some .local) = true)
    (k : ∀ env L h' t' A', EnvIs env fd.scope.names L fd.closure → env.code = .ref c → Rm A' n → Fx H h L h' (bindM binds (fun _ => none)) [] →
      wpAny (model prog w) A' (eval body env) Q NoE ⟨h', g, d, t', os⟩) :
    wpAny (model prog w) A (call (.ref f) pos) Q E ⟨h, g, d, t, os⟩ :=
  call_e R hz ho hd hc hcd hbody hb hco hgen hk hG hB fun env L h' t' A' V hcode R' F => by
    rw [hcl] at V; rw [hσ] at F
    exact bindAll_local V binds ha F fun h₂ t₂ F => ⟨(K0.trans F.kp).noLimit hl, k env L h₂ t₂ A' V hcode R' F⟩
end


-- part H0

noncomputable abbrev Kf (w : World) : Frag := hd.heap_39 w.params

/-- what is known of the top -/
structure Glb (w : World) (H : Heap) (mg mb : Str → Option Value) : Prop where
  K : (Kf w).In H
  g : H.Ns mainGlobals mg
  b : H.Ns builtinsNs mb
  nolimit : H.NoLimit
  nodigits : ∃ mc, H.Ns cStatics mc ∧ mc "sys.int_max_str_digits" = none
  builtins : ∀ x : Str, x ≠ "__name__" → mb x = bootBuiltins x
  bmain : ∃ bm ob, mg "__builtins__" = some (.ref bm) ∧ bm ≠ builtinsNs ∧ H.get? bm = some ob ∧ ob.cls = .type "module" ∧ ob.dict = some builtinsNs ∧ ob.data = .plain
  g96 : Good H H 96
  g103 : Good H H 103
  g110 : Good H H 110

section
variable {w : World} {H : Heap} {mg mb : Str → Option Value}
theorem Glb.glob (G : Glb w H mg mb) {x : Str} {v : Value} (e : nsIn (Kf w) mainGlobals x = some (some v)) : mg x = some v := mg_of G.K G.g e
theorem Glb.none (G : Glb w H mg mb) {x : Str} (e : nsIn (Kf w) mainGlobals x = some none) : mg x = none := mg_none_of G.K G.g e

theorem gl_sr (G : Glb w H mg mb) : mg "search_reverse" = some (.ref 28) := G.glob (by kernel_rfl)
theorem gl_sep (G : Glb w H mg mb) : mg "sep" = some (.str "/" 209) := G.glob (by kernel_rfl)
theorem gl_kind (G : Glb w H mg mb) : mg "_kind" = some (.ref 35) := G.glob (by kernel_rfl)
theorem gl_cpath (G : Glb w H mg mb) : mg "_c_path" = some (.ref 42) := G.glob (by kernel_rfl)
theorem gl_splitroot (G : Glb w H mg mb) : mg "_splitroot" = some (.ref 49) := G.glob (by kernel_rfl)
theorem gl_normpath0 (G : Glb w H mg mb) : mg "_normpath" = some (.ref 56) := G.glob (by kernel_rfl)
theorem gl_normpath (G : Glb w H mg mb) : mg "normpath" = some (.ref 63) := G.glob (by kernel_rfl)
theorem gl_Ignore (G : Glb w H mg mb) : mg "_Ignore" = some (.ref 86) := G.glob (by kernel_rfl)
theorem gl_prog (G : Glb w H mg mb) : mg "_law_prog" = some (.ref 97) := G.glob (by kernel_rfl)
theorem gl_above (G : Glb w H mg mb) : mg "_law_above" = some (.ref 104) := G.glob (by kernel_rfl)
theorem gl_flatter (G : Glb w H mg mb) : mg "_law_flatter" = some (.ref 111) := G.glob (by kernel_rfl)
theorem gl_reader (G : Glb w H mg mb) : mg "_law_reader" = some (.ref 118) := G.glob (by kernel_rfl)
theorem gl_tree (G : Glb w H mg mb) : mg "_law_tree" = some (.ref 123) := G.glob (by kernel_rfl)
theorem gl_ends (G : Glb w H mg mb) : mg "_law_ends" = some (.ref 128) := G.glob (by kernel_rfl)
theorem gl_touch (G : Glb w H mg mb) : mg "_law_touch" = some (.ref 135) := G.glob (by kernel_rfl)
theorem gl_match (G : Glb w H mg mb) : mg "_law_match" = some (.ref 142) := G.glob (by kernel_rfl)

theorem gb_range (G : Glb w H mg mb) : mg "range" = none ∧ mb "range" = some (.type "range") := ⟨G.none (by kernel_rfl), (G.builtins _ (by decide)).trans boot_range⟩
theorem gb_len (G : Glb w H mg mb) : mg "len" = none ∧ mb "len" = some (.builtin "len") := ⟨G.none (by kernel_rfl), (G.builtins _ (by decide)).trans boot_len⟩
theorem gb_max (G : Glb w H mg mb) : mg "max" = none ∧ mb "max" = some (.builtin "max") := ⟨G.none (by kernel_rfl), (G.builtins _ (by decide)).trans boot_max⟩
theorem gb_min (G : Glb w H mg mb) : mg "min" = none ∧ mb "min" = some (.builtin "min") := ⟨G.none (by kernel_rfl), (G.builtins _ (by decide)).trans boot_min⟩
theorem gb_sum (G : Glb w H mg mb) : mg "sum" = none ∧ mb "sum" = some (.builtin "sum") := ⟨G.none (by kernel_rfl), (G.builtins _ (by decide)).trans boot_sum⟩
theorem gb_str (G : Glb w H mg mb) : mg "str" = none ∧ mb "str" = some (.type "str") := ⟨G.none (by kernel_rfl), (G.builtins _ (by decide)).trans boot_str⟩
theorem gb_type (G : Glb w H mg mb) : mg "type" = none ∧ mb "type" = some (.type "type") := ⟨G.none (by kernel_rfl), (G.builtins _ (by decide)).trans boot_type⟩
theorem gb_set (G : Glb w H mg mb) : mg "set" = none ∧ mb "set" = some (.type "set") := ⟨G.none (by kernel_rfl), (G.builtins _ (by decide)).trans boot_set⟩
end

-- part L6
theorem Glb.cd {w : World} {H h : Heap} {mg mb : Str → Option Value} (G : Glb w H mg mb) (K0 : Kp H H h) {c : Addr} {o : Obj} {vs : Array Value} {q : Str} {t : Tok} (e : (Kf w).lookup c = some o) (hc : o.cls = .type "code") (hd : o.data = .fields vs) (hq : vs[1]? = some (.str q t)) : Cd h c :=
  ⟨o, q, vs, t, K0.getc (G.K _ _ e) (by rw [hc]; nofun), hc, hd, hq⟩

noncomputable abbrev tupO (vs : List Value) : Obj := { cls := .type "tuple", data := .seq vs.toArray }

/-- a made function's data -/
noncomputable abbrev mkFd (name qual : Str) (params : Arguments) (body : FuncBody) (scope : Scope) (clos : List (Str × Addr)) (ctv cv dV pm : Value) : FuncData :=
  { name, qualname := qual, params, body, scope, globals := mainGlobals, closure := clos, closureTuple := ctv, code := cv, builtins := builtinsNs, defaults := dV, kwdefaults := .none, annotations := none, pyModule := pm, doc := .none }
noncomputable abbrev fnO (fd : FuncData) (dict : Option Addr := none) : Obj := { cls := .type "function", dict, data := .func fd }

section
variable {prog : Program} {w : World} {A : Around} {E : Value → Shared → Prop} {H h₀ h : Heap} {g : Array GenState} {d : Drawn} {t : Nat} {os : OsState} {env : Env}
  {m mg mb : Str → Option Value} {σ : List (Addr × Obj)} {L : Addr} {names : List (Str × NameKind)} {cells : List (Str × Addr)}

theorem fn_code {c : Addr} {pos : Pos} {fl : Nat} {name qual : Str} {p : Arguments} {scope : Scope} {body : FuncBody} {Q : Value → Shared → Prop} (hz : H.objs.size ≤ h.objs.size) (hc : env.code = .ref c) (gd : Good H h c)
    (k : ∀ c' h' t', Kp H h h' → Good H h' c' → Q (.ref c') ⟨h', g, d, t', os⟩) : wpAny (model prog w) A (functionCode env pos fl name qual p scope body) Q E ⟨h, g, d, t, os⟩ := by
  obtain ⟨P, ps, hd, hP, ht, hb, hm⟩ := gd.parts
  cases hf : codeAmong pos ps.toList with
  | some cv =>
    obtain ⟨c', rfl, g'⟩ := hm pos cv hf
    exact wpAny_functionCode_hit hc (hd.code hP ht) hf (k c' h t (Kp.refl H h) g')
  | none =>
    refine wpAny_functionCodeX hc (hd.code hP ht) (hd.tab hP) hf fun c' h' tk hx hge hlt _ hrec htb hnew => ?_
    obtain ⟨P', hP', hc', ht'⟩ := hnew
    have hcd : Cd h' c' := by
      obtain ⟨⟨o, vs, e1, e2, e3, e4⟩, _⟩ := ht'
      obtain ⟨c₂, o₂, vs₂, t₂, e5, e6, e7, e8⟩ := hrec
      cases e5
      rw [e1] at e6; cases e6
      exact ⟨o, _, _, _, e1, e2, e7, e8⟩
    have hb' : Tb H P' := .inr (Nat.le_trans hz hP')
    have grow : ∀ c, Good H h c → Good H h' c := fun c gc => Good.grow hx hP ht htb.2 hcd (CodeHd.of hc' ht') ht'.2 hb' gc
    have kp : Kp H h h' := by
      refine ⟨fun b o e => ?_, grow⟩
      by_cases hbP : b = P
      · subst hbP
        rw [hP] at e; cases e
        exact .inr ⟨hb, rfl, ps, _, rfl, htb.2⟩
      · exact .inl (hx _ _ hbP e)
    refine k c' h' tk kp fun n => ?_
    cases n with
    | zero => exact hcd
    | succ n => exact ⟨hcd, P', #[], CodeHd.of hc' ht', ht'.2, trivial, hb', fun _ _ e => by cases e⟩

set_option maxHeartbeats 1000000 in
theorem mk_tail {c : Addr} {pos : Pos} {fl : Nat} {name qual : Str} {p : Arguments} {scope : Scope} {body : FuncBody} {clos : List (Str × Addr)} {dV : Value} {Q : Value → Shared → Prop} (G : Glb w H mg mb) (K0 : Kp H H h₀)
    (F : Fx H h₀ L h m σ) (V : EnvIs env names L cells) (hc : env.code = .ref c) (gd : Good H h c) (hcl : closureFor scope env = pure clos) (hdoc : ∀ b, body = .stmts b → docOf b = none)
    (k : ∀ f c' ctv h' t', Fx H h₀ L h' m ((f, fnO (mkFd name qual p body scope clos ctv (.ref c') dV ((mg "__name__").getD .none))) :: σ) → Kp H h h' → Q (.ref f) ⟨h', g, d, t', os⟩) :
    wpAny (model prog w) A (makeTail name qual p body scope env dV .none none pos fl) Q E ⟨h, g, d, t, os⟩ := by
  obtain ⟨bm, ob, b1, b2, b3, b4, b5, b6⟩ := G.bmain
  have fin : ∀ (ctv : Value) (h₂ h' : Heap) (c' : Addr) (t' : Nat), Kp H h h₂ → Fx H h₀ L h₂ m σ → Kp H h₂ h' → Good H h' c' →
      Q (.ref h'.objs.size) ⟨h'.push (fnO (mkFd name qual p body scope clos ctv (.ref c') dV ((mg "__name__").getD .none))), g, d, t', os⟩ := by
    intro ctv h₂ h' c' t' k2 F2 kp g'
    have F4 := (F2.call kp).push (fnO (mkFd name qual p body scope clos ctv (.ref c') dV ((mg "__name__").getD .none))) rfl (ncl rfl) (fun fd e => by cases e; exact ⟨c', rfl, g'⟩)
    exact k _ c' ctv _ _ F4 (k2.trans (kp.trans (Kp.push h' _)))
  unfold makeTail
  rw [hcl, V.globals]
  refine wpAny_bind (wpAny_pure ?_)
  cases clos with
  | nil =>
    simp only [List.isEmpty_nil, if_true]
    refine wpAny_bind (wpAny_pure ?_)
    refine wpAny_bind (fn_code F.size hc gd fun c' h' t' kp g' => ?_)
    have KK := K0.trans (F.call kp).kp
    refine wpAny_bind (wpAny_builtinsFor (m := mg) (KK.ns G.g) b1 b2 (KK.getc b3 (by rw [b4]; nofun)) b4 b5 b6 ?_)
    refine wpAny_bind (wpAny_nsGet (m := mg) (KK.ns G.g) ?_)
    cases body with
    | stmts b =>
      dsimp only
      rw [hdoc b rfl]
      exact wpAny_bind (wpAny_pure (wpAny_newObj_type (fin .none h h' c' t' (Kp.refl H h) F kp g') (by size_fits)))
    | expr e => exact wpAny_bind (wpAny_pure (wpAny_newObj_type (fin .none h h' c' t' (Kp.refl H h) F kp g') (by size_fits)))
  | cons q r =>
    simp only [List.isEmpty_cons, Bool.false_eq_true, if_false]
    refine wpAny_bind (wpAny_newTextTuple ?_)
    have F' := F.push' (tupO (List.map (fun x => Value.ref x.2) ((q :: r).mergeSort fun a b => decide (a.1.cps.toList ≤ b.1.cps.toList))))
    refine wpAny_bind (fn_code F'.size hc ((Kp.push h _).good _ gd) fun c' h' t' kp g' => ?_)
    have KK := K0.trans (F'.call kp).kp
    refine wpAny_bind (wpAny_builtinsFor (m := mg) (KK.ns G.g) b1 b2 (KK.getc b3 (by rw [b4]; nofun)) b4 b5 b6 ?_)
    refine wpAny_bind (wpAny_nsGet (m := mg) (KK.ns G.g) ?_)
    cases body with
    | stmts b =>
      dsimp only
      rw [hdoc b rfl]
      exact wpAny_bind (wpAny_pure (wpAny_newObj_type (fin _ _ h' c' t' (Kp.push h _) F' kp g') (by size_fits)))
    | expr e => exact wpAny_bind (wpAny_pure (wpAny_newObj_type (fin _ _ h' c' t' (Kp.push h _) F' kp g') (by size_fits)))

/-- a lambda is made -/
theorem mk_lam {c : Addr} {pos : Pos} {p : Arguments} {scope : Scope} {body : Expr} {clos : List (Str × Addr)} {Q : Value → Shared → Prop} (G : Glb w H mg mb) (K0 : Kp H H h₀)
    (F : Fx H h₀ L h m σ) (V : EnvIs env names L cells) (hc : env.code = .ref c) (gd : Good H h c) (hcl : closureFor scope env = pure clos) (hdef : defaultsOf p env = ([], []))
    (k : ∀ f c' ctv q h' t', Fx H h₀ L h' m ((f, fnO (mkFd "<lambda>" q p (.expr body) scope clos ctv (.ref c') .none ((mg "__name__").getD .none))) :: σ) → Kp H h h' → Q (.ref f) ⟨h', g, d, t', os⟩) :
    wpAny (model prog w) A (eval (.Lambda p body scope pos) env) Q E ⟨h, g, d, t, os⟩ := by
  refine kla_eval hdef ?_
  rw [makeFunction_eq]
  simp only [List.zip_nil_right, List.filterMap_nil, List.isEmpty_nil, if_true, pure_bind]
  exact mk_tail G K0 F V hc gd hcl nofun fun f c' ctv h' t' => k f c' ctv _ h' t'

set_option maxHeartbeats 1000000 in
/-- a nested def with one default that is a constant int -/
theorem mk_def1 {c : Addr} {pos : Pos} {name : Str} {params : Arguments} {scope : Scope} {body : List Stmt} {clos : List (Str × Addr)} {i : Int} {dk : Nat} {dp : Pos} {Q : Flow → Shared → Prop} (G : Glb w H mg mb) (K0 : Kp H H h₀)
    (F : Fx H h₀ L h m σ) (V : EnvIs env names L cells) (hc : env.code = .ref c) (gd : Good H h c) (hcl : closureFor scope env = pure clos) (hdoc : docOf body = none) (hl : names.lookup name = some .local) (ha : annTrees params none env = [])
    (hd0 : params.defaults = [.Constant (.int i) dk dp]) (hk0 : params.kw_defaults = []) (hkw : params.kwonlyargs = [])
    (k : ∀ f c' ctv q T u h' t', Fx H h₀ L h' (upd m name (.ref f)) ((f, fnO (mkFd name q params (.stmts body) scope clos ctv (.ref c') (.ref T) ((mg "__name__").getD .none))) :: (T, tupO [.int i u]) :: σ) → Q .next ⟨h', g, d, t', os⟩) :
    wpAny (model prog w) A (exec (.FunctionDef name params body [] none [] scope none name pos) env) Q E ⟨h, g, d, t, os⟩ := by
  rw [exec_def]
  refine wpAny_bind (wpAny_standAt (wpAny_bind (wpAny_holding ?_)))
  rw [defaultsOf_eq, hd0, hk0, ha]
  refine wpAny_bind (wpAny_evalAll_cons (c_int fun u t => wpAny_evalAll_nil ?_))
  refine wpAny_bind (wpAny_holding (wpAny_pure ?_))
  refine wpAny_holding (wpAny_bind (wpAny_pure ?_))
  rw [makeFunction_eq]
  simp only [hkw, List.zip_nil_left, List.filterMap_nil, List.isEmpty_nil, if_true, List.isEmpty_cons, Bool.false_eq_true, if_false, pure_bind]
  refine wpAny_bind (wpAny_newTextTuple ?_)
  have F1 := F.push (tupO [.int i u]) rfl (ncl rfl)
  refine mk_tail G K0 F1 V hc ((Kp.push h _).good _ gd) hcl (fun b e => by cases e; exact hdoc) fun f c' ctv h' t' F2 k2 => ?_
  refine wpAny_bind (wpAny_standAt (wpAny_bind (wpAny_bindName (n_st F2 V hl fun h₃ t₃ F3 => wpAny_pure ?_))))
  exact k f c' ctv _ _ u h₃ t₃ F3
end

-- part L7
section
open Builtin Builtin.ObjectAttr
theorem fslot_sa : Slot "function" "__setattr__" "object.__setattr__" := .of (owner := "object") (n := "__setattr__") (by rw [typeLookup_type, builtinLookup_eq_fast]; kernel_rfl) (by decide +kernel) (by decide +kernel) (by decide +kernel)
    (by first | exact .inl (by decide +kernel) | exact .inr (by decide +kernel)) (by rw [isSubtype_type]; kernel_rfl)
theorem fslot_ga : Slot "function" "__getattribute__" "object.__getattribute__" := .of (owner := "object") (n := "__getattribute__") (by rw [typeLookup_type, builtinLookup_eq_fast]; kernel_rfl) (by decide +kernel) (by decide +kernel) (by decide +kernel)
    (by first | exact .inl (by decide +kernel) | exact .inr (by decide +kernel)) (by rw [isSubtype_type]; kernel_rfl)
theorem flk_getattr : typeLookup (.type "function") "__getattr__" = pure none := by rw [typeLookup_type, builtinLookup_eq_fast]; kernel_rfl
theorem flk_search : typeLookup (.type "function") "search" = pure none := by rw [typeLookup_type, builtinLookup_eq_fast]; kernel_rfl
theorem flk_span : typeLookup (.type "function") "span" = pure none := by rw [typeLookup_type, builtinLookup_eq_fast]; kernel_rfl
theorem f_mro : mroOf (.type "function") = pure [.type "function", .type "object"] := by kernel_rfl
theorem f_passes (self : Value) : refuseLoop self "__setattr__" [.type "function", .type "object"] = pure () := by kernel_rfl
theorem fargs_sa (a b c : Value) : argsOk "object.__setattr__" ⟨[a, b, c], []⟩ := by unfold argsOk; kernel_rfl
theorem fargs_ga (a b : Value) : argsOk "object.__getattribute__" ⟨[a, b], []⟩ := by unfold argsOk; kernel_rfl
theorem fentry_ga : entryFor table "object.__getattribute__" = some Builtin.«object.__getattribute__» := entryFor_of_tree (by kernel_rfl)
/-- a dict's object whose keys are texts -/
noncomputable def NsO (o : Obj) (m : Str → Option Value) (sz : Nat) : Prop := o.cls = .type "dict" ∧ ∃ es ep, o.data = .dict es ep ∧ es.size ≤ sz ∧ StrKeys es ∧ ∀ n, nsFind es n = m n
theorem NsO.ns {o : Obj} {m : Str → Option Value} {k : Nat} (x : NsO o m k) {h : Heap} {a : Addr} (e : h.get? a = some o) : h.Ns a m := let ⟨_, es, ep, a, _, b, c⟩ := x; ⟨o, es, ep, e, a, b, c⟩
theorem NsO.ncl {o : Obj} {m : Str → Option Value} {k : Nat} (x : NsO o m k) : NoCode o := .inr fun vs e => by obtain ⟨_, es, ep, a, _⟩ := x; rw [a] at e; cases e
theorem NsO.gf {o : Obj} {m : Str → Option Value} {k : Nat} (x : NsO o m k) {H h : Heap} : GoodFn H h o := fun fd e => by obtain ⟨_, es, ep, a, _⟩ := x; rw [a] at e; cases e
noncomputable abbrev emptyD : Obj := { cls := .type "dict", data := .dict #[] }
theorem NsO.empty : NsO emptyD (fun _ => none) 0 := ⟨rfl, #[], _, rfl, Nat.le_refl _, fun e he => absurd he (by simp), fun _ => rfl⟩

theorem nsSet_o {M : Model} {A : Around} {E : Value → Shared → Prop} {h : Heap} {g : Array GenState} {d : Drawn} {t : Nat} {os : OsState} {a : Addr} {o : Obj} {m : Str → Option Value} {sz : Nat} {name : Str} {v : Value} {Q : Unit → Shared → Prop}
    (ho : h.get? a = some o) (x : NsO o m sz) (k : ∀ o' h' t', h'.get? a = some o' → Heap.SameBut a h h' → NsO o' (upd m name v) (sz + 1) → Q () ⟨h', g, d, t', os⟩) : wpAny M A (nsSet a name v) Q E ⟨h, g, d, t, os⟩ := by
  intro Γ p _
  obtain ⟨hc, es, ep, hd, hsz, hk, hm⟩ := x
  simp only [nsSet, strHash, Sem.wp_bind', Sem.wp_cmd_ask, Sem.wp_pure', Sem.wp_cmd_mkText]
  rw [Sem.wp_loadPart_of _ Γ _ p _ (o := o) _ ho]
  have hany : es.any (·.refKey) = false := by
    rw [Array.any_eq_false']; intro e he; obtain ⟨n, t, h⟩ := hk e he; simp [DictEntry.refKey, h]
  simp only [hd, aRefKeyMayBeTheName_eq, aRefKeyMayBeTheNameByArray, hany, Bool.and_false, Bool.false_eq_true, if_false, Sem.wp_cmd_updatePart]
  refine ⟨by rw [ho]; rfl, ?_⟩
  obtain ⟨c, dd, dt, sl⟩ := o
  cases hd
  cases hi : es.findIdx? (·.key.isStr name) with
  | some i =>
    refine k ⟨c, dd, .dict (es.modify i fun e => { e with val := v }) ep, sl⟩ _ _ ?_ (Heap.SameBut.update ..) ⟨hc, _, ep, rfl, by rw [Array.size_modify]; exact Nat.le_succ_of_le hsz, hk.modify _ _, fun x => ?_⟩
    · have := Heap.get?_update_self (h := h) (Obj.putName name (if name.cps.isEmpty = true then 0 else reduceHash (M.w.params.strHash name.cps)) (.str name t) v) ho (by simp only [Obj.putName_eq, Obj.putNameByArray, hi]; rfl)
      rw [this]
      simp only [Obj.putName_eq, Obj.putNameByArray, hi]
    · show _ = if x = name then some v else m x
      rw [← hm]; exact findBy_modify (fun n v => v.isStr n) Value.isStr_inj es name x v i hi
  | none =>
    refine k ⟨c, dd, .dict (es.push ⟨(if name.cps.isEmpty = true then 0 else reduceHash (M.w.params.strHash name.cps)), .str name t, v⟩) (ep + 1), sl⟩ _ _ ?_ (Heap.SameBut.update ..) ⟨hc, _, ep + 1, rfl, by rw [Array.size_push]; exact Nat.succ_le_succ hsz, hk.push _ _ _ _, fun x => ?_⟩
    · have := Heap.get?_update_self (h := h) (Obj.putName name (if name.cps.isEmpty = true then 0 else reduceHash (M.w.params.strHash name.cps)) (.str name t) v) ho (by simp only [Obj.putName_eq, Obj.putNameByArray, hi]; rfl)
      rw [this]
      simp only [Obj.putName_eq, Obj.putNameByArray, hi]
    · show _ = if x = name then some v else m x
      rw [← hm]
      exact findBy_push (fun n v => v.isStr n) es name x _ _ v (fun y => by
        show (name == y) = decide (y = name)
        by_cases h : y = name
        · subst h; simp
        · have : ¬ name = y := fun e => h e.symm
          simp [h, this]) hi

theorem storeInDict_o {M : Model} {A : Around} {E : Value → Shared → Prop} {h : Heap} {g : Array GenState} {d : Drawn} {t : Nat} {os : OsState} {a : Addr} {name : Str} {tk : Tok} {v : Value} {Q : Fin → Shared → Prop}
    (k : ∃ o m sz, h.get? a = some o ∧ NsO o m sz ∧ sz < 1000 ∧ ∀ o' h' t', h'.get? a = some o' → Heap.SameBut a h h' → NsO o' (upd m name v) (sz + 1) → Q (.done (.ret .none)) ⟨h', g, d, t', os⟩) : wpAny M A (storeInDict a (.str name tk) name v) Q E ⟨h, g, d, t, os⟩ := by
  obtain ⟨o, m, sz, ho, x, hs, k⟩ := k
  unfold storeInDict newKeyGuard
  refine wpAny_bind (wpAny_pure (wpAny_bind (nsSet_o ho x fun oD h' t' hoD hs nso => ?_)))
  obtain ⟨_, es, ep, e1, e2, _⟩ := id nso
  refine wpAny_bind (wpAny_lookBehind hoD (by rw [e1]; exact pastItsLine_dict (Nat.le_trans e2 (by rw [sizeLine_eq]; lia))) ?_)
  exact wpAny_pure (k oD h' _ hoD hs nso)

section
variable {prog : Program} {w : World} {A : Around} {E : Value → Shared → Prop} {H h₀ h : Heap} {g : Array GenState} {d : Drawn} {t : Nat} {os : OsState} {env : Env}
  {m mg mb : Str → Option Value} {σ : List (Addr × Obj)} {L : Addr} {names : List (Str × NameKind)} {cells : List (Str × Addr)}

set_option maxHeartbeats 1000000 in
theorem sa_entry {f : Addr} {fd : FuncData} {name : Str} {v : Value} {tk : Tok} {Q : Fin → Shared → Prop} {gσ : Addr → List (Addr × Obj)} (F : Fx H h₀ L h m σ) (U : ∀ D, Up f (fnO fd) (fnO fd (some D)) σ (gσ D)) (hB : typeLookup (.type "function") name = pure none)
    (k : ∀ D oD h' t', Fx H h₀ L h' m ((D, oD) :: gσ D) → NsO oD (upd (fun _ => none) name v) 1 → Q (.done (.ret .none)) ⟨h', g, d, t', os⟩) :
    wpAny (model prog w) A (Builtin.«object.__setattr__» ⟨[.ref f, .str name tk, v], []⟩) Q E ⟨h, g, d, t, os⟩ := by
  have hx : h.get? f = some (fnO fd) := F.get (U 0).mem
  have hT : Shared.TypeIs ⟨h, g, d, t, os⟩ (.ref f) "function" := ⟨_, hx, rfl⟩
  have hpass := f_passes (.ref f)
  have hmro := f_mro
  unfold Builtin.«object.__setattr__»
  repeat (first | with_reducible refine storeInDict_o ?_ | rw [refuse_eq] | rw [hpass] | wp_step)
  have F1 := F.push emptyD rfl (ncl rfl)
  have hx1 : (h.push emptyD).get? f = some (fnO fd) := Heap.get?_push_of_some _ hx
  have gf : GoodFn H (h.push emptyD) (fnO fd (some h.objs.size)) := fun fd' e => by
    cases e; exact F1.fns _ (.tail _ (U 0).mem) fd rfl
  have F2 := F1.upd (.tail (U h.objs.size)) (Heap.SameBut.update (h.push emptyD) f (fun o => { cls := o.cls, dict := some h.objs.size, data := o.data, slots := o.slots })).extBut (Heap.get?_update_self _ hx1 rfl) (ncl rfl) gf
  exact ⟨_, _, _, F2.get (.head _), NsO.empty, by lia, fun oD h' t' hoD hs nso => k h.objs.size oD h' _ (F2.upd .head hs.extBut hoD nso.ncl nso.gf) nso⟩
end
section
variable {prog : Program} {w : World} {A : Around} {E : Value → Shared → Prop} {H h₀ h : Heap} {g : Array GenState} {d : Drawn} {t : Nat} {os : OsState} {env : Env}
  {m mg mb : Str → Option Value} {σ : List (Addr × Obj)} {L : Addr} {names : List (Str × NameKind)} {cells : List (Str × Addr)}

/-- a name is laid on a function -/
theorem fn_setattr {f : Addr} {fd : FuncData} {name : Str} {v : Value} {Q : Unit → Shared → Prop} {gσ : Addr → List (Addr × Obj)} (F : Fx H h₀ L h m σ) (U : ∀ D, Up f (fnO fd) (fnO fd (some D)) σ (gσ D)) (hB : typeLookup (.type "function") name = pure none)
    (k : ∀ D oD h' t', Fx H h₀ L h' m ((D, oD) :: gσ D) → NsO oD (upd (fun _ => none) name v) 1 → Q () ⟨h', g, d, t', os⟩) :
    wpAny (model prog w) A (setAttr (.ref f) name v) Q E ⟨h, g, d, t, os⟩ := by
  have hx : h.get? f = some (fnO fd) := F.get (U 0).mem
  have hT : ∀ t, Shared.TypeIs ⟨h, g, d, t, os⟩ (.ref f) "function" := fun t => ⟨_, hx, rfl⟩
  unfold setAttr callSpecial?
  refine wpAny_bind (wpAny_mkText (wpAny_bind (wpAny_bind (wpAny_specialOf (hT _) fslot_sa.lookup ?_))))
  refine wpAny_holding (wpAny_bind (wpAny_of_eq (fslot_sa.bind _) ?_))
  refine wpAny_bind (wpAny_call_entry fslot_sa (hT _) PySem.F.entry_object_sa (sa_entry F U hB fun D oD h' t' F' nso => ⟨_, rfl, ?_⟩) (fargs_sa _ _ _))
  exact wpAny_pure (wpAny_pure (k D oD h' t' F' nso))

theorem ga_entry {f D : Addr} {fd : FuncData} {name : Str} {v : Value} {tk : Tok} {mD : Str → Option Value} {Q : Fin → Shared → Prop} (hx : h.get? f = some (fnO fd (some D))) (hn : h.Ns D mD) (hv : mD name = some v) (hB : typeLookup (.type "function") name = pure none)
    (k : Q (.done (.ret v)) ⟨h, g, d, t, os⟩) :
    wpAny (model prog w) A (Builtin.«object.__getattribute__» ⟨[.ref f, .str name tk], []⟩) Q E ⟨h, g, d, t, os⟩ := by
  have hT : Shared.TypeIs ⟨h, g, d, t, os⟩ (.ref f) "function" := ⟨_, hx, rfl⟩
  unfold Builtin.«object.__getattribute__»
  repeat (first | (with_reducible refine wpAny_nsGet hn ?_; rw [hv]) | wp_step)
  exact k

theorem fn_getattr {f D : Addr} {fd : FuncData} {name : Str} {v : Value} {ex : Bool} {mD : Str → Option Value} {Q : Value → Shared → Prop} (hx : h.get? f = some (fnO fd (some D))) (hn : h.Ns D mD) (hv : mD name = some v) (hB : typeLookup (.type "function") name = pure none)
    (hh : handedOut v = pure v) (k : ∀ t', Q v ⟨h, g, d, t', os⟩) : wpAny (model prog w) A (getAttr (.ref f) name ex) Q E ⟨h, g, d, t, os⟩ := by
  have hT : ∀ t, Shared.TypeIs ⟨h, g, d, t, os⟩ (.ref f) "function" := fun t => ⟨_, hx, rfl⟩
  unfold getAttr getAttrBy
  refine wpAny_bind (wpAny_mkText (wpAny_holding (wpAny_bind (wpAny_typeOf (hT _) (wpAny_bind (wpAny_of_eq fslot_ga.lookup ?_))))))
  show wpAny _ _ (getAttrByItsOwn (.ref f) (.str name t) (.type "function") (.builtin "object.__getattribute__") true ex) _ _ _
  unfold getAttrByItsOwn
  refine wpAny_bind (wpAny_pure ?_)
  refine wpAny_bind (wpAny_attempt (wpAny_holding ?_))
  have e : callGetattribute (.ref f) (.str name t) (.builtin "object.__getattribute__") ex = boundAndCalled (.builtin "object.__getattribute__") (.ref f) (.str name t) := by
    unfold callGetattribute
    rw [show onTheHeap (.builtin "object.__getattribute__") = false from rfl, Bool.and_false]
    rfl
  rw [e]
  unfold boundAndCalled
  refine wpAny_bind (wpAny_of_eq (fslot_ga.bind _) ?_)
  refine wpAny_call_entry fslot_ga (hT _) fentry_ga (ga_entry hx hn hv hB ⟨_, rfl, ?_⟩) (fargs_ga _ _)
  exact wpAny_of_eq hh (k _)

/-- what lies on a function is read, as a method is -/
theorem fn_method {f D : Addr} {fd : FuncData} {name : Str} {v : Value} {pl : Sem Bool} {mD : Str → Option Value} {Q : Value × List Value → Shared → Prop} (hx : h.get? f = some (fnO fd (some D))) (hn : h.Ns D mD) (hv : mD name = some v) (hB : typeLookup (.type "function") name = pure none)
    (hh : handedOut v = pure v) (k : ∀ t', Q (v, []) ⟨h, g, d, t', os⟩) : wpAny (model prog w) A (getMethod (.ref f) name pl) Q E ⟨h, g, d, t, os⟩ := by
  have hT : ∀ t, Shared.TypeIs ⟨h, g, d, t, os⟩ (.ref f) "function" := fun t => ⟨_, hx, rfl⟩
  have hcan := PySem.F.canon_object_ga
  have h1 := hT t
  have h2 := fslot_ga.lookup
  have h3 := flk_getattr
  unfold getMethod
  repeat (first | simp only [hcan, Bool.false_eq_true, if_false] | (fail_if_success (with_reducible refine wpAny_bind (m := getAttr _ _ _) ?_)); wp_step)
  exact wpAny_bind (fn_getattr hx hn hv hB hh fun t' => wpAny_pure (k t'))
end

end

-- part L8

noncomputable def closL (cells : List (Str × Addr)) : List (Str × NameKind) → List (Str × Addr) → Option (List (Str × Addr))
  | [], acc => some acc
  | (n, k) :: r, acc => if k == .free then (match cells.lookup n with | some c => closL cells r ((n, c) :: acc) | none => none) else closL cells r acc

theorem closureFor_of {env : Env} {names : List (Str × NameKind)} {L : Addr} {cells clos : List (Str × Addr)} {scope : Scope} (V : EnvIs env names L cells) (h : closL cells scope.names [] = some clos) : closureFor scope env = pure clos := by
  have main : ∀ (l : List (Str × NameKind)) (acc : List (Str × Addr)), closL cells l acc = some clos →
      (forIn l acc fun x r => (if (x.2 == NameKind.free) = true then (do let c ← cellOf env x.1; pure (ForInStep.yield ((x.1, c) :: r))) else pure (ForInStep.yield r) : Sem (ForInStep (List (Str × Addr))))) = pure clos := by
    intro l
    induction l with
    | nil => intro acc e; cases e; rfl
    | cons x r ih =>
      obtain ⟨n, k⟩ := x
      intro acc e
      rw [List.forIn_cons]
      unfold closL at e
      by_cases hk : (k == NameKind.free) = true
      · rw [if_pos hk] at e
        dsimp only
        rw [if_pos hk]
        cases hc : cells.lookup n with
        | none => rw [hc] at e; cases e
        | some c =>
          rw [hc] at e
          have : cellOf env n = pure c := by unfold cellOf; rw [V.cells, hc]
          rw [this]
          exact ih _ e
      · rw [if_neg hk] at e
        dsimp only
        rw [if_neg hk]
        exact ih _ e
  have := main scope.names [] h
  unfold closureFor
  simp only [bind_pure]
  refine Eq.trans ?_ this
  congr 1

-- part L8b
section
variable {prog : Program} {w : World} {A : Around} {E : Value → Shared → Prop} {h : Heap} {g : Array GenState} {d : Drawn} {t : Nat} {os : OsState} {env : Env}
theorem c_intE {i : Int} {k : Nat} {pos : Pos} {Q : Value → Shared → Prop} (h' : Q (.int i t) ⟨h, g, d, t + 1, os⟩) : wpAny (model prog w) A (eval (.Constant (.int i) k pos) env) Q E ⟨h, g, d, t, os⟩ := wpAny_Constant_int h'
theorem c_strE {x : Str} {k : Nat} {pos : Pos} {Q : Value → Shared → Prop} (h' : Q (.str x t) ⟨h, g, d, t + 1, os⟩) : wpAny (model prog w) A (eval (.Constant (.str x) k pos) env) Q E ⟨h, g, d, t, os⟩ := Calls.Constant_str h'
variable {a b : Int} {u v : Tok}
theorem i_addE {Q : Value → Shared → Prop} (h' : Q (.int (a + b) t) ⟨h, g, d, t + 1, os⟩) : wpAny (model prog w) A (binaryOp .Add (.int a u) (.int b v)) Q E ⟨h, g, d, t, os⟩ := add_int h'
theorem i_subE {Q : Value → Shared → Prop} (h' : Q (.int (a - b) t) ⟨h, g, d, t + 1, os⟩) : wpAny (model prog w) A (binaryOp .Sub (.int a u) (.int b v)) Q E ⟨h, g, d, t, os⟩ := sub_int h'
end

-- part L9
-- a name's value
local macro_rules | `(tactic| walk_at "lk") => `(tactic| first | exact upd_same | assumption | (refine upd_ne ?_ (by with_unfolding_all rfl); walk_at "lk") | exact rfl)
-- membership in a written ledger
local macro_rules | `(tactic| walk_at "mm") => `(tactic| first | exact List.mem_cons_self | assumption | (refine List.mem_append_left _ ?_; assumption) | (refine List.mem_cons_of_mem _ ?_; walk_at "mm") | (refine List.mem_append_right _ ?_; walk_at "mm"))
-- one step of an expression
local macro_rules | `(tactic| walk_at "e") => `(tactic| with_reducible first
  | refine wpAny_BinOp ?_
  | refine wpAny_Compare1 ?_ (by with_unfolding_all rfl)
  | refine wpAny_isTrue_Compare1 ?_ (by with_unfolding_all rfl)
  | refine c_intE ?_
  | refine c_strE ?_
  | refine c_none ?_
  | refine c_bool ?_
  | (refine n_local (by assumption) (by assumption) (by with_unfolding_all rfl) (by walk_at "lk") ?_ (by with_unfolding_all rfl))
  | (refine n_cell (by assumption) (by assumption) (by with_unfolding_all rfl) (by with_unfolding_all rfl) (by walk_at "mm") ?_ (by with_unfolding_all rfl))
  | (refine n_free (by assumption) (by assumption) (by with_unfolding_all rfl) (by with_unfolding_all rfl) (by assumption) ?_ (by with_unfolding_all rfl) (by with_unfolding_all rfl))
  | refine Subscript_ ?_
  | refine i_addE ?_
  | refine i_subE ?_
  | refine lt_int ?_
  | refine le_int ?_
  | refine gt_int ?_
  | refine ge_int ?_
  | refine eq_int ?_
  | refine ne_int ?_
  | refine wpAny_truthy_bool ?_
  | refine wpAny_execs_cons ?_
  | refine wpAny_execs_nil ?_
  | refine wpAny_If ?_
  | refine wpAny_Return_some ?_
  | refine wpAny_Assign_Name ?_ (by with_unfolding_all rfl)
  | refine aa_cons ?_
  | refine aa_nil ?_)

theorem if_t {P Q : Prop} (h : P) : if true = true then P else Q := by rw [if_pos rfl]; exact h
theorem if_f {P Q : Prop} (h : Q) : if false = true then P else Q := by rw [if_neg (by decide)]; exact h

section
variable {M : Model} {A : Around} {E : Value → Shared → Prop} {s : Shared} {env : Env}
theorem t_and {x : Expr} {rest : List Expr} {Q : Bool → Shared → Prop} (h : wpAny M A (isTrue x env (eval x env)) (fun b s' => if b then wpAny M A (allTrue .And rest env) Q E s' else Q false s') E s) : wpAny M A (allTrue .And (x :: rest) env) Q E s := by
  show wpAny M A (do match BoolOp.And, ← isTrue x env (eval x env) with | .And, false => pure false | .Or, true => pure true | _, _ => allTrue .And rest env) Q E s
  refine wpAny_bind (wpAny_mono h (fun b s' h' => ?_) fun _ _ e => e)
  cases b with
  | true => exact h'
  | false => exact wpAny_pure h'
theorem t_or {x : Expr} {rest : List Expr} {Q : Bool → Shared → Prop} (h : wpAny M A (isTrue x env (eval x env)) (fun b s' => if b then Q true s' else wpAny M A (allTrue .Or rest env) Q E s') E s) : wpAny M A (allTrue .Or (x :: rest) env) Q E s := by
  show wpAny M A (do match BoolOp.Or, ← isTrue x env (eval x env) with | .And, false => pure false | .Or, true => pure true | _, _ => allTrue .Or rest env) Q E s
  refine wpAny_bind (wpAny_mono h (fun b s' h' => ?_) fun _ _ e => e)
  cases b with
  | true => exact wpAny_pure h'
  | false => exact h'
theorem t_and0 {Q : Bool → Shared → Prop} (h : Q true s) : wpAny M A (allTrue .And [] env) Q E s := wpAny_pure h
theorem t_or0 {Q : Bool → Shared → Prop} (h : Q false s) : wpAny M A (allTrue .Or [] env) Q E s := wpAny_pure h
theorem t_bool {op : BoolOp} {vs : List Expr} {pos : Pos} {whole : Sem Value} {Q : Bool → Shared → Prop} (h : wpAny M A (allTrue op vs env) Q E s) : wpAny M A (isTrue (.BoolOp op vs pos) env whole) Q E s := h
theorem t_call {f : Expr} {as : List Expr} {ks : List Keyword} {pos : Pos} {whole : Sem Value} {Q : Bool → Shared → Prop} (h : wpAny M A whole (fun v s' => wpAny M A (truthy v) Q E s') E s) : wpAny M A (isTrue (.Call f as ks pos) env whole) Q E s := by
  show wpAny M A (do let v ← whole; standAt (Expr.Call f as ks pos).pos; holding [v] (truthy v)) Q E s
  exact wpAny_bind (wpAny_mono h (fun v s' h' => wpAny_bind (wpAny_standAt (wpAny_holding h'))) fun _ _ e => e)
theorem t_name {x : Str} {pos : Pos} {whole : Sem Value} {Q : Bool → Shared → Prop} (h : wpAny M A whole (fun v s' => wpAny M A (truthy v) Q E s') E s) : wpAny M A (isTrue (.Name x pos) env whole) Q E s := by
  show wpAny M A (do let v ← whole; standAt (Expr.Name x pos).pos; holding [v] (truthy v)) Q E s
  exact wpAny_bind (wpAny_mono h (fun v s' h' => wpAny_bind (wpAny_standAt (wpAny_holding h'))) fun _ _ e => e)
theorem t_const {c : Const} {k : Nat} {pos : Pos} {whole : Sem Value} {Q : Bool → Shared → Prop} (h : wpAny M A whole (fun v s' => wpAny M A (truthy v) Q E s') E s) : wpAny M A (isTrue (.Constant c k pos) env whole) Q E s := by
  show wpAny M A (do let v ← whole; standAt (Expr.Constant c k pos).pos; holding [v] (truthy v)) Q E s
  exact wpAny_bind (wpAny_mono h (fun v s' h' => wpAny_bind (wpAny_standAt (wpAny_holding h'))) fun _ _ e => e)
theorem t_none {Q : Bool → Shared → Prop} (h : Q false s) : wpAny M A (truthy .none) Q E s := by
  unfold truthy; exact wpAny_pure h
end

section
variable {prog : Program} {w : World} {A : Around} {E : Value → Shared → Prop} {H h₀ h : Heap} {g : Array GenState} {d : Drawn} {t : Nat} {os : OsState} {env : Env}
  {m mg mb : Str → Option Value} {σ : List (Addr × Obj)} {L : Addr} {names : List (Str × NameKind)} {cells : List (Str × Addr)}

theorem ite_max (a b : Int) : (if b > a then b else a) = max a b := by rw [Int.max_def]; split <;> split <;> lia
theorem c_max2 {a b : Int} {u v : Tok} {Q : Value → Shared → Prop} (F : Fx H h₀ L h m σ) (hh : A.handled = none) (k : ∀ z h' t', Fx H h₀ L h' m σ → Q (.int (max a b) z) ⟨h', g, d, t', os⟩) :
    wpAny (model prog w) A (call (.builtin "max") [.int a u, .int b v]) Q E ⟨h, g, d, t, os⟩ :=
  max_two_ints hh fun h' tk hk => by
    have := fun z => k z h' tk (F.call (Kp.of_keeps hk))
    rw [← ite_max] at this
    by_cases c : b > a
    · simp only [if_pos c] at this ⊢; exact this _
    · simp only [if_neg c] at this ⊢; exact this _
theorem ite_min (a b : Int) : (if b < a then b else a) = min a b := by rw [Int.min_def]; split <;> split <;> lia
theorem c_min2 {a b : Int} {u v : Tok} {Q : Value → Shared → Prop} (F : Fx H h₀ L h m σ) (hh : A.handled = none) (k : ∀ z h' t', Fx H h₀ L h' m σ → Q (.int (min a b) z) ⟨h', g, d, t', os⟩) :
    wpAny (model prog w) A (call (.builtin "min") [.int a u, .int b v]) Q E ⟨h, g, d, t, os⟩ :=
  min_two_ints hh fun h' tk hk => by
    have := fun z => k z h' tk (F.call (Kp.of_keeps hk))
    rw [← ite_min] at this
    by_cases c : b < a
    · simp only [if_pos c] at this ⊢; exact this _
    · simp only [if_neg c] at this ⊢; exact this _
theorem c_lenL {a : Addr} {items : Array Value} {Q : Value → Shared → Prop} (hl : h.IsList a items) (hs : items.size < 2 ^ 40) (k : ∀ z t', Q (.int items.size z) ⟨h, g, d, t', os⟩) : wpAny (model prog w) A (call (.builtin "len") [.ref a]) Q E ⟨h, g, d, t, os⟩ :=
  Calls.call_len_list hl (by lia) (k _ _)
theorem c_len {a : Addr} {ns : List Int} {Q : Value → Shared → Prop} (hl : IsInts h a ns) (hs : ns.length < 2 ^ 40) (k : ∀ z t', Q (.int ns.length z) ⟨h, g, d, t', os⟩) : wpAny (model prog w) A (call (.builtin "len") [.ref a]) Q E ⟨h, g, d, t, os⟩ := by
  obtain ⟨vs, hl, hi⟩ := hl
  have e : vs.toArray.size = ns.length := by rw [List.size_toArray, hi.length]
  refine c_lenL hl (by lia) fun z t' => ?_
  rw [e]; exact k z t'

/-- a range that is empty -/
theorem for_range0 {x : Str} {px : Pos} {body : List Stmt} {r : Addr} {a b : Int} {tu tv tw : Tok} {Q : Flow → Shared → Prop}
    (F : Fx H h₀ L h m ((r, rangeO a b 1 tu tv tw) :: σ)) (hab : b ≤ a) (ha : a < 2 ^ 62) (hb : -(2 ^ 62) ≤ b) (hh : A.handled = none)
    (done : ∀ h t, Fx H h₀ L h m σ → Q .next ⟨h, g, d, t, os⟩) :
    ForAt (model prog w) A env (.Name x px) body Q (.ref r) ⟨h, g, d, t, os⟩ := by
  have hr : IsRange h r a b 1 tu tv tw := F.get (.head _)
  have hsz : Builtin.Range.rangeSize a b 1 = 0 := by rw [rangeSize_one]; split <;> lia
  refine wpAny_pyIter_range hr (small_one (by lia) (by lia) (by lia) (by lia)) ?_
  have F1 := (F.weaken (List.sublist_cons_self _ _)).push (riO a 0) rfl (ncl rfl)
  rw [hsz]
  refine codeAny_forLoop (fun k s' => s' = ⟨h.push (riO a 0), g, d, t, os⟩) ?_ 0 rfl
  rintro k s' rfl
  refine wpAny_pyNext_range_end hh (F1.get (.head _)) (by lia) fun h₁ he₁ => wpAny_execs_nil ?_
  exact done h₁ _ (F1.forget he₁)

theorem while_ {test : Expr} {body : List Stmt} {pos : Pos} {Q : Flow → Shared → Prop} (I : Nat → (Str → Option Value) → List (Addr × Obj) → Prop) (n : Nat) (F : Fx H h₀ L h m σ) (h0 : I n m σ)
    (turn : ∀ n h t m σ, I n m σ → Fx H h₀ L h m σ → wpAny (model prog w) A (isTrue test env (eval test env)) (fun b s₂ =>
      if b then wpAny (model prog w) A (execs body env) (Turn H h₀ L g d os (fun m' σ' => ∃ k, k < n ∧ I k m' σ') Q) NoE s₂ else Q .next s₂) NoE ⟨h, g, d, t, os⟩) :
    wpAny (model prog w) A (exec (.While test body [] pos) env) Q NoE ⟨h, g, d, t, os⟩ := by
  refine wpAny_While (codeAny_mono (R := fun r s' => match r with | .ok f => Q f s' | .error _ => False) ?_ fun r s' hr => by cases r with | ok f => exact hr | error e => exact hr.elim)
  refine codeAny_whileLoop (fun n s => ∃ h t m σ, s = ⟨h, g, d, t, os⟩ ∧ I n m σ ∧ Fx H h₀ L h m σ) ?_ n ⟨h, t, m, σ, rfl, h0, F⟩
  rintro n s ⟨h, t, m, σ, rfl, hI, F⟩
  refine wpAny_mono (turn n h t m σ hI F) (fun b s₂ h₂ => ?_) fun _ _ e => e.elim
  cases b with
  | true =>
    simp only [if_true] at h₂ ⊢
    refine wpAny_mono h₂ (fun fl s₃ h₃ => ?_) fun _ _ e => e.elim
    cases fl with
    | ret v => exact h₃
    | brk => exact h₃
    | next => obtain ⟨h, t, m, σ, rfl, F, k, hk, hI⟩ := h₃; exact ⟨k, hk, h, t, m, σ, rfl, hI, F⟩
    | cont => obtain ⟨h, t, m, σ, rfl, F, k, hk, hI⟩ := h₃; exact ⟨k, hk, h, t, m, σ, rfl, hI, F⟩
  | false =>
    simp only [Bool.false_eq_true, if_false] at h₂ ⊢
    exact wpAny_execs_nil h₂
end

section
variable {M : Model} {A : Around} {E : Value → Shared → Prop} {s : Shared} {env : Env}
theorem x_tuple {elts : List Expr} {k : Nat} {pos : Pos} {Q : Value → Shared → Prop} (h : ArgsAt M A E env elts (fun vs s₁ => wpAny M A (newTuple vs) Q E s₁) s) (hp : plainArgs elts = true) : wpAny M A (eval (.Tuple elts k pos) env) Q E s :=
  Tuple_ (args_of elts s _ hp h)
theorem x_list {elts : List Expr} {pos : Pos} {Q : Value → Shared → Prop} (h : ArgsAt M A E env elts (fun vs s₁ => wpAny M A (newList vs) Q E s₁) s) (hp : plainArgs elts = true) : wpAny M A (eval (.List elts pos) env) Q E s :=
  List_ (args_of elts s _ hp h)
end
noncomputable abbrev listO (vs : List Value) (n : Nat := 0) : Obj := { cls := .type "list", data := .seq vs.toArray n }
section
variable {prog : Program} {w : World} {A : Around} {E : Value → Shared → Prop} {H h₀ h : Heap} {g : Array GenState} {d : Drawn} {t : Nat} {os : OsState} {env : Env}
  {m mg mb : Str → Option Value} {σ : List (Addr × Obj)} {L : Addr} {names : List (Str × NameKind)} {cells : List (Str × Addr)}
theorem mk_tuple {vs : List Value} {Q : Value → Shared → Prop} (F : Fx H h₀ L h m σ) (hs : vs.length ≤ 1000) (k : ∀ T h' t', Fx H h₀ L h' m ((T, tupO vs) :: σ) → Q (.ref T) ⟨h', g, d, t', os⟩) : wpAny (model prog w) A (newTuple vs) Q E ⟨h, g, d, t, os⟩ :=
  wpAny_newTuple (k _ _ _ (F.push _ rfl (ncl rfl))) (by rw [sizeLine_eq]; lia)
theorem mk_list {vs : List Value} {Q : Value → Shared → Prop} (F : Fx H h₀ L h m σ) (hs : vs.length ≤ 1000) (k : ∀ T h' t', Fx H h₀ L h' m ((T, listO vs) :: σ) → Q (.ref T) ⟨h', g, d, t', os⟩) : wpAny (model prog w) A (newList vs) Q E ⟨h, g, d, t, os⟩ :=
  wpAny_newObj_type (k _ _ _ (F.push _ rfl (ncl rfl))) (by show vs.toArray.size ≤ sizeLine; rw [List.size_toArray, sizeLine_eq]; lia)
end

/-- new objects that a call hands over -/
structure Fresh (H h h' : Heap) (φ : List (Addr × Obj)) : Prop where
  own : ∀ p ∈ φ, h'.get? p.1 = some p.2 ∧ h.objs.size ≤ p.1 ∧ NoCode p.2
  fns : ∀ p ∈ φ, GoodFn H h' p.2
  nd : (φ.map (·.1)).Nodup
theorem Fresh.nil {H h h' : Heap} : Fresh H h h' [] := ⟨fun _ hp => (nomatch hp), fun _ hp => (nomatch hp), List.nodup_nil⟩
theorem Fresh.sub {H h h' : Heap} {φ φ' : List (Addr × Obj)} (x : Fresh H h h' φ) (hs : φ'.Sublist φ) : Fresh H h h' φ' := ⟨fun p hp => x.own p (hs.subset hp), fun p hp => x.fns p (hs.subset hp), (hs.map _).nodup x.nd⟩
theorem Fx.fresh {H h₀ h : Heap} {L : Addr} {m : Str → Option Value} {σ : List (Addr × Obj)} (F : Fx H h₀ L h m σ) : Fresh H h₀ h σ := ⟨fun p hp => let ⟨a, b, _, c⟩ := F.own p hp; ⟨a, b, c⟩, F.fns, F.nd⟩
theorem Fx.take {H h₀ h h' : Heap} {L : Addr} {m : Str → Option Value} {σ φ : List (Addr × Obj)} (F : Fx H h₀ L h m σ) (k : Kp H h h') (x : Fresh H h h' φ) : Fx H h₀ L h' m (φ ++ σ) := by
  have F1 := F.call k
  have hL := F.ns.lt
  refine ⟨F1.ns, F1.kp, F1.above, F1.base, fun p hp => ?_, fun p hp => ?_, ?_⟩
  · rcases List.mem_append.mp hp with hp | hp
    · let ⟨a, b, c⟩ := x.own p hp
      exact ⟨a, Nat.le_trans (Nat.le_of_lt (Nat.lt_of_le_of_lt F.above hL)) b, Nat.ne_of_gt (Nat.lt_of_lt_of_le hL b), c⟩
    · exact F1.own p hp
  · rcases List.mem_append.mp hp with hp | hp
    · exact x.fns p hp
    · exact F1.fns p hp
  · rw [List.map_append, List.nodup_append]
    refine ⟨x.nd, F1.nd, fun a ha b hb e => ?_⟩
    obtain ⟨p, hp, rfl⟩ := List.mem_map.mp ha
    obtain ⟨q, hq, rfl⟩ := List.mem_map.mp hb
    have h1 := (x.own p hp).2.1
    have h2 := Heap.lt_size (F.own q hq).1
    rw [e] at h1
    exact absurd h2 (Nat.not_lt.mpr h1)
/-- objects that stand in a heap -/
noncomputable def Has (H h : Heap) (φ : List (Addr × Obj)) : Prop := ∀ p ∈ φ, h.get? p.1 = some p.2 ∧ GoodFn H h p.2
theorem Fx.has {H h₀ h : Heap} {L : Addr} {m : Str → Option Value} {σ : List (Addr × Obj)} (F : Fx H h₀ L h m σ) : Has H h σ := fun p hp => ⟨(F.own p hp).1, F.fns p hp⟩
theorem Has.sub {H h : Heap} {φ φ' : List (Addr × Obj)} (x : Has H h φ) (hs : ∀ p ∈ φ', p ∈ φ) : Has H h φ' := fun p hp => x p (hs p hp)

section
variable {prog : Program} {w : World} {A : Around} {E : Value → Shared → Prop} {H h₀ h : Heap} {g : Array GenState} {d : Drawn} {t : Nat} {os : OsState} {env : Env}
  {m mg mb : Str → Option Value} {σ : List (Addr × Obj)} {L : Addr} {names : List (Str × NameKind)} {cells : List (Str × Addr)}
theorem ai_cons {M : Model} {s : Shared} {f : Value → Sem Unit} {ts : List (Value → Sem Unit)} {x : Value} {xs : List Value} {Q : Unit → Shared → Prop} (h : wpAny M A (f x) (fun _ s' => wpAny M A (assignInOrder ts xs) Q E s') E s) : wpAny M A (assignInOrder (f :: ts) (x :: xs)) Q E s := by
  show wpAny M A (do holding xs (f x); assignInOrder ts xs) Q E s
  exact wpAny_bind (wpAny_holding h)
theorem ai_nil {M : Model} {s : Shared} {xs : List Value} {Q : Unit → Shared → Prop} (h : Q () s) : wpAny M A (assignInOrder [] xs) Q E s := wpAny_pure h
theorem u_tuple {elts : List Expr} {k₀ : Nat} {pos : Pos} {T : Addr} {vs : List Value} {Q : Unit → Shared → Prop} (F : Fx H h₀ L h m σ) (hT : h.get? T = some (tupO vs)) (hh : A.handled = none) (hn : (assignEach elts env).length = vs.length) (hstar : (assignEach elts env).findIdx? (·.1) = none)
    (k : ∀ h', Fx H h₀ L h' m σ → wpAny (model prog w) A (assignInOrder ((assignEach elts env).map (·.2)) vs) Q E ⟨h', g, d, t, os⟩) : wpAny (model prog w) A (assign (.Tuple elts k₀ pos) env (.ref T)) Q E ⟨h, g, d, t, os⟩ :=
  assign_Tuple_tuple hh ⟨_, hT, rfl, _, rfl⟩ (by rw [hn, List.size_toArray]) hstar fun h' he => k h' (F.call (Kp.of_keeps fun b o e => he b o (Nat.ne_of_lt (Heap.lt_size e)) e))
end

-- part L10
/-- an iterator: what it tells, turn by turn -/
structure ItOk (prog : Program) (w : World) (A : Around) (it : Addr) (n : Nat) (St : Nat → Obj → Prop) (P : Nat → Value → Prop) (C : Heap → Prop) : Prop where
  item : ∀ (i : Nat) (h : Heap) (o : Obj) (g : Array GenState) (d : Drawn) (t : Nat) (os : OsState) (Q : Option Value → Shared → Prop) (E : Value → Shared → Prop), i < n → h.get? it = some o → St i o → C h →
    (∀ v h' o' t', P i v → h'.get? it = some o' → St (i + 1) o' → Heap.SameBut it h h' → Q (some v) ⟨h', g, d, t', os⟩) → wpAny (model prog w) A (pyNext (.ref it)) Q E ⟨h, g, d, t, os⟩
  done : ∀ (h : Heap) (o : Obj) (g : Array GenState) (d : Drawn) (t : Nat) (os : OsState) (Q : Option Value → Shared → Prop) (E : Value → Shared → Prop), h.get? it = some o → St n o → C h →
    (∀ h' t', Heap.ExtBut it h h' → Q none ⟨h', g, d, t', os⟩) → wpAny (model prog w) A (pyNext (.ref it)) Q E ⟨h, g, d, t, os⟩
  self : ∀ (i : Nat) (h : Heap) (o : Obj) (g : Array GenState) (d : Drawn) (t : Nat) (os : OsState) (Q : Value → Shared → Prop) (E : Value → Shared → Prop), h.get? it = some o → St i o → Q (.ref it) ⟨h, g, d, t, os⟩ → wpAny (model prog w) A (pyIter (.ref it)) Q E ⟨h, g, d, t, os⟩
  nc : ∀ i o, St i o → NoCode o ∧ ∀ fd, o.data ≠ .func fd

theorem it_range {prog : Program} {w : World} {A : Around} {it : Addr} {a b : Int} (hh : A.handled = none) (hab : a ≤ b) :
    ItOk prog w A it (b - a).toNat (fun i o => o = riO (a + (i : Nat)) (b - a - (i : Nat))) (fun i v => ∃ u, v = .int (a + (i : Nat)) u) (fun _ => True) where
  item := by
    rintro i h o g d t os Q E hi ho rfl _ k
    refine wpAny_pyNext_range_item ho (by lia) fun h₁ hit₁ hs₁ => k _ _ _ _ ⟨_, rfl⟩ hit₁ ?_ hs₁
    rw [show a + ((i + 1 : Nat) : Int) = a + (i : Nat) + 1 from by push_cast; lia, show b - a - ((i + 1 : Nat) : Int) = b - a - (i : Nat) - 1 from by push_cast; lia]
  done := by
    rintro h o g d t os Q E ho rfl _ k
    exact wpAny_pyNext_range_end hh ho (by lia) fun h' he => k h' _ he
  self := by
    rintro i h o g d t os Q E ho rfl k
    exact wpAny_pyIter_rangeiter ho k
  nc := by rintro i o rfl; exact ⟨ncl rfl, fun fd e => by cases e⟩

theorem it_list {prog : Program} {w : World} {A : Around} {it l : Addr} {vs : List Value} (hh : A.handled = none) :
    ItOk prog w A it vs.length (fun i o => o.cls = .type "list_iterator" ∧ o.data = .fields #[.ref l, .int (i : Nat) 0]) (fun i v => vs[i]? = some v) (fun h => h.IsList l vs.toArray) where
  item := by
    rintro i h o g d t os Q E hi ho ⟨hc, hd⟩ hl k
    refine wpAny_pyNext_list_item ⟨o, ho, hc, hd⟩ hl (x := vs[i]) (by simp [hi]) fun h₁ hit₁ hs₁ => ?_
    obtain ⟨o', e1, e2, e3⟩ := hit₁
    exact k _ _ o' _ (by simp [hi]) e1 ⟨e2, e3⟩ hs₁
  done := by
    rintro h o g d t os Q E ho ⟨hc, hd⟩ hl k
    exact wpAny_pyNext_list_end hh ⟨o, ho, hc, hd⟩ hl (by simp) fun h' he => k h' _ he
  self := by
    rintro i h o g d t os Q E ho ⟨hc, hd⟩ k
    exact wpAny_pyIter_listiter ⟨o, ho, hc, hd⟩ k
  nc := by
    rintro i o ⟨hc, hd⟩
    exact ⟨.inl ⟨(by rw [hc]; decide), (by rw [hc]; decide)⟩, (fun fd e => by rw [hd] at e; cases e)⟩

section
variable {prog : Program} {w : World} {A : Around} {E : Value → Shared → Prop} {H h₀ h : Heap} {g : Array GenState} {d : Drawn} {t : Nat} {os : OsState} {env : Env}
  {m mg mb : Str → Option Value} {σ : List (Addr × Obj)} {L : Addr} {names : List (Str × NameKind)} {cells : List (Str × Addr)}

/-- a for stands at its iterator -/
theorem for_iter {x : Str} {px : Pos} {body : List Stmt} {it : Addr} {n : Nat} {St : Nat → Obj → Prop} {P : Nat → Value → Prop} {C : Heap → Prop} {o : Obj} {Q : Flow → Shared → Prop} (W : ItOk prog w A it n St P C)
    (I : Nat → (Str → Option Value) → List (Addr × Obj) → Prop) (F : Fx H h₀ L h m ((it, o) :: σ)) (ho : St 0 o) (V : EnvIs env names L cells) (hx : names.lookup x = some .local) (h0 : I 0 m σ)
    (cond : ∀ i h m σ, I i m σ → Fx H h₀ L h m σ → C h)
    (turn : ∀ (i : Nat) h t m σ v o, i < n → I i m σ → P i v → St (i + 1) o → Fx H h₀ L h (upd m x v) ((it, o) :: σ) →
      wpAny (model prog w) A (execs body env) (Turn H h₀ L g d os (fun m' σ' => ∃ σ₂, σ' = (it, o) :: σ₂ ∧ I (i + 1) m' σ₂) Q) NoE ⟨h, g, d, t, os⟩)
    (done : ∀ h t m σ, I n m σ → Fx H h₀ L h m σ → Q .next ⟨h, g, d, t, os⟩) :
    codeAny (model prog w) A (.forLoop (.Name x px) (.ref it) body [] env) (fun r s' => match r with | .ok f => Q f s' | .error _ => False) ⟨h, g, d, t, os⟩ := by
  refine codeAny_forLoop (fun k s' => ∃ h' t' m' σ' i o, s' = ⟨h', g, d, t', os⟩ ∧ i ≤ n ∧ k = n - i ∧ I i m' σ' ∧ St i o ∧ Fx H h₀ L h' m' ((it, o) :: σ')) ?_ n ⟨h, t, m, σ, 0, o, rfl, Nat.zero_le _, rfl, h0, ho, F⟩
  rintro k s' ⟨h', t', m', σ', i, o, rfl, hi, rfl, hI, hst, F'⟩
  have hc := cond i h' m' σ' hI (F'.weaken (List.sublist_cons_self _ _))
  by_cases hlt : i < n
  · refine W.item i h' o g d t' os _ _ hlt (F'.get (.head _)) hst hc fun v h₁ o₁ t₁ hP hit₁ hst₁ hs₁ => ?_
    have nc := W.nc _ _ hst₁
    have F2 := F'.upd (σ' := (it, o₁) :: σ') .head hs₁.extBut hit₁ nc.1 (fun fd e => absurd e (nc.2 fd))
    refine wpAny_assign_Name (n_st F2 V hx fun h₂ t₂ F3 => ?_)
    refine wpAny_mono (turn i h₂ t₂ m' σ' v o₁ hlt hI hP hst₁ F3) (fun fl s₃ h₃ => ?_) fun _ _ e => e.elim
    cases fl with
    | ret v => exact h₃
    | brk => exact h₃
    | next =>
      obtain ⟨h₄, t₄, m₄, σ₄, rfl, F4, σ₂, rfl, hI4⟩ := h₃
      exact ⟨_, by lia, h₄, t₄, m₄, σ₂, i + 1, o₁, rfl, hlt, rfl, hI4, hst₁, F4⟩
    | cont =>
      obtain ⟨h₄, t₄, m₄, σ₄, rfl, F4, σ₂, rfl, hI4⟩ := h₃
      exact ⟨_, by lia, h₄, t₄, m₄, σ₂, i + 1, o₁, rfl, hlt, rfl, hI4, hst₁, F4⟩
  · have hin : i = n := by lia
    subst hin
    exact W.done h' o g d t' os _ _ (F'.get (.head _)) hst hc fun h₁ t₁ he₁ => wpAny_execs_nil (done h₁ _ m' σ' hI (F'.forget he₁))

/-- for over a list -/
theorem for_list {x : Str} {px : Pos} {body : List Stmt} {l : Addr} {vs : List Value} {Q : Flow → Shared → Prop} (hl : h.IsList l vs.toArray)
    (I : Nat → (Str → Option Value) → List (Addr × Obj) → Prop) (F : Fx H h₀ L h m σ) (V : EnvIs env names L cells) (hh : A.handled = none) (hx : names.lookup x = some .local) (h0 : I 0 m σ)
    (cond : ∀ i h m σ, I i m σ → Fx H h₀ L h m σ → h.IsList l vs.toArray)
    (turn : ∀ (i : Nat) h t m σ v it o, vs[i]? = some v → I i m σ → Fx H h₀ L h (upd m x v) ((it, o) :: σ) →
      wpAny (model prog w) A (execs body env) (Turn H h₀ L g d os (fun m' σ' => ∃ σ₂, σ' = (it, o) :: σ₂ ∧ I (i + 1) m' σ₂) Q) NoE ⟨h, g, d, t, os⟩)
    (done : ∀ h t m σ, I vs.length m σ → Fx H h₀ L h m σ → Q .next ⟨h, g, d, t, os⟩) :
    ForAt (model prog w) A env (.Name x px) body Q (.ref l) ⟨h, g, d, t, os⟩ := by
  refine wpAny_pyIter_list hl ?_
  have F1 := F.push (liO l 0) rfl (ncl rfl)
  exact for_iter (it_list hh) I F1 ⟨rfl, rfl⟩ V hx h0 cond (fun i h t m σ v o _ hI hP _ F => turn i h t m σ v _ o hP hI F) done

noncomputable def relab (sc names : List (Str × NameKind)) : List (Str × NameKind) := sc.map fun (n, k) => if k == .free && names.lookup n == some .cell then (n, .cell) else (n, k)

/-- a comprehension stands at its iterable -/
noncomputable def CompAt (M : Model) (A : Around) (env : Env) (elt iter : Expr) (x : Str) (px : Pos) (ifs : List Expr) (scope : Scope) (pos : Pos) (cl : List (Str × Addr)) (use : Option (Value → Sem Unit)) (Q : Value → Shared → Prop) (v : Value) (s : Shared) : Prop :=
  wpAny M A (pyIter v) (fun it s₂ => wpAny M A (newList []) (fun acc s₃ => wpAny M A (newFunctionEnv scope env.globals cl [] env.qual none .none (some env)) (fun cenv s₄ =>
    codeAny M A (.compStart (.ListComp elt [⟨.Name x px, iter, ifs, 0⟩] scope pos) 0 it acc { cenv with scope := relabel scope env }) (compPost M A NoE use Q acc cenv.locals) s₄) NoE s₃) NoE s₂) NoE s

theorem comp_start {M : Model} {s : Shared} {elt iter : Expr} {x : Str} {px : Pos} {ifs : List Expr} {scope : Scope} {pos : Pos} {cl : List (Str × Addr)} {Q : Value → Shared → Prop} (hclos : closureFor scope env = pure cl)
    (h : wpAny M A (eval iter env) (fun v s₁ => CompAt M A env elt iter x px ifs scope pos cl none Q v s₁) NoE s)
    (hkind : scope.kind = .function) (hnames : ∀ x ∈ scope.names, x.2 = .local → scope.names.lookup x.1 = some .local) (hs : ∀ x, foldedSetIterable iter env x = pure x) :
    wpAny M A (eval (.ListComp elt [⟨.Name x px, iter, ifs, 0⟩] scope pos) env) Q NoE s := by
  rw [eval_ListComp]
  exact wpAny_comprehension_free (use := none) rfl hs hclos hkind hnames h

/-- the enclosing frame's names stay, as an object -/
theorem Fx.inner (F : Fx H h₀ L h m σ) (V : EnvIs env names L cells) : ∃ oL, h.get? L = some oL ∧ (∀ h' : Heap, h'.get? L = some oL → h'.Ns L m) ∧ NoCode oL ∧ ∀ fd, oL.data ≠ .func fd := by
  obtain ⟨oL, es, ep, e, hd, r⟩ := F.ns
  exact ⟨oL, e, (fun h' e' => ⟨oL, es, ep, e', hd, r⟩), (.inr fun vs q => by rw [hd] at q; cases q), (fun fd q => by rw [hd] at q; cases q)⟩
theorem Fx.enterC (F : Fx H h₀ L h m σ) {oL : Obj} (e : h.get? L = some oL) (nc : NoCode oL) (nf : ∀ fd, oL.data ≠ .func fd) {h' : Heap} {C : Addr} {mC : Str → Option Value} {cls : Value} (hC : C = h.objs.size) (hn : h'.Ns C mC) (hs : Heap.SameBut C (h.push { cls, data := .dict #[] }) h') : Fx H h₀ C h' mC ((L, oL) :: σ) := by
  subst hC
  have hL := F.ns.lt
  have keep : ∀ b o, h.get? b = some o → h'.get? b = some o := fun b o e => hs.extBut b o (Nat.ne_of_lt (Heap.lt_size e)) (Heap.get?_push_of_some _ e)
  have kp : Kp H h h' := Kp.of_keeps keep
  refine ⟨hn, F.kp.trans kp, Nat.le_of_lt (Nat.lt_of_le_of_lt F.above hL), F.base, fun p hp => ?_, fun p hp => ?_, ?_⟩
  · rcases List.mem_cons.mp hp with rfl | hp
    · exact ⟨keep _ _ e, F.above, Nat.ne_of_lt hL, nc⟩
    · let ⟨a, b, _, c⟩ := F.own p hp
      exact ⟨keep _ _ a, b, Nat.ne_of_lt (Heap.lt_size a), c⟩
  · rcases List.mem_cons.mp hp with rfl | hp
    · exact fun fd q => absurd q (nf fd)
    · exact (F.fns p hp).mono kp.good
  · simp only [List.map_cons, List.nodup_cons]
    refine ⟨fun q => ?_, F.nd⟩
    obtain ⟨p, hp, e⟩ := List.mem_map.mp q
    exact (F.own p hp).2.2.1 e
theorem Fx.perm (F : Fx H h₀ L h m σ) {σ' : List (Addr × Obj)} (hp : σ.Perm σ') : Fx H h₀ L h m σ' :=
  ⟨F.ns, F.kp, F.above, F.base, fun p q => F.own p (hp.mem_iff.mpr q), fun p q => F.fns p (hp.mem_iff.mpr q), (hp.map _).nodup_iff.mp F.nd⟩
theorem Fx.swapC {C : Addr} {mC : Str → Option Value} {oL oC : Obj} (F : Fx H h₀ C h mC ((L, oL) :: σ)) (e : h.get? C = some oC) (nc : NoCode oC) (nf : ∀ fd, oC.data ≠ .func fd) (hn : ∀ h' : Heap, h'.get? L = some oL → h'.Ns L m) : Fx H h₀ L h m ((C, oC) :: σ) := by
  have nd := F.nd
  simp only [List.map_cons, List.nodup_cons] at nd
  have hL := F.own _ (.head _)
  refine ⟨hn _ (F.get (.head _)), F.kp, hL.2.1, F.base, fun p hp => ?_, fun p hp => ?_, ?_⟩
  · rcases List.mem_cons.mp hp with rfl | hp
    · exact ⟨e, F.above, Ne.symm hL.2.2.1, nc⟩
    · let ⟨a, b, _, c⟩ := F.own p (.tail _ hp)
      exact ⟨a, b, fun e => nd.1 (e ▸ List.mem_map_of_mem hp), c⟩
  · rcases List.mem_cons.mp hp with rfl | hp
    · exact fun fd q => absurd q (nf fd)
    · exact F.fns p (.tail _ hp)
  · simp only [List.map_cons, List.nodup_cons]
    refine ⟨fun q => ?_, nd.2⟩
    obtain ⟨p, hp, e⟩ := List.mem_map.mp q
    exact (F.own p (.tail _ hp)).2.2.1 e
theorem Fx.leaveC {C : Addr} {mC : Str → Option Value} {oL : Obj} (F : Fx H h₀ C h mC ((L, oL) :: σ)) (hn : ∀ h' : Heap, h'.get? L = some oL → h'.Ns L m) : Fx H h₀ L h m σ := by
  have nd := F.nd
  simp only [List.map_cons, List.nodup_cons] at nd
  refine ⟨hn _ (F.get (.head _)), F.kp, (F.own _ (.head _)).2.1, F.base, fun p hp => ?_, fun p hp => F.fns p (.tail _ hp), nd.2⟩
  let ⟨a, b, _, c⟩ := F.own p (.tail _ hp)
  exact ⟨a, b, fun e => nd.1 (e ▸ List.mem_map_of_mem hp), c⟩

/-- the tests of a comprehension -/
noncomputable def TestsAt (M : Model) (A : Around) (cenv : Env) : List Expr → (Bool → Shared → Prop) → Shared → Prop
  | [], Q, s => Q true s
  | c :: r, Q, s => wpAny M A (isTrue c cenv (eval c cenv)) (fun b s' => if b then TestsAt M A cenv r Q s' else Q false s') NoE s

theorem tests_of {M : Model} {cenv : Env} : ∀ (ifs : List Expr) (s : Shared) (Q : Bool → Shared → Prop), TestsAt M A cenv ifs Q s →
    wpAny M A (forIn ifs true fun c r => if r = true then do let ok ← isTrue c cenv (eval c cenv); pure (ForInStep.yield ok) else pure (ForInStep.yield r)) Q E s := by
  have off : ∀ (ifs : List Expr) (s : Shared) (Q : Bool → Shared → Prop), Q false s → wpAny M A (forIn ifs false fun c r => if r = true then do let ok ← isTrue c cenv (eval c cenv); pure (ForInStep.yield ok) else pure (ForInStep.yield r)) Q E s := by
    intro ifs
    induction ifs with
    | nil => intro s Q h; rw [List.forIn_nil]; exact wpAny_pure h
    | cons c r ih =>
      intro s Q h
      rw [List.forIn_cons, if_neg (by decide)]
      exact wpAny_bind (wpAny_pure (ih s Q h))
  intro ifs
  induction ifs with
  | nil => intro s Q h; rw [List.forIn_nil]; exact wpAny_pure h
  | cons c r ih =>
    intro s Q h
    rw [List.forIn_cons, if_pos rfl]
    refine wpAny_bind (wpAny_bind (wpAny_mono (show wpAny M A (isTrue c cenv (eval c cenv)) _ NoE s from h) (fun b s' h' => wpAny_pure ?_) fun _ _ e => e.elim))
    cases b with
    | true => exact ih s' Q h'
    | false => exact off r s' Q h'

/-- what a turn of a comprehension leaves -/
noncomputable def CTurn (H h₀ : Heap) (C : Addr) (g : Array GenState) (d : Drawn) (os : OsState) (J : List (Addr × Obj) → Prop) (s : Shared) : Prop :=
  ∃ h t mC σ, s = ⟨h, g, d, t, os⟩ ∧ Fx H h₀ C h mC σ ∧ J σ

/-- behind a comprehension -/
noncomputable def CompDone (M : Model) (A : Around) (H h₀ : Heap) (L : Addr) (g : Array GenState) (d : Drawn) (os : OsState) (use : Option (Value → Sem Unit)) (Q : Value → Shared → Prop) (m : Str → Option Value) (D : Addr) (k : Nat) (vs : List Value) (σ : List (Addr × Obj)) : Prop :=
  match use with
  | none => ∀ h t, Fx H h₀ L h m ((D, listO vs k) :: σ) → Q (.ref D) ⟨h, g, d, t, os⟩
  | some u => ∀ h t C oC, Fx H h₀ L h m ((C, oC) :: (D, listO vs k) :: σ) → wpAny M A (u (.ref D)) (fun _ s' => ∃ h t m' σ', s' = ⟨h, g, d, t, os⟩ ∧ Fx H h₀ L h m' ((C, oC) :: σ') ∧ ∀ h t, Fx H h₀ L h m' σ' → Q .none ⟨h, g, d, t, os⟩) NoE ⟨h, g, d, t, os⟩

set_option maxHeartbeats 1000000 in
theorem comp_iter {elt iter : Expr} {x : Str} {px : Pos} {ifs : List Expr} {scope : Scope} {pos : Pos} {cl : List (Str × Addr)} {use : Option (Value → Sem Unit)} {Q : Value → Shared → Prop} {it : Addr} {n : Nat} {St : Nat → Obj → Prop} {P : Nat → Value → Prop} {Cd₀ : Heap → Prop} {o : Obj}
    (W : ItOk prog w A it n St P Cd₀) (I : Nat → List Value → List (Addr × Obj) → Prop) (F : Fx H h₀ L h m ((it, o) :: σ)) (ho : St 0 o) (V : EnvIs env names L cells) (hx : scope.names.lookup x = some .local) (hcell : ∀ y ∈ scope.names, y.2 ≠ .cell) (hkind : scope.kind = .function)
    (h0 : I 0 [] σ) (hn : n ≤ 1000) (hlen : ∀ i vs σ, I i vs σ → vs.length ≤ i)
    (cond : ∀ i vs h C mC σ D k oL o, I i vs σ → Fx H h₀ C h mC ((D, listO vs k) :: (it, o) :: (L, oL) :: σ) → Cd₀ h)
    (turn : ∀ (i : Nat) h t mC vs σ v o C D k oL cenv, i < n → I i vs σ → P i v → EnvIs cenv (relab scope.names names) C cl → Fx H h₀ C h (upd mC x v) ((D, listO vs k) :: (it, o) :: (L, oL) :: σ) →
      TestsAt (model prog w) A cenv ifs (fun ok s₃ => if ok then wpAny (model prog w) A (eval elt cenv) (fun y s₄ => CTurn H h₀ C g d os (fun σ' => ∃ σ₂, σ' = (D, listO vs k) :: (it, o) :: (L, oL) :: σ₂ ∧ I (i + 1) (vs ++ [y]) σ₂) s₄) NoE s₃
        else CTurn H h₀ C g d os (fun σ' => ∃ σ₂, σ' = (D, listO vs k) :: (it, o) :: (L, oL) :: σ₂ ∧ I (i + 1) vs σ₂) s₃) ⟨h, g, d, t, os⟩)
    (done : ∀ D k vs σ, I n vs σ → CompDone (model prog w) A H h₀ L g d os use Q m D k vs σ) :
    wpAny (model prog w) A (newList []) (fun acc s₃ => wpAny (model prog w) A (newFunctionEnv scope env.globals cl [] env.qual none .none (some env)) (fun cenv s₄ =>
      codeAny (model prog w) A (.compStart (.ListComp elt [⟨.Name x px, iter, ifs, 0⟩] scope pos) 0 (.ref it) acc { cenv with scope := relabel scope env }) (compPost (model prog w) A NoE use Q acc cenv.locals) s₄) NoE s₃) NoE ⟨h, g, d, t, os⟩ := by
  refine mk_list F (by simp) fun D h₁ t₁ F => ?_
  obtain ⟨oL, eL, nL, ncL, nfL⟩ := F.inner V
  refine wpAny_newFunctionEnv hcell (by intro y hy; simp at hy) (fun h₂ hns hsb => ?_) hkind
  have F2 := F.enterC eL ncL nfL rfl hns hsb
  have F3 := F2.perm (σ' := (D, listO [] 0) :: (it, o) :: (L, oL) :: σ) (by
    refine (List.Perm.swap _ _ _).trans (List.Perm.cons _ (List.Perm.swap _ _ _)))
  clear F2 hns hsb F
  dsimp only [newEnv]
  have hV : EnvIs { scope := relabel scope env, locals := h₁.objs.size, globals := env.globals, cells := cl, qual := env.qual, func := none, code := env.code, frame := env.frame, builtins := env.builtins } (relab scope.names names) h₁.objs.size cl := by
    refine ⟨hkind, ?_, rfl, rfl, V.globals, V.builtins⟩
    show (scope.names.map fun (x : Str × NameKind) => _) = _
    unfold relab
    refine List.map_congr_left fun x hx => ?_
    obtain ⟨nm, k⟩ := x
    have : env.kindOf nm = names.lookup nm := by show env.scope.names.lookup nm = _; rw [V.names]
    dsimp only
    rw [this, V.kind]
    simp
  generalize ({ scope := relabel scope env, locals := h₁.objs.size, globals := env.globals, cells := cl, qual := env.qual, func := none, code := env.code, frame := env.frame, builtins := env.builtins } : Env) = cenv at hV
  generalize h₁.objs.size = C at hV F3
  have hxc : (relab scope.names names).lookup x = some .local := by
    have : ∀ (l : List (Str × NameKind)), l.lookup x = some .local → (relab l names).lookup x = some .local := by
      intro l
      induction l with
      | nil => intro h; cases h
      | cons q r ih =>
        obtain ⟨nm, k⟩ := q
        intro h
        rw [List.lookup_cons] at h
        show List.lookup x ((if (k == NameKind.free && names.lookup nm == some NameKind.cell) = true then (nm, NameKind.cell) else (nm, k)) :: relab r names) = _
        cases hb : x == nm with
        | true =>
          rw [hb] at h
          cases h
          simp [List.lookup_cons, hb]
        | false =>
          rw [hb] at h
          by_cases hc : (k == NameKind.free && names.lookup nm == some NameKind.cell) = true
          · rw [if_pos hc, List.lookup_cons, hb]; exact ih h
          · rw [if_neg hc, List.lookup_cons, hb]; exact ih h
    exact this _ hx
  have loop : ∀ t', codeAny (model prog w) A (.compLoop (.ListComp elt [⟨.Name x px, iter, ifs, 0⟩] scope pos) 0 (.ref it) (.ref D) cenv) (compPost (model prog w) A NoE use Q (.ref D) C) ⟨h₂, g, d, t', os⟩ := by
    intro t'
    refine codeAny_compLoop_tests (fun k s' => ∃ h' t' mC vs kk σ' i o, s' = ⟨h', g, d, t', os⟩ ∧ i ≤ n ∧ k = n - i ∧ I i vs σ' ∧ St i o ∧ Fx H h₀ C h' mC ((D, listO vs kk) :: (it, o) :: (L, oL) :: σ')) ?_ n ⟨h₂, t', _, [], 0, σ, 0, o, rfl, Nat.zero_le _, rfl, h0, ho, F3⟩
    rintro k s' ⟨h', t', mC, vs, kk, σ', i, o, rfl, hi, rfl, hI, hst, F'⟩
    have hc := cond i vs h' C mC σ' D kk oL o hI F'
    by_cases hlt : i < n
    · refine W.item i h' o g d t' os _ _ hlt (F'.get (.tail _ (.head _))) hst hc fun v h₁ o₁ t₁ hP hit₁ hst₁ hs₁ => ?_
      have nc := W.nc _ _ hst₁
      have F2 := F'.upd (σ' := (D, listO vs kk) :: (it, o₁) :: (L, oL) :: σ') (.tail .head) hs₁.extBut hit₁ nc.1 (fun fd e => absurd e (nc.2 fd))
      refine wpAny_assign_Name (n_st F2 hV hxc fun h₂ t₂ F3 => ?_)
      refine wpAny_mono (tests_of (E := NoE) ifs _ _ (turn i h₂ t₂ mC vs σ' v o₁ C D kk oL cenv hlt hI hP hV F3)) (fun ok s₃ h₃ => ?_) fun _ _ e => e.elim
      cases ok with
      | true =>
        simp only [if_true] at h₃ ⊢
        refine wpAny_mono h₃ (fun y s₄ h₄ => ?_) fun _ _ e => e.elim
        obtain ⟨h₅, t₅, m₅, σ₅, rfl, F5, σ₂, rfl, hI5⟩ := h₄
        have hl := hlen _ _ _ hI
        refine wpAny_list_append_plain ⟨kk, F5.get (.head _)⟩ (fun h₆ hp hs₆ => ?_) (by rw [List.size_toArray, sizeLine_eq]; lia)
        obtain ⟨k6, e6⟩ := hp
        rw [List.push_toArray] at e6
        have F6 := F5.upd (σ' := (D, listO (vs ++ [y]) k6) :: (it, o₁) :: (L, oL) :: σ₂) .head hs₆.extBut e6 (ncl rfl)
        exact ⟨_, by lia, h₆, t₅, m₅, vs ++ [y], k6, σ₂, i + 1, o₁, rfl, hlt, rfl, hI5, hst₁, F6⟩
      | false =>
        simp only [Bool.false_eq_true, if_false] at h₃ ⊢
        obtain ⟨h₅, t₅, m₅, σ₅, rfl, F5, σ₂, rfl, hI5⟩ := h₃
        exact ⟨_, by lia, h₅, t₅, m₅, vs, kk, σ₂, i + 1, o₁, rfl, hlt, rfl, hI5, hst₁, F5⟩
    · have hin : i = n := by lia
      subst hin
      refine W.done h' o g d t' os _ _ (F'.get (.tail _ (.head _))) hst hc fun h₁ t₁ he₁ => ?_
      have Fp := F'.perm (σ' := (it, o) :: (L, oL) :: (D, listO vs kk) :: σ') ((List.Perm.swap _ _ _).trans (List.Perm.cons _ (List.Perm.swap _ _ _)))
      have Fq := Fp.forget he₁
      obtain ⟨oC, eC, nC, ncC, nfC⟩ := Fq.inner (env := cenv) hV
      have Fr := Fq.swapC eC ncC nfC nL
      have FF := done D kk vs σ' hI
      cases use with
      | none => exact ⟨mC, nC _ eC, fun h'' hs'' => FF h'' t₁ (Fr.forget hs''.extBut)⟩
      | some u =>
        refine wpAny_mono (FF h₁ t₁ C oC Fr) (fun _ s₃ h₃ => ?_) fun _ _ e => e.elim
        obtain ⟨h₄, t₄, m₄, σ₄, rfl, F4, k4⟩ := h₃
        exact ⟨mC, nC _ (F4.get (.head _)), fun h'' hs'' => k4 h'' t₄ (F4.forget hs''.extBut)⟩
  refine codeAny_compStart_list (loop _) ?_
  exact W.self 0 h₂ o g d _ os _ _ (F3.get (.tail _ (.head _))) ho (loop _)
end

section
variable {prog : Program} {w : World} {A : Around} {E : Value → Shared → Prop} {H h₀ h : Heap} {g : Array GenState} {d : Drawn} {t : Nat} {os : OsState} {env : Env}
  {m mg mb : Str → Option Value} {σ : List (Addr × Obj)} {L : Addr} {names : List (Str × NameKind)} {cells : List (Str × Addr)}

theorem comp_range {elt iter : Expr} {x : Str} {px : Pos} {ifs : List Expr} {scope : Scope} {pos : Pos} {cl : List (Str × Addr)} {use : Option (Value → Sem Unit)} {Q : Value → Shared → Prop} {r : Addr} {a b : Int} {tu tv tw : Tok}
    (I : Nat → List Value → List (Addr × Obj) → Prop) (F : Fx H h₀ L h m ((r, rangeO a b 1 tu tv tw) :: σ)) (hab : a ≤ b) (ha : -(2 ^ 62) ≤ a) (hb : b < 2 ^ 62) (hh : A.handled = none) (V : EnvIs env names L cells) (hx : scope.names.lookup x = some .local) (hcell : ∀ y ∈ scope.names, y.2 ≠ .cell) (hkind : scope.kind = .function)
    (h0 : I 0 [] σ) (hn : b - a ≤ 1000) (hlen : ∀ i vs σ, I i vs σ → vs.length ≤ i)
    (turn : ∀ (i : Nat) h t mC vs σ u it o C D k oL cenv, a + i < b → I i vs σ → EnvIs cenv (relab scope.names names) C cl → Fx H h₀ C h (upd mC x (.int (a + i) u)) ((D, listO vs k) :: (it, o) :: (L, oL) :: σ) →
      TestsAt (model prog w) A cenv ifs (fun ok s₃ => if ok then wpAny (model prog w) A (eval elt cenv) (fun y s₄ => CTurn H h₀ C g d os (fun σ' => ∃ σ₂, σ' = (D, listO vs k) :: (it, o) :: (L, oL) :: σ₂ ∧ I (i + 1) (vs ++ [y]) σ₂) s₄) NoE s₃
        else CTurn H h₀ C g d os (fun σ' => ∃ σ₂, σ' = (D, listO vs k) :: (it, o) :: (L, oL) :: σ₂ ∧ I (i + 1) vs σ₂) s₃) ⟨h, g, d, t, os⟩)
    (done : ∀ D k vs σ, I (b - a).toNat vs σ → CompDone (model prog w) A H h₀ L g d os use Q m D k vs σ) :
    CompAt (model prog w) A env elt iter x px ifs scope pos cl use Q (.ref r) ⟨h, g, d, t, os⟩ := by
  have hr : IsRange h r a b 1 tu tv tw := F.get (.head _)
  have hsz : Builtin.Range.rangeSize a b 1 = b - a := by rw [rangeSize_one]; split <;> lia
  refine wpAny_pyIter_range hr (small_one (by lia) (by lia) (by lia) (by lia)) ?_
  rw [hsz]
  have F1 := (F.weaken (List.sublist_cons_self _ _)).push (riO a (b - a)) rfl (ncl rfl)
  refine comp_iter (it_range hh hab) I F1 (by simp) V hx hcell hkind h0 (by lia) hlen (fun _ _ _ _ _ _ _ _ _ _ _ _ => trivial) ?_ done
  rintro i h t mC vs σ v o C D k oL cenv hi hI ⟨u, rfl⟩ V' F'
  exact turn i h t mC vs σ u _ o C D k oL cenv (by lia) hI V' F'

theorem comp_list {elt iter : Expr} {x : Str} {px : Pos} {ifs : List Expr} {scope : Scope} {pos : Pos} {cl : List (Str × Addr)} {use : Option (Value → Sem Unit)} {Q : Value → Shared → Prop} {l : Addr} {ws : List Value} (hl : h.IsList l ws.toArray)
    (I : Nat → List Value → List (Addr × Obj) → Prop) (F : Fx H h₀ L h m σ) (hh : A.handled = none) (V : EnvIs env names L cells) (hx : scope.names.lookup x = some .local) (hcell : ∀ y ∈ scope.names, y.2 ≠ .cell) (hkind : scope.kind = .function)
    (h0 : I 0 [] σ) (hn : ws.length ≤ 1000) (hlen : ∀ i vs σ, I i vs σ → vs.length ≤ i)
    (cond : ∀ i vs h C mC σ σ₀, I i vs σ → (∀ p ∈ σ, p ∈ σ₀) → Fx H h₀ C h mC σ₀ → h.IsList l ws.toArray)
    (turn : ∀ (i : Nat) h t mC vs σ v it o C D k oL cenv, ws[i]? = some v → I i vs σ → EnvIs cenv (relab scope.names names) C cl → Fx H h₀ C h (upd mC x v) ((D, listO vs k) :: (it, o) :: (L, oL) :: σ) →
      TestsAt (model prog w) A cenv ifs (fun ok s₃ => if ok then wpAny (model prog w) A (eval elt cenv) (fun y s₄ => CTurn H h₀ C g d os (fun σ' => ∃ σ₂, σ' = (D, listO vs k) :: (it, o) :: (L, oL) :: σ₂ ∧ I (i + 1) (vs ++ [y]) σ₂) s₄) NoE s₃
        else CTurn H h₀ C g d os (fun σ' => ∃ σ₂, σ' = (D, listO vs k) :: (it, o) :: (L, oL) :: σ₂ ∧ I (i + 1) vs σ₂) s₃) ⟨h, g, d, t, os⟩)
    (done : ∀ D k vs σ, I ws.length vs σ → CompDone (model prog w) A H h₀ L g d os use Q m D k vs σ) :
    CompAt (model prog w) A env elt iter x px ifs scope pos cl use Q (.ref l) ⟨h, g, d, t, os⟩ := by
  refine wpAny_pyIter_list hl ?_
  have F1 := F.push (liO l 0) rfl (ncl rfl)
  refine comp_iter (it_list hh) I F1 ⟨rfl, rfl⟩ V hx hcell hkind h0 hn hlen (fun i vs h C mC σ D k oL o hI F => cond i vs h C mC σ _ hI (fun p hp => List.mem_cons_of_mem _ (List.mem_cons_of_mem _ (List.mem_cons_of_mem _ hp))) F) ?_ done
  rintro i h t mC vs σ v o C D k oL cenv hi hI hP V' F'
  exact turn i h t mC vs σ v _ o C D k oL cenv hP hI V' F'

theorem CTurn.mk {C : Addr} {mC : Str → Option Value} {J : List (Addr × Obj) → Prop} (F : Fx H h₀ C h mC σ) (hj : J σ) : CTurn H h₀ C g d os J ⟨h, g, d, t, os⟩ := ⟨h, t, mC, σ, rfl, F, hj⟩
theorem ta_nil {M : Model} {cenv : Env} {Q : Bool → Shared → Prop} {s : Shared} (h : Q true s) : TestsAt M A cenv [] Q s := h
theorem ta_cons {M : Model} {cenv : Env} {c : Expr} {r : List Expr} {Q : Bool → Shared → Prop} {s : Shared} (h : wpAny M A (isTrue c cenv (eval c cenv)) (fun b s' => if b then TestsAt M A cenv r Q s' else Q false s') NoE s) : TestsAt M A cenv (c :: r) Q s := h

theorem intsAre_snoc {vs : List Value} {ns : List Int} (x : IntsAre vs ns) (n : Int) (u : Tok) : IntsAre (vs ++ [.int n u]) (ns ++ [n]) := by
  induction x with
  | nil => exact .cons _ _ .nil
  | cons a b _ ih => exact .cons _ _ ih
theorem isInts_own (F : Fx H h₀ L h m σ) {a : Addr} {vs : List Value} {k : Nat} {ns : List Int} (hm : (a, listO vs k) ∈ σ) (hi : IntsAre vs ns) : IsInts h a ns := ⟨vs, ⟨_, F.get hm, rfl, _, rfl⟩, hi⟩
theorem isList_own (F : Fx H h₀ L h m σ) {a : Addr} {vs : List Value} {k : Nat} (hm : (a, listO vs k) ∈ σ) : h.IsList a vs.toArray := ⟨_, F.get hm, rfl, _, rfl⟩
theorem eq_ints {a b : Addr} {ns ms : List Int} {Q : Value → Shared → Prop} (R : Rm A 9) (ha : IsInts h a ns) (hb : IsInts h b ms) (k : Q (.bool (decide (ns = ms))) ⟨h, g, d, t, os⟩) : wpAny (model prog w) A (compareOp .Eq (.ref a) (.ref b)) Q E ⟨h, g, d, t, os⟩ :=
  let ⟨_, h1, h2⟩ := ha; let ⟨_, h3, h4⟩ := hb; eq_intsK h1 h2 h3 h4 (by have := R.un; lia) k
theorem ne_ints {a b : Addr} {ns ms : List Int} {Q : Value → Shared → Prop} (R : Rm A 9) (ha : IsInts h a ns) (hb : IsInts h b ms) (k : Q (.bool (!decide (ns = ms))) ⟨h, g, d, t, os⟩) : wpAny (model prog w) A (compareOp .NotEq (.ref a) (.ref b)) Q E ⟨h, g, d, t, os⟩ :=
  let ⟨_, h1, h2⟩ := ha; let ⟨_, h3, h4⟩ := hb; ne_intsK h1 h2 h3 h4 (by have := R.un; lia) k
/-- a list grows by one -/
theorem c_append {a : Addr} {vs : List Value} {k : Nat} {v : Value} {gσ : Nat → List (Addr × Obj)} {Q : Value → Shared → Prop} (F : Fx H h₀ L h m σ) (U : ∀ k', Up a (listO vs k) (listO (vs ++ [v]) k') σ (gσ k')) (hs : vs.length ≤ 1000)
    (kk : ∀ h' k', Fx H h₀ L h' m (gσ k') → Q .none ⟨h', g, d, t, os⟩) : wpAny (model prog w) A (call (.builtin "list.append") [.ref a, v]) Q E ⟨h, g, d, t, os⟩ := by
  refine wpAny_list_append_plain ⟨k, F.get (U 0).mem⟩ (fun h₆ hp hs₆ => ?_) (by rw [List.size_toArray, sizeLine_eq]; lia)
  obtain ⟨k6, e6⟩ := hp
  rw [List.push_toArray] at e6
  exact kk h₆ k6 (F.upd (U k6) hs₆.extBut e6 (ncl rfl))
end

-- part L11
section
variable {prog : Program} {w : World} {A : Around} {E : Value → Shared → Prop} {H h₀ h : Heap} {g : Array GenState} {d : Drawn} {t : Nat} {os : OsState} {env : Env}
  {m mg mb : Str → Option Value} {σ : List (Addr × Obj)} {L : Addr} {names : List (Str × NameKind)} {cells : List (Str × Addr)}

theorem l_cell {x : Str} {c : Addr} {v : Value} {Q : Value → Shared → Prop} (F : Fx H h₀ L h m σ) (V : EnvIs env names L cells) (hl : names.lookup x = some .cell) (hc : cells.lookup x = some c) (hm : (c, cellO (some v)) ∈ σ) (h' : Q v ⟨h, g, d, t, os⟩) :
    wpAny (model prog w) A (loadName env x) Q E ⟨h, g, d, t, os⟩ := wpAny_loadName_cell V.kind (V.kindOf hl) (V.cells ▸ hc) ⟨_, F.get hm, rfl⟩ h'
theorem i_iadd {a b : Int} {u v : Tok} {Q : Value → Shared → Prop} (h' : ∀ z t', Q (.int (a + b) z) ⟨h, g, d, t', os⟩) : wpAny (model prog w) A (inplaceOp .Add (.int a u) (.int b v)) Q E ⟨h, g, d, t, os⟩ := PyProof.Rows.iadd_int (h' _ _)

/-- for over a range, its name a cell -/
theorem forc_range {x : Str} {px : Pos} {body : List Stmt} {r c : Addr} {a b : Int} {tu tv tw : Tok} {v₀ : Option Value} {Q : Flow → Shared → Prop} (I : Nat → (Str → Option Value) → List (Addr × Obj) → Prop)
    (F : Fx H h₀ L h m ((r, rangeO a b 1 tu tv tw) :: (c, cellO v₀) :: σ)) (hab : a ≤ b) (ha : -(2 ^ 62) ≤ a) (hb : b < 2 ^ 62)
    (hh : A.handled = none) (V : EnvIs env names L cells) (hx : names.lookup x = some .cell) (hc : cells.lookup x = some c) (h0 : I 0 m σ)
    (turn : ∀ (i : Nat) h t m σ u it o, a + i < b → I i m σ → Fx H h₀ L h m ((it, o) :: (c, cellO (some (.int (a + i) u))) :: σ) →
      wpAny (model prog w) A (execs body env) (Turn H h₀ L g d os (fun m' σ' => ∃ v σ₂, σ' = (it, o) :: (c, cellO v) :: σ₂ ∧ I (i + 1) m' σ₂) Q) NoE ⟨h, g, d, t, os⟩)
    (done : ∀ h t m σ v, I (b - a).toNat m σ → Fx H h₀ L h m ((c, cellO v) :: σ) → Q .next ⟨h, g, d, t, os⟩) :
    ForAt (model prog w) A env (.Name x px) body Q (.ref r) ⟨h, g, d, t, os⟩ := by
  have hr : IsRange h r a b 1 tu tv tw := F.get (.head _)
  have hsz : Builtin.Range.rangeSize a b 1 = b - a := by rw [rangeSize_one]; split <;> lia
  refine wpAny_pyIter_range hr (small_one (by lia) (by lia) (by lia) (by lia)) ?_
  have F1 := (F.weaken (List.sublist_cons_self _ _)).push (riO a (b - a)) rfl (ncl rfl)
  rw [hsz]
  have W := it_range (prog := prog) (w := w) (A := A) (it := h.objs.size) (a := a) (b := b) hh hab
  refine codeAny_forLoop (fun k s' => ∃ h' t' m' σ' i v, s' = ⟨h', g, d, t', os⟩ ∧ i ≤ (b - a).toNat ∧ k = (b - a).toNat - i ∧ I i m' σ' ∧ Fx H h₀ L h' m' ((h.objs.size, riO (a + (i : Nat)) (b - a - (i : Nat))) :: (c, cellO v) :: σ')) ?_ (b - a).toNat
    ⟨_, t, m, σ, 0, v₀, rfl, Nat.zero_le _, rfl, h0, by simpa using F1⟩
  rintro k s' ⟨h', t', m', σ', i, v, rfl, hi, rfl, hI, F'⟩
  by_cases hlt : i < (b - a).toNat
  · refine W.item i h' _ g d t' os _ _ hlt (F'.get (.head _)) rfl trivial fun v h₁ o₁ t₁ hP hit₁ hst₁ hs₁ => ?_
    obtain ⟨u, rfl⟩ := hP
    have F2 := F'.upd (σ' := (h.objs.size, o₁) :: (c, _) :: σ') .head hs₁.extBut hit₁ (W.nc _ _ hst₁).1 (fun fd e => absurd e ((W.nc _ _ hst₁).2 fd))
    refine wpAny_assign_Name (n_stc F2 V hx hc (.tail .head) fun h₂ t₂ F3 => ?_)
    refine wpAny_mono (turn i h₂ t₂ m' σ' u _ o₁ (by lia) hI F3) (fun fl s₃ h₃ => ?_) fun _ _ e => e.elim
    cases fl with
    | ret v => exact h₃
    | brk => exact h₃
    | next =>
      obtain ⟨h₄, t₄, m₄, σ₄, rfl, F4, v, σ₂, rfl, hI4⟩ := h₃
      subst hst₁
      exact ⟨_, by lia, h₄, t₄, m₄, σ₂, i + 1, v, rfl, hlt, rfl, hI4, F4⟩
    | cont =>
      obtain ⟨h₄, t₄, m₄, σ₄, rfl, F4, v, σ₂, rfl, hI4⟩ := h₃
      subst hst₁
      exact ⟨_, by lia, h₄, t₄, m₄, σ₂, i + 1, v, rfl, hlt, rfl, hI4, F4⟩
  · have hin : i = (b - a).toNat := by lia
    subst hin
    exact W.done h' _ g d t' os _ _ (F'.get (.head _)) rfl trivial fun h₁ t₁ he₁ => wpAny_execs_nil (done h₁ _ m' σ' v hI (F'.forget he₁))

theorem EnvIs.notInter (V : EnvIs env names L cells) : interactive env = false := by unfold interactive; rw [V.kind]; rfl

/-- x.append(y) as a statement -/
theorem s_append {o : Expr} {apos cpos pos : Pos} {arg : Expr} {a : Addr} {vs : List Value} {Q : Flow → Shared → Prop}
    (h' : wpAny (model prog w) A (eval o env) (fun ov s₁ => ov = .ref a ∧ (∃ k, s₁.heap.get? a = some (listO vs k)) ∧ wpAny (model prog w) A (eval arg env) (fun v s₂ => wpAny (model prog w) A (call (.builtin "list.append") [.ref a, v]) (fun r s₃ => r = .none ∧ Q .next s₃) NoE s₂) NoE s₁) NoE ⟨h, g, d, t, os⟩)
    (hb : attributeBase o "append" env (eval o env) = eval o env) (hp : plainArgs [arg] = true) (hpos : (apos.endLine == cpos.line) = true) (hi : interactive env = false) :
    wpAny (model prog w) A (exec (.Expr (.Call (.Attribute o "append" apos) [arg] [] cpos) pos) env) Q NoE ⟨h, g, d, t, os⟩ := by
  refine wpAny_Expr (x_meth ?_ hb hp (by simp) hpos) hi rfl
  refine wpAny_mono h' (fun ov s₁ h₁ => ?_) fun _ _ e => e
  obtain ⟨rfl, ⟨k, e⟩, h₁⟩ := h₁
  refine Calls.getMethod_list_append e rfl rfl (cw_blt ?_ hp)
  refine wpAny_mono h₁ (fun v s₂ h₂ => ?_) fun _ _ e => e
  refine wpAny_mono h₂ (fun r s₃ h₃ => ?_) fun _ _ e => e
  obtain ⟨rfl, h₃⟩ := h₃
  exact h₃
end

-- part L12
section
variable {prog : Program} {w : World} {A : Around} {E : Value → Shared → Prop} {H h₀ h : Heap} {g : Array GenState} {d : Drawn} {t : Nat} {os : OsState} {env : Env}
  {m mg mb : Str → Option Value} {σ : List (Addr × Obj)} {L : Addr} {names : List (Str × NameKind)} {cells : List (Str × Addr)}

/-- a callee's frame over the caller's base -/
theorem Fx.nest {L' : Addr} {h₁ : Heap} {m' : Str → Option Value} {σ' : List (Addr × Obj)} (F : Fx H h₀ L h m σ) (F' : Fx H h L' h₁ m' σ') :
    ∃ oL, (∀ h' : Heap, h'.get? L = some oL → h'.Ns L m) ∧ Fx H h₀ L' h₁ m' (σ' ++ (L, oL) :: σ) := by
  obtain ⟨oL, es, ep, e, hd, hk, hm⟩ := F.ns
  have hLs := Heap.lt_size e
  have nc : NoCode oL := .inr fun vs q => by rw [hd] at q; cases q
  have hb : h₀.objs.size ≤ h.objs.size := Nat.le_trans F.above (Nat.le_of_lt hLs)
  refine ⟨oL, fun h' e' => ⟨oL, es, ep, e', hd, hk, hm⟩, F'.ns, F.kp.trans F'.kp, Nat.le_trans hb F'.above, F.base, fun p hp => ?_, fun p hp => ?_, ?_⟩
  · rcases List.mem_append.mp hp with hp | hp
    · let ⟨a, b, c⟩ := F'.own p hp; exact ⟨a, Nat.le_trans hb b, c⟩
    · rcases List.mem_cons.mp hp with rfl | hp
      · exact ⟨F'.kp.get e nc, F.above, Nat.ne_of_lt (Nat.lt_of_lt_of_le hLs F'.above), nc⟩
      · let ⟨a, b, c, q⟩ := F.own p hp; exact ⟨F'.kp.get a q, b, Nat.ne_of_lt (Nat.lt_of_lt_of_le (Heap.lt_size a) F'.above), q⟩
  · rcases List.mem_append.mp hp with hp | hp
    · exact F'.fns p hp
    · rcases List.mem_cons.mp hp with rfl | hp
      · exact fun fd q => by rw [hd] at q; cases q
      · exact (F.fns p hp).mono F'.kp.good
  · rw [List.map_append, List.map_cons, List.nodup_append]
    refine ⟨F'.nd, List.nodup_cons.mpr ⟨fun q => ?_, F.nd⟩, fun a ha b hb e' => ?_⟩
    · obtain ⟨p, hp, e'⟩ := List.mem_map.mp q
      exact (F.own p hp).2.2.1 e'
    · obtain ⟨p, hp, rfl⟩ := List.mem_map.mp ha
      have h1 := (F'.own p hp).2.1
      rcases List.mem_cons.mp hb with rfl | hb
      · rw [e'] at h1; exact absurd hLs (Nat.not_lt.mpr h1)
      · obtain ⟨q, hq, rfl⟩ := List.mem_map.mp hb
        have h2 := Heap.lt_size (F.own q hq).1
        rw [e'] at h1; exact absurd h2 (Nat.not_lt.mpr h1)

/-- a call, whatever its binding makes -/
theorem enter_g {n : Nat} {fd : FuncData} {o : Obj} {f c : Addr} {body : List Stmt} {args : Args} {binds : List (Str × Value)} {R : Result → Shared → Prop} {h₂ : Heap} {t₂ : Nat} {φ : List (Addr × Obj)} (R0 : Rm A (n + 1)) (hz : H.objs.size ≤ h.objs.size)
    (ho : h.get? f = some o) (hd : o.data = .func fd) (hc : fd.code = .ref c) (hcd : Cd h c) (hbody : fd.body = .stmts body)
    (hb : ∀ (E : Value → Shared → Prop) (Q : List (Str × Value) → Shared → Prop), Q binds ⟨h₂, g, d, t₂, os⟩ → wpAny (model prog w) A.in1 (bindArgs fd args) Q E ⟨h, g, d, t, os⟩) (hz2 : h.objs.size ≤ h₂.objs.size) (k2 : Kp H h h₂) (fr : Fresh H h h₂ φ)
    (hco : fd.scope.isCoroutine = false) (hgen : fd.scope.isGenerator = false)
    (k : ∀ q L h' t', Fx H h L h' (fun _ => none) (cellsσ (L + 1) fd.scope.names φ) → BindAll (model prog w) A.in1 NoE (fenv fd q L f) binds
      (fun s' => s'.heap.NoLimit ∧ wpAny (model prog w) (A.deeper (fenv fd q L f)) (execs body (fenv fd q L f)) (fun fl s'' => R (.ok (.ret (retOf fl))) s'') NoE s') ⟨h', g, d, t', os⟩) :
    codeAny (model prog w) A (.call (.ref f) args) R ⟨h, g, d, t, os⟩ := by
  obtain ⟨q, c', oc, vs, tq, e1, hoc, hdc, hq⟩ := hcd.rec'
  cases e1
  refine codeAny_of_tree ?_
  show wpAny _ A.in1 (callAny (.ref f) args) _ _ _
  simp only [callAny]
  refine wpAny_bind (wpAny_load ho ?_)
  simp only [hd, callFunction, hco, hgen, hbody, hc]
  refine wpAny_bind (m := field (.ref c) 1) (wpAny_field hoc hdc hq (wpAny_bind (wpAny_pure ?_)))
  refine wpAny_bind (hb _ _ ?_)
  refine wpAny_bind ?_
  have room : A.depth < recursionLimit := by have := R0.dp; lia
  simp only [newFunctionEnv, Option.isSome_none, Bool.false_eq_true, if_false]
  refine wpAny_bind (wpAny_alloc' ?_)
  refine wpAny_bind (wpAny_layCells _ (fun name kind cells => by cases hkc : kind == NameKind.cell <;> simp) _ _ _ _ ?_)
  have F0 : Fx H h h₂.objs.size (h₂.push { cls := .type "frame", data := .dict #[] }) (fun _ => none) φ :=
    ⟨Heap.Ns.new h₂ (.type "frame"), k2.trans (Kp.push h₂ _), hz2, hz, fun p hp => let ⟨a, b, c⟩ := fr.own p hp; ⟨Heap.get?_push_of_some _ a, b, Nat.ne_of_lt (Heap.lt_size a), c⟩, fun p hp => (fr.fns p hp).mono good_push, fr.nd⟩
  have F1 := F0.cells fd.scope.names
  rw [Heap.size_push] at F1
  have K := k (q ++ ".<locals>.") h₂.objs.size _ t₂ F1
  rw [show (h₂.push { cls := .type "frame", data := .dict #[] }).objs.size = h₂.objs.size + 1 from Heap.size_push ..]
  refine wpAny_bind (bindAll_of _ (fun _ _ _ => rfl) _ _ _ ?_)
  have mono : ∀ (binds : List (Str × Value)) (s : Shared) (P P' : Shared → Prop) (E' : Value → Shared → Prop) (env : Env), (∀ s, P s → P' s) → BindAll (model prog w) A.in1 NoE env binds P s → BindAll (model prog w) A.in1 E' env binds P' s := by
    intro binds
    induction binds with
    | nil => intro s P P' E' env hp h; exact hp s h
    | cons x r ih =>
      obtain ⟨nn, vv⟩ := x
      intro s P P' E' env hp h
      exact wpAny_mono (show wpAny (model prog w) A.in1 (storeName env nn vv) _ NoE s from h) (fun _ s' h' => ih s' P P' E' env hp h') fun _ _ e => e.elim
  unfold fenv at K
  rw [hc] at K
  refine mono _ _ _ _ _ _ (fun s' hs => ?_) K
  refine wpAny_pure (wpAny_bind (wpAny_enterFrame hs.1 room (wpAny_pure ?_)))
  exact And.intro rfl (codeAny_func (wpAny_mono hs.2 (fun fl s'' hq => by cases fl <;> exact hq) fun _ _ e => e.elim))

/-- a call of a def of the top, over the base of the caller's frame -/
theorem code_n {n : Nat} {fd : FuncData} {o : Obj} {f c : Addr} {body : List Stmt} {pos : List Value} {binds : List (Str × Value)} {R : Result → Shared → Prop} (R0 : Rm A (n + 1)) (F : Fx H h₀ L h m σ)
    (K0 : Kp H H h₀) (hl : H.NoLimit)
    (ho : h.get? f = some o) (hd : o.data = .func fd) (hc : fd.code = .ref c) (hcd : Cd h c) (hbody : fd.body = .stmts body) (hb : BindsTo ⟨h, g, d, t, os⟩ fd ⟨pos, []⟩ binds)
    (hco : fd.scope.isCoroutine = false) (hgen : fd.scope.isGenerator = false) (hk : fd.scope.kind = .function) (hG : fd.globals = mainGlobals) (hB : fd.builtins = builtinsNs)
    (hcl : ∀ L, cellsFrom (L + 1) fd.scope.names fd.closure = fd.closure) (hσ : ∀ L, cellsσ (L + 1) fd.scope.names [] = []) (ha : (binds.all fun x => fd.scope.names.lookup x.1 == some .local) = true)
    (k : ∀ env L' oL h' t' A', EnvIs env fd.scope.names L' fd.closure → env.code = .ref c → Rm A' n → (∀ h' : Heap, h'.get? L = some oL → h'.Ns L m) → Fx H h₀ L' h' (bindM binds (fun _ => none)) ((L, oL) :: σ) →
      wpAny (model prog w) A' (execs body env) (fun fl s'' => R (.ok (.ret (retOf fl))) s'') NoE ⟨h', g, d, t', os⟩) :
    codeAny (model prog w) A (.call (.ref f) ⟨pos, []⟩) R ⟨h, g, d, t, os⟩ := by
  refine enter_g (args := ⟨pos, []⟩) (h₂ := h) (φ := []) R0 F.size ho hd hc hcd hbody (fun E Q q => hb _ _ _ _ q) (Nat.le_refl _) (Kp.refl H h) Fresh.nil hco hgen fun q L' h' t' F' => ?_
  have V : EnvIs (fenv fd q L' f) fd.scope.names L' (cellsFrom (L' + 1) fd.scope.names fd.closure) := ⟨hk, rfl, rfl, rfl, hG, hB⟩
  rw [hcl] at V; rw [hσ] at F'
  obtain ⟨oL, nL, FF⟩ := F.nest F'
  exact bindAll_local V binds ha FF fun h₂ t₂ F => ⟨(K0.trans F.kp).noLimit hl, k _ L' oL h₂ t₂ _ V hc R0.deeper nL F⟩
theorem call_n {n : Nat} {fd : FuncData} {o : Obj} {f c : Addr} {body : List Stmt} {pos : List Value} {binds : List (Str × Value)} {Q : Value → Shared → Prop} (R0 : Rm A (n + 1)) (F : Fx H h₀ L h m σ)
    (K0 : Kp H H h₀) (hl : H.NoLimit)
    (ho : h.get? f = some o) (hd : o.data = .func fd) (hc : fd.code = .ref c) (hcd : Cd h c) (hbody : fd.body = .stmts body) (hb : BindsTo ⟨h, g, d, t, os⟩ fd ⟨pos, []⟩ binds)
    (hco : fd.scope.isCoroutine = false) (hgen : fd.scope.isGenerator = false) (hk : fd.scope.kind = .function) (hG : fd.globals = mainGlobals) (hB : fd.builtins = builtinsNs)
    (hcl : ∀ L, cellsFrom (L + 1) fd.scope.names fd.closure = fd.closure) (hσ : ∀ L, cellsσ (L + 1) fd.scope.names [] = []) (ha : (binds.all fun x => fd.scope.names.lookup x.1 == some .local) = true)
    (k : ∀ env L' oL h' t' A', EnvIs env fd.scope.names L' fd.closure → env.code = .ref c → Rm A' n → (∀ h' : Heap, h'.get? L = some oL → h'.Ns L m) → Fx H h₀ L' h' (bindM binds (fun _ => none)) ((L, oL) :: σ) →
      wpAny (model prog w) A' (execs body env) (fun fl s'' => Q (retOf fl) s'') NoE ⟨h', g, d, t', os⟩) :
    wpAny (model prog w) A (call (.ref f) pos) Q E ⟨h, g, d, t, os⟩ := wpAny_call (code_n R0 F K0 hl ho hd hc hcd hbody hb hco hgen hk hG hB hcl hσ ha k)
end

noncomputable def clsOk : Value → Bool
  | .none => false
  | _ => true
/-- what is sure to stay -/
noncomputable abbrev Kg (w : World) : Frag := (Kf w).filter fun p => clsOk p.2.cls
noncomputable def nodupB : List Nat → Bool
  | [] => true
  | a :: r => !r.contains a && nodupB r
theorem nodupB_of : ∀ {l : List Nat}, nodupB l = true → l.Nodup
  | [], _ => List.nodup_nil
  | a :: r, h => by
    unfold nodupB at h
    rw [Bool.and_eq_true] at h
    exact List.nodup_cons.mpr ⟨by simpa using h.1, nodupB_of h.2⟩
theorem kf_nodup (w : World) : nodupB ((Kf w).map (·.1)) = true := by with_unfolding_all rfl
theorem mem_of_lookup {α β : Type} [BEq α] [LawfulBEq α] {a : α} {b : β} : ∀ {l : List (α × β)}, l.lookup a = some b → (a, b) ∈ l
  | [], e => by cases e
  | (x, y) :: r, e => by
    rw [List.lookup_cons] at e
    cases hx : (a == x) with
    | true => rw [hx] at e; cases e; rw [eq_of_beq hx]; exact .head _
    | false => rw [hx] at e; exact .tail _ (mem_of_lookup e)
theorem lookup_of_mem {α β : Type} [BEq α] [LawfulBEq α] {a : α} {b : β} : ∀ {l : List (α × β)}, (l.map (·.1)).Nodup → (a, b) ∈ l → l.lookup a = some b
  | (x, y) :: r, nd, e => by
    rw [List.map_cons, List.nodup_cons] at nd
    rw [List.lookup_cons]
    rcases List.mem_cons.mp e with e' | e'
    · cases e'; simp
    · have : (a == x) = false := by
        rw [beq_eq_false_iff_ne]
        intro q
        exact nd.1 (q ▸ List.mem_map_of_mem (f := (·.1)) e')
      rw [this]
      exact lookup_of_mem nd.2 e'
theorem Glb.kin {w : World} {H h : Heap} {mg mb : Str → Option Value} (G : Glb w H mg mb) (K0 : Kp H H h) : (Kg w).In h := fun a o e => by
  have hm := List.mem_filter.mp (mem_of_lookup e)
  have hl := lookup_of_mem (nodupB_of (kf_nodup w)) hm.1
  refine K0.getc (G.K a o hl) fun q => ?_
  have := hm.2
  rw [q] at this; cases this

theorem NsO.look {o : Obj} {m : Str → Option Value} {k : Nat} (x : NsO o m k) (n : Str) : lookIn n o = some (m n) := by
  obtain ⟨_, es, ep, hd, _, hk, hm⟩ := x
  unfold lookIn
  rw [hd]
  dsimp only
  have hany : (es.toList.any fun x => x.refKey) = false := by
    rw [List.any_eq_false]
    intro e he
    obtain ⟨n, t, h⟩ := hk e (by simpa using he)
    simp [DictEntry.refKey, h]
  have hf := hm n
  unfold nsFind findBy at hf
  rw [← Array.find?_toList] at hf
  cases hq : List.find? (fun x => x.key.isStr n) es.toList with
  | some e => rw [hq] at hf; rw [← hf]; rfl
  | none => rw [hq] at hf; rw [← hf]; simp [hany]

-- part LK
section
variable {prog : Program} {w : World} {A : Around} {E : Value → Shared → Prop} {H h₀ h : Heap} {g : Array GenState} {d : Drawn} {t : Nat} {os : OsState} {env : Env}
  {m mg mb : Str → Option Value} {σ : List (Addr × Obj)} {L : Addr} {names : List (Str × NameKind)} {cells : List (Str × Addr)}
/-- what is wanted behind, as a letter -/
theorem cutQ {α : Type} {M : Model} {s : Shared} {tr : Sem α} {Q : α → Shared → Prop} (h : ∀ K : α → Shared → Prop, (∀ a s, Q a s → K a s) → wpAny M A tr K E s) : wpAny M A tr Q E s := h Q fun _ _ x => x

theorem comp_rangeK {elt iter : Expr} {x : Str} {px : Pos} {ifs : List Expr} {scope : Scope} {pos : Pos} {cl : List (Str × Addr)} {use : Option (Value → Sem Unit)} {Q : Value → Shared → Prop} {r : Addr} {a b : Int} {tu tv tw : Tok}
    (I : Nat → List Value → List (Addr × Obj) → Prop) (F : Fx H h₀ L h m ((r, rangeO a b 1 tu tv tw) :: σ)) (hab : a ≤ b) (ha : -(2 ^ 62) ≤ a) (hb : b < 2 ^ 62) (hh : A.handled = none) (V : EnvIs env names L cells) (hx : scope.names.lookup x = some .local) (hcell : ∀ y ∈ scope.names, y.2 ≠ .cell) (hkind : scope.kind = .function)
    (h0 : I 0 [] σ) (hn : b - a ≤ 1000) (hlen : ∀ i vs σ, I i vs σ → vs.length ≤ i)
    (turn : ∀ (i : Nat) h t mC vs σ u it o C D k oL cenv, a + i < b → I i vs σ → EnvIs cenv (relab scope.names names) C cl → Fx H h₀ C h (upd mC x (.int (a + i) u)) ((D, listO vs k) :: (it, o) :: (L, oL) :: σ) →
      ∀ (K1 : Value → Shared → Prop) (K0 : Shared → Prop), (∀ y h t mC σ₂, Fx H h₀ C h mC ((D, listO vs k) :: (it, o) :: (L, oL) :: σ₂) → I (i + 1) (vs ++ [y]) σ₂ → K1 y ⟨h, g, d, t, os⟩) →
        (∀ h t mC σ₂, Fx H h₀ C h mC ((D, listO vs k) :: (it, o) :: (L, oL) :: σ₂) → I (i + 1) vs σ₂ → K0 ⟨h, g, d, t, os⟩) →
      TestsAt (model prog w) A cenv ifs (fun ok s₃ => if ok then wpAny (model prog w) A (eval elt cenv) K1 NoE s₃ else K0 s₃) ⟨h, g, d, t, os⟩)
    (done : ∀ D k vs σ, I (b - a).toNat vs σ → CompDone (model prog w) A H h₀ L g d os use Q m D k vs σ) :
    CompAt (model prog w) A env elt iter x px ifs scope pos cl use Q (.ref r) ⟨h, g, d, t, os⟩ :=
  comp_range I F hab ha hb hh V hx hcell hkind h0 hn hlen (fun i h t mC vs σ u it o C D k oL cenv h1 h2 h3 h4 => turn i h t mC vs σ u it o C D k oL cenv h1 h2 h3 h4 _ _
    (fun y h t mC σ₂ F hI => CTurn.mk F ⟨_, rfl, hI⟩) (fun h t mC σ₂ F hI => CTurn.mk F ⟨_, rfl, hI⟩)) done

theorem comp_listK {elt iter : Expr} {x : Str} {px : Pos} {ifs : List Expr} {scope : Scope} {pos : Pos} {cl : List (Str × Addr)} {use : Option (Value → Sem Unit)} {Q : Value → Shared → Prop} {l : Addr} {ws : List Value} (hl : h.IsList l ws.toArray)
    (I : Nat → List Value → List (Addr × Obj) → Prop) (F : Fx H h₀ L h m σ) (hh : A.handled = none) (V : EnvIs env names L cells) (hx : scope.names.lookup x = some .local) (hcell : ∀ y ∈ scope.names, y.2 ≠ .cell) (hkind : scope.kind = .function)
    (h0 : I 0 [] σ) (hn : ws.length ≤ 1000) (hlen : ∀ i vs σ, I i vs σ → vs.length ≤ i)
    (cond : ∀ i vs h C mC σ σ₀, I i vs σ → (∀ p ∈ σ, p ∈ σ₀) → Fx H h₀ C h mC σ₀ → h.IsList l ws.toArray)
    (turn : ∀ (i : Nat) h t mC vs σ v it o C D k oL cenv, ws[i]? = some v → I i vs σ → EnvIs cenv (relab scope.names names) C cl → Fx H h₀ C h (upd mC x v) ((D, listO vs k) :: (it, o) :: (L, oL) :: σ) →
      ∀ (K1 : Value → Shared → Prop) (K0 : Shared → Prop), (∀ y h t mC σ₂, Fx H h₀ C h mC ((D, listO vs k) :: (it, o) :: (L, oL) :: σ₂) → I (i + 1) (vs ++ [y]) σ₂ → K1 y ⟨h, g, d, t, os⟩) →
        (∀ h t mC σ₂, Fx H h₀ C h mC ((D, listO vs k) :: (it, o) :: (L, oL) :: σ₂) → I (i + 1) vs σ₂ → K0 ⟨h, g, d, t, os⟩) →
      TestsAt (model prog w) A cenv ifs (fun ok s₃ => if ok then wpAny (model prog w) A (eval elt cenv) K1 NoE s₃ else K0 s₃) ⟨h, g, d, t, os⟩)
    (done : ∀ D k vs σ, I ws.length vs σ → CompDone (model prog w) A H h₀ L g d os use Q m D k vs σ) :
    CompAt (model prog w) A env elt iter x px ifs scope pos cl use Q (.ref l) ⟨h, g, d, t, os⟩ :=
  comp_list hl I F hh V hx hcell hkind h0 hn hlen cond (fun i h t mC vs σ v it o C D k oL cenv h1 h2 h3 h4 => turn i h t mC vs σ v it o C D k oL cenv h1 h2 h3 h4 _ _
    (fun y h t mC σ₂ F hI => CTurn.mk F ⟨_, rfl, hI⟩) (fun h t mC σ₂ F hI => CTurn.mk F ⟨_, rfl, hI⟩)) done
theorem exec_twoK {M : Model} {s1 s2 : Stmt} {rest : List Stmt} {s : Shared} {Q : Flow → Shared → Prop} (P : Shared → Prop)
    (h1 : ∀ K : Shared → Prop, (∀ s, P s → K s) → wpAny M A (exec s1 env) (fun fl s => fl = .next ∧ wpAny M A (exec s2 env) (fun fl s' => fl = .next ∧ K s') NoE s) NoE s) (h2 : ∀ s', P s' → wpAny M A (execs rest env) Q NoE s') : wpAny M A (execs (s1 :: s2 :: rest) env) Q NoE s := by
  refine wpAny_execs_cons (wpAny_mono (h1 P fun _ x => x) (fun fl s₁ h₁ => ?_) fun _ _ e => e)
  obtain ⟨rfl, h₁⟩ := h₁
  refine wpAny_execs_cons (wpAny_mono h₁ (fun fl s₂ h₂ => ?_) fun _ _ e => e)
  obtain ⟨rfl, h₂⟩ := h₂
  exact h2 s₂ h₂
end
section
variable {prog : Program} {w : World} {A : Around} {E : Value → Shared → Prop} {H h₀ h : Heap} {g : Array GenState} {d : Drawn} {t : Nat} {os : OsState} {env : Env}
  {m mg mb : Str → Option Value} {σ : List (Addr × Obj)} {L : Addr}
theorem while_K {test : Expr} {body : List Stmt} {pos : Pos} {Q : Flow → Shared → Prop} (I : Nat → (Str → Option Value) → List (Addr × Obj) → Prop) (n : Nat) (F : Fx H h₀ L h m σ) (h0 : I n m σ)
    (turn : ∀ n h t m σ, I n m σ → Fx H h₀ L h m σ → ∀ K : Flow → Shared → Prop, (∀ fl s, Turn H h₀ L g d os (fun m' σ' => ∃ k, k < n ∧ I k m' σ') Q fl s → K fl s) → wpAny (model prog w) A (isTrue test env (eval test env)) (fun b s₂ =>
      if b then wpAny (model prog w) A (execs body env) K NoE s₂ else Q .next s₂) NoE ⟨h, g, d, t, os⟩) :
    wpAny (model prog w) A (exec (.While test body [] pos) env) Q NoE ⟨h, g, d, t, os⟩ := while_ I n F h0 fun n h t m σ hI F => turn n h t m σ hI F _ fun _ _ x => x
end

-- part L13b
theorem free_fresh (led : Bool) (h : Int) : (SetTable.fresh 0 0 led).freeSlot h = some (SetTable.bits h % 8, false) := by
  unfold SetTable.freeSlot SetTable.probe SetTable.turns SetTable.probeStart
  simp [SetTable.fresh, SetTable.probe.go, SetTable.slot, SetTable.below, SetTable.below.go, SetTable.has]
theorem lay_fresh (led : Bool) (h : Int) (x : Value) : layNew (SetTable.fresh 0 0 led) #[] h x = (#[(h, x)], { SetTable.fresh 0 0 led with place := #[SetTable.bits h % 8] }, false, false) := by
  unfold layNew
  rw [free_fresh]
  simp [SetTable.put, SetTable.fresh, SetTable.below, SetTable.below.go, SetTable.insertAt, SetTable.orStandIn, SetTable.fits, SetTable.has, SetTable.fill]
noncomputable abbrev set0O (led : Bool) : Obj := { cls := .type "set", dict := none, data := .set #[] 0 (.fresh 0 0 led) }
noncomputable abbrev set1T (j : Nat) (led : Bool) : SetTable := { SetTable.fresh 0 0 led with place := #[j], plain := false }
noncomputable abbrev set1O (hash : Int) (y : Str) (u : Tok) (j : Nat) (led : Bool) : Obj := { cls := .type "set", dict := none, data := .set #[(hash, .str y u)] 1 (set1T j led) }

section
variable {prog : Program} {w : World} {A : Around} {E : Value → Shared → Prop} {H h₀ h : Heap} {g : Array GenState} {d : Drawn} {t : Nat} {os : OsState} {env : Env}
  {m mg mb : Str → Option Value} {σ : List (Addr × Obj)} {L : Addr}

theorem set_add1 {S : Addr} {y : Str} {u : Tok} {led : Bool} {Q : Bool → Shared → Prop} (ho : h.get? S = some (set0O led))
    (k : ∀ h' t' j, h'.get? S = some (set1O (hashStr w y) y u j led) → Heap.SameBut S h h' → Q true ⟨h', g, d, t', os⟩) : wpAny (model prog w) A (setAdd S (.str y u)) Q E ⟨h, g, d, t, os⟩ := by
  have hf : (SetTable.fresh 0 0 led).fits (#[] : Array (Int × Value)).size = true := rfl
  have hel : ElemsOf (strKind prog w) (#[] : Array (Int × Value)).toList := fun e he => by simp at he
  have hkey : (strKind prog w).is y (.str y u) = true := strKind_is _ _ _ _
  have hsc : (Value.str y u).scannable = true := rfl
  unfold setAdd
  refine wpAny_holding ?_
  refine wpAny_bind ((strKind prog w).pyHash (k := y) hkey ?_)
  unfold setAddHashed setAddHashedIn
  refine wpAny_holding (wpAny_bind (wpAny_setState_of (o := set0O led) ho rfl hf ?_))
  dsimp only
  rw [byScan_of hsc (by unfold scanBound; simp) hel]
  simp only [↓reduceIte]
  unfold setAddByScan
  refine wpAny_bind ?_
  refine wpAny_bind (wpAny_rule ?_)
  refine wpAny_bind (wpAny_setScan_of (knd := strKind prog w) (k := y) hkey (o := set0O led) ho rfl hf hel ?_)
  dsimp only [List.findIdx?]
  rw [lay_fresh]
  dsimp only
  refine wpAny_bind (wpAny_pure ?_)
  have hp : (SetTable.fresh 0 0 led).plain = true := rfl
  simp only [hp, if_true]
  refine wpAny_bind ?_
  rw [hashByValue_scannable 8 hsc]
  refine wpAny_pure ?_
  have hk0 : plainKind (Value.str y u) = false := rfl
  simp only [hk0, Bool.false_eq_true, if_false]
  refine wpAny_bind (wpAny_storeSet_of (o := set0O led) ho rfl ?_ (by rw [sizeLine_eq]; simp))
  have hg := Heap.get?_update_self (Obj.putSet #[((strKind prog w).hash y, Value.str y u)] { (SetTable.fresh 0 0 led) with place := #[SetTable.bits ((strKind prog w).hash y) % 8], plain := false }) ho rfl
  have htf : ({ (SetTable.fresh 0 0 led) with place := #[SetTable.bits ((strKind prog w).hash y) % 8], plain := false } : SetTable).tooFull = false := by rfl
  simp only [htf, Bool.and_false, Bool.false_eq_true, if_false]
  exact wpAny_pure (wpAny_pure (k _ _ (SetTable.bits ((strKind prog w).hash y) % 8) hg (Heap.SameBut.update ..)))
end

-- part L13c
noncomputable abbrev ledW (w : World) : Bool := !w.params.followText "set-order"
section
variable {prog : Program} {w : World} {A : Around} {E : Value → Shared → Prop} {H h₀ h : Heap} {g : Array GenState} {d : Drawn} {t : Nat} {os : OsState} {env : Env}
  {m mg mb : Str → Option Value} {σ : List (Addr × Obj)} {L : Addr}

theorem code_set_new1 (a : Value) {Q₁ : Value → Shared → Prop}
    (k : Q₁ (.ref h.objs.size) ⟨h.push (set0O (ledW w)), g, d, t, os⟩) :
    codeAny (model prog w) A (.call (.builtin "set.__new__") ⟨[.type "set", a], []⟩) (wants Q₁ E) ⟨h, g, d, t, os⟩ := by
  refine codeAny_of_tree ?_
  show wpAny _ A.in1 (do checkBuiltinCall "set.__new__" ⟨[.type "set", a], []⟩; again (.builtin "set.__new__" ⟨[.type "set", a], []⟩)) _ _ _
  refine wpAny_bind (wpAny_of_eq (PySem.F.newCall_set_1 a) (wpAny_pure ⟨plainId_quiet PySem.F.plain_set_new _, codeAny_builtin PySem.F.entry_set_new ?_⟩))
  rw [Around.under_plainId PySem.F.plain_set_new _]
  unfold Builtin.«set.__new__» Builtin.Frozenset.newClass
  have hsub := sub_set_self
  wp_walk
  refine wpAny_askSetting (wpAny_pure ?_)
  dsimp only
  simp only [newObj]
  refine wpAny_bind (wpAny_alloc (wpAny_pure ?_))
  exact wpAny_pure k
end

-- part L13d
section
variable {prog : Program} {w : World} {A : Around} {E : Value → Shared → Prop} {H h₀ h : Heap} {g : Array GenState} {d : Drawn} {t : Nat} {os : OsState} {env : Env}
  {m mg mb : Str → Option Value} {σ : List (Addr × Obj)} {L : Addr}

/-- the loop that fills a set, at a list of one text -/
theorem set_loop1 {S I l : Addr} {y : Str} {u : Tok} {led : Bool} {R : Result → Shared → Prop} (hh : A.handled = none) (ho : h.get? S = some (set0O led)) (hit : h.IsListIter I l 0) (hl : h.IsList l #[.str y u]) (h1 : S ≠ I) (h2 : S ≠ l) (h3 : I ≠ l)
    (k : ∀ h' t' j, h'.get? S = some (set1O (hashStr w y) y u j led) → (∀ b o, b ≠ S → b ≠ I → h.get? b = some o → h'.get? b = some o) → R (.ok (.ret .none)) ⟨h', g, d, t', os⟩) :
    codeAny (model prog w) A (.builtin "set.update.loop" ⟨[.ref S, .ref I], []⟩) R ⟨h, g, d, t, os⟩ := by
  refine codeAny_builtin PyProof.Rows.F.entry_set_update_loop ?_
  rw [Around.under_plainId PyProof.Rows.F.plain_set_update_loop _]
  show wpAny _ A.in1 (pyNext (.ref I) >>= _) _ _ _
  refine wpAny_bind (wpAny_pyNext_list_item hit hl (x := .str y u) rfl fun h' hit' hs' => ?_)
  show wpAny _ A.in1 (holding [Value.str y u] (setAdd S (.str y u)) >>= _) _ _ _
  refine wpAny_bind (wpAny_holding (set_add1 (by rw [hs'.2 _ h1]; exact ho) fun h'' t'' j ho'' hs'' => ?_))
  refine wpAny_pure ⟨plainId_quiet PyProof.Rows.F.plain_set_update_loop _, ?_⟩
  refine codeAny_builtin PyProof.Rows.F.entry_set_update_loop ?_
  rw [Around.under_plainId PyProof.Rows.F.plain_set_update_loop _]
  show wpAny _ A.in1 (pyNext (.ref I) >>= _) _ _ _
  refine wpAny_bind (wpAny_pyNext_list_end hh (hit'.extBut hs''.extBut (Ne.symm h1)) ((hl.extBut hs'.extBut (Ne.symm h3)).extBut hs''.extBut (Ne.symm h2)) rfl fun h₃ he₃ => ?_)
  show wpAny _ A.in1 (ret Value.none) _ _ _
  exact wpAny_pure (k h₃ _ j (he₃ _ _ h1 ho'') fun b o b1 b2 e => he₃ _ _ b2 ((hs''.2 _ b1).trans ((hs'.2 _ b2).trans e)))

set_option maxHeartbeats 3200000 in
/-- set([y]) -/
theorem c_set1 {l : Addr} {y : Str} {u : Tok} {Q : Value → Shared → Prop} (F : Fx H h₀ L h m σ) (hh : A.handled = none) (hl : h.IsList l #[.str y u])
    (k : ∀ S h' t' j, Fx H h₀ L h' m ((S, set1O (hashStr w y) y u j (ledW w)) :: σ) → Q (.ref S) ⟨h', g, d, t', os⟩) :
    wpAny (model prog w) A (call (.type "set") [.ref l]) Q E ⟨h, g, d, t, os⟩ := by
  obtain ⟨c, tl, hmro⟩ := PySem.F.called_set.mro
  have hmade := PySem.F.called_set.made
  have hsub := PySem.F.called_set.sub
  refine wpAny_call (codeAny_of_tree ?_)
  show wpAny _ _ (callAny (.type "set") _) _ _ _
  refine wpAny_pure ⟨Code.quiet_builtin _ (by decide +kernel), codeAny_builtin PySem.F.entry_type_call ?_⟩
  rw [Around.under_plain (weight_type_call_type "set" [.ref l] []) rfl]
  have h1 := PySem.F.called_set.notType
  have h2 := PySem.F.called_set.canCreate
  have hct := PySem.F.typeCall_set_1 (.ref l)
  repeat (any_goals (first | assumption | wp_step))
  refine codeAny_mono (code_set_new1 (.ref l) (E := E) (Q₁ := fun obj s₁ => obj = .ref h.objs.size ∧ s₁ = ⟨h.push (set0O (ledW w)), g, d, t, os⟩) ⟨rfl, rfl⟩) fun r s₁ hr => ?_
  cases r with
  | error e => exact hr
  | ok fl =>
    cases fl with
    | ret obj =>
      obtain ⟨rfl, rfl⟩ := hr
      have hS : (h.push (set0O (ledW w))).get? h.objs.size = some (set0O (ledW w)) := Heap.get?_push_size _ rfl
      have hT : Shared.TypeIs ⟨h.push (set0O (ledW w)), g, d, t, os⟩ (.ref h.objs.size) "set" := ⟨_, hS, rfl⟩
      have hli := PySem.F.called_set.init.lookup
      have hbi := PySem.F.called_set.init.bind (.ref h.objs.size)
      repeat (any_goals (first | assumption | wp_step))
      refine codeAny_mono (codeAny_call_builtin (R := wants (fun r s₂ => r = .none ∧ ∃ h' t' j, s₂ = ⟨h', g, d, t', os⟩ ∧ h'.get? h.objs.size = some (set1O (hashStr w y) y u j (ledW w)) ∧
          (∀ b o, b < h.objs.size → h.get? b = some o → h'.get? b = some o)) E) PySem.F.called_set.init.plain PySem.F.entry_set_init (check_set_init_1 hT ?_)) fun r₂ s₂ hr₂ => ?_
      · have hsls := PySem.F.sub_list_set
        have hslf := PySem.F.sub_list_frozenset
        have hne : (Value.type "list" == Value.type "dict") = false := by decide
        have hlS : l < h.objs.size := by obtain ⟨o, e, _⟩ := hl; exact Heap.lt_size e
        obtain ⟨ol, hol, hcl, nl, hdl⟩ := hl
        obtain ⟨ocls, odict, odata, oslots⟩ := ol
        simp only at hcl hdl
        subst hcl; subst hdl
        have hol' : (h.push (set0O (ledW w))).get? l = some { cls := .type "list", dict := odict, data := .seq #[.str y u] nl, slots := oslots } := Heap.get?_push_of_some _ hol
        have hl1 : (h.push (set0O (ledW w))).IsList l #[.str y u] := ⟨_, hol', rfl, nl, rfl⟩
        unfold Builtin.«set.__init__» noKeywords Builtin.Frozenset.updateFrom
        generalize hPI : pyIter = PI
        wp_walk
        subst hPI
        refine wpAny_pyIter_list hl1 ?_
        refine wpAny_bind (wpAny_runValue ?_)
        have hh3 : A.in1.in1.in1.handled = none := by simp [hh]
        refine set_loop1 (l := l) (y := y) (u := u) (led := ledW w) hh3 (Heap.get?_push_of_some _ hS) ⟨_, Heap.get?_push_size _ rfl, rfl, rfl⟩ (hl1.push _) (by rw [Heap.size_push]; exact Nat.ne_of_lt (Nat.lt_succ_self _)) (Nat.ne_of_gt hlS)
          (by rw [Heap.size_push]; exact Nat.ne_of_gt (Nat.lt_succ_of_lt hlS)) fun h' t' j e1 e2 => ?_
        show wpAny _ _ _ _ _ _
        refine wpAny_pure ?_
        show wpAny _ _ (ret Value.none) _ _ _
        refine wpAny_pure ⟨rfl, h', t', j, rfl, e1, fun b o hb e => e2 b o (Nat.ne_of_lt hb) (by rw [Heap.size_push]; exact Nat.ne_of_lt (Nat.lt_succ_of_lt hb)) (Heap.get?_push_of_some _ (Heap.get?_push_of_some _ e))⟩
      · cases r₂ with
        | error e => exact hr₂
        | ok fl₂ =>
          cases fl₂ with
          | ret r =>
            obtain ⟨rfl, h', t', j, rfl, hS', hk'⟩ := hr₂
            repeat (any_goals (first | assumption | wp_step))
            have kp : Kp H h h' := Kp.of_keeps fun b o e => hk' b o (Heap.lt_size e) e
            have fr : Fresh H h h' [(h.objs.size, set1O (hashStr w y) y u j (ledW w))] :=
              ⟨fun p hp => by rw [List.mem_singleton] at hp; subst hp; exact ⟨hS', Nat.le_refl _, ncl rfl⟩, fun p hp => by rw [List.mem_singleton] at hp; subst hp; exact (fun fd e => by cases e), by simp⟩
            exact k _ h' t' j (F.take kp fr)
          | _ => exact hr₂.elim
    | _ => exact hr.elim
end

-- part L14
theorem slot_seti_next : Slot "set_iterator" "__next__" "set_iterator.__next__" := .of (owner := "set_iterator") (n := "__next__") (by rw [typeLookup_type, builtinLookup_eq_fast]; kernel_rfl) (by decide +kernel) (by decide +kernel) (by decide +kernel)
    (by first | exact .inl (by decide +kernel) | exact .inr (by decide +kernel)) (by rw [isSubtype_type]; kernel_rfl)
theorem slot_seti_iter : Slot "set_iterator" "__iter__" "set_iterator.__iter__" := .of (owner := "set_iterator") (n := "__iter__") (by rw [typeLookup_type, builtinLookup_eq_fast]; kernel_rfl) (by decide +kernel) (by decide +kernel) (by decide +kernel)
    (by first | exact .inl (by decide +kernel) | exact .inr (by decide +kernel)) (by rw [isSubtype_type]; kernel_rfl)
theorem entry_seti_next : entryFor table "set_iterator.__next__" = some Builtin.«set_iterator.__next__» := entryFor_of_tree (by kernel_rfl)
theorem entry_seti_iter : entryFor table "set_iterator.__iter__" = some Builtin.«dict_keyiterator.__iter__» := entryFor_alias (id' := "dict_keyiterator.__iter__") (by kernel_rfl) rfl (by decide +kernel) (by kernel_rfl)
theorem entry_set_iter : entryFor table "set.__iter__" = some Builtin.«frozenset.__iter__» := entryFor_alias (id' := "frozenset.__iter__") (by kernel_rfl) rfl (by decide +kernel) (by kernel_rfl)
theorem args_seti_next (a : Value) : argsOk "set_iterator.__next__" ⟨[a], []⟩ := by unfold argsOk; kernel_rfl
theorem args_seti_iter (a : Value) : argsOk "set_iterator.__iter__" ⟨[a], []⟩ := by unfold argsOk; kernel_rfl

theorem setDrawn_eq (a : Addr) : setDrawn a = (do let x ← setState a; let b ← setsByText; return !b && (!x.2.2.plain && decide (x.1.size > 1))) := rfl
theorem setWalk_eq (a : Addr) : setWalk a = (do
  let x ← setState a
  if ← setsByText then return pickOrder ((← ask).params.setOrder a x.2.1) x.1
  if (!x.2.2.plain && decide (x.1.size > 1)) then return (← drawOrder x.1.size x.1.toList).toArray
  (if !x.2.2.led && x.1.size > 1 then unsupported "set:maker-not-led" else pure () : Sem Unit)
  return x.1) := rfl
theorem setNext_eq (a : Addr) (slot given epochThen : Nat) : setNext a slot given epochThen = (do
  let x ← setState a
  if ← setsByText then
    if x.2.1 != epochThen then unsupported "set_iterator.__next__:elements-changed"
    return ((← setWalk a)[given]?).map fun e => (e.2, slot)
  if (!x.2.2.plain && decide (x.1.size > 1)) then unsupported "set_iterator.__next__:the-table-is-plain-no-more"
  (if !x.2.2.led && !x.1.isEmpty then unsupported "set:maker-not-led" else pure () : Sem Unit)
  let i := SetTable.below x.2.2.place slot
  return match x.1[i]?, x.2.2.place[i]? with
    | some (_, x), some j => some (x, j + 1)
    | _, _ => none) := rfl

/-- a set of at most one text -/
inductive SetIs (w : World) : Obj → List (Str × Tok) → Prop
  | nil (led : Bool) : SetIs w (set0O led) []
  | one (y : Str) (u : Tok) (j : Nat) : SetIs w (set1O (hashStr w y) y u j (ledW w)) [(y, u)]
theorem pick1 {α : Type} (f : Nat → Nat) (x : α) : pickOrder f #[x] = #[x] := by
  unfold pickOrder; simp [pickOrder.go]
  rw [Nat.mod_one]; rfl
theorem pick0 {α : Type} (f : Nat → Nat) : pickOrder f (#[] : Array α) = #[] := rfl

section
variable {prog : Program} {w : World} {A : Around} {E : Value → Shared → Prop} {H h₀ h : Heap} {g : Array GenState} {d : Drawn} {t : Nat} {os : OsState} {env : Env}
  {m mg mb : Str → Option Value} {σ : List (Addr × Obj)} {L : Addr} {names : List (Str × NameKind)} {cells : List (Str × Addr)}
theorem SetIs.exact {o : Obj} {ys : List (Str × Tok)} (x : SetIs w o ys) : o.ExactSet := by cases x <;> exact ⟨rfl, rfl, rfl⟩
theorem SetIs.ncl {o : Obj} {ys : List (Str × Tok)} (x : SetIs w o ys) : NoCode o ∧ ∀ fd, o.data ≠ .func fd := by cases x <;> exact ⟨Mine.ncl rfl, fun fd e => by cases e⟩
theorem SetIs.setOf {o : Obj} {ys : List (Str × Tok)} (x : SetIs w o ys) {S : Addr} (ho : h.get? S = some o) : h.SetOf (strKind prog w) S (fun k => decide (k ∈ ys.map (·.1))) ys.length := by
  cases x with
  | nil led => exact ⟨_, #[], 0, _, ho, ⟨rfl, rfl, rfl⟩, rfl, fun e he => by simp at he, fun k => by simp, by unfold scanBound; simp, rfl, rfl⟩
  | one y u j =>
    refine ⟨_, #[(hashStr w y, .str y u)], 1, _, ho, ⟨rfl, rfl, rfl⟩, rfl, fun e he => ?_, fun k => ?_, by unfold scanBound; simp, rfl, rfl⟩
    · simp only [List.mem_singleton] at he
      subst he
      exact ⟨⟨y, strKind_is _ _ _ _, rfl⟩, rfl⟩
    · simp only [List.map_cons, List.map_nil, List.mem_singleton, decide_eq_true_eq]
      constructor
      · rintro rfl; exact ⟨_, rfl, strKind_is _ _ _ _⟩
      · rintro ⟨e, rfl, hk⟩
        exact (strKind prog w).inj _ _ _ hk (strKind_is _ _ _ _)
/-- x in a set -/
theorem set_in {o : Obj} {ys : List (Str × Tok)} (x : SetIs w o ys) {S : Addr} (ho : h.get? S = some o) {y : Str} {u : Tok} {Q : Value → Shared → Prop} (k : ∀ t', Q (.bool (decide (y ∈ ys.map (·.1)))) ⟨h, g, d, t', os⟩) :
    wpAny (model prog w) A (compareOp .In (.str y u) (.ref S)) Q E ⟨h, g, d, t, os⟩ := wpAny_inSet_of (strKind_is _ _ _ _) rfl (x.setOf ho) (k _)

theorem state_of {o : Obj} {ys : List (Str × Tok)} (x : SetIs w o ys) {S : Addr} (ho : h.get? S = some o) {Q : (Array (Int × Value) × Nat × SetTable) → Shared → Prop} {es : Array (Int × Value)} {ep : Nat} {tb : SetTable} (hd : o.data = .set es ep tb)
    (k : Q (es, ep, tb) ⟨h, g, d, t, os⟩) : wpAny (model prog w) A (setState S) Q E ⟨h, g, d, t, os⟩ := by
  refine wpAny_setState_of ho hd ?_ k
  cases x <;> (cases hd; rfl)
end

-- part L15
noncomputable abbrev siO (S : Addr) (slot i n ep : Nat) : Obj := { cls := .type "set_iterator", data := .fields #[rawInt slot, rawInt i, .ref S, rawInt n, rawInt ep] }
section
variable {prog : Program} {w : World} {A : Around} {E : Value → Shared → Prop} {H h₀ h : Heap} {g : Array GenState} {d : Drawn} {t : Nat} {os : OsState} {env : Env}
  {m mg mb : Str → Option Value} {σ : List (Addr × Obj)} {L : Addr} {names : List (Str × NameKind)} {cells : List (Str × Addr)}
theorem SetIs.data {o : Obj} {ys : List (Str × Tok)} (x : SetIs w o ys) : ∃ es ep tb, o.data = .set es ep tb ∧ es.size = ys.length ∧ ep = ys.length := by
  cases x with
  | nil led => exact ⟨_, _, _, rfl, rfl, rfl⟩
  | one y u j => exact ⟨_, _, _, rfl, rfl, rfl⟩
theorem SetIs.small {o : Obj} {ys : List (Str × Tok)} (x : SetIs w o ys) : ys.length ≤ 1 := by cases x <;> simp

set_option maxHeartbeats 1000000 in
theorem iter_set {o : Obj} {ys : List (Str × Tok)} (x : SetIs w o ys) {S : Addr} (ho : h.get? S = some o) {Q : Value → Shared → Prop} (k : Q (.ref h.objs.size) ⟨h.push (siO S 0 0 ys.length ys.length), g, d, t, os⟩) :
    wpAny (model prog w) A (pyIter (.ref S)) Q E ⟨h, g, d, t, os⟩ := by
  have hT : Shared.TypeIs ⟨h, g, d, t, os⟩ (.ref S) "set" := ⟨o, ho, x.exact.1⟩
  obtain ⟨es, ep, tb, hd, hs, hep⟩ := x.data
  have hsm := x.small
  refine wpAny_pyIter_slot hT PySem.F.slot_set_iter (wpAny_call_entry PySem.F.slot_set_iter hT entry_set_iter ?_ (PySem.F.args_set_iter_1 _))
  unfold Builtin.«frozenset.__iter__» Builtin.Frozenset.slot0 Builtin.Frozenset.sizeOf setEntries setEpoch
  rw [show ∀ a b, slotArgs a b ⟨[Value.ref S], []⟩ = slotArgs a b ⟨[Value.ref S], []⟩ from fun _ _ => rfl]
  unfold slotArgs
  simp only [List.isEmpty_nil, Bool.not_true, Bool.false_eq_true, ↓reduceIte, bind_assoc, List.length_nil, bne_self_eq_false]
  unfold Builtin.Frozenset.addrOf
  refine wpAny_bind (wpAny_pure ?_)
  try dsimp only
  refine wpAny_bind (wpAny_pure ?_)
  simp only [bind_assoc, pure_bind]
  refine wpAny_bind (state_of x ho hd ?_)
  rw [setDrawn_eq]
  simp only [bind_assoc, pure_bind]
  refine wpAny_bind (state_of x ho hd ?_)
  refine wpAny_bind ?_
  unfold setsByText
  refine wpAny_bind (wpAny_askSetting (wpAny_pure ?_))
  have hz : decide (es.size > 1) = false := decide_eq_false (by lia)
  simp only [hz, Bool.and_false, Bool.false_eq_true, if_false, pure_bind]
  refine wpAny_bind (state_of x ho hd ?_)
  refine wpAny_bind (wpAny_newObj_type ?_ (by size_fits))
  refine wpAny_pure ⟨_, rfl, "set_iterator", _, ⟨_, Heap.get?_push_size _ rfl, rfl⟩, slot_seti_next.lookup, ?_⟩
  rw [hs, hep]
  exact k
end

-- part L16
theorem below1_0 (j : Nat) : SetTable.below #[j] 0 = 0 := by
  unfold SetTable.below
  simp [SetTable.below.go]
theorem below1_s (j : Nat) : SetTable.below #[j] (j + 1) = 1 := by
  unfold SetTable.below
  simp [SetTable.below.go]
/-- where the walk through a set of one stands -/
noncomputable def slotAt (w : World) (j : Nat) : Nat → Nat
  | 0 => 0
  | _ => if ledW w then j + 1 else 0
section
variable {prog : Program} {w : World} {A : Around} {E : Value → Shared → Prop} {H h₀ h : Heap} {g : Array GenState} {d : Drawn} {t : Nat} {os : OsState} {env : Env}
  {m mg mb : Str → Option Value} {σ : List (Addr × Obj)} {L : Addr} {names : List (Str × NameKind)} {cells : List (Str × Addr)}
theorem byText_of {Q : Bool → Shared → Prop} (k : Q (w.params.followText "set-order") ⟨h, g, d, t, os⟩) : wpAny (model prog w) A setsByText Q E ⟨h, g, d, t, os⟩ := by
  unfold setsByText
  exact wpAny_bind (wpAny_askSetting (wpAny_pure k))
theorem walk_text {S : Addr} {o : Obj} {ys : List (Str × Tok)} (x : SetIs w o ys) (ho : h.get? S = some o) (hb : w.params.followText "set-order" = true) {Q : Array (Int × Value) → Shared → Prop} {es : Array (Int × Value)} {ep : Nat} {tb : SetTable} (hd : o.data = .set es ep tb)
    (k : Q es ⟨h, g, d, t, os⟩) : wpAny (model prog w) A (setWalk S) Q E ⟨h, g, d, t, os⟩ := by
  rw [setWalk_eq]
  refine wpAny_bind (state_of x ho hd (wpAny_bind (byText_of ?_)))
  rw [hb, if_pos rfl]
  refine wpAny_bind (wpAny_askSetting (wpAny_pure ?_))
  cases x with
  | nil led => cases hd; exact k
  | one y u j => cases hd; rw [pick1]; exact k
theorem next_one {S : Addr} {y : Str} {u : Tok} {j : Nat} (ho : h.get? S = some (set1O (hashStr w y) y u j (ledW w))) {Q : Option (Value × Nat) → Shared → Prop} (k : Q (some (.str y u, slotAt w j 1)) ⟨h, g, d, t, os⟩) :
    wpAny (model prog w) A (setNext S 0 0 1) Q E ⟨h, g, d, t, os⟩ := by
  have x := SetIs.one (w := w) y u j
  rw [setNext_eq]
  refine wpAny_bind (state_of x ho rfl (wpAny_bind (byText_of ?_)))
  cases hb : w.params.followText "set-order" with
  | true =>
    rw [if_pos rfl]
    rw [if_neg (show ¬ ((1 : Nat) != 1) = true by decide)]
    refine wpAny_bind (walk_text x ho hb rfl (wpAny_pure ?_))
    simpa [slotAt, ledW, hb] using k
  | false =>
    simp only [Bool.false_eq_true, if_false]
    have e1 : (!(set1T j (ledW w)).plain && decide ((#[(hashStr w y, Value.str y u)] : Array (Int × Value)).size > 1)) = false := rfl
    have e2 : (!(set1T j (ledW w)).led && !(#[(hashStr w y, Value.str y u)] : Array (Int × Value)).isEmpty) = false := by show (!(!w.params.followText "set-order") && _) = _; rw [hb]; rfl
    simp only [e1, e2, Bool.false_eq_true, if_false]
    refine wpAny_bind (wpAny_pure (wpAny_pure ?_))
    have e3 : SetTable.below (set1T j (ledW w)).place 0 = 0 := below1_0 j
    rw [e3]
    simpa [slotAt, ledW, hb] using k
theorem next_end {S : Addr} {o : Obj} {ys : List (Str × Tok)} (x : SetIs w o ys) (ho : h.get? S = some o) (slot : Nat) (hs : ∀ y u j, o = set1O (hashStr w y) y u j (ledW w) → slot = slotAt w j 1) {Q : Option (Value × Nat) → Shared → Prop} (k : Q none ⟨h, g, d, t, os⟩) :
    wpAny (model prog w) A (setNext S slot ys.length ys.length) Q E ⟨h, g, d, t, os⟩ := by
  obtain ⟨es, ep, tb, hd, hz, hep⟩ := x.data
  rw [setNext_eq]
  refine wpAny_bind (state_of x ho hd (wpAny_bind (byText_of ?_)))
  cases hb : w.params.followText "set-order" with
  | true =>
    rw [if_pos rfl]
    have e0 : (ep != ys.length) = false := by rw [hep]; simp
    simp only [e0, Bool.false_eq_true, if_false]
    refine wpAny_bind (walk_text x ho hb hd (wpAny_pure ?_))
    rw [Array.getElem?_eq_none (by lia)]
    exact k
  | false =>
    simp only [Bool.false_eq_true, if_false]
    have e1 : (!tb.plain && decide (es.size > 1)) = false := by have := x.small; rw [decide_eq_false (by lia), Bool.and_false]
    have e2 : (!tb.led && !es.isEmpty) = false := by
      cases x with
      | nil led => cases hd; simp
      | one y u j => cases hd; show (!(!w.params.followText "set-order") && _) = _; rw [hb]; rfl
    simp only [e1, e2, Bool.false_eq_true, if_false]
    refine wpAny_bind (wpAny_pure (wpAny_pure ?_))
    cases x with
    | nil led => cases hd; exact k
    | one y u j =>
      cases hd
      have := hs y u j rfl
      subst this
      have e3 : SetTable.below (set1T j (ledW w)).place (slotAt w j 1) = 1 := by
        show SetTable.below #[j] (if ledW w = true then j + 1 else 0) = 1
        rw [if_pos (by show (!w.params.followText "set-order") = true; rw [hb]; rfl)]
        exact below1_s j
      rw [e3]
      exact k

set_option maxHeartbeats 2000000 in
/-- the walk through a set of at most one text -/
theorem it_set {S it : Addr} {o : Obj} {ys : List (Str × Tok)} (hh : A.handled = none) (x : SetIs w o ys) (hne : S ≠ it) :
    ItOk prog w A it ys.length (fun i ob => ∃ slot, ob = siO S slot i ys.length ys.length ∧ (i = 0 → slot = 0) ∧ ∀ y u j, i = 1 → o = set1O (hashStr w y) y u j (ledW w) → slot = slotAt w j 1) (fun i v => ∃ y u, ys[i]? = some (y, u) ∧ v = .str y u) (fun h => h.get? S = some o) where
  item := by
    rintro i h ob g d t os Q E hi hit ⟨slot, rfl, s0, _⟩ ho k
    have hT : Shared.TypeIs ⟨h, g, d, t, os⟩ (.ref it) "set_iterator" := ⟨_, hit, rfl⟩
    cases x with
    | nil led => exact absurd hi (Nat.not_lt_zero _)
    | one y u j =>
      have hi0 : i = 0 := by simpa using hi
      subst hi0
      have := s0 rfl
      subst this
      unfold pyNext
      refine wpAny_bind (wpAny_attempt (wpAny_callSpecial?_slot (name := Str.ofString "__next__") hT slot_seti_next
        (wpAny_call_entry slot_seti_next hT entry_seti_next ?_ (args_seti_next _))))
      unfold Builtin.«set_iterator.__next__» setEntries
      unfold slotArgs
      simp only [List.isEmpty_nil, Bool.not_true, Bool.false_eq_true, ↓reduceIte, bind_assoc, List.length_nil, bne_self_eq_false, pure_bind]
      unfold fieldsOf
      simp only [bind_assoc, pure_bind]
      refine wpAny_bind (wpAny_load hit ?_)
      simp only [rawInt, pure_bind]
      refine wpAny_bind (state_of (SetIs.one y u j) ho rfl ?_)
      rw [if_neg (by simp)]
      simp only [pure_bind, List.length_singleton, Int.toNat_natCast]
      refine wpAny_bind (next_one ho ?_)
      dsimp only
      refine wpAny_bind (wpAny_setField hit rfl (by simp) ?_)
      have g1 := Heap.get?_update_self (Obj.mapFields (·.setIfInBounds 0 (rawInt (slotAt w j 1 : Nat)))) hit rfl
      refine wpAny_bind (wpAny_setField g1 rfl (by simp) (wpAny_pure ⟨_, rfl, wpAny_pure (k (.str y u) _ (siO S (slotAt w j 1) 1 1 1) _ ⟨y, u, rfl, rfl⟩ ?_ ⟨_, rfl, nofun, ?_⟩ ?_)⟩))
      · exact Heap.get?_update_self _ g1 rfl
      · intro y' u' j' _ e
        have : j' = j := by
          injection e with _ _ e; injection e with _ _ e; injection e with _ e; injection e with e; injection e with e; exact e.symm
        rw [this]
      · exact (Heap.SameBut.update ..).trans (Heap.SameBut.update ..)
  done := by
    rintro h ob g d t os Q E hit ⟨slot, rfl, _, s1⟩ ho k
    have hT : Shared.TypeIs ⟨h, g, d, t, os⟩ (.ref it) "set_iterator" := ⟨_, hit, rfl⟩
    obtain ⟨es, ep, tb, hd, hz, hep⟩ := x.data
    unfold pyNext
    refine wpAny_bind (wpAny_attempt (wpAny_callSpecial?_slot (name := Str.ofString "__next__") hT slot_seti_next
        (wpAny_call_entry slot_seti_next hT entry_seti_next ?_ (args_seti_next _))))
    unfold Builtin.«set_iterator.__next__» setEntries
    unfold slotArgs
    simp only [List.isEmpty_nil, Bool.not_true, Bool.false_eq_true, ↓reduceIte, bind_assoc, List.length_nil, bne_self_eq_false, pure_bind]
    unfold fieldsOf
    simp only [bind_assoc, pure_bind]
    refine wpAny_bind (wpAny_load hit ?_)
    simp only [rawInt, pure_bind]
    refine wpAny_bind (state_of x ho hd ?_)
    rw [if_neg (by rw [hz]; simp)]
    simp only [pure_bind, Int.toNat_natCast]
    refine wpAny_bind (next_end x ho slot (fun y u j e => s1 y u j (by rw [e] at hd; injection hd with a b c; rw [← hz, ← a]; rfl) e) ?_)
    dsimp only
    refine wpAny_bind (wpAny_setField hit rfl (by simp) ?_)
    show wpAny _ _ (newExc (.type "StopIteration") [] >>= _) _ _ _
    refine wpAny_bind ?_
    simp only [newExc, newTuple]
    refine wpAny_bind (wpAny_newObj_type ?_ (by size_fits))
    refine wpAny_bind (m := firstArgMember _ _) (wpAny_of_eq (a := Value.none) (by first | rfl | (simp only [firstArgMember]; rfl)) ?_)
    refine wpAny_newObj_type ?_ (by size_fits)
    simp only [raiseNew]
    refine wpAny_bind (wpAny_handled ?_)
    rw [show A.in1.handled = none from hh]
    refine wpAny_bind (wpAny_pure (wpAny_throw ?_))
    refine wpAny_bind (wpAny_isInstance (T := "StopIteration") (b := true) ⟨_, Heap.get?_push_size _ rfl, rfl⟩ isSubtype_stop ?_)
    exact wpAny_pure (k _ _ (((Heap.SameBut.update ..).extBut.push _).push _))
  self := by
    rintro i h ob g d t os Q E hit ⟨slot, rfl, _, _⟩ k
    have hT : Shared.TypeIs ⟨h, g, d, t, os⟩ (.ref it) "set_iterator" := ⟨_, hit, rfl⟩
    refine wpAny_pyIter_slot hT slot_seti_iter (wpAny_call_entry slot_seti_iter hT entry_seti_iter ?_ (args_seti_iter _))
    show wpAny _ _ (ret (.ref it)) _ _ _
    exact wpAny_pure ⟨_, rfl, "set_iterator", _, hT, slot_seti_next.lookup, k⟩
  nc := by
    rintro i ob ⟨slot, rfl, _⟩
    exact ⟨ncl rfl, fun fd e => by cases e⟩
end

-- part L17
section
variable {prog : Program} {w : World} {A : Around} {E : Value → Shared → Prop} {H h₀ h : Heap} {g : Array GenState} {d : Drawn} {t : Nat} {os : OsState} {env : Env}
  {m mg mb : Str → Option Value} {σ : List (Addr × Obj)} {L : Addr} {names : List (Str × NameKind)} {cells : List (Str × Addr)}

/-- for over a set of at most one text -/
theorem for_set {x : Str} {px : Pos} {body : List Stmt} {S : Addr} {oS : Obj} {ys : List (Str × Tok)} {Q : Flow → Shared → Prop} (X : SetIs w oS ys) (hS : h.get? S = some oS)
    (I : Nat → (Str → Option Value) → List (Addr × Obj) → Prop) (F : Fx H h₀ L h m σ) (V : EnvIs env names L cells) (hh : A.handled = none) (hx : names.lookup x = some .local) (h0 : I 0 m σ)
    (cond : ∀ i h m σ, I i m σ → Fx H h₀ L h m σ → h.get? S = some oS)
    (turn : ∀ (i : Nat) h t m σ y u it o, ys[i]? = some (y, u) → I i m σ → Fx H h₀ L h (upd m x (.str y u)) ((it, o) :: σ) →
      wpAny (model prog w) A (execs body env) (Turn H h₀ L g d os (fun m' σ' => ∃ σ₂, σ' = (it, o) :: σ₂ ∧ I (i + 1) m' σ₂) Q) NoE ⟨h, g, d, t, os⟩)
    (done : ∀ h t m σ, I ys.length m σ → Fx H h₀ L h m σ → Q .next ⟨h, g, d, t, os⟩) :
    ForAt (model prog w) A env (.Name x px) body Q (.ref S) ⟨h, g, d, t, os⟩ := by
  refine iter_set X hS ?_
  have F1 := F.push (siO S 0 0 ys.length ys.length) rfl (ncl rfl)
  refine for_iter (it_set hh X (Nat.ne_of_lt (Heap.lt_size hS))) I F1 ⟨0, rfl, fun _ => rfl, nofun⟩ V hx h0 cond (fun i h t m σ v o _ hI hP _ F => ?_) done
  obtain ⟨y, u, e, rfl⟩ := hP
  exact turn i h t m σ y u _ o e hI F

theorem instAt_of {x dx : Addr} {od : Obj} (h1 : h.get? x = some (instObj 86 dx)) (h2 : h.get? dx = some od) : W.InstAt h x (instObj 86 dx) 86 (some od) := ⟨h1, rfl, rfl, h2⟩
theorem ig_ga (w : World) : findIn (Kg w) (.ref 86) "__getattribute__" = some (some (.builtin "object.__getattribute__")) := by kernel_rfl
theorem ig_g (w : World) : findIn (Kg w) (.ref 86) "__getattr__" = some none := by kernel_rfl
theorem ig_mods (w : World) : findIn (Kg w) (.ref 86) "_mods" = some none := by kernel_rfl
theorem ig_dirs (w : World) : findIn (Kg w) (.ref 86) "_dirs" = some none := by kernel_rfl
theorem ig_ignore (w : World) : findIn (Kg w) (.ref 86) "_ignore" = some none := by kernel_rfl
theorem ig_names (w : World) : findIn (Kg w) (.ref 86) "names" = some (some (.ref 83)) := by kernel_rfl
theorem ig_init (w : World) : findIn (Kg w) (.ref 86) "__init__" = some (some (.ref 76)) := by kernel_rfl
theorem ig_set (w : World) : findIn (Kg w) (.ref 86) "__setattr__" = some (some (.builtin "object.__setattr__")) := by kernel_rfl
theorem ig_over (w : World) : plainOver (Kg w) 86 = true := by kernel_rfl
theorem ig_t1 (w : World) : takerIn (Kg w) 86 "_mods" = some none := by kernel_rfl
theorem ig_t2 (w : World) : takerIn (Kg w) 86 "_dirs" = some none := by kernel_rfl
theorem ig_t3 (w : World) : takerIn (Kg w) 86 "_ignore" = some none := by kernel_rfl
theorem ig_dict (w : World) : hasDictIn (Kg w) 86 = true := by kernel_rfl
theorem ig_makes (w : World) : makesIn (Kg w) 86 = true := by kernel_rfl
theorem ig_f83 (w : World) : typeIn (Kg w) (.ref 83) = some (.type "function") := by kernel_rfl
theorem ig_f76 (w : World) : typeIn (Kg w) (.ref 76) = some (.type "function") := by kernel_rfl
theorem ig_weight (rest : List Value) (kw : List (Str × Value)) : (Code.builtin "type.__call__" ⟨.ref 86 :: rest, kw⟩).weight = 1 := by kernel_rfl
theorem ig_units (rest : List Value) (kw : List (Str × Value)) : (Code.builtin "type.__call__" ⟨.ref 86 :: rest, kw⟩).cUnits = 1 := by kernel_rfl

/-- self.name is read -/
theorem i_get {x dx : Addr} {od : Obj} {mI : Str → Option Value} {sz : Nat} {name : Str} {v : Value} {ex : Bool} {Q : Value → Shared → Prop} (G : Glb w H mg mb) (K0 : Kp H H h) (h1 : h.get? x = some (instObj 86 dx)) (h2 : h.get? dx = some od) (n : NsO od mI sz)
    (hf : findIn (Kg w) (.ref 86) name = some none) (hv : mI name = some v) (hh : handedIn v = true) (k : ∀ t', Q v ⟨h, g, d, t', os⟩) : wpAny (model prog w) A (getAttr (.ref x) name ex) Q E ⟨h, g, d, t, os⟩ :=
  get_value (G.kin K0) (instAt_of h1 h2) (ig_ga w) (findObj_own (ig_dict w) hf rfl (by rw [n.look, hv])) hh (k _)
/-- self.names, to be called -/
theorem i_names {x dx : Addr} {od : Obj} {mI : Str → Option Value} {sz : Nat} {pl : Sem Bool} {Q : Value × List Value → Shared → Prop} (G : Glb w H mg mb) (K0 : Kp H H h) (h1 : h.get? x = some (instObj 86 dx)) (h2 : h.get? dx = some od) (n : NsO od mI sz)
    (hv : mI "names" = none) (k : Q (.ref 83, [.ref x]) ⟨h, g, d, t, os⟩) : wpAny (model prog w) A (getMethod (.ref x) "names" pl) Q E ⟨h, g, d, t, os⟩ :=
  method_fn (G.kin K0) (instAt_of h1 h2) (ig_ga w) (ig_g w) (ig_names w) (ig_f83 w) (by show (lookIn "names" od).map _ = _; rw [n.look, hv]; rfl) k

set_option maxHeartbeats 1000000 in
/-- self.name = v -/
theorem i_set {x dx : Addr} {od : Obj} {mI : Str → Option Value} {sz : Nat} {name : Str} {v : Value} {Q : Unit → Shared → Prop} {gσ : Obj → List (Addr × Obj)} (G : Glb w H mg mb) (K0 : Kp H H h₀) (F : Fx H h₀ L h m σ) (hx : (x, instObj 86 dx) ∈ σ) (U : ∀ o', Up dx od o' σ (gσ o')) (n : NsO od mI sz) (hsz : sz < 1000)
    (ht : takerIn (Kg w) 86 name = some none) (k : ∀ o' h' t', Fx H h₀ L h' m (gσ o') → NsO o' (upd mI name v) (sz + 1) → Q () ⟨h', g, d, t', os⟩) : wpAny (model prog w) A (setAttr (.ref x) name v) Q E ⟨h, g, d, t, os⟩ := by
  have X := G.kin (K0.trans F.kp)
  have h1 := F.get hx
  have h2 := F.get (U od).mem
  have I := instAt_of h1 h2
  refine set_plain X I (ig_set w) (osa_open X I (ig_over w) ht fun b => ?_)
  obtain ⟨cd, hc, hd'⟩ := any_some (ig_dict w)
  refine wpAny_bind (wpAny_pure (wpAny_bind (wpAny_bind (wpAny_loadPart h1 (wpAny_bind ((looks_clsIn X hc).here ?_))))))
  rw [hd']
  refine wpAny_pure (a := some dx) (storeInDict_o ⟨od, mI, sz, h2, n, hsz, fun o' h' t' ho' hs' n' => ?_⟩)
  exact k o' h' t' (F.upd (U o') hs'.extBut ho' n'.ncl n'.gf) n'

theorem Rm.under {n : Nat} (r : Rm A (n + 1)) (rest : List Value) : Rm (A.under (.builtin "type.__call__" ⟨.ref 86 :: rest, []⟩)) n :=
  ⟨r.hd, by have := r.dp; show A.depth + _ + n < _; rw [ig_weight]; lia, by have := r.un; show A.units + _ + 8 * n < _; rw [ig_units]; lia⟩
end

-- part L18
section
variable {prog : Program} {w : World} {A : Around} {E : Value → Shared → Prop} {H h₀ h : Heap} {g : Array GenState} {d : Drawn} {t : Nat} {os : OsState} {env : Env}
  {m mg mb : Str → Option Value} {σ : List (Addr × Obj)} {L : Addr} {names : List (Str × NameKind)} {cells : List (Str × Addr)}
theorem t_add {x y : Str} {u v : Tok} {Q : Value → Shared → Prop} (hs : x.length + y.length ≤ 100000) (k : ∀ z t', Q (.str (x ++ y) z) ⟨h, g, d, t', os⟩) : wpAny (model prog w) A (binaryOp .Add (.str x u) (.str y v)) Q E ⟨h, g, d, t, os⟩ :=
  SB.add (fun z t' => k z t') (by rw [sizeLine_eq]; lia)
theorem beq_cps (x y : Str) : (x.cps.toList == y.cps.toList) = decide (x = y) := by
  rw [Bool.eq_iff_iff, beq_iff_eq, decide_eq_true_eq]
  constructor
  · intro e; obtain ⟨⟨a⟩⟩ := x; obtain ⟨⟨b⟩⟩ := y; cases e; rfl
  · rintro rfl; rfl
theorem t_eq {x y : Str} {u v : Tok} {Q : Value → Shared → Prop} (k : Q (.bool (decide (x = y))) ⟨h, g, d, t, os⟩) : wpAny (model prog w) A (compareOp .Eq (.str x u) (.str y v)) Q E ⟨h, g, d, t, os⟩ := P.eq_str (by rw [beq_cps]; exact k)
theorem t_ne {x y : Str} {u v : Tok} {Q : Value → Shared → Prop} (k : Q (.bool (!decide (x = y))) ⟨h, g, d, t, os⟩) : wpAny (model prog w) A (compareOp .NotEq (.str x u) (.str y v)) Q E ⟨h, g, d, t, os⟩ := P.ne_str (by show Q (.bool (!(x.cps.toList == y.cps.toList))) _; rw [beq_cps]; exact k)
theorem empty_iff (x : Str) : x.length = 0 ↔ x = Str.empty := by
  constructor
  · intro e; obtain ⟨a⟩ := x; rw [Str.length, Array.size_eq_zero_iff] at e; cases e; rfl
  · rintro rfl; rfl
theorem t_true {x : Str} {u : Tok} {Q : Bool → Shared → Prop} (hs : x.length ≤ 100000) (k : ∀ t', Q (!decide (x = Str.empty)) ⟨h, g, d, t', os⟩) : wpAny (model prog w) A (truthy (.str x u)) Q E ⟨h, g, d, t, os⟩ :=
  P.truthy_str (by lia) (by
    have : ((x.length : Int) != 0) = !decide (x = Str.empty) := by
      rw [Bool.eq_iff_iff]; simp [← empty_iff]
    rw [this]; exact k _)
theorem l_true {l : Addr} {vs : List Value} {Q : Bool → Shared → Prop} (hl : h.IsList l vs.toArray) (hs : vs.length ≤ 100000) (k : ∀ t', Q (!vs.isEmpty) ⟨h, g, d, t', os⟩) : wpAny (model prog w) A (truthy (.ref l)) Q E ⟨h, g, d, t, os⟩ :=
  wpAny_truthy_list hl (by rw [List.size_toArray]; lia) (by
    have : (!vs.toArray.isEmpty) = !vs.isEmpty := by simp
    rw [this]; exact k _)
/-- x[a:b] of a text -/
theorem t_slice {value : Expr} {lower upper : Option Expr} {p pos : Pos} {Q : Value → Shared → Prop}
    (hv : wpAny (model prog w) A (eval value env) (fun o s₁ => wpAny (model prog w) A (evalPart lower env) (fun vl s₂ => wpAny (model prog w) A (evalPart upper env) (fun vu s₃ =>
      ∃ x tx l u, o = .str x tx ∧ vl = partValue l ∧ vu = partValue u ∧ x.length ≤ 100000 ∧ ∀ ob z t', Q (.str (StrLaws.sliceText x (l.map (·.1)) (u.map (·.1))) z) { s₃ with heap := s₃.heap.push ob, toks := t' }) E s₂) E s₁) E ⟨h, g, d, t, os⟩)
    (ht : ∀ o r, letTemporaryGo value o r = pure ()) : wpAny (model prog w) A (eval (.Subscript value (.Slice lower upper none p) pos) env) Q E ⟨h, g, d, t, os⟩ := by
  refine wpAny_Subscript_str_slice (wpAny_mono hv (fun o s₁ h₁ => wpAny_mono h₁ (fun vl s₂ h₂ => wpAny_mono h₂ (fun vu s₃ h₃ => ?_) fun _ _ e => e) fun _ _ e => e) fun _ _ e => e) ht
  obtain ⟨x, tx, l, u, e1, e2, e3, hs, k⟩ := h₃
  refine ⟨x, tx, l, u, e1, e2, e3, ?_⟩
  exact post_val_or_str ⟨Nat.le_trans (Txt.slice_le x _ _) (by rw [sizeLine_eq]; lia), fun z t' => k _ z t'⟩
theorem part_none {Q : Value → Shared → Prop} {M : Model} {s : Shared} (k : Q .none s) : wpAny M A (evalPart none env) Q E s := by rw [evalPart_none]; exact wpAny_pure k
theorem part_int {i : Int} {k : Nat} {pos : Pos} {Q : Value → Shared → Prop} (h' : ∀ u t', Q (.int i u) ⟨h, g, d, t', os⟩) : wpAny (model prog w) A (evalPart (some (.Constant (.int i) k pos)) env) Q E ⟨h, g, d, t, os⟩ := c_int (k := k) (pos := pos) h'

theorem lit_cps {x y : Str} (h : x.cps.toList = y.cps.toList) : x = y := by have := beq_cps x y; rw [h] at this; simpa using this.symm
end

-- part L19
section
variable {prog : Program} {w : World} {A : Around} {E : Value → Shared → Prop} {H h₀ h : Heap} {g : Array GenState} {d : Drawn} {t : Nat} {os : OsState} {env : Env}
  {m mg mb : Str → Option Value} {σ : List (Addr × Obj)} {L : Addr} {names : List (Str × NameKind)} {cells : List (Str × Addr)}
/-- t[k] of a tuple -/
theorem tup_item {value slice : Expr} {T : Addr} {vs : List Value} {k : Nat} {z : Tok} {v : Value} {Q : Value → Shared → Prop} (ht : h.get? T = some (tupO vs)) (hv : vs[k]? = some v) (hk : k < 1000)
    (h' : Q v ⟨h, g, d, t, os⟩) (hs : subscripted slice false (.ref T) (.int k z) = operate [.ref T, .int k z] (getItem (.ref T) (.int k z))) :
    wpAny (model prog w) A (subscriptTail value slice (.ref T) (.int k z)) Q E ⟨h, g, d, t, os⟩ := by
  have hl : k < vs.length := by
    rcases Nat.lt_or_ge k vs.length with q | q
    · exact q
    · rw [List.getElem?_eq_none q] at hv; cases hv
  exact tail_any ⟨_, ht, rfl⟩ PySem.F.slot_tuple_getitem.lookup (P.getItem_tuple ht (by lia) (by lia) (StrLaws.seqIndex_nonneg (by lia) (by rw [List.size_toArray]; lia)) (by simpa using hv) h') hs
theorem len_tup {T : Addr} {vs : List Value} {Q : Value → Shared → Prop} (ht : h.get? T = some (tupO vs)) (hl : vs.length ≤ 1000) (h' : ∀ z t', Q (.int vs.length z) ⟨h, g, d, t', os⟩) : wpAny (model prog w) A (call (.builtin "len") [.ref T]) Q E ⟨h, g, d, t, os⟩ :=
  P.len_tuple (n := _) ht (by rw [List.size_toArray]; lia) (by rw [List.size_toArray]; exact h' _ _)
/-- l[k] of a list -/
theorem list_item {value slice : Expr} {l : Addr} {vs : List Value} {k : Int} {z : Tok} {v : Value} {Q : Value → Shared → Prop} (hl : h.IsList l vs.toArray) (h0 : 0 ≤ k) (hk : k < 1000) (hv : vs[k.toNat]? = some v)
    (h' : Q v ⟨h, g, d, t, os⟩) (hs : subscripted slice false (.ref l) (.int k z) = operate [.ref l, .int k z] (getItem (.ref l) (.int k z))) :
    wpAny (model prog w) A (subscriptTail value slice (.ref l) (.int k z)) Q E ⟨h, g, d, t, os⟩ :=
  tail_any hl.typeIs slot_list_getitem.lookup (wpAny_getItem_list hl h0 (by lia) (by simpa using hv) h') hs
/-- l[-1] of a list -/
theorem list_last {value slice : Expr} {l : Addr} {vs : List Value} {z : Tok} {v : Value} {Q : Value → Shared → Prop} (hl : h.IsList l vs.toArray) (hv : vs.getLast? = some v) (hz : vs.length ≤ 1000)
    (h' : Q v ⟨h, g, d, t, os⟩) (hs : subscripted slice false (.ref l) (.int (-1) z) = operate [.ref l, .int (-1) z] (getItem (.ref l) (.int (-1) z))) :
    wpAny (model prog w) A (subscriptTail value slice (.ref l) (.int (-1) z)) Q E ⟨h, g, d, t, os⟩ := by
  have hne : vs ≠ [] := by rintro rfl; cases hv
  have hp : 0 < vs.length := List.length_pos_iff.mpr hne
  refine tail_any hl.typeIs slot_list_getitem.lookup (wpAny_getItem_list_neg hl (by decide) (by rw [List.size_toArray]; lia) (by decide) ?_ h') hs
  rw [List.size_toArray, show ((-1 : Int) + (vs.length : Nat)).toNat = vs.length - 1 by lia]
  rw [List.getLast?_eq_getElem?] at hv
  simpa using hv
theorem x_neg {i : Int} {k : Nat} {p pos : Pos} {Q : Value → Shared → Prop} (h' : ∀ z t', Q (.int (-i) z) ⟨h, g, d, t', os⟩) : wpAny (model prog w) A (eval (.UnaryOp .USub (.Constant (.int i) k p) pos) env) Q E ⟨h, g, d, t, os⟩ :=
  wpAny_UnaryOp (c_int fun u t' => P.neg_int (h' _ _))
/-- l.pop() -/
theorem m_pop {a : Addr} {vs : List Value} {k : Nat} {pl : Sem Bool} {Q : Value × List Value → Shared → Prop} (ha : h.get? a = some (listO vs k)) (h' : Q (.builtin "list.pop", [.ref a]) ⟨h, g, d, t, os⟩) : wpAny (model prog w) A (getMethod (.ref a) "pop" pl) Q E ⟨h, g, d, t, os⟩ :=
  getMethod_list_of PySem.F.slot_list_pop PySem.F.type_list_pop (items := vs.toArray) ⟨_, ha, rfl, _, rfl⟩ ⟨_, ha, rfl⟩ h'
theorem c_pop {a : Addr} {vs : List Value} {v : Value} {k : Nat} {gσ : Nat → List (Addr × Obj)} {Q : Value → Shared → Prop} (F : Fx H h₀ L h m σ) (U : ∀ k', Up a (listO (vs ++ [v]) k) (listO vs k') σ (gσ k')) (hs : vs.length < 1000)
    (kk : ∀ h' k', Fx H h₀ L h' m (gσ k') → Q v ⟨h', g, d, t, os⟩) : wpAny (model prog w) A (call (.builtin "list.pop") [.ref a]) Q E ⟨h, g, d, t, os⟩ := by
  have z := F.get (U 0).mem
  have hk : (vs ++ [v]).toArray.size - 1 = vs.length := by rw [List.size_toArray, List.length_append]; rfl
  have hy : (vs ++ [v]).toArray[(vs ++ [v]).toArray.size - 1]? = some v := by rw [hk]; simp
  refine call_meets PySem.F.slot_list_pop ⟨_, z, rfl⟩ PySem.F.entry_list_pop (PySem.F.args_list_pop_1 _) (PySem.MeetsSeq.list_pop_last a _ k v hy (by rw [List.size_toArray, sizeLine_eq]; simp; lia)) ⟨z, ?_⟩
  have q := PySem.IsL.update z (fun x => x.eraseIdxIfInBounds ((vs ++ [v]).toArray.size - 1))
  have e : (vs ++ [v]).toArray.eraseIdxIfInBounds ((vs ++ [v]).toArray.size - 1) = vs.toArray := by rw [hk, kl_erase, List.append_nil]
  rw [e] at q
  exact kk _ _ (F.upd (U _) (Heap.SameBut.update ..).extBut q (ncl rfl))

/-- a dict of texts to whole numbers -/
noncomputable def IgO (prog : Program) (w : World) (o : Obj) (c : Str → Option Int) (n : Nat) : Prop :=
  ∃ kvs, o.IsDictOf (strKind prog w) kvs ∧ kvs.length ≤ n ∧ ∀ s, match c s with
    | none => valueAt kvs s = none
    | some i => ∃ u, valueAt kvs s = some (.int i u)
theorem IgO.ncl {o : Obj} {c : Str → Option Int} {n : Nat} (x : IgO prog w o c n) : NoCode o := by
  obtain ⟨kvs, ⟨es, ep, _, hd, _⟩, _⟩ := x
  exact .inr fun vs e => by rw [hd] at e; cases e
theorem IgO.gf {o : Obj} {c : Str → Option Int} {n : Nat} (x : IgO prog w o c n) {h : Heap} : GoodFn H h o := by
  obtain ⟨kvs, ⟨es, ep, _, hd, _⟩, _⟩ := x
  exact fun fd e => by rw [hd] at e; cases e
theorem valueAt_stored (kvs : List (Str × Value)) (k s : Str) (v : Value) : valueAt (stored kvs k v) s = if s = k then some v else valueAt kvs s := by
  unfold stored valueAt
  by_cases hk : kvs.any (fun kv => decide (kv.1 = k)) = true
  · rw [if_pos hk]
    induction kvs with
    | nil => cases hk
    | cons p r ih =>
      simp only [List.map_cons, List.find?_cons]
      by_cases h1 : p.1 = k
      · simp only [h1, if_true]
        by_cases h2 : s = k
        · subst h2; simp
        · have h2' : ¬ k = s := fun e => h2 e.symm
          simp only [decide_eq_false h2', if_neg h2]
          by_cases hr : r.any (fun kv => decide (kv.1 = k)) = true
          · have := ih hr; rw [if_neg h2] at this; exact this
          · have e : r.map (fun kv => if kv.1 = k then (kv.1, v) else kv) = r := by
              conv => rhs; rw [← List.map_id r]
              refine List.map_congr_left fun q hq => ?_
              rw [if_neg]; rfl
              intro e
              exact hr (List.any_eq_true.mpr ⟨q, hq, by simpa using e⟩)
            rw [e]
      · have hr : r.any (fun kv => decide (kv.1 = k)) = true := by simpa [h1] using hk
        simp only [h1, if_false]
        by_cases h3 : p.1 = s
        · have h2 : ¬ s = k := fun e => h1 (h3.trans e)
          simp [h3, h2]
        · simp only [decide_eq_false h3]
          exact ih hr
  · rw [if_neg hk, List.find?_append]
    by_cases h2 : s = k
    · subst h2
      have : kvs.find? (fun kv => decide (kv.1 = s)) = none := by
        rw [List.find?_eq_none]
        intro q hq e
        exact hk (List.any_eq_true.mpr ⟨q, hq, e⟩)
      rw [this]; simp
    · have h2' : ¬ k = s := fun e => h2 e.symm
      rw [if_neg h2]
      cases kvs.find? (fun kv => decide (kv.1 = s)) with
      | some q => rfl
      | none => simp [h2']
theorem notMods (G : Glb w H mg mb) (hz : H.objs.size ≤ D) : (D == sysModules) = false := by
  rw [beq_eq_false_iff_ne]
  rintro rfl
  exact absurd (modules_low G.nolimit) (Nat.not_lt.mpr hz)
theorem ig_in {D : Addr} {o : Obj} {c : Str → Option Int} {n : Nat} {y : Str} {u : Tok} {Q : Value → Shared → Prop} (G : Glb w H mg mb) (x : IgO prog w o c n) (ho : h.get? D = some o) (hz : H.objs.size ≤ D) (k : ∀ t', Q (.bool (c y).isSome) ⟨h, g, d, t', os⟩) :
    wpAny (model prog w) A (compareOp .In (.str y u) (.ref D)) Q E ⟨h, g, d, t, os⟩ := by
  obtain ⟨kvs, hd, hn, hc⟩ := x
  refine wpAny_in_of (strKind_is _ _ _ _) (notMods G hz) (Heap.dictOf_iff.mpr ⟨o, ho, hd⟩).mapOf ?_
  have := hc y
  cases e : c y with
  | none => rw [e] at this; rw [this]; have := k (t + 1); rw [e] at this; exact this
  | some i => rw [e] at this; obtain ⟨u, this⟩ := this; rw [this]; have := k (t + 1); rw [e] at this; exact this
theorem ig_item {value slice : Expr} {D : Addr} {o : Obj} {c : Str → Option Int} {n : Nat} {y : Str} {u : Tok} {i : Int} {Q : Value → Shared → Prop} (x : IgO prog w o c n) (ho : h.get? D = some o) (hi : c y = some i) (k : ∀ z t', Q (.int i z) ⟨h, g, d, t', os⟩)
    (hs : subscripted slice false (.ref D) (.str y u) = operate [.ref D, .str y u] (getItem (.ref D) (.str y u))) :
    wpAny (model prog w) A (subscriptTail value slice (.ref D) (.str y u)) Q E ⟨h, g, d, t, os⟩ := by
  obtain ⟨kvs, hd, hn, hc⟩ := x
  have hD : h.DictOf (strKind prog w) D kvs := Heap.dictOf_iff.mpr ⟨o, ho, hd⟩
  have := hc y
  rw [hi] at this
  obtain ⟨z, this⟩ := this
  exact tail_any (s := ⟨h, g, d, t, os⟩) (by obtain ⟨es, ep, he, _⟩ := hd; exact ⟨o, ho, he.1⟩) slot_dict_getitem.lookup (wpAny_getItem_of (strKind_is _ _ _ _) hD.mapOf this (k _ _)) hs
theorem ig_put {D : Addr} {o : Obj} {c : Str → Option Int} {n : Nat} {y : Str} {u v : Tok} {i : Int} {gσ : Obj → List (Addr × Obj)} {Q : Unit → Shared → Prop} (F : Fx H h₀ L h m σ) (x : IgO prog w o c n) (hn : n < 1000) (U : ∀ o', Up D o o' σ (gσ o'))
    (k : ∀ o' h' t', IgO prog w o' (fun s => if s = y then some i else c s) (n + 1) → Fx H h₀ L h' m (gσ o') → Q () ⟨h', g, d, t', os⟩) :
    wpAny (model prog w) A (setItem (.ref D) (.str y u) (.int i v)) Q E ⟨h, g, d, t, os⟩ := by
  obtain ⟨kvs, hd, hk, hc⟩ := x
  have ho := F.get (U o).mem
  have hD : h.DictOf (strKind prog w) D kvs := Heap.dictOf_iff.mpr ⟨o, ho, hd⟩
  refine wpAny_setItem_pairs (strKind_is _ _ _ _) hD (fun h' hm' hs' => ?_) (by rw [sizeLine_eq]; lia)
  obtain ⟨o', ho', hd'⟩ := Heap.dictOf_iff.mp hm'
  have X : IgO prog w o' (fun s => if s = y then some i else c s) (n + 1) := by
    refine ⟨_, hd', Nat.le_trans (stored_length_le _ _ _) (by lia), fun s => ?_⟩
    rw [valueAt_stored]
    by_cases hs : s = y
    · simp only [hs, if_true]; exact ⟨v, rfl⟩
    · simp only [hs, if_false]; exact hc s
  exact k o' h' _ X (F.upd (U o') hs'.extBut ho' X.ncl X.gf)
end

-- part L20
section
open Builtin Builtin.Str
variable {prog : Program} {w : World} {A : Around} {E : Value → Shared → Prop} {H h₀ h : Heap} {g : Array GenState} {d : Drawn} {t : Nat} {os : OsState} {env : Env}
  {m mg mb : Str → Option Value} {σ : List (Addr × Obj)} {L : Addr} {names : List (Str × NameKind)} {cells : List (Str × Addr)}
/-- x.split(y) -/
theorem c_split {x y : Str} {tx u : Tok} {Q : Value → Shared → Prop} (F : Fx H h₀ L h m σ) (hx : x.length ≤ 100000) (hy : (y.length == 0) = false)
    (k : ∀ D l h' t', l.map (·.1) = Txt.split x y → Fx H h₀ L h' m ((D, listO (strValues l)) :: σ) → Q (.ref D) ⟨h', g, d, t', os⟩) :
    wpAny (model prog w) A (call (.builtin "str.split") [.str x tx, .str y u]) Q E ⟨h, g, d, t, os⟩ := by
  have hx' : x.length ≤ sizeLine := by rw [sizeLine_eq]; lia
  have hn : (partsBetween x (occurrences x y 0 x.length (x.length + 1)) y.length).length ≤ sizeLine := by
    have e1 := StrLaws.occ_length_le x y 0 x.length (x.length + 1)
    rw [length_partsBetween, sizeLine_eq]; lia
  have fin : ∀ (l : List (Str × Tok)) (t' : Nat), l.map (·.1) = Txt.split x y → Q (.ref h.objs.size) ⟨h.push (listO (strValues l)), g, d, t', os⟩ := fun l t' e => k _ l _ t' e (F.push _ rfl (ncl rfl))
  cases h1 : (decide (x.length < y.length) || decide (strKind x < strKind y)) with
  | true => exact call_meets PySem.F.slot_str_split (typeIs_str _ _ _) PySem.F.entry_str_split (PySem.F.args_str_split_2 _ _) (meets_str_split_cannot_occur x y tx u h1) (fin [(x, tx)] t (if_pos h1).symm)
  | false =>
    cases hf : (occurrences x y 0 x.length (x.length + 1)).isEmpty with
    | true => exact call_meets PySem.F.slot_str_split (typeIs_str _ _ _) PySem.F.entry_str_split (PySem.F.args_str_split_2 _ _) (meets_str_split_not_found x y tx u h1 hy hf) (fin [(x, tx)] t ((if_neg (ne_true_of_eq_false h1)).trans (if_pos hf)).symm)
    | false =>
      refine call_meets PySem.F.slot_str_split (typeIs_str _ _ _) PySem.F.entry_str_split (PySem.F.args_str_split_2 _ _) (meets_str_split_sep x y tx u h1 hy hf hx' hn) ?_
      show wants Q E _ { (⟨h, g, d, t, os⟩ : Shared) with toks := _, heap := h.push { cls := .type "list", data := .seq (strsFrom t (partsBetween x (occurrences x y 0 x.length (x.length + 1)) y.length)).toArray } }
      rw [strsFrom_eq]
      exact fin (numbered t _) _ ((numbered_texts _ _).trans ((if_neg (ne_true_of_eq_false h1)).trans (if_neg (ne_true_of_eq_false hf))).symm)
/-- sep.join(l) -/
theorem c_join {x : Str} {tx : Tok} {D : Addr} {l : List (Str × Tok)} {B : Nat} {Q : Value → Shared → Prop} (hl : h.IsList D (strValues l).toArray) (hB : ∀ y ∈ l.map (·.1), y.length ≤ B) (hs : l.length * B + l.length * x.length ≤ 16777216)
    (k : ∀ z t', Q (.str (Str.join x (l.map (·.1))) z) ⟨h, g, d, t', os⟩) : wpAny (model prog w) A (call (.builtin "str.join") [.str x tx, .ref D]) Q E ⟨h, g, d, t, os⟩ := by
  have hok : JoinOk x (l.map (·.1)) = true := by
    unfold JoinOk
    rw [StrLaws.joinFits (B := B) hB (by rw [List.length_map]; exact hs)]; rfl
  refine SC.join hl rfl hok fun z t' => ?_
  rw [Txt.join, StrLaws.glued_eq_join]
  exact k z t'
theorem strValues_append (l : List (Str × Tok)) (p : Str × Tok) : strValues (l ++ [p]) = strValues l ++ [.str p.1 p.2] := by simp [strValues]
theorem strValues_length (l : List (Str × Tok)) : (strValues l).length = l.length := by simp [strValues]
end
/-- the loop of _normpath, behind a first stroke -/
noncomputable def normL : List Str → List Str → List Str
  | [], acc => acc
  | c :: r, acc => if c = Str.empty ∨ c = "." then normL r acc
    else if c ≠ ".." ∨ acc.getLast? = some (Str.ofString "..") then normL r (acc ++ [c])
    else normL r acc.dropLast

-- part F7
section
variable {prog : Program} {w : World} {A : Around} {E : Value → Shared → Prop} {H h : Heap} {g : Array GenState} {d : Drawn} {t : Nat} {os : OsState} {mg mb : Str → Option Value}

theorem kind_spec (G : Glb w H mg mb) (K0 : Kp H H h) (hz : H.objs.size ≤ h.objs.size) (R : Rm A 1) {n x : Str} {un ux : Tok} {Q : Value → Shared → Prop} 
    (k : ∀ h' t' u, Kp H h h' → Q (.str Str.empty u) ⟨h', g, d, t', os⟩) :
    wpAny (model prog w) A (call (.ref 35) [.str n un, .str x ux]) Q E ⟨h, g, d, t, os⟩ := by
  refine call_s0 (c := 34) (binds := [("name", .str n un), ("x", .str x ux)]) R hz K0 G.nolimit (K0.getc (G.K 35 _ rfl) nofun) rfl rfl (G.cd K0 rfl rfl rfl rfl) rfl (BindsTo.of_eq rfl) rfl rfl rfl rfl rfl (fun _ => rfl) (fun _ => rfl) rfl fun env L h₁ t₁ A' V hcode R' F => ?_
  dsimp only [bindM] at V F
  iterate 2 walk_at "e"
  refine x_call (n_blt F V rfl K0 G.g G.b (gb_type G) ?_ rfl)
  refine cw_type ?_ rfl
  repeat walk_at "e"
  refine call_type_of (typeIs_str _ _ _) (by decide) ?_
  refine n_st F V rfl fun h₂ t₂ F => ?_
  repeat walk_at "e"
  refine n_blt F V rfl K0 G.g G.b (gb_str G) ?_ rfl
  refine wpAny_is_self rfl ?_
  repeat walk_at "e"
  refine if_t ?_
  repeat walk_at "e"
  exact k _ _ _ F.kp

theorem split_spec (G : Glb w H mg mb) (K0 : Kp H H h) (hz : H.objs.size ≤ h.objs.size) (R : Rm A 1) {p : Str} {up : Tok} {c : Nat} {r : List Nat} {Q : Value → Shared → Prop} (hp : p.cps.toList = 47 :: c :: r) (hc : c ≠ 47) (hl : p.length ≤ 100000)
    (k : ∀ T h' t' u v z, Kp H h h' → Fresh H h h' [(T, tupO [.str Str.empty u, .str "/" v, .str ⟨(c :: r).toArray⟩ z])] → Q (.ref T) ⟨h', g, d, t', os⟩) :
    wpAny (model prog w) A (call (.ref 49) [.str p up]) Q E ⟨h, g, d, t, os⟩ := by
  refine call_s0 (c := 48) (binds := [("p", .str p up)]) R hz K0 G.nolimit (K0.getc (G.K 49 _ rfl) nofun) rfl rfl (G.cd K0 rfl rfl rfl rfl) rfl (BindsTo.of_eq rfl) rfl rfl rfl rfl rfl (fun _ => rfl) (fun _ => rfl) rfl fun env L h₁ t₁ A' V hcode R' F => ?_
  dsimp only [bindM] at V F
  iterate 3 walk_at "e"
  refine n_st F V rfl fun h₂ t₂ F => ?_
  iterate 3 walk_at "e"
  refine n_st F V rfl fun h₃ t₃ F => ?_
  have hlen : p.cps.toList.length = r.length + 2 := by rw [hp]; rfl
  have e1 : StrLaws.sliceText p none (some 1) = "/" := by
    refine lit_cps ?_
    rw [StrLaws.sliceText_to ⟨by decide, by rw [hlen]; push_cast; lia⟩, hp]; rfl
  have e2 : StrLaws.sliceText p (some 1) (some 2) = ⟨#[c]⟩ := by
    refine lit_cps ?_
    rw [StrLaws.sliceText_plain ⟨by decide, by decide, by rw [hlen]; push_cast; lia⟩, hp]; rfl
  have e3 : StrLaws.sliceText p (some 1) none = ⟨(c :: r).toArray⟩ := by
    refine lit_cps ?_
    rw [StrLaws.sliceText_from ⟨by decide, by rw [hlen]; push_cast; lia⟩, hp]; simp
  iterate 3 walk_at "e"
  refine t_slice ?_ (fun _ _ => rfl)
  walk_at "e"
  refine part_none (part_int fun u₁ t₄ => ⟨p, up, none, some (1, u₁), rfl, rfl, rfl, hl, fun ob z t₅ => ?_⟩)
  replace F := F.push' ob
  rw [show (Option.map (·.1) (none : Option (Int × Tok))) = none from rfl, show Option.map (·.1) (some ((1 : Int), u₁)) = some 1 from rfl, e1]
  repeat walk_at "e"
  refine t_ne ?_
  repeat walk_at "e"
  refine if_f ?_
  iterate 2 walk_at "e"
  refine t_bool (t_or ?_)
  walk_at "e"
  refine t_slice ?_ (fun _ _ => rfl)
  walk_at "e"
  refine part_int fun u₂ t₆ => part_int fun u₃ t₇ => ⟨p, up, some (1, u₂), some (2, u₃), rfl, rfl, rfl, hl, fun ob₂ z₂ t₈ => ?_⟩
  replace F := F.push' ob₂
  rw [show Option.map (·.1) (some ((1 : Int), u₂)) = some 1 from rfl, show Option.map (·.1) (some ((2 : Int), u₃)) = some 2 from rfl, e2]
  repeat walk_at "e"
  refine t_ne ?_
  have hne : (!decide ((⟨#[c]⟩ : Str) = "/")) = true := by
    rw [Bool.not_eq_true', decide_eq_false_iff_not]
    intro e
    have : (#[c] : Array Nat) = #[47] := congrArg Str.cps e
    simp at this; exact hc this
  rw [hne]
  repeat walk_at "e"
  refine if_t (if_t ?_)
  iterate 2 walk_at "e"
  refine x_tuple ?_ rfl
  iterate 5 walk_at "e"
  refine t_slice ?_ (fun _ _ => rfl)
  walk_at "e"
  refine part_int fun u₄ t₉ => part_none ⟨p, up, some (1, u₄), none, rfl, rfl, rfl, hl, fun ob₃ z₃ t₁₀ => ?_⟩
  replace F := F.push' ob₃
  rw [show (Option.map (·.1) (none : Option (Int × Tok))) = none from rfl, show Option.map (·.1) (some ((1 : Int), u₄)) = some 1 from rfl, e3]
  repeat walk_at "e"
  refine mk_tuple F (by simp) fun T h₅ t₆ F => ?_
  exact k T _ _ _ _ _ F.kp F.fresh
end

-- part F8
section
variable {prog : Program} {w : World} {A : Around} {E : Value → Shared → Prop} {H h : Heap} {g : Array GenState} {d : Drawn} {t : Nat} {os : OsState} {mg mb : Str → Option Value}

set_option maxHeartbeats 2000000 in
theorem norm_spec (G : Glb w H mg mb) (K0 : Kp H H h) (hz : H.objs.size ≤ h.objs.size) (R : Rm A 2) {p : Str} {up : Tok} {c : Nat} {r : List Nat} {Q : Value → Shared → Prop} (hp : p.cps.toList = 47 :: c :: r) (hc : c ≠ 47) (hl : p.length ≤ 250)
    (k : ∀ h' t' u, Kp H h h' → Q (.str ("/" ++ Str.join "/" (normL (Txt.split ⟨(c :: r).toArray⟩ "/") [])) u) ⟨h', g, d, t', os⟩) :
    wpAny (model prog w) A (call (.ref 56) [.str p up]) Q E ⟨h, g, d, t, os⟩ := by
  refine call_s0 (c := 55) (binds := [("path", .str p up)]) R hz K0 G.nolimit (K0.getc (G.K 56 _ rfl) nofun) rfl rfl (G.cd K0 rfl rfl rfl rfl) rfl (BindsTo.of_eq rfl) rfl rfl rfl rfl rfl (fun _ => rfl) (fun _ => rfl) rfl fun env L h₁ t₁ A' V hcode R' F => ?_
  dsimp only [bindM] at V F
  iterate 3 walk_at "e"
  refine n_st F V rfl fun h₂ t₂ F => ?_
  iterate 3 walk_at "e"
  refine n_st F V rfl fun h₃ t₃ F => ?_
  iterate 3 walk_at "e"
  refine n_st F V rfl fun h₄ t₄ F => ?_
  iterate 2 walk_at "e"
  refine wpAny_isTrue_Not (t_name ?_)
  walk_at "e"
  have hpe : (!decide (p = Str.empty)) = true := by
    rw [Bool.not_eq_true', decide_eq_false_iff_not]
    rintro rfl; cases hp
  refine t_true (by lia) fun t₅ => ?_
  rw [hpe]
  refine if_f ?_
  repeat walk_at "e"
  refine Assign_Tuple ?_ rfl rfl
  refine x_call (n_glob F V rfl K0 G.g (gl_splitroot G) ?_ rfl)
  refine cw_fn ?_ rfl (by decide)
  repeat walk_at "e"
  refine ⟨⟨_, _, (K0.trans F.kp).getc (G.K 49 _ rfl) nofun, rfl⟩, split_spec G (K0.trans F.kp) F.size R' hp hc (by lia) fun T h₅ t₆ u v z k5 fr5 => ?_⟩
  replace F := F.take k5 fr5
  refine u_tuple F (F.get (.head _)) R'.hd rfl rfl fun h₆ F => ?_
  refine ai_cons (wpAny_assign_Name (n_st F V rfl fun h₇ t₈ F => ?_))
  refine ai_cons (wpAny_assign_Name (n_st F V rfl fun h₈ t₉ F => ?_))
  refine ai_cons (wpAny_assign_Name (n_st F V rfl fun h₉ t₁₀ F => ?_))
  refine ai_nil ?_
  have hql : (⟨(c :: r).toArray⟩ : Str).length ≤ 250 := by
    have h1 : p.cps.toList.length = r.length + 2 := by rw [hp]; rfl
    have h2 : p.length = r.length + 2 := by rw [← h1]; simp [Str.length]
    have h3 : (⟨(c :: r).toArray⟩ : Str).length = r.length + 1 := by simp [Str.length]
    lia
  generalize hq : (⟨(c :: r).toArray⟩ : Str) = q at F k hql
  iterate 2 walk_at "e"
  refine x_meth ?_ rfl rfl (by decide) rfl
  walk_at "e"
  refine GM.split (cw_blt ?_ rfl)
  repeat walk_at "e"
  refine c_split F (by lia) rfl fun D l h₁₀ t₁₁ hls F => ?_
  refine n_st F V rfl fun h₁₁ t₁₂ F => ?_
  iterate 2 walk_at "e"
  refine x_list (aa_nil ?_) rfl
  refine mk_list F (by simp) fun N h₁₂ t₁₃ F => ?_
  refine n_st F V rfl fun h₁₃ t₁₄ F => ?_
  walk_at "e"
  refine for_start ?_ fun _ => rfl
  walk_at "e"
  have hlen := len_le_of_split hls
  have hll : l.length ≤ 252 := by lia
  have hshort : ∀ y ∈ l.map (·.1), y.length ≤ 250 := fun y hy => Nat.le_trans (part_short (hls ▸ hy)) hql
  refine for_list (vs := strValues l) (isList_own F (.tail _ (.head _))) (fun i m σ => ∃ la kk v ud ud2 us, σ = [(N, listO (strValues la) kk), (D, listO (strValues l)), (T, tupO [.str Str.empty u, .str "/" v, .str q z])] ∧
      normL ((l.map (·.1)).drop i) (la.map (·.1)) = normL (l.map (·.1)) [] ∧ la.length ≤ i ∧ (∀ x ∈ la.map (·.1), x ∈ l.map (·.1)) ∧
      m "new_comps" = some (.ref N) ∧ m "initial_slashes" = some (.str "/" v) ∧ m "dot" = some (.str "." ud) ∧ m "dotdot" = some (.str ".." ud2) ∧ m "sep" = some (.str "/" us)) F V R'.hd rfl
    ⟨[], _, _, _, _, _, rfl, rfl, Nat.zero_le _, fun x hx => by simp at hx, by walk_at "lk", by walk_at "lk", by walk_at "lk", by walk_at "lk", by walk_at "lk"⟩ ?_ ?_ ?_
  · rintro i h m σ ⟨la, kk, v, ud, ud2, us, rfl, _⟩ F
    exact isList_own F (.tail _ (.head _))
  · rintro i h t m σ x it o hx HI F
    refine cutQ fun QT hQT => ?_
    obtain ⟨la, kk, v, ud, ud2, us, rfl, hn, hla, hsub, m1, m2, m3, m4, m5⟩ := HI
    have hil : i < l.length := by
      rcases Nat.lt_or_ge i l.length with q | q
      · exact q
      · rw [List.getElem?_eq_none (by rw [strValues_length]; exact q)] at hx; cases hx
    have hxe : x = .str l[i].1 l[i].2 := by
      rw [show (strValues l)[i]? = some (.str l[i].1 l[i].2) by simp [strValues, hil]] at hx
      exact (Option.some.inj hx).symm
    subst hxe
    have hdrop : (l.map (·.1)).drop i = l[i].1 :: (l.map (·.1)).drop (i + 1) := by
      rw [List.drop_eq_getElem_cons (by rw [List.length_map]; exact hil)]; simp
    have hmem : l[i].1 ∈ l.map (·.1) := List.mem_map_of_mem (List.getElem_mem hil)
    rw [hdrop] at hn
    generalize hcy : l[i].1 = y at hn hmem F
    generalize l[i].2 = uy at F
    have hyl := hshort y hmem
    have hlast : ∀ a : Str, (la.map (·.1)).getLast? = some a → ∃ ua la', la = la' ++ [(a, ua)] := by
      intro a e
      rcases List.eq_nil_or_concat la with rfl | ⟨la', p, rfl⟩
      · cases e
      · rw [List.concat_eq_append] at e ⊢
        simp at e
        exact ⟨p.2, la', by rw [← e]⟩
    iterate 2 walk_at "e"
    refine t_bool (t_or ?_)
    refine wpAny_isTrue_Not (t_name ?_)
    walk_at "e"
    refine t_true (by lia) fun t₅ => ?_
    by_cases he : y = Str.empty
    · rw [decide_eq_true he]
      refine if_t (if_t ?_)
      repeat walk_at "e"
      refine wpAny_Continue ?_
      refine hQT _ _ (Turn.cont F ⟨_, rfl, la, kk, v, ud, ud2, us, rfl, ?_, by lia, hsub, by walk_at "lk", by walk_at "lk", by walk_at "lk", by walk_at "lk", by walk_at "lk"⟩)
      rw [← hn]; exact (if_pos (.inl he)).symm
    rw [decide_eq_false he]
    refine if_f (t_or ?_)
    repeat walk_at "e"
    refine t_eq ?_
    repeat walk_at "e"
    by_cases hdot : y = "."
    · rw [decide_eq_true hdot]
      refine if_t (if_t ?_)
      repeat walk_at "e"
      refine wpAny_Continue ?_
      refine hQT _ _ (Turn.cont F ⟨_, rfl, la, kk, v, ud, ud2, us, rfl, ?_, by lia, hsub, by walk_at "lk", by walk_at "lk", by walk_at "lk", by walk_at "lk", by walk_at "lk"⟩)
      rw [← hn]; exact (if_pos (.inr hdot)).symm
    rw [decide_eq_false hdot]
    refine if_f (t_or0 (if_f ?_))
    iterate 3 walk_at "e"
    have hstep : normL (y :: (l.map (·.1)).drop (i + 1)) (la.map (·.1)) = if y ≠ ".." ∨ (la.map (·.1)).getLast? = some (Str.ofString "..") then normL ((l.map (·.1)).drop (i + 1)) (la.map (·.1) ++ [y]) else normL ((l.map (·.1)).drop (i + 1)) (la.map (·.1)).dropLast :=
      if_neg (fun q => q.elim he hdot)
    refine t_bool (t_or ?_)
    repeat walk_at "e"
    refine t_ne ?_
    repeat walk_at "e"
    by_cases hdd : y = ".."
    · rw [decide_eq_true hdd]
      refine if_f (t_or (t_bool (t_and ?_)))
      refine wpAny_isTrue_Not (t_name ?_)
      walk_at "e"
      refine t_true (by decide) fun t₅ => ?_
      refine if_f (if_f (t_or (t_bool (t_and (t_name ?_)))))
      walk_at "e"
      refine l_true (isList_own F (by walk_at "mm")) (by rw [strValues_length]; lia) fun t₅ => ?_
      rcases hlc : (la.map (·.1)).getLast? with _ | a
      · have hnil : la = [] := by
          rw [List.getLast?_eq_none_iff] at hlc
          simpa using hlc
        subst hnil
        refine if_f (if_f (t_or0 (if_f ?_)))
        iterate 2 walk_at "e"
        refine t_name ?_
        walk_at "e"
        refine l_true (isList_own F (by walk_at "mm")) (by simp [strValues]) fun t₅ => ?_
        refine if_f ?_
        repeat walk_at "e"
        refine hQT _ _ (Turn.next F ⟨_, rfl, [], kk, v, ud, ud2, us, rfl, ?_, Nat.zero_le _, hsub, by walk_at "lk", by walk_at "lk", by walk_at "lk", by walk_at "lk", by walk_at "lk"⟩)
        rw [← hn, hstep, if_neg (by rintro (q | q); exact q hdd; cases q)]; rfl
      · obtain ⟨ua, la', rfl⟩ := hlast a hlc
        have hne : (!(strValues (la' ++ [(a, ua)])).isEmpty) = true := by simp [strValues]
        rw [hne]
        refine if_t (t_and ?_)
        iterate 2 walk_at "e"
        walk_at "e"
        refine x_neg fun z₅ t₆ => ?_
        refine list_last (v := .str a ua) (isList_own F (by walk_at "mm")) (by simp [strValues]) (by rw [strValues_length]; lia) ?_ (by with_unfolding_all rfl)
        repeat walk_at "e"
        refine t_eq ?_
        repeat walk_at "e"
        by_cases hadd : a = ".."
        · rw [decide_eq_true hadd]
          refine if_t (t_and0 (if_t (if_t ?_)))
          have hq : y ≠ ".." ∨ ((la' ++ [(a, ua)]).map (·.1)).getLast? = some (Str.ofString "..") := .inr (by rw [hlc, hadd])
          walk_at "e"
          refine s_append (a := N) (vs := strValues (la' ++ [(a, ua)])) ?_ rfl rfl rfl V.notInter
          walk_at "e"
          refine ⟨rfl, ⟨kk, F.get (by walk_at "mm")⟩, ?_⟩
          walk_at "e"
          refine c_append F (fun k' => .tail .head) (by rw [strValues_length]; lia) fun h₁₂ k₅ F => ⟨rfl, ?_⟩
          repeat walk_at "e"
          refine hQT _ _ (Turn.next F ⟨_, rfl, (la' ++ [(a, ua)]) ++ [(y, uy)], k₅, v, ud, ud2, us, by simp [strValues], ?_, by simp at hla ⊢; lia, ?_, by walk_at "lk", by walk_at "lk", by walk_at "lk", by walk_at "lk", by walk_at "lk"⟩)
          · rw [← hn, hstep, if_pos hq]; simp
          · intro x hx
            simp only [List.map_append, List.mem_append, List.map_cons, List.map_nil, List.mem_singleton] at hx
            rcases hx with hx | rfl
            · exact hsub x (by simpa using hx)
            · exact hmem
        · rw [decide_eq_false hadd]
          refine if_f (if_f (t_or0 (if_f ?_)))
          iterate 2 walk_at "e"
          refine t_name ?_
          walk_at "e"
          refine l_true (isList_own F (by walk_at "mm")) (by rw [strValues_length]; lia) fun t₅ => ?_
          rw [hne]
          refine if_t ?_
          iterate 1 walk_at "e"
          refine wpAny_Expr (x_meth ?_ rfl rfl (by simp) rfl) V.notInter rfl
          walk_at "e"
          rw [strValues_append] at F
          refine m_pop (F.get (by walk_at "mm")) (cw_blt (aa_nil ?_) rfl)
          refine c_pop F (fun k' => .tail .head) (by rw [strValues_length]; simp at hla; lia) fun h₁₂ k₅ F => ?_
          repeat walk_at "e"
          refine hQT _ _ (Turn.next F ⟨_, rfl, la', k₅, v, ud, ud2, us, rfl, ?_, by simp at hla; lia, fun x hx => hsub x (by rw [List.map_append]; exact List.mem_append_left _ hx), by walk_at "lk", by walk_at "lk", by walk_at "lk", by walk_at "lk", by walk_at "lk"⟩)
          rw [← hn, hstep, if_neg (by rintro (q | q); exact q hdd; rw [hlc] at q; exact hadd (Option.some.inj q))]
          simp
    · rw [decide_eq_false hdd]
      refine if_t (if_t ?_)
      have hq : y ≠ ".." ∨ (la.map (·.1)).getLast? = some (Str.ofString "..") := .inl hdd
      walk_at "e"
      refine s_append (a := N) (vs := strValues la) ?_ rfl rfl rfl V.notInter
      walk_at "e"
      refine ⟨rfl, ⟨kk, F.get (by walk_at "mm")⟩, ?_⟩
      walk_at "e"
      refine c_append F (fun k' => .tail .head) (by rw [strValues_length]; lia) fun h₁₂ k₅ F => ⟨rfl, ?_⟩
      repeat walk_at "e"
      refine hQT _ _ (Turn.next F ⟨_, rfl, la ++ [(y, uy)], k₅, v, ud, ud2, us, by simp [strValues], ?_, by simp at hla ⊢; lia, ?_, by walk_at "lk", by walk_at "lk", by walk_at "lk", by walk_at "lk", by walk_at "lk"⟩)
      · rw [← hn, hstep, if_pos hq]; simp
      · intro x hx
        simp only [List.map_append, List.mem_append, List.map_cons, List.map_nil, List.mem_singleton] at hx
        rcases hx with hx | rfl
        · exact hsub x (by simpa using hx)
        · exact hmem
  · rintro h t m σ ⟨la, kk, v, ud, ud2, us, rfl, hn, hla, hsub, m1, m2, m3, m4, m5⟩ F
    rw [strValues_length] at hn hla
    iterate 3 walk_at "e"
    refine n_st F V rfl fun h₅ t₅ F => ?_
    iterate 4 walk_at "e"
    refine x_meth ?_ rfl rfl (by decide) rfl
    walk_at "e"
    refine GM.join (cw_blt ?_ rfl)
    repeat walk_at "e"
    have hB : ∀ y ∈ la.map (·.1), y.length ≤ 250 := fun y hy => hshort y (hsub y hy)
    refine c_join (B := 250) (isList_own F (by walk_at "mm")) hB (by rw [show (Str.ofString "/").length = 1 from rfl]; lia) fun z₅ t₆ => ?_
    have hres : la.map (·.1) = normL (Txt.split q "/") [] := by
      rw [← hls, ← hn, List.drop_eq_nil_of_le (by rw [List.length_map]; exact Nat.le_refl _)]; rfl
    have hjl := StrLaws.join_length_le "/" (la.map (·.1))
    have hsum := StrLaws.sumLen_le (la.map (·.1)) hB
    rw [List.length_map] at hjl hsum
    have h1 : ("/" : Str).length = 1 := rfl
    rw [h1] at hjl
    have hj : (Str.join "/" (la.map (·.1))).length ≤ 99000 := by lia
    refine t_add (by rw [h1]; lia) fun z₆ t₇ => ?_
    refine n_st F V rfl fun h₆ t₈ F => ?_
    iterate 2 walk_at "e"
    refine BoolOp_or ?_
    walk_at "e"
    refine t_true (by rw [Str.length_append, h1]; lia) fun t₉ => ?_
    have hne : (!decide (("/" : Str) ++ Str.join "/" (la.map (·.1)) = Str.empty)) = true := by
      rw [Bool.not_eq_true', decide_eq_false_iff_not]
      intro e
      have := congrArg Str.length e
      rw [Str.length_append, h1] at this
      have h0 : (Str.empty).length = 0 := rfl
      lia
    rw [hne]
    refine if_t ?_
    rw [hres]
    exact k _ _ _ F.kp
end

-- part F9
theorem IgO.empty (prog : Program) (w : World) : IgO prog w emptyD (fun _ => none) 0 :=
  ⟨[], ⟨#[], _, ⟨rfl, rfl, rfl⟩, rfl, fun e he => by simp at he, .nil, List.nodup_nil⟩, Nat.le_refl _, fun _ => rfl⟩
section
variable {prog : Program} {w : World} {A : Around} {E : Value → Shared → Prop} {H h : Heap} {g : Array GenState} {d : Drawn} {t : Nat} {os : OsState} {mg mb : Str → Option Value}

theorem cpath_spec (G : Glb w H mg mb) (K0 : Kp H H h) (hz : H.objs.size ≤ h.objs.size) (R : Rm A 2) {n c a x : Str} {un uc ua ux : Tok} {T D : Addr} {Q : Value → Shared → Prop} (hT : h.get? T = some (tupO [.str x ux])) (hD : h.get? D = some emptyD) (hD' : H.objs.size ≤ D)
    (k : ∀ h' t', Kp H h h' → Q (.str x ux) ⟨h', g, d, t', os⟩) :
    wpAny (model prog w) A (call (.ref 42) [.str n un, .str c uc, .str a ua, .ref T, .ref D]) Q E ⟨h, g, d, t, os⟩ := by
  refine call_s0 (c := 41) (binds := [("name", .str n un), ("cname", .str c uc), ("argname", .str a ua), ("args", .ref T), ("kwargs", .ref D)]) R hz K0 G.nolimit (K0.getc (G.K 42 _ rfl) nofun) rfl rfl (G.cd K0 rfl rfl rfl rfl) rfl (BindsTo.of_eq rfl) rfl rfl rfl rfl rfl (fun _ => rfl) (fun _ => rfl) rfl fun env L h₁ t₁ A' V hcode R' F => ?_
  dsimp only [bindM] at V F
  iterate 2 walk_at "e"
  refine t_bool (t_and ?_)
  walk_at "e"
  refine x_call (n_blt F V rfl K0 G.g G.b (gb_len G) ?_ rfl)
  refine cw_blt ?_ rfl
  repeat walk_at "e"
  refine len_tup (F.kp.getc hT nofun) (by simp) fun z t₂ => ?_
  repeat walk_at "e"
  refine if_t (t_and ?_)
  refine wpAny_isTrue_Not (t_name ?_)
  walk_at "e"
  refine wpAny_truthy_dict (knd := strKind prog w) (kvs := []) (notMods G hD') (Heap.dictOf_iff.mpr ⟨_, F.kp.getc hD nofun, ⟨#[], _, ⟨rfl, rfl, rfl⟩, rfl, fun e he => by simp at he, .nil, List.nodup_nil⟩⟩) (by decide) ?_
  refine if_t (t_and0 (if_t ?_))
  repeat walk_at "e"
  refine tup_item (k := 0) (F.kp.getc hT nofun) rfl (by decide) ?_ (by with_unfolding_all rfl)
  refine n_st F V rfl fun h₂ t₂ F => ?_
  repeat walk_at "e"
  refine x_call (n_glob F V rfl K0 G.g (gl_kind G) ?_ rfl)
  refine cw_fn ?_ rfl (by decide)
  repeat walk_at "e"
  refine ⟨⟨_, _, (K0.trans F.kp).getc (G.K 35 _ rfl) nofun, rfl⟩, kind_spec G (K0.trans F.kp) F.size R' fun h₃ t₃ u k3 => ?_⟩
  replace F := F.call k3
  refine n_st F V rfl fun h₄ t₄ F => ?_
  iterate 2 walk_at "e"
  refine t_name ?_
  walk_at "e"
  refine t_true (by decide) fun t₅ => ?_
  refine if_f ?_
  repeat walk_at "e"
  exact k _ _ F.kp

theorem call_g {n : Nat} {fd : FuncData} {o : Obj} {f c : Addr} {body : List Stmt} {args : Args} {binds : List (Str × Value)} {Q : Value → Shared → Prop} {h₂ : Heap} {t₂ : Nat} {φ : List (Addr × Obj)} (R0 : Rm A (n + 1)) (hz : H.objs.size ≤ h.objs.size)
    (ho : h.get? f = some o) (hd : o.data = .func fd) (hc : fd.code = .ref c) (hcd : Cd h c) (hbody : fd.body = .stmts body)
    (hb : ∀ (E : Value → Shared → Prop) (Q : List (Str × Value) → Shared → Prop), Q binds ⟨h₂, g, d, t₂, os⟩ → wpAny (model prog w) A.in1 (bindArgs fd args) Q E ⟨h, g, d, t, os⟩) (hz2 : h.objs.size ≤ h₂.objs.size) (k2 : Kp H h h₂) (fr : Fresh H h h₂ φ)
    (hco : fd.scope.isCoroutine = false) (hgen : fd.scope.isGenerator = false) (hk : fd.scope.kind = .function) (hG : fd.globals = mainGlobals) (hB : fd.builtins = builtinsNs)
    (k : ∀ env L h' t' A', EnvIs env fd.scope.names L (cellsFrom (L + 1) fd.scope.names fd.closure) → Rm A' n → Fx H h L h' (fun _ => none) (cellsσ (L + 1) fd.scope.names φ) → BindAll (model prog w) A.in1 NoE env binds
      (fun s' => s'.heap.NoLimit ∧ wpAny (model prog w) A' (execs body env) (fun fl s'' => Q (retOf fl) s'') NoE s') ⟨h', g, d, t', os⟩) :
    wpAny (model prog w) A (call (.ref f) args.pos args.kw) Q E ⟨h, g, d, t, os⟩ :=
  wpAny_call (enter_g R0 hz ho hd hc hcd hbody hb hz2 k2 fr hco hgen fun q L h' t' F => k (fenv fd q L f) L h' t' _ ⟨hk, rfl, rfl, rfl, hG, hB⟩ R0.deeper F)

set_option maxHeartbeats 1000000 in
theorem normpath_spec (G : Glb w H mg mb) (K0 : Kp H H h) (hz : H.objs.size ≤ h.objs.size) (R : Rm A 3) {p : Str} {up : Tok} {c : Nat} {r : List Nat} {Q : Value → Shared → Prop} (hp : p.cps.toList = 47 :: c :: r) (hc : c ≠ 47) (hl : p.length ≤ 250)
    (k : ∀ h' t' u, Kp H h h' → Q (.str ("/" ++ Str.join "/" (normL (Txt.split ⟨(c :: r).toArray⟩ "/") [])) u) ⟨h', g, d, t', os⟩) :
    wpAny (model prog w) A (call (.ref 63) [.str p up]) Q E ⟨h, g, d, t, os⟩ := by
  refine call_g (c := 62) (args := ⟨[.str p up], []⟩) (binds := [("args", .ref h.objs.size), ("kwargs", .ref (h.objs.size + 1))]) (h₂ := (h.push (tupO [.str p up])).push emptyD) (φ := [(h.objs.size + 1, emptyD), (h.objs.size, tupO [.str p up])]) R hz
    (K0.getc (G.K 63 _ rfl) nofun) rfl rfl (G.cd K0 rfl rfl rfl rfl) rfl (t₂ := t) ?_ ?_ ?_ ?_ rfl rfl rfl rfl rfl fun env L h₁ t₁ A' V R' F => ?_
  · intro E Q hq
    show wpAny _ _ (newTuple [.str p up] >>= fun T => alloc emptyD >>= fun dd => (pure [(Str.ofString "args", T), (Str.ofString "kwargs", .ref dd)] : Sem (List (Str × Value)))) _ _ _
    refine wpAny_bind (wpAny_newObj_type ?_ (by size_fits))
    refine wpAny_bind (wpAny_alloc' (wpAny_pure ?_))
    rw [Heap.size_push]
    exact hq
  · rw [Heap.size_push, Heap.size_push]; lia
  · exact (Kp.push h _).trans (Kp.push _ _)
  · have e1 : ((h.push (tupO [.str p up])).push emptyD).get? (h.objs.size + 1) = some emptyD := by
      have := Heap.get?_push_size (h.push (tupO [.str p up])) (o := emptyD) rfl
      rwa [Heap.size_push] at this
    have e2 : ((h.push (tupO [.str p up])).push emptyD).get? h.objs.size = some (tupO [.str p up]) := Heap.get?_push_of_some _ (Heap.get?_push_size _ rfl)
    refine ⟨fun x hx => ?_, fun x hx => ?_, by simp⟩
    · simp only [List.mem_cons, List.mem_nil_iff, or_false] at hx
      rcases hx with rfl | rfl
      · exact ⟨e1, Nat.le_succ _, ncl rfl⟩
      · exact ⟨e2, Nat.le_refl _, ncl rfl⟩
    · simp only [List.mem_cons, List.mem_nil_iff, or_false] at hx
      rcases hx with rfl | rfl
      · exact fun fd e => by cases e
      · exact fun fd e => by cases e
  · replace V : EnvIs env _ L [] := V
    replace F : Fx H h L h₁ (fun _ => none) [(h.objs.size + 1, emptyD), (h.objs.size, tupO [.str p up])] := F
    refine ba_cons (n_st F V rfl fun h₂ t₂ F => ?_)
    refine ba_cons (n_st F V rfl fun h₂ t₂ F => ba_nil ⟨(K0.trans F.kp).noLimit G.nolimit, ?_⟩)
    iterate 2 walk_at "e"
    refine x_call (n_glob F V rfl K0 G.g (gl_normpath0 G) ?_ rfl)
    refine cw_fn ?_ rfl (by decide)
    walk_at "e"
    refine x_call (n_glob F V rfl K0 G.g (gl_cpath G) ?_ rfl)
    refine cw_fn ?_ rfl (by decide)
    repeat walk_at "e"
    refine ⟨⟨_, _, (K0.trans F.kp).getc (G.K 42 _ rfl) nofun, rfl⟩, cpath_spec G (K0.trans F.kp) F.size R' (F.get (by walk_at "mm")) (F.get (by walk_at "mm")) (Nat.le_trans hz (Nat.le_succ _)) fun h₃ t₃ k3 => ?_⟩
    replace F := F.call k3
    repeat walk_at "e"
    refine ⟨⟨_, _, (K0.trans F.kp).getc (G.K 56 _ rfl) nofun, rfl⟩, norm_spec G (K0.trans F.kp) F.size R' hp hc hl fun h₄ t₄ u k4 => ?_⟩
    exact k _ _ _ (F.kp.trans k4)
end

-- part F10
/-- a reader's objects -/
structure Rd where
  x : Addr
  dx : Addr
  ms : Addr
  dl : Addr
  ig : Addr
  od : Obj
  oset : Obj
  odir : Obj
  oig : Obj
noncomputable def rdσ (r : Rd) : List (Addr × Obj) := [(r.ig, r.oig), (r.x, instObj 86 r.dx), (r.dx, r.od), (r.ms, r.oset), (r.dl, r.odir)]
/-- what a reader holds: the modules, the folders, what it has told -/
structure RdOk (prog : Program) (w : World) (r : Rd) (ys ds : List (Str × Tok)) (c : Str → Option Int) (n : Nat) : Prop where
  ns : ∃ mI sz, NsO r.od mI sz ∧ mI "_mods" = some (.ref r.ms) ∧ mI "_dirs" = some (.ref r.dl) ∧ mI "_ignore" = some (.ref r.ig) ∧ mI "names" = none
  set : SetIs w r.oset ys
  dir : ∃ k, r.odir = listO (strValues ds) k
  ig : IgO prog w r.oig c n
noncomputable def nrm (p : Str) : Str := "/" ++ Str.join "/" (normL (Txt.split ⟨(p.cps.toList.drop 1).toArray⟩ "/") [])
noncomputable def PathOk (p : Str) : Prop := ∃ c r, p.cps.toList = 47 :: c :: r ∧ c ≠ 47 ∧ p.length ≤ 250
noncomputable def c0 : Str → Option Int := fun s => if s = "<string>" then some 1 else none

theorem permR {α : Type} {a b c l e f : α} {σ : List α} : (a :: b :: c :: l :: e :: f :: σ).Perm (l :: a :: e :: f :: c :: b :: σ) := by
  refine (List.perm_middle (l₁ := [a, b, c])).trans (List.Perm.cons _ (List.Perm.cons _ ?_))
  refine (List.perm_middle (l₁ := [b, c])).trans (List.Perm.cons _ ?_)
  exact (List.perm_middle (l₁ := [b, c])).trans (List.Perm.cons _ (List.Perm.swap _ _ _))
section
variable {prog : Program} {w : World} {A : Around} {E : Value → Shared → Prop} {H h₀ h : Heap} {g : Array GenState} {d : Drawn} {t : Nat} {os : OsState} {env : Env}
  {m mg mb : Str → Option Value} {σ : List (Addr × Obj)} {L : Addr} {names : List (Str × NameKind)} {cells : List (Str × Addr)}

/-- {'<string>': 1} -/
theorem x_dict1 {k1 k2 : Nat} {p1 p2 pos : Pos} {y : Str} {i : Int} {Q : Value → Shared → Prop} (F : Fx H h₀ L h m σ) (k : ∀ D o h' t', IgO prog w o (fun s => if s = y then some i else none) 1 → Fx H h₀ L h' m ((D, o) :: σ) → Q (.ref D) ⟨h', g, d, t', os⟩) :
    wpAny (model prog w) A (eval (.Dict [some (.Constant (.str y) k1 p1)] [.Constant (.int i) k2 p2] pos) env) Q E ⟨h, g, d, t, os⟩ := by
  refine wpAny_Dict_pairs (knd := strKind prog w) (pairs := [(eval (.Constant (.str y) k1 p1) env, do let x ← eval (.Constant (.int i) k2 p2) env; standAt pos; pure x)]) rfl (by simp) (by simp) ?_
  refine wpAny_bind (c_str fun u t' => wpAny_bind (wpAny_holding (wpAny_bind (c_int fun v t'' => wpAny_bind (wpAny_standAt (wpAny_pure ?_))))))
  refine wpAny_bind (wpAny_holding (wpAny_pure (wpAny_pure ?_)))
  have F1 := F.push emptyD rfl (ncl rfl)
  refine ⟨[(y, .int i v)], ?_, Heap.dictOf_iff.mpr ⟨_, F1.get (.head _), ⟨#[], _, ⟨rfl, rfl, rfl⟩, rfl, fun e he => by simp at he, .nil, List.nodup_nil⟩⟩, fun h' hD hs => ?_⟩
  · exact ⟨strKind_is _ _ _ _, rfl, trivial⟩
  · obtain ⟨o, ho, hd⟩ := Heap.dictOf_iff.mp hD
    have X : IgO prog w o (fun s => if s = y then some i else none) 1 := by
      refine ⟨_, hd, Nat.le_refl _, fun s => ?_⟩
      have hv : valueAt (merged [] [(y, Value.int i v)]) s = if s = y then some (.int i v) else none := by
        show valueAt (stored [] y (.int i v)) s = _
        rw [valueAt_stored]; rfl
      by_cases e : s = y
      · rw [if_pos e] at hv; simp only [e, if_true] at hv ⊢; exact ⟨v, hv⟩
      · rw [if_neg e] at hv; simp only [e, if_false]; exact hv
    exact k _ o h' _ X (F1.upd .head hs.extBut ho X.ncl X.gf)

theorem c_set0 {Q : Value → Shared → Prop} (F : Fx H h₀ L h m σ) (k : ∀ S h' t' led, Fx H h₀ L h' m ((S, set0O led) :: σ) → Q (.ref S) ⟨h', g, d, t', os⟩) : wpAny (model prog w) A (call (.type "set") []) Q E ⟨h, g, d, t, os⟩ :=
  call_set_0 fun led => k _ _ _ led (F.push _ rfl (ncl rfl))

theorem c_Ignore {v1 v2 : Value} {Q : Value → Shared → Prop} (G : Glb w H mg mb) (K0 : Kp H H h₀) (F : Fx H h₀ L h m σ)
    (hq : codeAny (model prog w) (A.under (.builtin "type.__call__" ⟨[.ref 86, v1, v2], []⟩)) (.call (.ref 76) ⟨[.ref (h.objs.size + 1), v1, v2], []⟩) (InitBack (h.objs.size + 1) fun r s' => match r with | .ok (.ret v) => Q v s' | .ok _ => False | .error e => E e s')
      ⟨(h.push emptyD).push (instObj 86 h.objs.size), g, d, t, os⟩) :
    wpAny (model prog w) A (call (.ref 86) [v1, v2]) Q E ⟨h, g, d, t, os⟩ := by
  have X := G.kin (K0.trans F.kp)
  exact wpAny_call (make_core (makes_of X (ig_makes w)) (looks_findIn X (ig_init w)) (fun self => bind_fn X self (ig_f76 w)) (.inl rfl) hq)

set_option maxHeartbeats 2000000 in
/-- _Ignore([y], None) -/
theorem ignore_mod {l : Addr} {y : Str} {u : Tok} {Q : Value → Shared → Prop} (G : Glb w H mg mb) (K0 : Kp H H h₀) (R : Rm A 2) (F : Fx H h₀ L h m σ) {k₀ : Nat} (hl : (l, listO [.str y u] k₀) ∈ σ)
    (k : ∀ r h' t', RdOk prog w r [(y, u)] [] c0 1 → Fx H h₀ L h' m (rdσ r ++ σ) → Q (.ref r.x) ⟨h', g, d, t', os⟩) :
    wpAny (model prog w) A (call (.ref 86) [.ref l, .none]) Q E ⟨h, g, d, t, os⟩ := by
  refine c_Ignore G K0 F ?_
  have F1 := (F.push emptyD rfl (ncl rfl)).push (instObj 86 h.objs.size) rfl (ncl rfl)
  rw [Heap.size_push] at F1
  generalize hx : h.objs.size + 1 = x at F1 ⊢
  generalize hdx : h.objs.size = dx at F1 ⊢
  have K1 := K0.trans F1.kp
  refine code_n (c := 75) (binds := [("self", .ref x), ("modules", .ref l), ("dirs", .none)]) (R.under _) F1 K0 G.nolimit (K1.getc (G.K 76 _ rfl) nofun) rfl rfl (G.cd K1 rfl rfl rfl rfl) rfl (kp_binds (G.kin K1) fun _ => rfl) rfl rfl rfl rfl rfl (fun _ => rfl) (fun _ => rfl) rfl fun env L₂ oL h₁ t₁ A' V hcode R' nL F => ?_
  dsimp only [bindM] at V F
  walk_at "e"
  refine plainObj_wpAny_Assign_Attribute ?_ rfl
  refine wpAny_IfExp (wpAny_isTrue_Not (t_name ?_))
  walk_at "e"
  refine l_true (isList_own (vs := [.str y u]) F (.tail _ (.tail _ (.tail _ hl)))) (by simp) fun t₂ => if_f ?_
  refine x_call (n_blt F V rfl K0 G.g G.b (gb_set G) ?_ rfl)
  refine cw_type ?_ rfl
  repeat walk_at "e"
  refine c_set1 F R'.hd (isList_own (vs := [.str y u]) F (.tail _ (.tail _ (.tail _ hl)))) fun S h₂ t₂ j F => ?_
  repeat walk_at "e"
  refine i_set G K0 F (.tail _ (.tail _ (.head _))) (fun o' => .tail (.tail (.tail .head))) NsO.empty (by decide) (ig_t1 w) fun o1 h₃ t₃ F n1 => ?_
  walk_at "e"
  refine plainObj_wpAny_Assign_Attribute ?_ rfl
  refine wpAny_IfExp (wpAny_isTrue_Not (t_name ?_))
  walk_at "e"
  refine t_none (if_t ?_)
  refine x_list (aa_nil ?_) rfl
  refine mk_list F (by simp) fun D h₄ t₄ F => ?_
  walk_at "e"
  refine i_set G K0 F (.tail _ (.tail _ (.tail _ (.head _)))) (fun o' => .tail (.tail (.tail (.tail .head)))) n1 (by decide) (ig_t2 w) fun o2 h₅ t₅ F n2 => ?_
  walk_at "e"
  refine plainObj_wpAny_Assign_Attribute ?_ rfl
  refine x_dict1 F fun I oI h₆ t₆ hI F => ?_
  walk_at "e"
  refine i_set G K0 F (.tail _ (.tail _ (.tail _ (.tail _ (.head _))))) (fun o' => .tail (.tail (.tail (.tail (.tail .head))))) n2 (by decide) (ig_t3 w) fun o3 h₇ t₇ F n3 => ?_
  walk_at "e"
  refine ⟨rfl, ?_⟩
  replace F := F.perm (σ' := (L, oL) :: (rdσ ⟨x, dx, S, D, I, o3, set1O (hashStr w y) y u j (ledW w), listO [], oI⟩ ++ σ)) ?_
  · exact k ⟨x, dx, S, D, I, o3, _, _, oI⟩ _ _ ⟨⟨_, _, n3, by walk_at "lk", by walk_at "lk", by walk_at "lk", by walk_at "lk"⟩, .one y u j, ⟨_, rfl⟩, hI⟩ (F.leaveC nL)
  · exact permR
end

-- part F11
section
variable {prog : Program} {w : World} {A : Around} {E : Value → Shared → Prop} {H h₀ h : Heap} {g : Array GenState} {d : Drawn} {t : Nat} {os : OsState} {env : Env}
  {m mg mb : Str → Option Value} {σ : List (Addr × Obj)} {L : Addr} {names : List (Str × NameKind)} {cells : List (Str × Addr)}
theorem nrm_eq {p : Str} {c : Nat} {r : List Nat} (hp : p.cps.toList = 47 :: c :: r) : nrm p = "/" ++ Str.join "/" (normL (Txt.split ⟨(c :: r).toArray⟩ "/") []) := by unfold nrm; rw [hp]; rfl

set_option maxHeartbeats 2000000 in
/-- _Ignore(None, [..]) -/
theorem ignore_dir {l : Addr} {ls : List (Str × Tok)} {Q : Value → Shared → Prop} (G : Glb w H mg mb) (K0 : Kp H H h₀) (R : Rm A 5) (F : Fx H h₀ L h m σ) {k₀ : Nat} (hl : (l, listO (strValues ls) k₀) ∈ σ) (hne : ls ≠ []) (hls : ls.length ≤ 100) (hok : ∀ p ∈ ls.map (·.1), PathOk p)
    (k : ∀ r ds h' t', ds.map (·.1) = (ls.map (·.1)).map nrm → RdOk prog w r [] ds c0 1 → Fx H h₀ L h' m (rdσ r ++ σ) → Q (.ref r.x) ⟨h', g, d, t', os⟩) :
    wpAny (model prog w) A (call (.ref 86) [.none, .ref l]) Q E ⟨h, g, d, t, os⟩ := by
  refine c_Ignore G K0 F ?_
  have F1 := (F.push emptyD rfl (ncl rfl)).push (instObj 86 h.objs.size) rfl (ncl rfl)
  rw [Heap.size_push] at F1
  generalize hx : h.objs.size + 1 = x at F1 ⊢
  generalize hdx : h.objs.size = dx at F1 ⊢
  have K1 := K0.trans F1.kp
  refine code_n (c := 75) (binds := [("self", .ref x), ("modules", .none), ("dirs", .ref l)]) (R.under _) F1 K0 G.nolimit (K1.getc (G.K 76 _ rfl) nofun) rfl rfl (G.cd K1 rfl rfl rfl rfl) rfl (kp_binds (G.kin K1) fun _ => rfl) rfl rfl rfl rfl rfl (fun _ => rfl) (fun _ => rfl) rfl fun env L₂ oL h₁ t₁ A' V hcode R' nL F => ?_
  dsimp only [bindM] at V F
  walk_at "e"
  refine plainObj_wpAny_Assign_Attribute ?_ rfl
  refine wpAny_IfExp (wpAny_isTrue_Not (t_name ?_))
  walk_at "e"
  refine t_none (if_t ?_)
  refine x_call (n_blt F V rfl K0 G.g G.b (gb_set G) ?_ rfl)
  refine cw_type ?_ rfl
  repeat walk_at "e"
  refine c_set0 F fun S h₂ t₂ led F => ?_
  walk_at "e"
  refine i_set G K0 F (.tail _ (.tail _ (.head _))) (fun o' => .tail (.tail (.tail .head))) NsO.empty (by decide) (ig_t1 w) fun o1 h₃ t₃ F n1 => ?_
  walk_at "e"
  refine plainObj_wpAny_Assign_Attribute ?_ rfl
  refine wpAny_IfExp (wpAny_isTrue_Not (t_name ?_))
  walk_at "e"
  have hl4 : (l, listO (strValues ls) k₀) ∈ (S, set0O led) :: (L, oL) :: (x, instObj 86 dx) :: (dx, o1) :: σ := .tail _ (.tail _ (.tail _ (.tail _ hl)))
  refine l_true (isList_own F hl4) (by rw [strValues_length]; lia) fun t₂ => ?_
  have hne' : (!(strValues ls).isEmpty) = true := by cases ls with | nil => exact absurd rfl hne | cons a b => rfl
  rw [hne']
  refine if_f ?_
  refine comp_start (closureFor_of V rfl) ?_ rfl (by decide) fun _ => rfl
  walk_at "e"
  refine comp_listK (ws := strValues ls) (isList_own F hl4) (fun j ws σ' => σ' = (S, set0O led) :: (L, oL) :: (x, instObj 86 dx) :: (dx, o1) :: σ ∧ ∃ ds : List (Str × Tok), ws = strValues ds ∧ ds.map (·.1) = ((ls.map (·.1)).take j).map nrm)
    F R'.hd V rfl (by decide) rfl ⟨rfl, [], rfl, rfl⟩ (by rw [strValues_length]; lia) ?_ ?_ ?_ ?_
  · rintro j ws σ' ⟨rfl, ds, rfl, hds⟩
    have := congrArg List.length hds
    simp at this
    rw [strValues_length]; lia
  · rintro j ws h C mC σ' σ₀ ⟨rfl, _⟩ hsub F
    exact isList_own F (hsub _ hl4)
  · rintro j h t mC ws σ' v it o C D kk oL₂ cenv hv HI V₂ F KA KB k1 k0
    obtain ⟨rfl, ds, rfl, hds⟩ := HI
    have hil : j < ls.length := by
      rcases Nat.lt_or_ge j ls.length with q | q
      · exact q
      · rw [List.getElem?_eq_none (by rw [strValues_length]; exact q)] at hv; cases hv
    have hve : v = .str ls[j].1 ls[j].2 := by
      rw [show (strValues ls)[j]? = some (.str ls[j].1 ls[j].2) by simp [strValues, hil]] at hv
      exact (Option.some.inj hv).symm
    subst hve
    obtain ⟨c, r, hp, hc, hpl⟩ := hok ls[j].1 (List.mem_map_of_mem (List.getElem_mem hil))
    refine ta_nil (if_t ?_)
    refine x_call (n_glob F V₂ rfl K0 G.g (gl_normpath G) ?_ rfl)
    refine cw_fn ?_ rfl (by decide)
    repeat walk_at "e"
    refine ⟨⟨_, _, (K0.trans F.kp).getc (G.K 63 _ rfl) nofun, rfl⟩, normpath_spec G (K0.trans F.kp) F.size R' hp hc hpl fun h₅ t₅ u₅ k5 => ?_⟩
    replace F := F.call k5
    refine k1 _ _ _ _ _ F ⟨rfl, ds ++ [(nrm ls[j].1, u₅)], ?_, ?_⟩
    · rw [strValues_append, nrm_eq hp]
    · rw [List.map_append, hds, List.take_succ]
      simp [hil]
  · rintro D kk ws σ' ⟨rfl, ds, rfl, hds⟩
    intro h₄ t₄ F
    rw [strValues_length, List.take_of_length_le (by rw [List.length_map]; exact Nat.le_refl _)] at hds
    walk_at "e"
    refine i_set G K0 F (.tail _ (.tail _ (.tail _ (.head _)))) (fun o' => .tail (.tail (.tail (.tail .head)))) n1 (by decide) (ig_t2 w) fun o2 h₅ t₅ F n2 => ?_
    walk_at "e"
    refine plainObj_wpAny_Assign_Attribute ?_ rfl
    refine x_dict1 F fun I oI h₆ t₆ hI F => ?_
    walk_at "e"
    refine i_set G K0 F (.tail _ (.tail _ (.tail _ (.tail _ (.head _))))) (fun o' => .tail (.tail (.tail (.tail (.tail .head))))) n2 (by decide) (ig_t3 w) fun o3 h₇ t₇ F n3 => ?_
    walk_at "e"
    refine ⟨rfl, ?_⟩
    replace F := F.perm (σ' := (L, oL) :: (rdσ ⟨x, dx, S, D, I, o3, set0O led, listO (strValues ds) kk, oI⟩ ++ σ)) permR
    exact k ⟨x, dx, S, D, I, o3, _, _, oI⟩ ds _ _ hds ⟨⟨_, _, n3, by walk_at "lk", by walk_at "lk", by walk_at "lk", by walk_at "lk"⟩, .nil led, ⟨_, rfl⟩, hI⟩ (F.leaveC nL)
end

-- part F12
/-- what a reader answers -/
noncomputable def askF (ys ds : List Str) (c : Str → Option Int) (file : Option Str) (name : Str) : Int :=
  match c name with
  | some i => i
  | none => if name ∈ ys then 1 else if ys.any (fun y => Txt.startswith name (y ++ ".")) = true then 1 else match file with
    | none => 1
    | some f => if ds.any (fun x => Txt.startswith f (x ++ "/")) = true then 1 else 0
noncomputable def fileV : Option (Str × Tok) → Value
  | none => .none
  | some (f, u) => .str f u
theorem Up.same {a : Addr} {o : Obj} {σ σ' : List (Addr × Obj)} (u : Up a o o σ σ') : σ' = σ := by
  induction u with
  | head => rfl
  | tail _ ih => rw [ih]

section
variable {prog : Program} {w : World} {A : Around} {E : Value → Shared → Prop} {H h₀ h : Heap} {g : Array GenState} {d : Drawn} {t : Nat} {os : OsState} {env : Env}
  {m mg mb : Str → Option Value} {σ : List (Addr × Obj)} {L : Addr} {names : List (Str × NameKind)} {cells : List (Str × Addr)}

set_option maxHeartbeats 4000000 in
theorem names_spec {r : Rd} {ys ds : List (Str × Tok)} {c : Str → Option Int} {n : Nat} {file : Option (Str × Tok)} {name : Str} {un : Tok} {gσ : Obj → List (Addr × Obj)} {Q : Value → Shared → Prop} (G : Glb w H mg mb) (K0 : Kp H H h₀) (R : Rm A 1) (F : Fx H h₀ L h m σ)
    (ok : RdOk prog w r ys ds c n) (hn : n < 1000) (hσ : ∀ p ∈ rdσ r, p ∈ σ) (U : ∀ o', Up r.ig r.oig o' σ (gσ o')) (hname : name.length ≤ 1000) (hys : ∀ y ∈ ys.map (·.1), y.length ≤ 1000) (hds : ∀ y ∈ ds.map (·.1), y.length ≤ 1000) (hdl : ds.length ≤ 100)
    (k : ∀ o' h' t' u, IgO prog w o' (fun s => if s = name then some (askF (ys.map (·.1)) (ds.map (·.1)) c (file.map (·.1)) name) else c s) (n + 1) → Fx H h₀ L h' m (gσ o') →
      Q (.int (askF (ys.map (·.1)) (ds.map (·.1)) c (file.map (·.1)) name) u) ⟨h', g, d, t', os⟩) :
    wpAny (model prog w) A (call (.ref 83) [.ref r.x, fileV file, .str name un]) Q E ⟨h, g, d, t, os⟩ := by
  have K1 := K0.trans F.kp
  refine call_n (c := 82) (binds := [("self", .ref r.x), ("filename", fileV file), ("modulename", .str name un)]) R F K0 G.nolimit (K1.getc (G.K 83 _ rfl) nofun) rfl rfl (G.cd K1 rfl rfl rfl rfl) rfl (BindsTo.of_eq rfl) rfl rfl rfl rfl rfl (fun _ => rfl) (fun _ => rfl) rfl fun env L₂ oL h₁ t₁ A' V hcode R' nL F => ?_
  dsimp only [bindM] at V F
  obtain ⟨mI, sz, nso, e1, e2, e3, e4⟩ := ok.ns
  obtain ⟨kd, edir⟩ := ok.dir
  have hsub : ∀ p ∈ rdσ r, p ∈ (L, oL) :: σ := fun p hp => .tail _ (hσ p hp)
  have p1 := hsub (r.ig, r.oig) (.head _)
  have p2 := hsub (r.x, instObj 86 r.dx) (.tail _ (.head _))
  have p3 := hsub (r.dx, r.od) (.tail _ (.tail _ (.head _)))
  have p4 := hsub (r.ms, r.oset) (.tail _ (.tail _ (.tail _ (.head _))))
  have p5 := hsub (r.dl, r.odir) (.tail _ (.tail _ (.tail _ (.tail _ (.head _)))))
  have hig : H.objs.size ≤ r.ig := Nat.le_trans F.base (F.own _ p1).2.1
  -- self.x, in any frame that holds the reader
  have get : ∀ {nm : Str} {v : Value} {h : Heap} {t : Nat} {m' : Str → Option Value} {τ : List (Addr × Obj)} {ex : Bool} {Q : Value → Shared → Prop}, Fx H h₀ L₂ h m' τ → (∀ p ∈ (L, oL) :: σ, p ∈ τ) → findIn (Kg w) (.ref 86) nm = some none → mI nm = some v → handedIn v = true →
      (∀ t', Q v ⟨h, g, d, t', os⟩) → wpAny (model prog w) A' (getAttr (.ref r.x) nm ex) Q NoE ⟨h, g, d, t, os⟩ :=
    fun F hs hf hv hh k => i_get G (K0.trans F.kp) (F.get (hs _ p2)) (F.get (hs _ p3)) nso hf hv hh k
  iterate 4 walk_at "e"
  refine Attribute_name ?_
  walk_at "e"
  refine get F (fun _ q => q) (ig_ignore w) e3 rfl fun t₂ => ?_
  refine ig_in G ok.ig (F.get p1) hig fun t₃ => ?_
  walk_at "e"
  cases hcn : c name with
  | some i =>
    have hres : askF (ys.map (·.1)) (ds.map (·.1)) c (file.map (·.1)) name = i := by unfold askF; rw [hcn]
    rw [hres] at k
    refine if_t ?_
    iterate 3 walk_at "e"
    refine Attribute_name ?_
    walk_at "e"
    refine get F (fun _ q => q) (ig_ignore w) e3 rfl fun t₂ => ?_
    walk_at "e"
    refine ig_item ok.ig (F.get p1) hcn (fun z t₄ => ?_) (by with_unfolding_all rfl)
    have hc' : (fun s => if s = name then some i else c s) = c := by
      funext s; by_cases e : s = name
      · simp only [e, if_true, hcn]
      · simp only [e, if_false]
    obtain ⟨kvs, a1, a2, a3⟩ := ok.ig
    refine k r.oig _ _ _ (by rw [hc']; exact ⟨kvs, a1, by lia, a3⟩) ?_
    rw [(U r.oig).same]
    exact F.leaveC nL
  | none =>
    refine if_f ?_
    -- the end: an answer is written and told
    have fin : ∀ (i : Int), askF (ys.map (·.1)) (ds.map (·.1)) c (file.map (·.1)) name = i → ∀ {h : Heap} {t : Nat} {m' : Str → Option Value} {τ : List (Addr × Obj)} {pos1 pos2 pos3 pos4 pos5 pos6 pos7 pos8 : Pos} {k1 k2 : Nat} {Q' : Flow → Shared → Prop}, Fx H h₀ L₂ h m' τ → (((L, oL) :: σ).Sublist τ) →
        m' "self" = some (.ref r.x) → m' "modulename" = some (.str name un) → (∀ v s, Q v s → Q' (.ret v) s) →
        wpAny (model prog w) A' (execs [.Assign [.Subscript (.Attribute (.Name "self" pos1) "_ignore" pos2) (.Name "modulename" pos3) pos4] (.Constant (.int i) k1 pos5) pos6, .Return (some (.Constant (.int i) k2 pos8)) pos7] env) Q' NoE ⟨h, g, d, t, os⟩ := by
      intro i hres h t m' τ _ _ _ _ _ _ _ _ _ _ Q' F hs s1 s2 kQ
      rw [hres] at k
      walk_at "e"
      refine wpAny_Assign_Subscript ?_
      walk_at "e"
      refine Attribute_name ?_
      walk_at "e"
      refine get F (fun _ q => hs.subset q) (ig_ignore w) e3 rfl fun t₂ => ?_
      walk_at "e"
      replace F := F.weaken hs
      refine ig_put F ok.ig hn (fun o' => .tail (U o')) fun o' h' t' X F => ?_
      repeat walk_at "e"
      exact kQ _ _ (k o' _ _ _ X (F.leaveC nL))
    have ask0 : ∀ {x : Int}, (if name ∈ ys.map (·.1) then 1 else if (ys.map (·.1)).any (fun y => Txt.startswith name (y ++ ".")) = true then 1 else match file.map (·.1) with | none => 1 | some f => if (ds.map (·.1)).any (fun x => Txt.startswith f (x ++ "/")) = true then 1 else 0) = x → askF (ys.map (·.1)) (ds.map (·.1)) c (file.map (·.1)) name = x := by
      intro x e; unfold askF; rw [hcn]; exact e
    iterate 5 walk_at "e"
    refine Attribute_name ?_
    walk_at "e"
    refine get F (fun _ q => q) (ig_mods w) e1 rfl fun t₂ => ?_
    refine set_in ok.set (F.get p4) fun t₃ => ?_
    walk_at "e"
    refine split_bool (fun hc => ?_) fun hc => ?_
    · refine fin 1 (ask0 (if_pos (of_decide_eq_true hc))) F (List.Sublist.refl _) (by walk_at "lk") (by walk_at "lk") fun v s q => q
    have hnot := of_decide_eq_false hc
    repeat walk_at "e"
    refine for_start ?_ fun _ => rfl
    refine Attribute_name ?_
    walk_at "e"
    refine get F (fun _ q => q) (ig_mods w) e1 rfl fun t₂ => ?_
    refine for_set ok.set (F.get p4) (fun i m' τ => τ = (L, oL) :: σ ∧ m' "self" = some (.ref r.x) ∧ m' "modulename" = some (.str name un) ∧ m' "filename" = some (fileV file) ∧ ((ys.map (·.1)).take i).any (fun y => Txt.startswith name (y ++ ".")) = false) F V R'.hd rfl
      ⟨rfl, by walk_at "lk", by walk_at "lk", by walk_at "lk", rfl⟩ ?_ ?_ ?_
    · rintro i h m' τ ⟨rfl, _⟩ F
      exact F.get p4
    · rintro i h t m' τ y u it o hy HI F
      refine cutQ fun QT hQT => ?_
      obtain ⟨rfl, s1, s2, s3, hany⟩ := HI
      have hyi : (ys.map (·.1))[i]? = some y := by simp [hy]
      have hyl := hys y (List.mem_of_getElem? hyi)
      have hmem := List.mem_of_getElem? hyi
      iterate 2 walk_at "e"
      refine t_call ?_
      refine x_meth ?_ rfl rfl (by decide) rfl
      walk_at "e"
      refine GM.startswith (cw_blt ?_ rfl)
      repeat walk_at "e"
      refine t_add (by have : (Str.ofString ".").length = 1 := rfl; lia) fun z t₅ => ?_
      repeat walk_at "e"
      refine SC.startswith ?_
      repeat walk_at "e"
      refine split_bool (fun hc => ?_) fun hc => ?_
      · refine fin 1 (ask0 ?_) F (List.Sublist.cons _ (List.Sublist.refl _)) (by walk_at "lk") (by walk_at "lk") fun v s q => hQT _ _ q
        rw [if_neg hnot, if_pos (List.any_eq_true.mpr ⟨y, hmem, hc⟩)]
      · repeat walk_at "e"
        refine hQT _ _ (Turn.next F ⟨_, rfl, rfl, by walk_at "lk", by walk_at "lk", by walk_at "lk", ?_⟩)
        rw [List.take_succ, List.any_append, hany, hyi]
        simpa using hc
    · rintro h t m' τ ⟨rfl, s1, s2, s3, hany⟩ F
      rw [List.take_of_length_le (by simp)] at hany
      have hany' : ¬ (ys.map (·.1)).any (fun y => Txt.startswith name (y ++ ".")) = true := by rw [hany]; decide
      iterate 3 walk_at "e"
      have hcase : file = none ∨ ∃ f uf, file = some (f, uf) := by
        rcases file with _ | ⟨f, uf⟩
        · exact .inl rfl
        · exact .inr ⟨f, uf, rfl⟩
      rcases hcase with hf | ⟨f, uf, hf⟩
      · rw [hf] at s3
        repeat walk_at "e"
        refine wpAny_is_self rfl ?_
        walk_at "e"
        refine if_t ?_
        refine fin 1 (ask0 ?_) F (List.Sublist.refl _) (by walk_at "lk") (by walk_at "lk") fun v s q => q
        rw [if_neg hnot, if_neg hany', hf]; rfl
      · rw [hf] at s3
        repeat walk_at "e"
        refine wpAny_is_other rfl nofun ?_
        walk_at "e"
        refine if_f ?_
        repeat walk_at "e"
        refine for_start ?_ fun _ => rfl
        refine Attribute_name ?_
        walk_at "e"
        refine get F (fun _ q => q) (ig_dirs w) e2 rfl fun t₂ => ?_
        have hdl5 : ∀ {h : Heap} {m' : Str → Option Value} {τ : List (Addr × Obj)}, Fx H h₀ L₂ h m' τ → (r.dl, r.odir) ∈ τ → h.IsList r.dl (strValues ds).toArray := fun F q => ⟨_, F.get q, by rw [edir], _, by rw [edir]⟩
        refine for_list (vs := strValues ds) (hdl5 F p5) (fun i m' τ => τ = (L, oL) :: σ ∧ m' "self" = some (.ref r.x) ∧ m' "modulename" = some (.str name un) ∧ m' "filename" = some (.str f uf) ∧ ((ds.map (·.1)).take i).any (fun y => Txt.startswith f (y ++ "/")) = false) F V R'.hd rfl
          ⟨rfl, by walk_at "lk", by walk_at "lk", by walk_at "lk", rfl⟩ ?_ ?_ ?_
        · rintro i h m' τ ⟨rfl, _⟩ F
          exact hdl5 F p5
        · rintro i h t m' τ v it o hv HI F
          refine cutQ fun QU hQU => ?_
          obtain ⟨rfl, s1, s2, s3, hany⟩ := HI
          have hil : i < ds.length := by
            rcases Nat.lt_or_ge i ds.length with q | q
            · exact q
            · rw [List.getElem?_eq_none (by rw [strValues_length]; exact q)] at hv; cases hv
          have hve : v = .str ds[i].1 ds[i].2 := by
            rw [show (strValues ds)[i]? = some (.str ds[i].1 ds[i].2) by simp [strValues, hil]] at hv
            exact (Option.some.inj hv).symm
          subst hve
          have hyi : (ds.map (·.1))[i]? = some ds[i].1 := by simp [hil]
          have hmem := List.mem_of_getElem? hyi
          have hyl := hds _ hmem
          iterate 2 walk_at "e"
          refine t_call ?_
          refine x_meth ?_ rfl rfl (by decide) rfl
          walk_at "e"
          refine GM.startswith (cw_blt ?_ rfl)
          repeat walk_at "e"
          refine n_glob F V rfl K0 G.g (gl_sep G) ?_ rfl
          refine t_add (by have : (Str.ofString "/").length = 1 := rfl; lia) fun z t₅ => ?_
          repeat walk_at "e"
          refine SC.startswith ?_
          repeat walk_at "e"
          refine split_bool (fun hc => ?_) fun hc => ?_
          · refine fin 1 (ask0 ?_) F (List.Sublist.cons _ (List.Sublist.refl _)) (by walk_at "lk") (by walk_at "lk") fun v s q => hQU _ _ q
            rw [if_neg hnot, if_neg hany', hf]
            exact if_pos (List.any_eq_true.mpr ⟨_, hmem, hc⟩)
          · repeat walk_at "e"
            refine hQU _ _ (Turn.next F ⟨_, rfl, rfl, by walk_at "lk", by walk_at "lk", by walk_at "lk", ?_⟩)
            rw [List.take_succ, List.any_append, hany, hyi]
            simpa using hc
        · rintro h t m' τ ⟨rfl, s1, s2, s3, hany2⟩ F
          rw [strValues_length, List.take_of_length_le (by simp)] at hany2
          refine fin 0 (ask0 ?_) F (List.Sublist.refl _) (by walk_at "lk") (by walk_at "lk") fun v s q => q
          rw [if_neg hnot, if_neg hany', hf]
          exact if_neg (by rw [hany2]; decide)
end

-- part F13
section
variable {prog : Program} {w : World} {A : Around} {E : Value → Shared → Prop} {H h₀ h : Heap} {g : Array GenState} {d : Drawn} {t : Nat} {os : OsState} {env : Env} {pos : Pos}
  {m mg mb : Str → Option Value} {σ : List (Addr × Obj)} {L : Addr} {names : List (Str × NameKind)} {cells : List (Str × Addr)}
theorem ig_keep (w : World) : keepIn (Kg w) (.ref 86) = true := by kernel_rfl
/-- a call of the class -/
theorem cw_cls {e : Expr} {rest : List Expr} {Q : Value → Shared → Prop} (G : Glb w H mg mb) (h' : ArgsAt (model prog w) A E env (e :: rest) (fun vs s₁ => Kp H H s₁.heap ∧ wpAny (model prog w) A (call (.ref 86) vs) Q E s₁) ⟨h, g, d, t, os⟩) (hp : plainArgs (e :: rest) = true) :
    wpAny (model prog w) A (callWith pos (.ref 86) [] (backTo pos (starEach (e :: rest) env)) []) Q E ⟨h, g, d, t, os⟩ := by
  refine callWith_K (K := Kg w) (G.kin (Kp.refl H H)) (ig_keep w) (wpAny_mono (args_of (e :: rest) _ _ hp h') (fun vs s₁ h₁ => ⟨G.kin h₁.1, h₁.2⟩) fun _ _ x => x) (starEach_plain hp).1 (args_plain rest (starEach_plain (env := env) hp).2)

noncomputable def repl (name : Str) : Str := Txt.replace name "." "/"
noncomputable def dirTexts (name : Str) : List Str := [nrm "/b", nrm ("/b/../" ++ repl name ++ "/.")]
theorem pathOk_b : PathOk "/b" := ⟨98, [], rfl, by decide, by decide⟩
theorem cps_app (a b : Str) : (a ++ b).cps.toList = a.cps.toList ++ b.cps.toList := by
  show (a.cps ++ b.cps).toList = _; simp
theorem len_app (a b : Str) : (a ++ b).length = a.length + b.length := Str.length_append a b
theorem pathOk_d {x : Str} (hx : x.length ≤ 200) : PathOk ("/b/../" ++ x ++ "/.") := by
  refine ⟨98, [47, 46, 46, 47] ++ x.cps.toList ++ [47, 46], ?_, by decide, ?_⟩
  · rw [cps_app, cps_app]; rfl
  · rw [len_app, len_app]
    have h1 : ("/b/../" : Str).length = 6 := rfl
    have h2 : ("/." : Str).length = 2 := rfl
    lia

set_option maxHeartbeats 2000000 in
theorem reader_spec (G : Glb w H mg mb) (K0 : Kp H H h) (hz : H.objs.size ≤ h.objs.size) (R : Rm A 6) {name : Str} {un : Tok} {b : Bool} {Q : Value → Shared → Prop} (hname : name.length ≤ 200) (hrep : (repl name).length ≤ 200)
    (k : ∀ r ys ds h' t', ys.map (·.1) = (if b then [] else [name]) → ds.map (·.1) = (if b then dirTexts name else []) → RdOk prog w r ys ds c0 1 → Kp H h h' → Fresh H h h' (rdσ r) → Q (.ref r.x) ⟨h', g, d, t', os⟩) :
    wpAny (model prog w) A (call (.ref 118) [.str name un, .bool b]) Q E ⟨h, g, d, t, os⟩ := by
  refine call_s0 (c := 117) (binds := [("name", .str name un), ("folder", .bool b)]) R hz K0 G.nolimit (K0.getc (G.K 118 _ rfl) nofun) rfl rfl (G.cd K0 rfl rfl rfl rfl) rfl (BindsTo.of_eq rfl) rfl rfl rfl rfl rfl (fun _ => rfl) (fun _ => rfl) rfl fun env L h₁ t₁ A' V hcode R' F => ?_
  dsimp only [bindM] at V F
  iterate 2 walk_at "e"
  refine t_name ?_
  repeat walk_at "e"
  refine split_bool (fun hc => ?_) fun hc => ?_
  · subst hc
    iterate 2 walk_at "e"
    refine x_call (n_glob F V rfl K0 G.g (gl_Ignore G) ?_ rfl)
    refine cw_cls G ?_ rfl
    iterate 3 walk_at "e"
    refine x_list ?_ rfl
    iterate 3 walk_at "e"
    refine wpAny_BinOp (wpAny_BinOp (Calls.Constant_str ?_))
    refine x_meth ?_ rfl rfl (by decide) rfl
    walk_at "e"
    refine GM.replace (cw_blt ?_ rfl)
    refine aa_cons (Calls.Constant_str (aa_cons (Calls.Constant_str (aa_nil ?_))))
    dsimp only [List.nil_append, List.cons_append]
    refine SC.replace (Nat.succ_ne_zero _) (Nat.succ_ne_zero _) (Nat.ne_of_lt (Nat.lt_succ_self _)) (by decide) ?_ fun z t₃ => ?_
    · have h1 : (Str.ofString "/").length = 1 := rfl
      rw [h1]; lia
    have h1 : ("/b/../" : Str).length = 6 := rfl
    have h2 : ("/." : Str).length = 2 := rfl
    have hrep' : (Txt.replace name "." "/").length ≤ 200 := hrep
    refine t_add (by lia) fun z₂ t₄ => ?_
    repeat walk_at "e"
    refine t_add (by rw [len_app]; lia) fun z₃ t₅ => ?_
    repeat walk_at "e"
    refine mk_list F (by simp) fun l h₃ t₆ F => ?_
    repeat walk_at "e"
    refine ⟨K0.trans F.kp, ?_⟩
    refine ignore_dir (ls := [("/b", _), ("/b/../" ++ repl name ++ "/.", _)]) G K0 R' F (.head _) (by simp) (by simp) ?_ fun r ds h₄ t₇ hds ok F => ?_
    · intro p hp
      simp only [List.map_cons, List.map_nil, List.mem_cons, List.mem_nil_iff, or_false] at hp
      rcases hp with rfl | rfl
      · exact pathOk_b
      · exact pathOk_d hrep
    · exact k r [] ds _ _ rfl hds ok F.kp (F.fresh.sub (List.sublist_append_left _ _))
  · subst hc
    repeat walk_at "e"
    refine x_call (n_glob F V rfl K0 G.g (gl_Ignore G) ?_ rfl)
    refine cw_cls G ?_ rfl
    iterate 1 walk_at "e"
    refine x_list ?_ rfl
    repeat walk_at "e"
    refine mk_list F (by simp) fun l h₃ t₆ F => ?_
    repeat walk_at "e"
    refine ⟨K0.trans F.kp, ?_⟩
    refine ignore_mod G K0 (R'.le (by decide)) F (.head _) fun r h₄ t₇ ok F => ?_
    exact k r [(name, un)] [] _ _ rfl rfl ok F.kp (F.fresh.sub (List.sublist_append_left _ _))
end

-- part F1
theorem Kp.isFn {H h h' : Heap} {a : Addr} (k : Kp H h h') (x : IsFn h a) : IsFn h' a := let ⟨o, fd, e, hd⟩ := x; ⟨o, fd, k.get e (.inr fun vs q => by rw [hd] at q; cases q), hd⟩

/-- a test of two places of a row, as a function of the program -/
noncomputable def FitsOk (prog : Program) (w : World) (H h : Heap) (ff : Addr) (dom : List Int → Prop) (T : List Int → Int → Int → Bool) : Prop :=
  IsFn h ff ∧ ∀ (A : Around) (h₁ : Heap) (g : Array GenState) (d : Drawn) (t : Nat) (os : OsState) (Q : Value → Shared → Prop) (E : Value → Shared → Prop) (ra : Addr) (row : List Int) (a b : Int) (u v : Tok),
    Kp H H h₁ → Kp H h h₁ → H.objs.size ≤ h₁.objs.size → Rm A 2 → IsInts h₁ ra row → row.length < 2 ^ 40 → dom row → 0 ≤ a → a < row.length → 0 ≤ b → b < row.length →
    (∀ h' t', Kp H h₁ h' → Q (.bool (T row a b)) ⟨h', g, d, t', os⟩) → wpAny (model prog w) A (call (.ref ff) [.ref ra, .int a u, .int b v]) Q E ⟨h₁, g, d, t, os⟩
theorem FitsOk.keep {prog : Program} {w : World} {H h h' : Heap} {ff : Addr} {dom : List Int → Prop} {T : List Int → Int → Int → Bool} (x : FitsOk prog w H h ff dom T) (k : Kp H h h') : FitsOk prog w H h' ff dom T :=
  ⟨k.isFn x.1, fun A h₁ g d t os Q E ra row a b u v K1 K2 => x.2 A h₁ g d t os Q E ra row a b u v K1 (k.trans K2)⟩

noncomputable def aboveF (p : Int) (row : List Int) (a b : Int) : Bool := decide ((p - a) * (row.getD b.toNat 0 - row.getD a.toNat 0) < (b - a) * (row.getD p.toNat 0 - row.getD a.toNat 0))
noncomputable def flatF (s : Int) (row : List Int) (a b : Int) : Bool := decide (row.getD b.toNat 0 - row.getD a.toNat 0 < s * (b - a))

section
variable {prog : Program} {w : World} {A : Around} {E : Value → Shared → Prop} {H h : Heap} {g : Array GenState} {d : Drawn} {t : Nat} {os : OsState} {mg mb : Str → Option Value}

set_option maxHeartbeats 1000000 in
theorem above_spec (G : Glb w H mg mb) (K0 : Kp H H h) (hz : H.objs.size ≤ h.objs.size) (R : Rm A 1) {p : Int} {up : Tok} {Q : Value → Shared → Prop} (hp : 0 ≤ p) (hp' : p < 2 ^ 40)
    (k : ∀ ff h' t', Kp H h h' → FitsOk prog w H h' ff (fun row => p < row.length) (aboveF p) → Q (.ref ff) ⟨h', g, d, t', os⟩) :
    wpAny (model prog w) A (call (.ref 104) [.int p up]) Q E ⟨h, g, d, t, os⟩ := by
  refine call_s (c := 103) (binds := [("point", .int p up)]) R hz (K0.getc (G.K 104 _ rfl) nofun) rfl rfl (G.cd K0 rfl rfl rfl rfl) rfl (BindsTo.of_eq rfl) rfl rfl rfl rfl rfl fun env L h₁ t₁ A' V hcode R' F => ?_
  replace V : EnvIs env _ L [("point", L + 1)] := V
  replace F : Fx H h L h₁ (fun _ => none) [(L + 1, cellO none)] := F
  refine ba_cons (n_stc F V rfl rfl .head fun h₂ t₂ F => ba_nil ⟨(K0.trans F.kp).noLimit G.nolimit, ?_⟩)
  iterate 2 walk_at "e"
  refine mk_lam G K0 F V hcode ((K0.trans F.kp).good _ G.g103) (closureFor_of V rfl) rfl fun ff c' ctv q h₃ t₃ F k3 => ?_
  refine k _ _ _ F.kp ⟨⟨_, _, F.get (.head _), rfl⟩, ?_⟩
  intro A₁ h₄ g₁ d₁ t₄ os₁ Q₁ E₁ ra row a b u v K1 K2 hz1 R1 hr hlen hdom ha0 ha1 hb0 hb1 k1
  obtain ⟨c, e1, gc⟩ := F.code (.head _) rfl
  have hcell : h₄.IsCell (L + 1) (some (.int p up)) := K2.isCell ⟨_, F.get (.tail _ (.head _)), rfl⟩
  refine call_e0 (c := c) (binds := [("row", .ref ra), ("first", .int a u), ("behind", .int b v)]) R1 hz1 K1 G.nolimit (K2.getc (F.get (.head _)) nofun) rfl e1 ((K2.good _ gc).cd) rfl (BindsTo.of_eq rfl) rfl rfl rfl rfl rfl (fun _ => rfl) (fun _ => rfl) rfl fun env L h₁ t₁ A' V hcode R' F => ?_
  dsimp only [bindM] at V F
  repeat walk_at "e"
  refine s_ints F hr (by lia) (by lia) (by lia) (fun u => ?_) (by with_unfolding_all rfl)
  repeat walk_at "e"
  refine s_ints F hr (by lia) (by lia) (by lia) (fun u => ?_) (by with_unfolding_all rfl)
  repeat walk_at "e"
  refine i_mul (fun z t' => ?_) (by lia)
  repeat walk_at "e"
  refine s_ints F hr (by lia) (by lia) (by lia) (fun u => ?_) (by with_unfolding_all rfl)
  repeat walk_at "e"
  refine s_ints F hr (by lia) (by lia) (by lia) (fun u => ?_) (by with_unfolding_all rfl)
  repeat walk_at "e"
  refine i_mul (fun z t' => ?_) (by lia)
  repeat walk_at "e"
  exact k1 _ _ F.kp

set_option maxHeartbeats 1000000 in
theorem flatter_spec (G : Glb w H mg mb) (K0 : Kp H H h) (hz : H.objs.size ≤ h.objs.size) (R : Rm A 1) {p : Int} {up : Tok} {Q : Value → Shared → Prop} (hp : -(2 ^ 40) < p) (hp' : p < 2 ^ 40)
    (k : ∀ ff h' t', Kp H h h' → FitsOk prog w H h' ff (fun _ => True) (flatF p) → Q (.ref ff) ⟨h', g, d, t', os⟩) :
    wpAny (model prog w) A (call (.ref 111) [.int p up]) Q E ⟨h, g, d, t, os⟩ := by
  refine call_s (c := 110) (binds := [("slope", .int p up)]) R hz (K0.getc (G.K 111 _ rfl) nofun) rfl rfl (G.cd K0 rfl rfl rfl rfl) rfl (BindsTo.of_eq rfl) rfl rfl rfl rfl rfl fun env L h₁ t₁ A' V hcode R' F => ?_
  replace V : EnvIs env _ L [("slope", L + 1)] := V
  replace F : Fx H h L h₁ (fun _ => none) [(L + 1, cellO none)] := F
  refine ba_cons (n_stc F V rfl rfl .head fun h₂ t₂ F => ba_nil ⟨(K0.trans F.kp).noLimit G.nolimit, ?_⟩)
  iterate 2 walk_at "e"
  refine mk_lam G K0 F V hcode ((K0.trans F.kp).good _ G.g110) (closureFor_of V rfl) rfl fun ff c' ctv q h₃ t₃ F k3 => ?_
  refine k _ _ _ F.kp ⟨⟨_, _, F.get (.head _), rfl⟩, ?_⟩
  intro A₁ h₄ g₁ d₁ t₄ os₁ Q₁ E₁ ra row a b u v K1 K2 hz1 R1 hr hlen hdom ha0 ha1 hb0 hb1 k1
  obtain ⟨c, e1, gc⟩ := F.code (.head _) rfl
  have hcell : h₄.IsCell (L + 1) (some (.int p up)) := K2.isCell ⟨_, F.get (.tail _ (.head _)), rfl⟩
  refine call_e0 (c := c) (binds := [("row", .ref ra), ("first", .int a u), ("behind", .int b v)]) R1 hz1 K1 G.nolimit (K2.getc (F.get (.head _)) nofun) rfl e1 ((K2.good _ gc).cd) rfl (BindsTo.of_eq rfl) rfl rfl rfl rfl rfl (fun _ => rfl) (fun _ => rfl) rfl fun env L h₁ t₁ A' V hcode R' F => ?_
  dsimp only [bindM] at V F
  repeat walk_at "e"
  refine s_ints F hr (by lia) (by lia) (by lia) (fun u => ?_) (by with_unfolding_all rfl)
  repeat walk_at "e"
  refine s_ints F hr (by lia) (by lia) (by lia) (fun u => ?_) (by with_unfolding_all rfl)
  repeat walk_at "e"
  refine i_mul (fun z t' => ?_) (by lia)
  repeat walk_at "e"
  exact k1 _ _ F.kp
end

-- part F2
/-- a match: what span tells -/
noncomputable def HitOk (prog : Program) (w : World) (H : Heap) (φ : List (Addr × Obj)) (hit : Addr) (a b : Int) : Prop :=
  ∃ fd D oD mD sz sp fdS, (hit, fnO fd (some D)) ∈ φ ∧ (D, oD) ∈ φ ∧ NsO oD mD sz ∧ mD "span" = some (.ref sp) ∧ (sp, fnO fdS) ∈ φ ∧
    ∀ (A : Around) (h₁ : Heap) (g : Array GenState) (d : Drawn) (t : Nat) (os : OsState) (Q : Value → Shared → Prop) (E : Value → Shared → Prop), Kp H H h₁ → Has H h₁ φ → H.objs.size ≤ h₁.objs.size → Rm A 1 →
      (∀ T h' t' u v, Kp H h₁ h' → Fresh H h₁ h' [(T, tupO [.int a u, .int b v])] → Q (.ref T) ⟨h', g, d, t', os⟩) → wpAny (model prog w) A (call (.ref sp) []) Q E ⟨h₁, g, d, t, os⟩
theorem HitOk.mono {prog : Program} {w : World} {H : Heap} {φ φ' : List (Addr × Obj)} {hit : Addr} {a b : Int} (x : HitOk prog w H φ hit a b) (k : ∀ p ∈ φ, p ∈ φ') : HitOk prog w H φ' hit a b :=
  let ⟨fd, D, oD, mD, sz, sp, fdS, e1, e2, e3, e4, e5, c⟩ := x
  ⟨fd, D, oD, mD, sz, sp, fdS, k _ e1, k _ e2, e3, e4, k _ e5, fun A h₁ g d t os Q E K1 K2 => c A h₁ g d t os Q E K1 (K2.sub k)⟩

/-- the first match at k or behind -/
noncomputable def scanF (kept : List Int) (T : Int → Int → Bool) (st pl : Int) : Nat → Int → Option (Int × Int)
  | 0, _ => none
  | n + 1, k => if pl ≤ kept.getD (k - st).toNat 0 ∧ T (kept.getD (k - 1).toNat 0) (kept.getD k.toNat 0) = true then some (kept.getD (k - st).toNat 0, kept.getD k.toNat 0) else scanF kept T st pl n (k + 1)
noncomputable def searchF (kept : List Int) (T : Int → Int → Bool) (st pl : Int) : Option (Int × Int) := scanF kept T st pl ((kept.length : Int) - max 1 st).toNat (max 1 st)

/-- what a program's search tells: a match or None -/
noncomputable def FoundQ (prog : Program) (w : World) (H h₁ : Heap) (g : Array GenState) (d : Drawn) (os : OsState) (r : Option (Int × Int)) (Q : Value → Shared → Prop) : Prop :=
  ∀ h' t', Kp H h₁ h' → match r with
    | none => Q .none ⟨h', g, d, t', os⟩
    | some (a, b) => ∀ hit φ, HitOk prog w H φ hit a b → Fresh H h₁ h' φ → Q (.ref hit) ⟨h', g, d, t', os⟩

theorem FoundQ.none {prog : Program} {w : World} {H h₁ h' : Heap} {g : Array GenState} {d : Drawn} {os : OsState} {r : Option (Int × Int)} {Q : Value → Shared → Prop} (x : FoundQ prog w H h₁ g d os r Q) (k : Kp H h₁ h') (e : r = .none) (t' : Nat) : Q .none ⟨h', g, d, t', os⟩ := by
  subst e; exact x h' t' k
theorem FoundQ.some {prog : Program} {w : World} {H h₁ h' : Heap} {g : Array GenState} {d : Drawn} {os : OsState} {r : Option (Int × Int)} {Q : Value → Shared → Prop} (x : FoundQ prog w H h₁ g d os r Q) (k : Kp H h₁ h') {a b : Int} (e : r = .some (a, b)) {hit : Addr} {φ : List (Addr × Obj)} (ho : HitOk prog w H φ hit a b) (fr : Fresh H h₁ h' φ) (t' : Nat) : Q (.ref hit) ⟨h', g, d, t', os⟩ := by
  subst e; exact x h' t' k hit φ ho fr

/-- a program for search_reverse -/
noncomputable def ProgOk (prog : Program) (w : World) (H h : Heap) (p ra : Addr) (S : Int → Option (Int × Int)) : Prop :=
  ∃ fd D mD sf, h.get? p = some (fnO fd (some D)) ∧ h.Ns D mD ∧ mD "search" = some (.ref sf) ∧ IsFn h sf ∧
    (∀ (A : Around) (h₁ : Heap) (g : Array GenState) (d : Drawn) (t : Nat) (os : OsState) (Q : Value → Shared → Prop) (E : Value → Shared → Prop) (pl : Int) (u : Tok), Kp H H h₁ → Kp H h h₁ → H.objs.size ≤ h₁.objs.size → Rm A 3 → 
      FoundQ prog w H h₁ g d os (S pl) Q → wpAny (model prog w) A (call (.ref sf) [.ref ra, .int pl u]) Q E ⟨h₁, g, d, t, os⟩) ∧
    (∀ (A : Around) (h₁ : Heap) (g : Array GenState) (d : Drawn) (t : Nat) (os : OsState) (Q : Value → Shared → Prop) (E : Value → Shared → Prop), Kp H H h₁ → Kp H h h₁ → H.objs.size ≤ h₁.objs.size → Rm A 3 → 
      FoundQ prog w H h₁ g d os (S 0) Q → wpAny (model prog w) A (call (.ref sf) [.ref ra]) Q E ⟨h₁, g, d, t, os⟩)
theorem ProgOk.keep {prog : Program} {w : World} {H h h' : Heap} {p ra : Addr} {S : Int → Option (Int × Int)} (x : ProgOk prog w H h p ra S) (k : Kp H h h') : ProgOk prog w H h' p ra S :=
  let ⟨fd, D, mD, sp, e1, e2, e3, e4, c1, c2⟩ := x
  ⟨fd, D, mD, sp, k.getc e1 nofun, k.ns e2, e3, k.isFn e4, fun A h₁ g d t os Q E pl u K1 K2 => c1 A h₁ g d t os Q E pl u K1 (k.trans K2), fun A h₁ g d t os Q E K1 K2 => c2 A h₁ g d t os Q E K1 (k.trans K2)⟩

theorem scanF_hit {kept : List Int} {T : Int → Int → Bool} {st pl k : Int} {n : Nat} (h1 : pl ≤ kept.getD (k - st).toNat 0) (h2 : T (kept.getD (k - 1).toNat 0) (kept.getD k.toNat 0) = true) :
    scanF kept T st pl (n + 1) k = some (kept.getD (k - st).toNat 0, kept.getD k.toNat 0) := if_pos ⟨h1, h2⟩
theorem scanF_miss {kept : List Int} {T : Int → Int → Bool} {st pl k : Int} {n : Nat} (h : ¬ (pl ≤ kept.getD (k - st).toNat 0 ∧ T (kept.getD (k - 1).toNat 0) (kept.getD k.toNat 0) = true)) :
    scanF kept T st pl (n + 1) k = scanF kept T st pl n (k + 1) := if_neg h

section
variable {prog : Program} {w : World} {A : Around} {E : Value → Shared → Prop} {H h : Heap} {g : Array GenState} {d : Drawn} {t : Nat} {os : OsState} {mg mb : Str → Option Value}

set_option maxHeartbeats 2000000 in
theorem prog_spec (G : Glb w H mg mb) (K0 : Kp H H h) (hz : H.objs.size ≤ h.objs.size) (R : Rm A 1) {ka ra ff : Addr} {kept row : List Int} {st : Int} {us : Tok} {dom : List Int → Prop} {T : List Int → Int → Int → Bool} {Q : Value → Shared → Prop}
    (hk : IsInts h ka kept) (hr : IsInts h ra row) (hlen : row.length < 2 ^ 40) (hkl : kept.length < 2 ^ 40) (hin : ∀ i, i < kept.length → 0 ≤ kept.getD i 0 ∧ kept.getD i 0 < row.length) (hdom : dom row) (hst : 0 ≤ st) (hst' : st < 2 ^ 40) (hff : FitsOk prog w H h ff dom T)
    (k : ∀ p h' t', Kp H h h' → ProgOk prog w H h' p ra (searchF kept (T row) st) → Q (.ref p) ⟨h', g, d, t', os⟩) :
    wpAny (model prog w) A (call (.ref 97) [.ref ka, .ref ff, .int st us]) Q E ⟨h, g, d, t, os⟩ := by
  refine call_s (c := 96) (binds := [("kept", .ref ka), ("fits", .ref ff), ("step", .int st us)]) R hz (K0.getc (G.K 97 _ rfl) nofun) rfl rfl (G.cd K0 rfl rfl rfl rfl) rfl (BindsTo.of_eq rfl) rfl rfl rfl rfl rfl fun env L h₁ t₁ A' V hcode R' F => ?_
  replace V : EnvIs env _ L [("step", L + 1 + 1 + 1), ("fits", L + 1 + 1), ("kept", L + 1)] := V
  replace F : Fx H h L h₁ (fun _ => none) [(L + 1 + 1 + 1, cellO none), (L + 1 + 1, cellO none), (L + 1, cellO none)] := F
  refine ba_cons (n_stc F V rfl rfl (.tail (.tail .head)) fun h₂ t₂ F => ?_)
  refine ba_cons (n_stc F V rfl rfl (.tail .head) fun h₂ t₂ F => ?_)
  refine ba_cons (n_stc F V rfl rfl .head fun h₂ t₂ F => ba_nil ⟨(K0.trans F.kp).noLimit G.nolimit, ?_⟩)
  walk_at "e"
  refine mk_def1 G K0 F V hcode ((K0.trans F.kp).good _ G.g96) (closureFor_of V rfl) rfl rfl rfl rfl rfl rfl fun sf c₁ ctv q TD ud h₃ t₃ F => ?_
  iterate 2 walk_at "e"
  refine mk_lam G K0 F V hcode ((K0.trans F.kp).good _ G.g96) (closureFor_of V rfl) rfl fun pf c₂ ctv₂ q₂ h₄ t₄ F _ => ?_
  refine n_st F V rfl fun h₅ t₅ F => ?_
  walk_at "e"
  refine plainObj_wpAny_Assign_Attribute ?_ rfl
  iterate 2 walk_at "e"
  refine fn_setattr F (fun D => .head) flk_search fun D oD h₆ t₆ F nD => ?_
  iterate 3 walk_at "e"
  refine k _ _ _ F.kp ⟨_, D, _, sf, F.get (.tail _ (.head _)), nD.ns (F.get (.head _)), upd_same, ⟨_, _, F.get (.tail _ (.tail _ (.head _))), rfl⟩, ?_⟩
  obtain ⟨c, e1, gc⟩ := F.code (.tail _ (.tail _ (.head _))) rfl
  have run : ∀ (A : Around) (h₁ : Heap) (g : Array GenState) (d : Drawn) (t : Nat) (os : OsState) (Q : Value → Shared → Prop) (E : Value → Shared → Prop) (pl : Int) (u : Tok) (args : List Value), Kp H H h₁ → Kp H h₆ h₁ → H.objs.size ≤ h₁.objs.size → Rm A 3 → 
      (args = [.ref ra, .int pl u] ∨ (args = [.ref ra] ∧ pl = 0 ∧ u = ud)) → FoundQ prog w H h₁ g d os (searchF kept (T row) st pl) Q → wpAny (model prog w) A (call (.ref sf) args) Q E ⟨h₁, g, d, t, os⟩ := by
    intro A₁ h₁ g₁ d₁ t₁ os₁ Q₁ E₁ pl u args K1 K2 hz1 R1 hargs kf
    have hTD : h₁.get? TD = some (tupO [.int 0 ud]) := K2.getc (F.get (.tail _ (.tail _ (.tail _ (.head _))))) nofun
    have hsf := K2.getc (F.get (.tail _ (.tail _ (.head _)))) nofun
    have c1 : h₁.IsCell (L + 1) (some (.ref ka)) := K2.isCell ⟨_, F.get (by walk_at "mm"), rfl⟩
    have c2 : h₁.IsCell (L + 1 + 1) (some (.ref ff)) := K2.isCell ⟨_, F.get (by walk_at "mm"), rfl⟩
    have c3 : h₁.IsCell (L + 1 + 1 + 1) (some (.int st us)) := K2.isCell ⟨_, F.get (by walk_at "mm"), rfl⟩
    have hk1 := K2.isInts (F.kp.isInts hk)
    have hr1 := K2.isInts (F.kp.isInts hr)
    have hf1 := hff.keep (F.kp.trans K2)
    clear F V hcode R' R k
    refine call_s (c := c) (binds := [("row", .ref ra), ("place", .int pl u)]) R1 hz1 hsf rfl e1 ((K2.good _ gc).cd) rfl ?_ rfl rfl rfl rfl rfl fun env L₂ h₁ t₁ A' V hcode R' F => ?_
    · rcases hargs with rfl | ⟨rfl, rfl, rfl⟩
      · exact BindsTo.of_defaults rfl hTD rfl rfl rfl
      · exact BindsTo.of_defaults rfl hTD rfl rfl rfl
    replace V : EnvIs env _ L₂ [("first", L₂ + 1 + 1), ("behind", L₂ + 1), ("step", L + 1 + 1 + 1), ("kept", L + 1), ("fits", L + 1 + 1)] := V
    replace F : Fx H _ L₂ h₁ (fun _ => none) [(L₂ + 1 + 1, cellO none), (L₂ + 1, cellO none)] := F
    refine ba_cons (n_st F V rfl fun h₂ t₂ F => ?_)
    refine ba_cons (n_st F V rfl fun h₂ t₂ F => ba_nil ⟨(K1.trans F.kp).noLimit G.nolimit, ?_⟩)
    walk_at "e"
    refine for_start ?_ fun _ => rfl
    refine x_call (n_blt F V rfl K1 G.g G.b (gb_range G) ?_ rfl)
    refine cw_type ?_ rfl
    walk_at "e"
    refine x_call (n_blt F V rfl K1 G.g G.b (gb_max G) ?_ rfl)
    refine cw_blt ?_ rfl
    repeat walk_at "e"
    refine c_max2 F R'.hd fun z h₃ t₃ F => ?_
    walk_at "e"
    refine x_call (n_blt F V rfl K1 G.g G.b (gb_len G) ?_ rfl)
    refine cw_blt ?_ rfl
    repeat walk_at "e"
    refine c_len (F.kp.isInts hk1) hkl fun z t₄ => ?_
    repeat walk_at "e"
    refine c_range2 F fun r h₄ t₅ w₁ F => ?_
    by_cases hle : max 1 st ≤ (kept.length : Int)
    · refine for_range (fun i m σ => (∃ vf vb, σ = [(L₂ + 1 + 1, cellO vf), (L₂ + 1, cellO vb)]) ∧ m "row" = some (.ref ra) ∧ m "place" = some (.int pl u) ∧ 
        searchF kept (T row) st pl = scanF kept (T row) st pl (((kept.length : Int) - max 1 st).toNat - i) (max 1 st + (i : Nat))) F hle (by lia) (by lia) R'.hd (V.kindOf rfl) V.kind V.locals
        ⟨⟨_, _, rfl⟩, by walk_at "lk", by walk_at "lk", by simp [searchF]⟩ ?_ ?_
      · rintro i h t m σ uk it hi HI F
        refine cutQ fun QT hQT => ?_
        obtain ⟨⟨vf, vb, rfl⟩, m1, m2, hs⟩ := HI
        have hkn : (max 1 st + (i : Int)) - st ≥ 0 := by lia
        have hge : 1 ≤ max 1 st + (i : Int) := by lia
        have hn : ((kept.length : Int) - max 1 st).toNat - i = (((kept.length : Int) - max 1 st).toNat - (i + 1)) + 1 := by lia
        rw [hn] at hs
        repeat walk_at "e"
        refine s_ints F hk1 (by lia) (by lia) (by lia) (fun u₁ => ?_) (by with_unfolding_all rfl)
        refine n_stc F V rfl rfl (.tail .head) fun h₅ t₅ F => ?_
        repeat walk_at "e"
        refine s_ints F hk1 (by lia) (by lia) (by lia) (fun u₂ => ?_) (by with_unfolding_all rfl)
        refine n_stc F V rfl rfl (.tail (.tail .head)) fun h₆ t₆ F => ?_
        iterate 2 walk_at "e"
        refine t_bool (t_and ?_)
        repeat walk_at "e"
        refine split_bool (fun hc => ?_) fun hc => ?_
        · refine t_and (t_call ?_)
          refine x_call ?_
          walk_at "e"
          refine cw_fn ?_ rfl (by decide)
          repeat walk_at "e"
          refine s_ints F hk1 (by lia) (by lia) (by lia) (fun u₃ => ?_) (by with_unfolding_all rfl)
          repeat walk_at "e"
          have i1 := hin (max 1 st + (i : Int) - 1).toNat (by lia)
          have i2 := hin (max 1 st + (i : Int)).toNat (by lia)
          refine ⟨F.kp.isFn hf1.1, hf1.2 A' _ g₁ d₁ _ os₁ _ _ ra row _ _ _ _ (K1.trans F.kp) F.kp F.size R' (F.kp.isInts hr1) hlen hdom i1.1 i1.2 i2.1 i2.2 fun h₇ t₇ k7 => ?_⟩
          replace F := F.call k7
          walk_at "e"
          refine split_bool (fun hc2 => ?_) fun hc2 => ?_
          · refine t_and0 (if_t ?_)
            have hS : searchF kept (T row) st pl = _ := hs.trans (scanF_hit (of_decide_eq_true hc) hc2)
            have gcur := K2.good _ gc
            iterate 2 walk_at "e"
            refine mk_lam G K1 F V hcode (F.kp.good _ gcur) (closureFor_of V rfl) rfl fun hf c₃ ctv₃ q₃ h₈ t₈ F _ => ?_
            refine n_st F V rfl fun h₉ t₉ F => ?_
            walk_at "e"
            refine plainObj_wpAny_Assign_Attribute ?_ rfl
            refine mk_lam G K1 F V hcode (F.kp.good _ gcur) (closureFor_of V rfl) rfl fun sp c₄ ctv₄ q₄ h₁₀ t₁₀ F _ => ?_
            walk_at "e"
            refine fn_setattr F (fun D => .tail .head) flk_span fun D₂ oD₂ h₁₁ t₁₁ F nD₂ => ?_
            iterate 3 walk_at "e"
            have kk := kf _ t₁₁ F.kp
            rw [hS] at kk
            refine hQT _ _ ?_
            refine kk hf _ ⟨_, D₂, _, _, _, sp, _, by walk_at "mm", List.mem_cons_self, nD₂, upd_same, List.mem_cons_of_mem _ List.mem_cons_self, ?_⟩ F.fresh
            intro A₂ h₁₂ g₂ d₂ t₁₂ os₂ Q₂ E₂ K3 K4 hz2 R2 k2
            obtain ⟨c₅, e5, gc5⟩ := (K4 _ (List.mem_cons_of_mem _ List.mem_cons_self)).2 _ rfl
            have d1 : h₁₂.IsCell (L₂ + 1 + 1) (some (.int (kept.getD (max 1 st + (i : Int) - st).toNat 0) u₁)) := ⟨_, (K4 (L₂ + 1 + 1, _) (by walk_at "mm")).1, rfl⟩
            have d2 : h₁₂.IsCell (L₂ + 1) (some (.int (kept.getD (max 1 st + (i : Int)).toNat 0) u₂)) := ⟨_, (K4 (L₂ + 1, _) (by walk_at "mm")).1, rfl⟩
            refine call_e0 (c := c₅) (binds := []) R2 hz2 K3 G.nolimit (K4 _ (List.mem_cons_of_mem _ List.mem_cons_self)).1 rfl e5 gc5.cd rfl (BindsTo.of_eq rfl) rfl rfl rfl rfl rfl (fun _ => rfl) (fun _ => rfl) rfl fun env L₃ h₁₃ t₁₃ A'' V hcode R'' F => ?_
            dsimp only [bindM] at V F
            refine x_tuple ?_ rfl
            repeat walk_at "e"
            refine mk_tuple F (by simp) fun TT h₁₄ t₁₄ F => ?_
            exact k2 TT _ _ _ _ F.kp F.fresh
          · refine if_f ?_
            repeat walk_at "e"
            refine hQT _ _ (Turn.next F ⟨_, rfl, ⟨_, _, rfl⟩, by walk_at "lk", by walk_at "lk", ?_⟩)
            rw [hs, scanF_miss (fun q => by rw [q.2] at hc2; cases hc2)]
            congr 1
            push_cast; lia
        · refine if_f ?_
          repeat walk_at "e"
          refine hQT _ _ (Turn.next F ⟨_, rfl, ⟨_, _, rfl⟩, by walk_at "lk", by walk_at "lk", ?_⟩)
          rw [hs, scanF_miss (fun q => absurd q.1 (of_decide_eq_false hc))]
          congr 1
          push_cast; lia
      · rintro h t m σ ⟨⟨vf, vb, rfl⟩, m1, m2, hs⟩ F
        repeat walk_at "e"
        have : searchF kept (T row) st pl = none := by rw [hs, Nat.sub_self]; rfl
        have kk := kf _ t F.kp
        rw [this] at kk
        exact kk
    · refine for_range0 F (by lia) (by lia) (by lia) R'.hd fun h t F => ?_
      repeat walk_at "e"
      have : searchF kept (T row) st pl = none := by
        unfold searchF
        rw [show ((kept.length : Int) - max 1 st).toNat = 0 by lia]; rfl
      have kk := kf _ t F.kp
      rw [this] at kk
      exact kk
  exact ⟨fun A h₁ g d t os Q E pl u K1 K2 hz R kf => run A h₁ g d t os Q E pl u _ K1 K2 hz R (.inl rfl) kf, fun A h₁ g d t os Q E K1 K2 hz R kf => run A h₁ g d t os Q E 0 ud _ K1 K2 hz R (.inr ⟨rfl, rfl, rfl⟩) kf⟩
end

-- part F3
theorem flk_bool : typeLookup (.type "function") "__bool__" = pure none := by rw [typeLookup_type, builtinLookup_eq_fast]; kernel_rfl
theorem flk_len : typeLookup (.type "function") "__len__" = pure none := by rw [typeLookup_type, builtinLookup_eq_fast]; kernel_rfl
theorem truthy_fn {M : Model} {A : Around} {E : Value → Shared → Prop} {h : Heap} {g : Array GenState} {d : Drawn} {t : Nat} {os : OsState} {f : Addr} {fd : FuncData} {dd : Option Addr} {Q : Bool → Shared → Prop} (hx : h.get? f = some (fnO fd dd)) (k : Q true ⟨h, g, d, t, os⟩) :
    wpAny M A (truthy (.ref f)) Q E ⟨h, g, d, t, os⟩ := by
  have hT : Shared.TypeIs ⟨h, g, d, t, os⟩ (.ref f) "function" := ⟨_, hx, rfl⟩
  unfold truthy callSpecial?
  refine wpAny_bind (wpAny_bind (wpAny_specialOf hT flk_bool (wpAny_pure ?_)))
  refine wpAny_bind (wpAny_specialOf hT flk_len ?_)
  exact wpAny_pure k

noncomputable def srLoop (S : Int → Option (Int × Int)) (col : Int) : Nat → Int → Int → Option (Int × Int) → Option (Int × Int)
  | 0, _, _, f => f
  | n + 1, i, j, f => if i < col ∧ j ≤ col then (match S (if i = j then j + 1 else j) with | none => some (i, j) | some (a, b) => srLoop S col n a b (some (i, j))) else f
noncomputable def srF (S : Int → Option (Int × Int)) (col : Int) : Option (Int × Int) := match S 0 with | none => none | some (i, j) => srLoop S col (col - i).toNat i j none

noncomputable def FoundIs (prog : Program) (w : World) (H : Heap) (σ : List (Addr × Obj)) (v : Value) (r : Option (Int × Int)) : Prop := match r with
  | none => v = .none
  | some (a, b) => ∃ hit, v = .ref hit ∧ HitOk prog w H σ hit a b
theorem FoundIs.mono {prog : Program} {w : World} {H : Heap} {σ σ' : List (Addr × Obj)} {v : Value} {r : Option (Int × Int)} (x : FoundIs prog w H σ v r) (k : ∀ p ∈ σ, p ∈ σ') : FoundIs prog w H σ' v r := by
  cases r with
  | none => exact x
  | some q => obtain ⟨hit, e, y⟩ := x; exact ⟨hit, e, y.mono k⟩

section
variable {prog : Program} {w : World} {A : Around} {E : Value → Shared → Prop} {H h : Heap} {g : Array GenState} {d : Drawn} {t : Nat} {os : OsState} {mg mb : Str → Option Value}

set_option maxHeartbeats 2000000 in
theorem sr_spec (G : Glb w H mg mb) (K0 : Kp H H h) (hz : H.objs.size ≤ h.objs.size) (R : Rm A 4) {p ra : Addr} {col : Int} {S : Int → Option (Int × Int)} {uc : Tok} {Q : Value → Shared → Prop}
    (hp : ProgOk prog w H h p ra S) (hS : ∀ pl a b, S pl = some (a, b) → pl ≤ a ∧ a ≤ b) (kf : FoundQ prog w H h g d os (srF S col) Q) :
    wpAny (model prog w) A (call (.ref 28) [.ref p, .ref ra, .int col uc]) Q E ⟨h, g, d, t, os⟩ := by
  obtain ⟨fdp, D, mD, sf, p1, p2, p3, p4, ps2, ps1⟩ := hp
  refine call_s0 (c := 27) (binds := [("prog", .ref p), ("chars", .ref ra), ("col", .int col uc)]) R hz K0 G.nolimit (K0.getc (G.K 28 _ rfl) nofun) rfl rfl (G.cd K0 rfl rfl rfl rfl) rfl (BindsTo.of_eq rfl) rfl rfl rfl rfl rfl (fun _ => rfl) (fun _ => rfl) rfl fun env L h₁ t₁ A' V hcode R' F => ?_
  dsimp only [bindM] at V F
  iterate 2 walk_at "e"
  refine x_meth ?_ rfl rfl (by decide) rfl
  walk_at "e"
  refine fn_method (F.kp.getc p1 nofun) (F.kp.ns p2) p3 flk_search rfl fun t₂ => ?_
  refine cw_fn ?_ rfl (by decide)
  repeat walk_at "e"
  refine ⟨F.kp.isFn p4, ps1 A' _ g d _ os _ _ (K0.trans F.kp) F.kp F.size R' ?_⟩
  intro h₂ t₃ k2
  cases hs0 : S 0 with
  | none =>
    dsimp only
    replace F := F.call k2
    refine n_st F V rfl fun h₃ t₄ F => ?_
    iterate 2 walk_at "e"
    refine wpAny_isTrue_Not (t_name ?_)
    walk_at "e"
    refine t_none (if_t ?_)
    repeat walk_at "e"
    exact kf.none F.kp (by unfold srF; rw [hs0]) _
  | some q =>
    obtain ⟨i0, j0⟩ := q
    dsimp only
    intro hit φ hok fr
    replace F := F.take k2 fr
    replace hok := hok.mono (φ' := φ ++ []) fun p hp => List.mem_append_left _ hp
    rw [List.append_nil] at F hok
    refine n_st F V rfl fun h₃ t₄ F => ?_
    iterate 2 walk_at "e"
    refine wpAny_isTrue_Not (t_name ?_)
    walk_at "e"
    obtain ⟨fd1, D1, oD1, mD1, sz1, sp1, fdS1, e1, e2, e3, e4, e5, c1⟩ := id hok
    refine truthy_fn (F.get e1) (if_f ?_)
    repeat walk_at "e"
    refine n_st F V rfl fun h₄ t₅ F => ?_
    walk_at "e"
    refine Assign_Tuple ?_ rfl rfl
    refine x_meth ?_ rfl rfl (by decide) rfl
    walk_at "e"
    refine fn_method (F.get e1) (e3.ns (F.get e2)) e4 flk_span rfl fun t₆ => ?_
    refine cw_fn ?_ rfl (by decide)
    repeat walk_at "e"
    refine ⟨⟨_, _, F.get e5, rfl⟩, c1 A' _ g d _ os _ _ (K0.trans F.kp) F.has F.size (R'.le (by decide)) fun T h₅ t₇ u v k5 fr5 => ?_⟩
    replace F := F.take k5 fr5
    refine u_tuple F (F.get (.head _)) R'.hd rfl rfl fun h₆ F => ?_
    refine ai_cons (wpAny_assign_Name (n_st F V rfl fun h₇ t₈ F => ?_))
    refine ai_cons (wpAny_assign_Name (n_st F V rfl fun h₈ t₉ F => ?_))
    refine ai_nil ?_
    walk_at "e"
    refine while_K (fun k m σ => ∃ i j hm rf vf ui uj, m "m" = some (.ref hm) ∧ HitOk prog w H σ hm i j ∧ m "i" = some (.int i ui) ∧ m "j" = some (.int j uj) ∧ m "found" = some vf ∧ FoundIs prog w H σ vf rf ∧
      m "prog" = some (.ref p) ∧ m "chars" = some (.ref ra) ∧ m "col" = some (.int col uc) ∧ srF S col = srLoop S col k i j rf ∧ (col - i).toNat ≤ k ∧ i ≤ j) (col - i0).toNat F
      ⟨i0, j0, hit, none, .none, u, v, by walk_at "lk", hok.mono fun p hp => List.mem_cons_of_mem _ hp, by walk_at "lk", by walk_at "lk", by walk_at "lk", rfl, by walk_at "lk", by walk_at "lk", by walk_at "lk", by unfold srF; rw [hs0], Nat.le_refl _, (hS _ _ _ hs0).2⟩ ?_
    clear F hok e1 e2 e3 e4 e5 c1 fr fr5
    rintro n hw tw m σ HI F KK hKK
    obtain ⟨i, j, hm, rf, vf, ui, uj, m1, hok, m2, m3, m4, hf, m5, m6, m7, hsr, hn, hij⟩ := HI
    -- what is told when the loop is left
    have leave : ∀ (h' : Heap) (t' : Nat) (m : Str → Option Value) (σ : List (Addr × Obj)) (vf : Value) (rf : Option (Int × Int)), Fx H h L h' m σ → FoundIs prog w H σ vf rf → srF S col = rf → Q vf ⟨h', g, d, t', os⟩ := by
      intro h' t' m σ vf rf F hf hr
      cases rf with
      | none => rw [show vf = .none from hf]; exact kf.none F.kp hr _
      | some q =>
        obtain ⟨a, b⟩ := q
        obtain ⟨hit, rfl, ho⟩ := hf
        exact kf.some F.kp hr ho F.fresh _
    refine t_bool (t_and ?_)
    repeat walk_at "e"
    refine split_bool (fun hc => ?_) fun hc => ?_
    · refine t_and ?_
      repeat walk_at "e"
      refine split_bool (fun hc2 => ?_) fun hc2 => ?_
      · refine t_and0 (if_t ?_)
        have hcol : i < col ∧ j ≤ col := ⟨of_decide_eq_true hc, of_decide_eq_true hc2⟩
        obtain ⟨n, rfl⟩ : ∃ n', n = n' + 1 := ⟨n - 1, by lia⟩
        have hstep : srF S col = (match S (if i = j then j + 1 else j) with | none => some (i, j) | some (a, b) => srLoop S col n a b (some (i, j))) := by rw [hsr]; exact if_pos hcol
        repeat walk_at "e"
        refine n_st F V rfl fun h₃ t₄ F => ?_
        refine wpAny_execs_cons (wpAny_mono (Q := fun fl s' => fl = .next ∧ ∃ hh tt mm uu, s' = ⟨hh, g, d, tt, os⟩ ∧ mm "j" = some (.int (if i = j then j + 1 else j) uu) ∧ mm "found" = some (.ref hm) ∧ mm "prog" = some (.ref p) ∧ mm "chars" = some (.ref ra) ∧ mm "col" = some (.int col uc) ∧ Fx H h L hh mm σ) (cutQ fun QN hQN => ?_) ?_ fun _ _ e => e)
        · refine wpAny_If ?_
          repeat walk_at "e"
          refine split_bool (fun hc3 => ?_) fun hc3 => ?_
          · repeat walk_at "e"
            refine n_st F V rfl fun h₃ t₄ F => ?_
            repeat walk_at "e"
            have hpl : (if i = j then j + 1 else j) = j + 1 := if_pos (by simpa using hc3)
            refine hQN _ _ ?_
            rw [hpl]
            exact ⟨rfl, _, _, _, _, rfl, by walk_at "lk", by walk_at "lk", by walk_at "lk", by walk_at "lk", by walk_at "lk", F⟩
          · repeat walk_at "e"
            have hpl : (if i = j then j + 1 else j) = j := if_neg (by simpa using hc3)
            refine hQN _ _ ?_
            rw [hpl]
            exact ⟨rfl, _, _, _, _, rfl, by walk_at "lk", by walk_at "lk", by walk_at "lk", by walk_at "lk", by walk_at "lk", F⟩
        · rintro fl s' ⟨rfl, h₉, t₉, m', uu, rfl, m3, m4, m5, m6, m7, F⟩
          dsimp only
          repeat walk_at "e"
          refine x_meth ?_ rfl rfl (by decide) rfl
          walk_at "e"
          refine fn_method (F.kp.getc p1 nofun) (F.kp.ns p2) p3 flk_search rfl fun t₂ => ?_
          refine cw_fn ?_ rfl (by decide)
          repeat walk_at "e"
          refine ⟨F.kp.isFn p4, ps2 A' _ g d _ os _ _ _ _ (K0.trans F.kp) F.kp F.size R' ?_⟩
          intro h₅ t₅ k5
          cases hs1 : S (if i = j then j + 1 else j) with
          | none =>
            dsimp only
            rw [hs1] at hstep
            replace F := F.call k5
            refine n_st F V rfl fun h₆ t₆ F => ?_
            iterate 2 walk_at "e"
            refine wpAny_isTrue_Not (t_name ?_)
            walk_at "e"
            refine t_none (if_t ?_)
            walk_at "e"
            refine wpAny_Break (hKK _ _ ?_)
            refine (show wpAny (model prog w) A' _ _ _ _ from ?_)
            repeat walk_at "e"
            exact leave _ _ _ _ _ (some (i, j)) F ⟨hm, rfl, hok⟩ hstep
          | some q =>
            obtain ⟨a, b⟩ := q
            dsimp only
            rw [hs1] at hstep
            intro hit φ hok' fr'
            have hSn := hS _ _ _ hs1
            replace F := F.take k5 fr'
            replace hok' := hok'.mono (φ' := φ ++ σ) fun p hp => List.mem_append_left _ hp
            replace hok := hok.mono (φ' := φ ++ σ) fun p hp => List.mem_append_right _ hp
            refine n_st F V rfl fun h₆ t₆ F => ?_
            iterate 2 walk_at "e"
            refine wpAny_isTrue_Not (t_name ?_)
            walk_at "e"
            obtain ⟨fd1, D1, oD1, mD1, sz1, sp1, fdS1, e1, e2, e3, e4, e5, c1⟩ := id hok'
            refine truthy_fn (F.get e1) (if_f ?_)
            repeat walk_at "e"
            refine Assign_Tuple ?_ rfl rfl
            refine x_meth ?_ rfl rfl (by decide) rfl
            walk_at "e"
            refine fn_method (F.get e1) (e3.ns (F.get e2)) e4 flk_span rfl fun t₆ => ?_
            refine cw_fn ?_ rfl (by decide)
            repeat walk_at "e"
            refine ⟨⟨_, _, F.get e5, rfl⟩, c1 A' _ g d _ os _ _ (K0.trans F.kp) F.has F.size (R'.le (by decide)) fun T h₅ t₇ u v k5 fr5 => ?_⟩
            replace F := F.take k5 fr5
            refine u_tuple F (F.get (.head _)) R'.hd rfl rfl fun h₆ F => ?_
            refine ai_cons (wpAny_assign_Name (n_st F V rfl fun h₇ t₈ F => ?_))
            refine ai_cons (wpAny_assign_Name (n_st F V rfl fun h₈ t₉ F => ?_))
            refine ai_nil ?_
            walk_at "e"
            exact hKK _ _ (Turn.next F ⟨n, Nat.lt_succ_self _, a, b, hit, some (i, j), _, u, v, by walk_at "lk", hok'.mono fun p hp => List.mem_cons_of_mem _ hp, by walk_at "lk", by walk_at "lk", by walk_at "lk",
              ⟨hm, rfl, hok.mono fun p hp => List.mem_cons_of_mem _ hp⟩, by walk_at "lk", by walk_at "lk", by walk_at "lk", hstep, by have := hSn.1; split at this <;> lia, hSn.2⟩)
      · refine if_f ?_
        repeat walk_at "e"
        refine leave _ _ _ _ _ rf F hf ?_
        rw [hsr]
        cases n with
        | zero => rfl
        | succ n => exact if_neg fun q => absurd q.2 (of_decide_eq_false hc2)
    · refine if_f ?_
      repeat walk_at "e"
      refine leave _ _ _ _ _ rf F hf ?_
      rw [hsr]
      cases n with
      | zero => rfl
      | succ n => exact if_neg fun q => absurd q.1 (of_decide_eq_false hc)
end

-- part F4
noncomputable def badC (row : List Int) (p e a : Nat) : Bool := decide (((p : Int) - a) * (row.getD e 0 - row.getD a 0) ≤ ((e : Int) - a) * (row.getD p 0 - row.getD a 0))
noncomputable def badL (row : List Int) (p e i : Nat) : List Int := ((List.range i).filter (badC row p e)).map (fun a : Nat => (a : Int))
theorem badL_succ (row : List Int) (p e i : Nat) : badL row p e (i + 1) = badL row p e i ++ (if badC row p e i = true then [(i : Int)] else []) := by
  unfold badL
  rw [List.range_succ, List.filter_append, List.map_append]
  congr 1
  by_cases h : badC row p e i = true <;> simp [List.filter_cons, h]
theorem badL_len (row : List Int) (p e i : Nat) : (badL row p e i).length ≤ i := by
  unfold badL; rw [List.length_map]
  exact Nat.le_trans (List.length_filter_le _ _) (by simp)
noncomputable def endF (row : List Int) (p : Nat) : Nat → Nat → Nat
  | 0, e => e
  | n + 1, e => if e < row.length ∧ badL row p e p = [] then endF row p n (e + 1) else e
theorem endF_stop {row : List Int} {p e : Nat} (h : ¬ (e < row.length ∧ badL row p e p = [])) : ∀ n, endF row p n e = e
  | 0 => rfl
  | n + 1 => if_neg h
noncomputable def endsF (row : List Int) (n : Nat) : List Int := (List.range n).map fun p => ((endF row p (row.length - (p + 1)) (p + 1) : Nat) : Int)
theorem endsF_succ (row : List Int) (n : Nat) : endsF row (n + 1) = endsF row n ++ [((endF row n (row.length - (n + 1)) (n + 1) : Nat) : Int)] := by
  unfold endsF; rw [List.range_succ, List.map_append]; rfl

section
variable {prog : Program} {w : World} {A : Around} {E : Value → Shared → Prop} {H h : Heap} {g : Array GenState} {d : Drawn} {t : Nat} {os : OsState} {mg mb : Str → Option Value}

set_option maxHeartbeats 2000000 in
theorem ends_spec (G : Glb w H mg mb) (K0 : Kp H H h) (hz : H.objs.size ≤ h.objs.size) (R : Rm A 12) {ra : Addr} {row : List Int} {Q : Value → Shared → Prop}
    (hr : IsInts h ra row) (hlen : row.length ≤ 1000)
    (k : ∀ D vs kk h' t', Kp H h h' → Fresh H h h' [(D, listO vs kk)] → IntsAre vs (endsF row row.length) → Q (.ref D) ⟨h', g, d, t', os⟩) :
    wpAny (model prog w) A (call (.ref 128) [.ref ra]) Q E ⟨h, g, d, t, os⟩ := by
  refine call_s (c := 127) (binds := [("row", .ref ra)]) R hz (K0.getc (G.K 128 _ rfl) nofun) rfl rfl (G.cd K0 rfl rfl rfl rfl) rfl (BindsTo.of_eq rfl) rfl rfl rfl rfl rfl fun env L h₁ t₁ A' V hcode R' F => ?_
  replace V : EnvIs env _ L [("end", L + 1 + 1 + 1), ("point", L + 1 + 1), ("row", L + 1)] := V
  replace F : Fx H h L h₁ (fun _ => none) [(L + 1 + 1 + 1, cellO none), (L + 1 + 1, cellO none), (L + 1, cellO none)] := F
  refine ba_cons (n_stc F V rfl rfl (.tail (.tail .head)) fun h₂ t₂ F => ba_nil ⟨(K0.trans F.kp).noLimit G.nolimit, ?_⟩)
  iterate 2 walk_at "e"
  refine x_list (aa_nil ?_) rfl
  refine mk_list F (by simp) fun D h₃ t₃ F => ?_
  refine n_st F V rfl fun h₄ t₄ F => ?_
  walk_at "e"
  refine for_start ?_ fun _ => rfl
  refine x_call (n_blt F V rfl K0 G.g G.b (gb_range G) ?_ rfl)
  refine cw_type ?_ rfl
  walk_at "e"
  refine x_call (n_blt F V rfl K0 G.g G.b (gb_len G) ?_ rfl)
  refine cw_blt ?_ rfl
  repeat walk_at "e"
  refine c_len (F.kp.isInts hr) (by lia) fun z t₅ => ?_
  repeat walk_at "e"
  refine c_range1 F fun r h₅ t₆ u₁ w₁ F => ?_
  replace F := F.perm (σ' := (r, _) :: (L + 1 + 1, cellO none) :: [(D, listO []), (L + 1 + 1 + 1, cellO none), (L + 1, cellO (some (.ref ra)))]) (by
    refine List.Perm.cons _ ?_
    refine (List.Perm.cons _ (List.Perm.swap _ _ _)).trans (List.Perm.swap _ _ _))
  refine forc_range (fun i m σ => m "ends" = some (.ref D) ∧ ∃ vs kk ve, σ = [(D, listO vs kk), (L + 1 + 1 + 1, cellO ve), (L + 1, cellO (some (.ref ra)))] ∧ IntsAre vs (endsF row i)) F (by lia) (by lia) (by lia) R'.hd V rfl rfl
    ⟨by walk_at "lk", _, _, _, rfl, .nil⟩ ?_ ?_
  · rintro i h₆ t₇ m σ u it o hi HI F
    refine cutQ fun QT hQT => ?_
    obtain ⟨m1, vs, kk, ve, rfl, hv⟩ := HI
    repeat walk_at "e"
    refine n_stc F V rfl rfl (.tail (.tail (.tail .head))) fun h₇ t₈ F => ?_
    walk_at "e"
    have hi' : i < row.length := by lia
    rw [show (0 + (i : Int) + 1) = ((i + 1 : Nat) : Int) by push_cast; lia] at F
    refine while_K (fun n m' σ' => m' "ends" = some (.ref D) ∧ ∃ e ue, i + 1 ≤ e ∧ e ≤ row.length ∧ n = row.length - e ∧ endF row i (row.length - (i + 1)) (i + 1) = endF row i n e ∧
        σ' = [(it, o), (L + 1 + 1, cellO (some (.int (0 + (i : Int)) u))), (D, listO vs kk), (L + 1 + 1 + 1, cellO (some (.int (e : Nat) ue))), (L + 1, cellO (some (.ref ra)))]) (row.length - (i + 1)) F
      ⟨m1, i + 1, _, Nat.le_refl _, hi', rfl, rfl, rfl⟩ ?_
    rintro n h₈ t₉ m₂ σ HI F KK hKK
    obtain ⟨m1, e, ue, he1, he2, rfl, hend, rfl⟩ := HI
    refine t_bool (t_and ?_)
    iterate 2 walk_at "e"
    refine x_call (n_blt F V rfl K0 G.g G.b (gb_len G) ?_ rfl)
    refine cw_blt ?_ rfl
    repeat walk_at "e"
    refine c_len (F.kp.isInts hr) (by lia) fun z t₅ => ?_
    repeat walk_at "e"
    refine split_bool (fun hc => ?_) fun hc => ?_
    · have hel : e < row.length := by have := of_decide_eq_true hc; lia
      refine t_and ?_
      walk_at "e"
      refine comp_start (closureFor_of V rfl) ?_ rfl (by decide) fun _ => rfl
      refine x_call (n_blt F V rfl K0 G.g G.b (gb_range G) ?_ rfl)
      refine cw_type ?_ rfl
      repeat walk_at "e"
      refine c_range1 F fun r₂ h₉ t₁₀ u₂ w₂ F => ?_
      refine comp_rangeK (fun j ws σ' => σ' = [(it, o), (L + 1 + 1, cellO (some (.int (0 + (i : Int)) u))), (D, listO vs kk), (L + 1 + 1 + 1, cellO (some (.int (e : Nat) ue))), (L + 1, cellO (some (.ref ra)))] ∧ IntsAre ws (badL row i e j))
        F (by lia) (by lia) (by lia) R'.hd V rfl (by decide) rfl ⟨rfl, .nil⟩ (by lia) (fun j ws σ' q => by rw [q.2.length]; exact badL_len _ _ _ _) ?_ ?_
      · rintro j h₁₀ t₁₁ mC ws σ uj it₂ o₂ C D₂ k₂ oL cenv hj HI V₂ F KA KB k1 k0
        obtain ⟨rfl, hw⟩ := HI
        have hz0 : (0 + (j : Int)).toNat = j := by lia
        have hzi : (0 + (i : Int)).toNat = i := by lia
        refine ta_cons ?_
        repeat walk_at "e"
        refine s_ints F hr (by lia) (by lia) (by lia) (fun u => ?_) (by with_unfolding_all rfl)
        repeat walk_at "e"
        refine s_ints F hr (by lia) (by lia) (by lia) (fun u => ?_) (by with_unfolding_all rfl)
        repeat walk_at "e"
        refine i_mul (fun z t' => ?_) (by lia)
        repeat walk_at "e"
        refine s_ints F hr (by lia) (by lia) (by lia) (fun u => ?_) (by with_unfolding_all rfl)
        repeat walk_at "e"
        refine s_ints F hr (by lia) (by lia) (by lia) (fun u => ?_) (by with_unfolding_all rfl)
        repeat walk_at "e"
        refine i_mul (fun z t' => ?_) (by lia)
        repeat walk_at "e"
        have ebad : badC row i e j = decide ((0 + (i : Int) - (0 + (j : Int))) * (row.getD ((e : Nat) : Int).toNat 0 - row.getD (0 + (j : Int)).toNat 0) ≤ (((e : Nat) : Int) - (0 + (j : Int))) * (row.getD (0 + (i : Int)).toNat 0 - row.getD (0 + (j : Int)).toNat 0)) := by
          unfold badC
          rw [hz0, hzi, Int.toNat_natCast, Int.zero_add, Int.zero_add]
        rw [← ebad]
        refine split_bool (fun hc => ?_) fun hc => ?_
        · refine ta_nil (if_t ?_)
          walk_at "e"
          refine k1 _ _ _ _ _ F ⟨rfl, ?_⟩
          rw [badL_succ, if_pos hc, Int.zero_add]
          exact intsAre_snoc hw _ _
        · refine if_f (k0 _ _ _ _ F ⟨rfl, ?_⟩)
          rw [badL_succ, if_neg (by rw [hc]; decide), List.append_nil]
          exact hw
      · rintro D₂ k₂ ws σ ⟨rfl, hw⟩
        intro h₁₀ t₁₁ F
        refine x_list (aa_nil ?_) rfl
        refine mk_list F (by simp) fun D₃ h₁₁ t₁₂ F => ?_
        have hw' : IntsAre ws (badL row i e i) := by simpa using hw
        refine eq_ints (R'.le (by lia)) (isInts_own F (by walk_at "mm") hw') (isInts_own F (by walk_at "mm") .nil) ?_
        repeat walk_at "e"
        refine split_bool (fun hc2 => ?_) fun hc2 => ?_
        · refine t_and0 (if_t ?_)
          walk_at "e"
          refine wpAny_AugAssign_Name ?_
          refine l_cell F V rfl rfl (by walk_at "mm") ?_
          walk_at "e"
          refine i_iadd fun z t₁₃ => ?_
          refine n_stc F V rfl rfl (.tail (.tail (.tail (.tail (.tail .head))))) fun h₁₂ t₁₄ F => ?_
          walk_at "e"
          replace F := F.weaken (List.Sublist.cons _ (List.Sublist.cons _ (List.Sublist.refl _)))
          rw [show ((e : Nat) : Int) + 1 = ((e + 1 : Nat) : Int) by push_cast; lia] at F
          refine hKK _ _ (Turn.next F ⟨row.length - (e + 1), by lia, m1, e + 1, _, by lia, by lia, rfl, ?_, rfl⟩)
          rw [hend, show row.length - e = (row.length - (e + 1)) + 1 by lia]
          exact if_pos ⟨hel, of_decide_eq_true hc2⟩
        · refine if_f ?_
          have hstop : ¬ (e < row.length ∧ badL row i e i = []) := fun q => absurd q.2 (of_decide_eq_false hc2)
          replace F := F.weaken (List.Sublist.cons _ (List.Sublist.cons _ (List.Sublist.refl _)))
          walk_at "e"
          refine s_append (a := D) (vs := vs) ?_ rfl rfl rfl V.notInter
          walk_at "e"
          refine ⟨rfl, ⟨kk, F.get (by walk_at "mm")⟩, ?_⟩
          walk_at "e"
          have hvl : vs.length ≤ 1000 := by rw [hv.length]; unfold endsF; simp; lia
          refine c_append F (fun k' => .tail (.tail .head)) hvl fun h₁₂ k₅ F => ⟨rfl, ?_⟩
          walk_at "e"
          refine hQT _ _ (Turn.next F ⟨_, _, rfl, m1, _, k₅, _, rfl, ?_⟩)
          rw [endsF_succ, hend, endF_stop hstop]
          exact intsAre_snoc hv _ _
    · refine if_f ?_
      have hstop : ¬ (e < row.length ∧ badL row i e i = []) := fun q => absurd q.1 (by have := of_decide_eq_false hc; lia)
      walk_at "e"
      refine s_append (a := D) (vs := vs) ?_ rfl rfl rfl V.notInter
      walk_at "e"
      refine ⟨rfl, ⟨kk, F.get (by walk_at "mm")⟩, ?_⟩
      walk_at "e"
      have hvl : vs.length ≤ 1000 := by rw [hv.length]; unfold endsF; simp; lia
      refine c_append F (fun k' => .tail (.tail .head)) hvl fun h₁₂ k₅ F => ⟨rfl, ?_⟩
      walk_at "e"
      refine hQT _ _ (Turn.next F ⟨_, _, rfl, m1, _, k₅, _, rfl, ?_⟩)
      rw [endsF_succ, hend, endF_stop hstop]
      exact intsAre_snoc hv _ _
  · rintro h₆ t₇ m σ v ⟨m1, vs, kk, ve, rfl, hv⟩ F
    repeat walk_at "e"
    refine k D vs kk _ _ F.kp (F.fresh.sub ?_) (by simpa using hv)
    exact (List.Sublist.cons _ (List.Sublist.cons_cons _ (List.nil_sublist _)))
end

-- part F5
noncomputable def IsIntsP (h : Heap) (a : Addr) (ns : List Int) : Prop := ∃ vs k, h.get? a = some (listO vs k) ∧ IntsAre vs ns
theorem IsIntsP.ints {h : Heap} {a : Addr} {ns : List Int} (x : IsIntsP h a ns) : IsInts h a ns := let ⟨vs, k, e, i⟩ := x; ⟨vs, ⟨_, e, rfl, _, rfl⟩, i⟩
theorem Kp.isIntsP {H h h' : Heap} {a : Addr} {ns : List Int} (k : Kp H h h') (x : IsIntsP h a ns) : IsIntsP h' a ns := let ⟨vs, n, e, b⟩ := x; ⟨vs, n, k.getc e nofun, b⟩

section
variable {prog : Program} {w : World} {A : Around} {E : Value → Shared → Prop} {H h₀ h : Heap} {g : Array GenState} {d : Drawn} {t : Nat} {os : OsState} {env : Env} {m mg mb : Str → Option Value} {σ : List (Addr × Obj)} {L : Addr}
theorem m_index {a : Addr} {ns : List Int} {pl : Sem Bool} {Q : Value × List Value → Shared → Prop} (ha : IsIntsP h a ns) (k : Q (.builtin "list.index", [.ref a]) ⟨h, g, d, t, os⟩) : wpAny (model prog w) A (getMethod (.ref a) "index" pl) Q E ⟨h, g, d, t, os⟩ := by
  obtain ⟨vs, n, e, _⟩ := ha
  exact getMethod_list_of PySem.F.slot_list_index PySem.F.type_list_index (items := vs.toArray) ⟨_, e, rfl, _, rfl⟩ ⟨_, e, rfl⟩ k
open PySem.SeqAt in
theorem c_index {a : Addr} {ns : List Int} {x : Int} {u : Tok} {Q : Value → Shared → Prop} (ha : IsIntsP h a ns) (hl : ns.length < 2 ^ 40) (hx : x ∈ ns) (k : ∀ z t', Q (.int (ns.idxOf x : Nat) z) ⟨h, g, d, t', os⟩) :
    wpAny (model prog w) A (call (.builtin "list.index") [.ref a, .int x u]) Q E ⟨h, g, d, t, os⟩ := by
  obtain ⟨vs, n, e, hi⟩ := ha
  have hj : ns.idxOf x < ns.length := List.idxOf_lt_length_iff.mpr hx
  have hlen := hi.length
  refine call_meets PySem.F.slot_list_index ⟨_, e, rfl⟩ PySem.F.entry_list_index (PySem.F.args_list_index_2 _ _)
    (list_indexAt a vs.toArray n none #[] (.int x u) (isInt x) (ns.idxOf x) (by simpa [hlen] using hj) (by omega) ?_ ?_) ⟨e, fun y hy => (eq_isInt x u hi y (by simpa using hy)).at _ _, k _ _⟩
  · have := isInt_at x hi (ns.idxOf x) (by omega) hj
    simpa [List.getElem_idxOf hj] using this
  · intro j hjs hlt
    have := isInt_at x hi j (by simpa using hjs) (by omega)
    rw [ne_of_lt_idxOf hlt] at this
    simpa using this
end

noncomputable def matchF (kept : List Int) (place st : Int) : Option (Int × Int) :=
  let last : Int := (kept.idxOf place : Nat)
  let last := last - last.fmod (max 1 st)
  if last = 0 then none else some (kept.getD (last - st).toNat 0, kept.getD last.toNat 0)

/-- None or a pair -/
noncomputable def MatchQ (H h : Heap) (g : Array GenState) (d : Drawn) (os : OsState) (r : Option (Int × Int)) (Q : Value → Shared → Prop) : Prop := ∀ h' t', Kp H h h' → match r with
  | none => Q .none ⟨h', g, d, t', os⟩
  | some (a, b) => ∀ T u v, Fresh H h h' [(T, tupO [.int a u, .int b v])] → Q (.ref T) ⟨h', g, d, t', os⟩
theorem MatchQ.none {H h h' : Heap} {g : Array GenState} {d : Drawn} {os : OsState} {r : Option (Int × Int)} {Q : Value → Shared → Prop} (x : MatchQ H h g d os r Q) (k : Kp H h h') (e : r = .none) (t' : Nat) : Q .none ⟨h', g, d, t', os⟩ := by
  subst e; exact x h' t' k
theorem MatchQ.some {H h h' : Heap} {g : Array GenState} {d : Drawn} {os : OsState} {r : Option (Int × Int)} {Q : Value → Shared → Prop} (x : MatchQ H h g d os r Q) (k : Kp H h h') {a b : Int} (e : r = .some (a, b)) {T : Addr} {u v : Tok} (fr : Fresh H h h' [(T, tupO [.int a u, .int b v])]) (t' : Nat) : Q (.ref T) ⟨h', g, d, t', os⟩ := by
  subst e; exact x h' t' k T u v fr

section
variable {prog : Program} {w : World} {A : Around} {E : Value → Shared → Prop} {H h : Heap} {g : Array GenState} {d : Drawn} {t : Nat} {os : OsState} {mg mb : Str → Option Value}

set_option maxHeartbeats 1000000 in
theorem match_spec (G : Glb w H mg mb) (K0 : Kp H H h) (hz : H.objs.size ≤ h.objs.size) (R : Rm A 2) {ka : Addr} {kept : List Int} {place st : Int} {up us : Tok} {Q : Value → Shared → Prop}
    (hk : IsIntsP h ka kept) (hl : kept.length < 2 ^ 40) (hp : place ∈ kept) (hst : 0 ≤ st) (hst' : st < 2 ^ 40)
    (k : MatchQ H h g d os (matchF kept place st) Q) :
    wpAny (model prog w) A (call (.ref 142) [.ref ka, .int place up, .int st us]) Q E ⟨h, g, d, t, os⟩ := by
  have hidx : kept.idxOf place < kept.length := List.idxOf_lt_length_iff.mpr hp
  refine call_s0 (c := 141) (binds := [("kept", .ref ka), ("place", .int place up), ("step", .int st us)]) R hz K0 G.nolimit (K0.getc (G.K 142 _ rfl) nofun) rfl rfl (G.cd K0 rfl rfl rfl rfl) rfl (BindsTo.of_eq rfl) rfl rfl rfl rfl rfl (fun _ => rfl) (fun _ => rfl) rfl fun env L h₁ t₁ A' V hcode R' F => ?_
  dsimp only [bindM] at V F
  iterate 2 walk_at "e"
  refine x_meth ?_ rfl rfl (by decide) rfl
  walk_at "e"
  refine m_index (F.kp.isIntsP hk) (cw_blt ?_ rfl)
  repeat walk_at "e"
  refine c_index (F.kp.isIntsP hk) hl hp fun z t₂ => ?_
  refine n_st F V rfl fun h₂ t₃ F => ?_
  repeat walk_at "e"
  refine x_call (n_blt F V rfl K0 G.g G.b (gb_max G) ?_ rfl)
  refine cw_blt ?_ rfl
  repeat walk_at "e"
  refine c_max2 F R'.hd fun z h₃ t₃ F => ?_
  refine i_mod (by omega) fun z t₄ => ?_
  repeat walk_at "e"
  refine n_st F V rfl fun h₄ t₅ F => ?_
  iterate 2 walk_at "e"
  refine wpAny_IfExp ?_
  repeat walk_at "e"
  have hmod := Int.fmod_eq_emod_of_nonneg ((kept.idxOf place : Nat) : Int) (show 0 ≤ max 1 st by omega)
  have h1 := Int.emod_nonneg ((kept.idxOf place : Nat) : Int) (show max 1 st ≠ 0 by omega)
  have h2 := Int.emod_add_mul_ediv ((kept.idxOf place : Nat) : Int) (max 1 st)
  refine split_bool (fun hc => ?_) fun hc => ?_
  · walk_at "e"
    have e : matchF kept place st = none := by unfold matchF; exact if_pos (by simpa using hc)
    exact k.none F.kp e _
  · have hne : ((kept.idxOf place : Nat) : Int) - ((kept.idxOf place : Nat) : Int).fmod (max 1 st) ≠ 0 := by simpa using hc
    have e : matchF kept place st = some (kept.getD (((kept.idxOf place : Nat) : Int) - ((kept.idxOf place : Nat) : Int).fmod (max 1 st) - st).toNat 0, kept.getD (((kept.idxOf place : Nat) : Int) - ((kept.idxOf place : Nat) : Int).fmod (max 1 st)).toNat 0) := by unfold matchF; exact if_neg hne
    have hge : max 1 st ≤ ((kept.idxOf place : Nat) : Int) - ((kept.idxOf place : Nat) : Int).fmod (max 1 st) := by
      rw [hmod] at hne ⊢
      have hd : ((kept.idxOf place : Nat) : Int) - ((kept.idxOf place : Nat) : Int) % max 1 st = max 1 st * (((kept.idxOf place : Nat) : Int) / max 1 st) := by omega
      rw [hd] at hne ⊢
      have hq : 0 ≤ ((kept.idxOf place : Nat) : Int) / max 1 st := Int.ediv_nonneg (by omega) (by omega)
      have hq1 : 1 ≤ ((kept.idxOf place : Nat) : Int) / max 1 st := by
        rcases Int.lt_or_eq_of_le hq with h | h
        · omega
        · rw [← h, Int.mul_zero] at hne; exact absurd rfl hne
      calc max 1 st = max 1 st * 1 := by omega
        _ ≤ _ := Int.mul_le_mul_of_nonneg_left hq1 (by omega)
    rw [hmod] at hge
    have hle : ((kept.idxOf place : Nat) : Int) - ((kept.idxOf place : Nat) : Int) % max 1 st ≤ (kept.idxOf place : Nat) := by omega
    refine x_tuple ?_ rfl
    repeat walk_at "e"
    refine s_ints F hk.ints (by omega) (by omega) (by omega) (fun u₁ => ?_) (by with_unfolding_all rfl)
    repeat walk_at "e"
    refine s_ints F hk.ints (by omega) (by omega) (by omega) (fun u₂ => ?_) (by with_unfolding_all rfl)
    repeat walk_at "e"
    refine mk_tuple F (by simp) fun T h₅ t₆ F => ?_
    exact k.some F.kp e F.fresh _
end

-- part F6
noncomputable def touchF (row : List Int) (sl : Int) : Nat → Int
  | 0 => 0
  | n + 1 => if row.getD (n + 1) 0 - sl * ((n + 1 : Nat) : Int) < row.getD (touchF row sl n).toNat 0 - sl * touchF row sl n then ((n + 1 : Nat) : Int) else touchF row sl n
theorem touchF_le (row : List Int) (sl : Int) : ∀ n : Nat, 0 ≤ touchF row sl n ∧ touchF row sl n ≤ n
  | 0 => by simp [touchF]
  | n + 1 => by
    have := touchF_le row sl n
    unfold touchF
    split <;> push_cast <;> lia

theorem touchF_yes {row : List Int} {sl : Int} {i : Nat} (h : row.getD (1 + (i : Int)).toNat 0 - sl * (1 + (i : Int)) < row.getD (touchF row sl i).toNat 0 - sl * touchF row sl i) : touchF row sl (i + 1) = 1 + (i : Int) := by
  rw [show (1 + (i : Int)).toNat = i + 1 from by lia, show 1 + (i : Int) = ((i + 1 : Nat) : Int) from by push_cast; lia] at *
  unfold touchF; rw [if_pos h]
theorem touchF_no {row : List Int} {sl : Int} {i : Nat} (h : ¬ row.getD (1 + (i : Int)).toNat 0 - sl * (1 + (i : Int)) < row.getD (touchF row sl i).toNat 0 - sl * touchF row sl i) : touchF row sl (i + 1) = touchF row sl i := by
  rw [show (1 + (i : Int)).toNat = i + 1 from by lia, show 1 + (i : Int) = ((i + 1 : Nat) : Int) from by push_cast; lia] at *
  conv => lhs; unfold touchF
  rw [if_neg h]

section
variable {prog : Program} {w : World} {A : Around} {E : Value → Shared → Prop} {H h : Heap} {g : Array GenState} {d : Drawn} {t : Nat} {os : OsState} {mg mb : Str → Option Value}

set_option maxHeartbeats 1000000 in
theorem touch_spec (G : Glb w H mg mb) (K0 : Kp H H h) (hz : H.objs.size ≤ h.objs.size) (R : Rm A 2) {ra : Addr} {row : List Int} {sl top : Int} {us ut : Tok} {Q : Value → Shared → Prop}
    (hr : IsInts h ra row) (hs : -(2 ^ 64) < sl ∧ sl < 2 ^ 64) (ht : 0 ≤ top) (htl : top < row.length) (hlen : row.length < 2 ^ 40)
    (k : ∀ h' t' u, Kp H h h' → Q (.int (touchF row sl top.toNat) u) ⟨h', g, d, t', os⟩) :
    wpAny (model prog w) A (call (.ref 135) [.ref ra, .int sl us, .int top ut]) Q E ⟨h, g, d, t, os⟩ := by
  refine call_s0 (c := 134) (binds := [("row", .ref ra), ("slope", .int sl us), ("top", .int top ut)]) R hz K0 G.nolimit (K0.getc (G.K 135 _ rfl) nofun) rfl rfl (G.cd K0 rfl rfl rfl rfl) rfl (BindsTo.of_eq rfl) rfl rfl rfl rfl rfl (fun _ => rfl) (fun _ => rfl) rfl fun env L h₁ t₁ A' V hcode R' F => ?_
  dsimp only [bindM] at V F
  iterate 3 walk_at "e"
  refine n_st F V rfl fun h₃ t₃ F => ?_
  walk_at "e"
  refine for_start ?_ fun _ => rfl
  refine x_call (n_blt F V rfl K0 G.g G.b (gb_range G) ?_ rfl)
  refine cw_type ?_ rfl
  repeat walk_at "e"
  refine c_range2 F fun r h t w₁ F => ?_
  refine for_range (fun i m σ => σ = [] ∧ ∃ u us ut, m "best" = some (.int (touchF row sl i) u) ∧ m "row" = some (.ref ra) ∧ m "slope" = some (.int sl us) ∧ m "top" = some (.int top ut)) F (by lia) (by lia) (by lia) R'.hd (V.kindOf rfl) V.kind V.locals
    ⟨rfl, _, _, _, by walk_at "lk", by walk_at "lk", by walk_at "lk", by walk_at "lk"⟩ ?_ ?_
  · rintro i h t m σ u it hi HI F
    refine cutQ fun QT hQT => ?_
    obtain ⟨rfl, ub, us', ut', m1, m2, m3, m4⟩ := HI
    have tb := touchF_le row sl i
    repeat walk_at "e"
    refine s_ints F hr (by lia) (by lia) (by lia) (fun u => ?_) (by with_unfolding_all rfl)
    repeat walk_at "e"
    refine i_mul (fun z t' => ?_) hs
    repeat walk_at "e"
    refine s_ints F hr (by lia) (by lia) (by lia) (fun u => ?_) (by with_unfolding_all rfl)
    repeat walk_at "e"
    refine i_mul (fun z t' => ?_) hs
    repeat walk_at "e"
    refine split_bool (fun hc => ?_) fun hc => ?_
    · repeat walk_at "e"
      refine n_st F V rfl fun h₃ t₃ F => ?_
      repeat walk_at "e"
      refine hQT _ _ (Turn.next F ⟨_, rfl, rfl, _, _, _, by rw [touchF_yes (of_decide_eq_true hc)]; exact upd_same, by walk_at "lk", by walk_at "lk", by walk_at "lk"⟩)
    · repeat walk_at "e"
      refine hQT _ _ (Turn.next F ⟨_, rfl, rfl, _, _, _, by rw [touchF_no (of_decide_eq_false hc)]; walk_at "lk", by walk_at "lk", by walk_at "lk", by walk_at "lk"⟩)
  · rintro h t m σ ⟨rfl, ub, us', ut', m1, m2, m3, m4⟩ F
    repeat walk_at "e"
    have : (top + 1 - 1).toNat = top.toNat := by congr 1; lia
    rw [this]
    exact k _ _ _ F.kp
end

-- part M1
/-- a point's own part of its name -/
noncomputable def aS (p : Nat) : Str := Txt.mul "a" ((p : Int) + 1)
noncomputable def ysOf (k : Nat) (name : Str) : List Str := if k % 2 = 1 then [] else [name]
noncomputable def dsOf (k : Nat) (name : Str) : List Str := if k % 2 = 1 then dirTexts name else []
noncomputable def putC (c : Str → Option Int) (s : Str) (i : Int) : Str → Option Int := fun x => if x = s then some i else c x
noncomputable def pathOf (name : Str) : Str := "/" ++ repl name ++ "/f"
/-- names, lists and what the readers have told -/
structure St where
  nm : Nat → Str
  lst : Nat → List Int
  ca : Nat → Str → Option Int
noncomputable def St.ans (s : St) (file : Option Str) (name : Str) (k : Nat) : Int := askF (ysOf k (s.nm k)) (dsOf k (s.nm k)) (s.ca k) file name
noncomputable def setN {α : Type} (f : Nat → α) (p : Nat) (v : α) : Nat → α := fun k => if k = p then v else f k
noncomputable def parF (row : List Int) (s : St) (p : Nat) : Nat := match srF (searchF (s.lst (p - 1)) (aboveF p row) 1) ((p : Int) - 1) with
  | none => 0
  | some (_, b) => b.toNat
noncomputable def nameF (row : List Int) (s : St) (p : Nat) : Str := if p = 0 then aS 0 else s.nm (parF row s p) ++ "." ++ aS p
/-- all readers below n are asked -/
noncomputable def askTo (s : St) (file : Option Str) (name : Str) (n : Nat) : St := { s with ca := fun k => if k < n then putC (s.ca k) name (s.ans file name k) else s.ca k }
noncomputable def lstTo (s : St) (file : Option Str) (name : Str) (n : Nat) : List Int := ((List.range n).filter fun k => decide (s.ans file name k = 1)).map fun (k : Nat) => (k : Int)
noncomputable def stepF (row : List Int) (s : St) (p : Nat) : St :=
  let name := nameF row s p
  let s1 : St := { s with nm := setN s.nm p name }
  let s2 := askTo s1 (some (pathOf name)) name (p + 1)
  { s2 with lst := setN s.lst p (lstTo s1 (some (pathOf name)) name (p + 1)) }
noncomputable def treeF (row : List Int) : Nat → St
  | 0 => ⟨fun _ => Str.empty, fun _ => [], fun _ => c0⟩
  | p + 1 => stepF row (treeF row p) p

theorem join_len {a b : Str} (h : a.length = b.length) : ∀ l : List Str, (Str.join a l).length = (Str.join b l).length
  | [] => rfl
  | [_] => rfl
  | x :: y :: r => by
    show (x ++ a ++ Str.join a (y :: r)).length = (x ++ b ++ Str.join b (y :: r)).length
    rw [len_app, len_app, len_app, len_app, join_len h (y :: r), h]
theorem repl_len (x : Str) : (repl x).length = x.length := by
  unfold repl
  have e1 : (Str.ofString ".") = (⟨#[46]⟩ : Str) := rfl
  rw [e1, StrLaws.replace_one, join_len (a := Str.ofString "/") (b := ⟨#[46]⟩) rfl, StrLaws.join_split]
theorem aS_cps (p : Nat) : (aS p).cps.toList = List.replicate (p + 1) 97 := by
  unfold aS Txt.mul
  rw [if_neg (by lia)]
  by_cases h : p = 0
  · subst h; rfl
  · have : ¬ (((p : Int) + 1 == 1) || (Str.ofString "a").length == 0) = true := by
      have : (Str.ofString "a").length = 1 := rfl
      simp [this]; lia
    rw [if_neg this]
    have key : ∀ (n : Nat) (acc : Array Nat), ((List.replicate n (Str.ofString "a").cps).foldl (· ++ ·) acc).toList = acc.toList ++ List.replicate n 97 := by
      intro n
      induction n with
      | zero => intro acc; simp
      | succ n ih =>
        intro acc
        rw [List.replicate_succ, List.foldl_cons, ih]
        have : (Str.ofString "a").cps.toList = [97] := rfl
        simp [this, List.replicate_succ]
    have := key ((p : Int) + 1).toNat #[]
    simpa [show ((p : Int) + 1).toNat = p + 1 by lia] using this
theorem aS_len (p : Nat) : (aS p).length = p + 1 := by
  have := congrArg List.length (aS_cps p)
  simpa [Str.length] using this

-- part M2
theorem IgO.le {prog : Program} {w : World} {o : Obj} {c : Str → Option Int} {n k : Nat} (x : IgO prog w o c n) (h : n ≤ k) : IgO prog w o c k := let ⟨kvs, a, b, c⟩ := x; ⟨kvs, a, Nat.le_trans b h, c⟩
theorem RdOk.le {prog : Program} {w : World} {r : Rd} {ys ds : List (Str × Tok)} {c : Str → Option Int} {n k : Nat} (x : RdOk prog w r ys ds c n) (h : n ≤ k) : RdOk prog w r ys ds c k := ⟨x.ns, x.set, x.dir, x.ig.le h⟩
theorem Up.app {a : Addr} {o o' : Obj} {σ σ' : List (Addr × Obj)} (u : Up a o o' σ σ') (τ : List (Addr × Obj)) : Up a o o' (σ ++ τ) (σ' ++ τ) := by
  induction u with
  | head => exact .head
  | tail _ ih => exact .tail ih
theorem Up.pre {a : Addr} {o o' : Obj} {σ σ' : List (Addr × Obj)} (u : Up a o o' σ σ') : ∀ (τ : List (Addr × Obj)), Up a o o' (τ ++ σ) (τ ++ σ')
  | [] => u
  | _ :: τ => .tail (Up.pre u τ)
theorem Up.flat {r : Rd} (o' : Obj) : ∀ {ρ : List Rd} {k : Nat}, ρ[k]? = some r → Up r.ig r.oig o' (ρ.flatMap rdσ) ((ρ.set k { r with oig := o' }).flatMap rdσ)
  | [], _, e => by simp at e
  | q :: ρ, 0, e => by
    have : q = r := by simpa using e
    subst this
    rw [List.set_cons_zero, List.flatMap_cons, List.flatMap_cons]
    exact Up.app .head _
  | q :: ρ, k + 1, e => by
    rw [List.set_cons_succ, List.flatMap_cons, List.flatMap_cons]
    exact Up.pre (Up.flat o' (by simpa using e)) _
theorem flat_mem {r : Rd} {ρ : List Rd} {k : Nat} (e : ρ[k]? = some r) : ∀ p ∈ rdσ r, p ∈ ρ.flatMap rdσ := fun p hp => List.mem_flatMap.mpr ⟨r, List.mem_of_getElem? e, hp⟩

theorem scanF_some {kept : List Int} {T : Int → Int → Bool} {st pl a b : Int} : ∀ {n : Nat} {k : Int}, scanF kept T st pl n k = some (a, b) → ∃ j : Int, k ≤ j ∧ j < k + n ∧ a = kept.getD (j - st).toNat 0 ∧ b = kept.getD j.toNat 0 ∧ pl ≤ a ∧ T (kept.getD (j - 1).toNat 0) (kept.getD j.toNat 0) = true
  | 0, _, e => by cases e
  | n + 1, k, e => by
    unfold scanF at e
    split at e
    · rename_i h
      cases e
      exact ⟨k, Int.le_refl _, by push_cast; lia, rfl, rfl, h.1, h.2⟩
    · obtain ⟨j, h1, h2, r⟩ := scanF_some e
      exact ⟨j, by lia, by push_cast; lia, r⟩
theorem searchF_some {kept : List Int} {T : Int → Int → Bool} {st pl a b : Int} (hst : 0 ≤ st) (e : searchF kept T st pl = some (a, b)) : ∃ j : Nat, 1 ≤ j ∧ st ≤ j ∧ j < kept.length ∧ a = kept.getD (j - st.toNat) 0 ∧ b = kept.getD j 0 ∧ pl ≤ a ∧ T (kept.getD (j - 1) 0) (kept.getD j 0) = true := by
  unfold searchF at e
  obtain ⟨j, h1, h2, e1, e2, h3, h4⟩ := scanF_some e
  have hj : 0 ≤ j := by lia
  have hl : j < (kept.length : Int) := by lia
  refine ⟨j.toNat, by lia, by lia, by lia, ?_, e2, h3, ?_⟩
  · rw [e1]; congr 1; lia
  · rw [show j.toNat - 1 = (j - 1).toNat by lia]; exact h4
/-- what search_reverse tells is a match -/
theorem srLoop_some {S : Int → Option (Int × Int)} {col : Int} : ∀ {n : Nat} {i j : Int} {f : Option (Int × Int)} {r : Int × Int}, srLoop S col n i j f = some r → (∃ pl, S pl = some (i, j)) → (∀ q, f = some q → ∃ pl, S pl = some q) → ∃ pl, S pl = some r
  | 0, _, _, f, r, e, _, hf => hf r e
  | n + 1, i, j, f, r, e, hij, hf => by
    unfold srLoop at e
    split at e
    · split at e
      · cases e; exact hij
      · rename_i a b he
        exact srLoop_some e ⟨_, he⟩ fun q hq => by cases hq; exact hij
    · exact hf r e
theorem srF_some {S : Int → Option (Int × Int)} {col : Int} {r : Int × Int} (e : srF S col = some r) : ∃ pl, S pl = some r := by
  unfold srF at e
  split at e
  · cases e
  · rename_i i j he
    exact srLoop_some e ⟨_, he⟩ fun q hq => by cases hq

/-- a rising list of places below n -/
noncomputable def Kept (l : List Int) (n : Nat) : Prop := l.Pairwise (· < ·) ∧ ∀ x ∈ l, 0 ≤ x ∧ x < n
theorem Kept.getD {l : List Int} {n : Nat} (h : Kept l n) {i : Nat} (hi : i < l.length) : 0 ≤ l.getD i 0 ∧ l.getD i 0 < n := by
  have : l.getD i 0 = l[i] := by simp [hi]
  rw [this]; exact h.2 _ (List.getElem_mem hi)
theorem Kept.lt {l : List Int} {n : Nat} (h : Kept l n) {i j : Nat} (hij : i < j) (hj : j < l.length) : l.getD i 0 < l.getD j 0 := by
  have hi : i < l.length := by lia
  have e1 : l.getD i 0 = l[i] := by simp [hi]
  have e2 : l.getD j 0 = l[j] := by simp [hj]
  rw [e1, e2]
  exact List.pairwise_iff_getElem.mp h.1 i j hi hj hij
theorem Kept.hS {l : List Int} {n : Nat} (h : Kept l n) {T : Int → Int → Bool} {st : Int} (hst : 0 ≤ st) : ∀ pl a b, searchF l T st pl = some (a, b) → pl ≤ a ∧ a ≤ b := by
  intro pl a b e
  obtain ⟨j, h1, h2, h3, rfl, rfl, h4, _⟩ := searchF_some hst e
  refine ⟨h4, ?_⟩
  by_cases hs : st.toNat = 0
  · rw [hs]; exact Int.le_refl _
  · exact Int.le_of_lt (h.lt (by lia) h3)
theorem lstTo_kept (s : St) (file : Option Str) (name : Str) (n : Nat) : Kept (lstTo s file name n) n := by
  unfold lstTo
  constructor
  · rw [List.pairwise_map]
    refine List.Pairwise.imp (R := (· < ·)) (fun h => by lia) ?_
    exact List.Pairwise.filter _ List.pairwise_lt_range
  · intro x hx
    obtain ⟨k, hk, rfl⟩ := List.mem_map.mp hx
    have := List.mem_range.mp (List.mem_filter.mp hk).1
    lia

/-- the tree's plain facts -/
structure TreeOk (row : List Int) (p : Nat) (s : St) : Prop where
  len : ∀ k, k < p → (s.nm k).length ≤ 12 * (k + 1)
  kept : ∀ k, k < p → Kept (s.lst k) (k + 1)
theorem par_lt {row : List Int} {p : Nat} {s : St} (h : TreeOk row p s) (hp : 0 < p) : parF row s p < p := by
  unfold parF
  split
  · exact hp
  · rename_i a b e
    obtain ⟨pl, e⟩ := srF_some e
    obtain ⟨j, _, _, hj, _, rfl, _⟩ := searchF_some (by decide) e
    have := (h.kept (p - 1) (by lia)).getD hj
    lia
theorem treeOk (row : List Int) : ∀ p, p ≤ 11 → TreeOk row p (treeF row p)
  | 0, _ => ⟨fun k h => absurd h (Nat.not_lt_zero _), fun k h => absurd h (Nat.not_lt_zero _)⟩
  | p + 1, hp => by
    have ih := treeOk row p (by lia)
    refine ⟨fun k hk => ?_, fun k hk => ?_⟩
    · show (setN (treeF row p).nm p (nameF row (treeF row p) p) k).length ≤ _
      unfold setN
      split
      · rename_i e
        subst e
        unfold nameF
        split
        · rename_i h0; subst h0; rw [aS_len]; lia
        · have hpar := par_lt ih (by lia)
          have := ih.len _ hpar
          rw [len_app, len_app, aS_len]
          have h1 : (Str.ofString ".").length = 1 := rfl
          lia
      · exact ih.len k (by lia)
    · show Kept (setN (treeF row p).lst p _ k) (k + 1)
      unfold setN
      split
      · rename_i e; subst e; exact lstTo_kept _ _ _ _
      · exact ih.kept k (by lia)

-- part M3
theorem mulOk_a (i : Nat) (h : i < 11) : MulOk "a" ((i : Int) + 1) := by
  have : i = 0 ∨ i = 1 ∨ i = 2 ∨ i = 3 ∨ i = 4 ∨ i = 5 ∨ i = 6 ∨ i = 7 ∨ i = 8 ∨ i = 9 ∨ i = 10 := by lia
  rcases this with rfl | rfl | rfl | rfl | rfl | rfl | rfl | rfl | rfl | rfl | rfl <;> exact ⟨by decide +kernel, fun _ _ => by decide +kernel, fun _ _ => by decide +kernel⟩
theorem Kept.len {l : List Int} {n : Nat} (h : Kept l n) : l.length ≤ n := by
  rcases Nat.lt_or_ge n l.length with q | q
  · exfalso
    have key : ∀ i, i < l.length → (i : Int) ≤ l.getD i 0 := by
      intro i
      induction i with
      | zero => intro hi; exact (h.getD hi).1
      | succ i ih =>
        intro hi
        have := ih (by lia)
        have := h.lt (i := i) (j := i + 1) (by lia) hi
        push_cast; lia
    have := key n q
    have := (h.getD q).2
    lia
  · exact q

-- part M4
/-- the readers of a row of points -/
structure RdAt (prog : Program) (w : World) (nm : Nat → Str) (ca : Nat → Str → Option Int) (b : Nat → Nat) (ρ : List Rd) : Prop where
  rd : ∀ k r, ρ[k]? = some r → ∃ ys ds, RdOk prog w r ys ds (ca k) (b k) ∧ ys.map (·.1) = ysOf k (nm k) ∧ ds.map (·.1) = dsOf k (nm k)
theorem setN_same {α : Type} {f : Nat → α} {p : Nat} {v : α} : setN f p v p = v := if_pos rfl
theorem setN_ne {α : Type} {f : Nat → α} {p k : Nat} {v : α} (h : k ≠ p) : setN f p v k = f k := if_neg h
theorem ysOf_len {k : Nat} {name : Str} {B : Nat} (h : name.length ≤ B) : ∀ y ∈ ysOf k name, y.length ≤ B := by
  intro y hy
  unfold ysOf at hy
  split at hy
  · simp at hy
  · simp at hy; rw [hy]; exact h
theorem dsOf_len {k : Nat} {name : Str} : (dsOf k name).length ≤ 2 := by
  unfold dsOf dirTexts
  split <;> simp
section
variable {prog : Program} {w : World} {A : Around} {E : Value → Shared → Prop} {H h₀ h : Heap} {g : Array GenState} {d : Drawn} {t : Nat} {os : OsState} {env : Env}
  {m mg mb : Str → Option Value} {σ : List (Addr × Obj)} {L : Addr} {names : List (Str × NameKind)} {cells : List (Str × Addr)}
/-- a reader is asked -/
theorem ask_spec {pre : List (Addr × Obj)} {ρ : List Rd} {k : Nat} {r : Rd} {nm : Nat → Str} {ca : Nat → Str → Option Int} {b : Nat → Nat} {file : Option (Str × Tok)} {name : Str} {un : Tok} {Q : Value → Shared → Prop} (G : Glb w H mg mb) (K0 : Kp H H h₀) (R : Rm A 1)
    (F : Fx H h₀ L h m (pre ++ ρ.flatMap rdσ)) (hk : ρ[k]? = some r) (X : RdAt prog w nm ca b ρ) (hb : b k < 1000) (hname : name.length ≤ 1000) (hnm : (nm k).length ≤ 1000) (hds : ∀ y ∈ dsOf k (nm k), y.length ≤ 1000)
    (kk : ∀ ρ' h' t' u, ρ'.map (·.x) = ρ.map (·.x) → RdAt prog w nm (setN ca k (putC (ca k) name (askF (ysOf k (nm k)) (dsOf k (nm k)) (ca k) (file.map (·.1)) name))) (setN b k (b k + 1)) ρ' → Fx H h₀ L h' m (pre ++ ρ'.flatMap rdσ) →
      Q (.int (askF (ysOf k (nm k)) (dsOf k (nm k)) (ca k) (file.map (·.1)) name) u) ⟨h', g, d, t', os⟩) :
    wpAny (model prog w) A (call (.ref 83) [.ref r.x, fileV file, .str name un]) Q E ⟨h, g, d, t, os⟩ := by
  obtain ⟨ys, ds, ok, hy, hd⟩ := X.rd k r hk
  have hkl : k < ρ.length := by
    rcases Nat.lt_or_ge k ρ.length with q | q
    · exact q
    · rw [List.getElem?_eq_none q] at hk; cases hk
  have hre : ρ[k] = r := by have := List.getElem?_eq_getElem hkl; rw [hk] at this; exact (Option.some.inj this).symm
  refine names_spec G K0 R F ok hb (fun p hp => List.mem_append_right _ (flat_mem hk p hp)) (fun o' => Up.pre (Up.flat o' hk) pre) hname (by rw [hy]; exact ysOf_len hnm) (by rw [hd]; exact hds) (by have := congrArg List.length hd; rw [List.length_map] at this; have := dsOf_len (k := k) (name := nm k); lia) ?_
  intro o' h' t' u hI F'
  rw [hy, hd] at hI ⊢
  refine kk _ h' t' u ?_ ⟨fun j q hj => ?_⟩ F'
  · rw [List.map_set]
    refine List.ext_getElem? fun j => ?_
    rw [List.getElem?_set]
    by_cases e : k = j
    · subst e; rw [if_pos rfl, if_pos (by simpa using hkl), List.getElem?_map, hk]; rfl
    · rw [if_neg e]
  · rw [List.getElem?_set] at hj
    by_cases e : k = j
    · subst e
      rw [if_pos rfl, if_pos hkl] at hj
      cases hj
      refine ⟨ys, ds, ?_, hy, hd⟩
      rw [setN_same, setN_same]
      exact ⟨ok.ns, ok.set, ok.dir, hI⟩
    · rw [if_neg e] at hj
      rw [setN_ne (Ne.symm e), setN_ne (Ne.symm e)]
      exact X.rd j q hj
end

-- part M5
theorem RdAt.le {prog : Program} {w : World} {nm : Nat → Str} {ca : Nat → Str → Option Int} {b b' : Nat → Nat} {ρ : List Rd} (X : RdAt prog w nm ca b ρ) (h : ∀ k, b k ≤ b' k) : RdAt prog w nm ca b' ρ :=
  ⟨fun k r e => let ⟨ys, ds, ok, h1, h2⟩ := X.rd k r e; ⟨ys, ds, ok.le (h k), h1, h2⟩⟩
theorem RdAt.to {prog : Program} {w : World} {nm nm' : Nat → Str} {ca ca' : Nat → Str → Option Int} {b b' : Nat → Nat} {ρ : List Rd} (X : RdAt prog w nm ca b ρ) (h1 : ∀ k, k < ρ.length → nm k = nm' k) (h2 : ∀ k, k < ρ.length → ca k = ca' k) (h3 : ∀ k, k < ρ.length → b k ≤ b' k) : RdAt prog w nm' ca' b' ρ := by
  refine ⟨fun k r e => ?_⟩
  have hk : k < ρ.length := by
    rcases Nat.lt_or_ge k ρ.length with q | q
    · exact q
    · rw [List.getElem?_eq_none q] at e; cases e
  obtain ⟨ys, ds, ok, e1, e2⟩ := X.rd k r e
  rw [h1 k hk, h2 k hk] at *
  exact ⟨ys, ds, ok.le (h3 k hk), e1, e2⟩
theorem RdAt.snoc {prog : Program} {w : World} {nm : Nat → Str} {ca : Nat → Str → Option Int} {b : Nat → Nat} {ρ : List Rd} (X : RdAt prog w nm ca b ρ) {r : Rd} {ys ds : List (Str × Tok)} (ok : RdOk prog w r ys ds (ca ρ.length) (b ρ.length)) (h1 : ys.map (·.1) = ysOf ρ.length (nm ρ.length)) (h2 : ds.map (·.1) = dsOf ρ.length (nm ρ.length)) : RdAt prog w nm ca b (ρ ++ [r]) := by
  refine ⟨fun k q e => ?_⟩
  rcases Nat.lt_trichotomy k ρ.length with h | h | h
  · rw [List.getElem?_append_left h] at e; exact X.rd k q e
  · subst h
    rw [List.getElem?_append_right (Nat.le_refl _), Nat.sub_self] at e
    cases e
    exact ⟨ys, ds, ok, h1, h2⟩
  · rw [List.getElem?_eq_none (by simp; lia)] at e; cases e
theorem treeF_ca0 (row : List Int) : ∀ p k, p ≤ k → (treeF row p).ca k = c0
  | 0, _, _ => rfl
  | p + 1, k, h => by
    show (if k < p + 1 then _ else (treeF row p).ca k) = c0
    rw [if_neg (by lia)]
    exact treeF_ca0 row p k (by lia)
theorem askTo_succ (s : St) (file : Option Str) (name : Str) (j : Nat) : setN (askTo s file name j).ca j (putC ((askTo s file name j).ca j) name (askF (ysOf j (s.nm j)) (dsOf j (s.nm j)) ((askTo s file name j).ca j) file name)) = (askTo s file name (j + 1)).ca := by
  have e : (askTo s file name j).ca j = s.ca j := if_neg (Nat.lt_irrefl _)
  rw [e]
  funext k
  unfold setN askTo
  dsimp only
  by_cases h : k = j
  · subst h; rw [if_pos rfl, if_pos (Nat.lt_succ_self _)]; rfl
  · rw [if_neg h]
    by_cases h2 : k < j
    · rw [if_pos h2, if_pos (by lia)]
    · rw [if_neg h2, if_neg (by lia)]
theorem ans_at (s : St) (file : Option Str) (name : Str) (j : Nat) : askF (ysOf j (s.nm j)) (dsOf j (s.nm j)) ((askTo s file name j).ca j) file name = s.ans file name j := by
  rw [show (askTo s file name j).ca j = s.ca j from if_neg (Nat.lt_irrefl _)]; rfl
theorem lstTo_succ (s : St) (file : Option Str) (name : Str) (n : Nat) : lstTo s file name (n + 1) = lstTo s file name n ++ (if s.ans file name n = 1 then [(n : Int)] else []) := by
  unfold lstTo
  rw [List.range_succ, List.filter_append, List.map_append]
  congr 1
  by_cases h : s.ans file name n = 1 <;> simp [List.filter_cons, h]
theorem lstTo_len (s : St) (file : Option Str) (name : Str) (n : Nat) : (lstTo s file name n).length ≤ n := by
  unfold lstTo; rw [List.length_map]
  exact Nat.le_trans (List.length_filter_le _ _) (by simp)
noncomputable def tP (L Nn Rr Ll : Addr) (vp vn : Option Value) (ns : List (Str × Tok)) (kn : Nat) (xs : List Addr) (kr : Nat) (δ : List (Addr × List Value × Nat)) (kl : Nat) : List (Addr × Obj) :=
  (L + 1 + 1 + 1, cellO vp) :: (L + 1 + 1, cellO vn) :: (L + 1, cellO (some (.ref Rr))) :: (Nn, listO (strValues ns) kn) :: (Rr, listO (xs.map .ref) kr) :: (Ll, listO (δ.map fun q => .ref q.1) kl) :: (δ.map fun q => (q.1, listO q.2.1 q.2.2))
noncomputable def tσ (L Nn Rr Ll : Addr) (vp vn : Option Value) (ns : List (Str × Tok)) (kn : Nat) (ρ : List Rd) (kr : Nat) (δ : List (Addr × List Value × Nat)) (kl : Nat) : List (Addr × Obj) :=
  (L + 1 + 1 + 1, cellO vp) :: (L + 1 + 1, cellO vn) :: (L + 1, cellO (some (.ref Rr))) :: (Nn, listO (strValues ns) kn) :: (Rr, listO (ρ.map fun r => .ref r.x) kr) :: (Ll, listO (δ.map fun q => .ref q.1) kl) :: ((δ.map fun q => (q.1, listO q.2.1 q.2.2)) ++ ρ.flatMap rdσ)
theorem tσ_eq (L Nn Rr Ll : Addr) (vp vn : Option Value) (ns : List (Str × Tok)) (kn : Nat) (ρ : List Rd) (kr : Nat) (δ : List (Addr × List Value × Nat)) (kl : Nat) : tσ L Nn Rr Ll vp vn ns kn ρ kr δ kl = tP L Nn Rr Ll vp vn ns kn (ρ.map (·.x)) kr δ kl ++ ρ.flatMap rdσ := by
  unfold tσ tP
  simp [List.map_map, Function.comp_def]
theorem tσ_reader (L Nn Rr Ll : Addr) (vp vn : Option Value) (ns : List (Str × Tok)) (kn : Nat) (ρ : List Rd) (r : Rd) (kr kr' : Nat) (δ : List (Addr × List Value × Nat)) (kl : Nat) (p : Addr × Obj) :
    (rdσ r ++ p :: (L + 1 + 1 + 1, cellO vp) :: (L + 1 + 1, cellO vn) :: (L + 1, cellO (some (.ref Rr))) :: (Nn, listO (strValues ns) kn) :: (Rr, listO ((ρ.map fun r => .ref r.x) ++ [.ref r.x]) kr') :: (Ll, listO (δ.map fun q => .ref q.1) kl) :: ((δ.map fun q => (q.1, listO q.2.1 q.2.2)) ++ ρ.flatMap rdσ)).Perm
      (p :: tσ L Nn Rr Ll vp vn ns kn (ρ ++ [r]) kr' δ kl) := by
  refine List.perm_append_comm.trans ?_
  unfold tσ
  simp
theorem tσ_list (L Nn Rr Ll : Addr) (vp vn : Option Value) (ns : List (Str × Tok)) (kn : Nat) (ρ : List Rd) (kr kl : Nat) (δ : List (Addr × List Value × Nat)) (D : Addr) (ws : List Value) (kd : Nat) (p : Addr × Obj) :
    ((D, listO ws kd) :: p :: (L + 1 + 1 + 1, cellO vp) :: (L + 1 + 1, cellO vn) :: (L + 1, cellO (some (.ref Rr))) :: (Nn, listO (strValues ns) kn) :: (Rr, listO (ρ.map fun r => .ref r.x) kr) :: (Ll, listO ((δ.map fun q => .ref q.1) ++ [.ref D]) kl) :: ((δ.map fun q => (q.1, listO q.2.1 q.2.2)) ++ ρ.flatMap rdσ)).Perm
      (p :: tσ L Nn Rr Ll vp vn ns kn ρ kr (δ ++ [(D, ws, kd)]) kl) := by
  unfold tσ
  rw [List.map_append, List.map_append, List.append_assoc]
  exact (List.perm_middle (l₁ := _ :: _ :: _ :: _ :: _ :: _ :: _ :: (δ.map fun q => (q.1, listO q.2.1 q.2.2)))).symm
theorem fodd (i : Nat) : ((i : Int).fmod 2 == 1) = decide (i % 2 = 1) := by
  rw [Int.fmod_eq_emod_of_nonneg _ (by decide)]
  rw [Bool.eq_iff_iff, beq_iff_eq, decide_eq_true_eq]
  lia
theorem bstep (i j k : Nat) : setN (fun k => if k < j then i + 2 else i + 1) j ((fun k => if k < j then i + 2 else i + 1) j + 1) k ≤ (fun k => if k < j + 1 then i + 2 else i + 1) k := by
  unfold setN
  dsimp only
  repeat' split
  all_goals lia

-- part F14
/-- the objects of the tree are those of the mirror -/
structure TreeAt (prog : Program) (w : World) (p : Nat) (s : St) (ns : List (Str × Tok)) (ρ : List Rd) (δ : List (Addr × List Value × Nat)) (b : Nat) : Prop where
  ns : ns.map (·.1) = (List.range p).map s.nm
  lr : ρ.length = p
  ld : δ.length = p
  iv : ∀ k q, δ[k]? = some q → IntsAre q.2.1 (s.lst k)
  rd : RdAt prog w s.nm s.ca (fun _ => b) ρ

section
variable {prog : Program} {w : World} {A : Around} {E : Value → Shared → Prop} {H h : Heap} {g : Array GenState} {d : Drawn} {t : Nat} {os : OsState} {mg mb : Str → Option Value}

set_option maxHeartbeats 4000000 in
theorem tree_spec (G : Glb w H mg mb) (K0 : Kp H H h) (hz : H.objs.size ≤ h.objs.size) (R : Rm A 12) {ra : Addr} {row : List Int} {Q : Value → Shared → Prop} (hr : IsInts h ra row) (hlen : row.length ≤ 11)
    (hdl : ∀ p k, p < row.length → k ≤ p → ∀ y ∈ dsOf k ((treeF row (p + 1)).nm k), y.length ≤ 1000)
    (k : ∀ T Nn Rr Ll ns kn ρ kr δ kl h' t', Kp H h h' → Fresh H h h' ((T, tupO [.ref Nn, .ref Rr, .ref Ll]) :: (Nn, listO (strValues ns) kn) :: (Rr, listO (ρ.map fun r => .ref r.x) kr) :: (Ll, listO (δ.map fun q => .ref q.1) kl) :: ((δ.map fun q => (q.1, listO q.2.1 q.2.2)) ++ ρ.flatMap rdσ)) →
      TreeAt prog w row.length (treeF row row.length) ns ρ δ (row.length + 1) → Q (.ref T) ⟨h', g, d, t', os⟩) :
    wpAny (model prog w) A (call (.ref 123) [.ref ra]) Q E ⟨h, g, d, t, os⟩ := by
  refine call_s (c := 122) (binds := [("row", .ref ra)]) R hz (K0.getc (G.K 123 _ rfl) nofun) rfl rfl (G.cd K0 rfl rfl rfl rfl) rfl (BindsTo.of_eq rfl) rfl rfl rfl rfl rfl fun env L h₁ t₁ A' V hcode R' F => ?_
  replace V : EnvIs env _ L [("path", L + 1 + 1 + 1), ("name", L + 1 + 1), ("readers", L + 1)] := V
  replace F : Fx H h L h₁ (fun _ => none) [(L + 1 + 1 + 1, cellO none), (L + 1 + 1, cellO none), (L + 1, cellO none)] := F
  refine ba_cons (n_st F V rfl fun h₂ t₂ F => ba_nil ⟨(K0.trans F.kp).noLimit G.nolimit, ?_⟩)
  iterate 2 walk_at "e"
  refine x_list (aa_nil ?_) rfl
  refine mk_list F (by simp) fun Nn h₃ t₃ F => ?_
  refine n_st F V rfl fun h₄ t₄ F => ?_
  iterate 2 walk_at "e"
  refine x_list (aa_nil ?_) rfl
  refine mk_list F (by simp) fun Rr h₃ t₃ F => ?_
  refine n_stc F V rfl rfl (.tail (.tail (.tail (.tail .head)))) fun h₄ t₄ F => ?_
  iterate 2 walk_at "e"
  refine x_list (aa_nil ?_) rfl
  refine mk_list F (by simp) fun Ll h₃ t₃ F => ?_
  refine n_st F V rfl fun h₄ t₄ F => ?_
  walk_at "e"
  refine for_start ?_ fun _ => rfl
  refine x_call (n_blt F V rfl K0 G.g G.b (gb_range G) ?_ rfl)
  refine cw_type ?_ rfl
  walk_at "e"
  refine x_call (n_blt F V rfl K0 G.g G.b (gb_len G) ?_ rfl)
  refine cw_blt ?_ rfl
  repeat walk_at "e"
  refine c_len (F.kp.isInts hr) (by lia) fun z t₅ => ?_
  repeat walk_at "e"
  replace F := F.perm (σ' := tσ L Nn Rr Ll none none [] 0 [] 0 [] 0) (by
    refine (List.perm_append_comm (l₁ := [_, _, _]) (l₂ := [_, _, _])).trans ?_
    refine List.Perm.append_left [_, _, _] ?_
    exact (List.Perm.cons _ (List.Perm.swap _ _ _)).trans ((List.Perm.swap _ _ _).trans (List.Perm.cons _ (List.Perm.swap _ _ _))))
  refine c_range1 F fun r h₅ t₆ u₁ w₁ F => ?_
  refine for_range (fun i m σ => ∃ vp vn ns kn ρ kr δ kl, σ = tσ L Nn Rr Ll vp vn ns kn ρ kr δ kl ∧ m "names" = some (.ref Nn) ∧ m "lists" = some (.ref Ll) ∧ m "row" = some (.ref ra) ∧ TreeAt prog w i (treeF row i) ns ρ δ (i + 1)) F (by lia) (by lia) (by lia) R'.hd (V.kindOf rfl) V.kind V.locals
    ?_ ?_ ?_
  · refine ⟨none, none, [], 0, [], 0, [], 0, rfl, ?_, ?_, ?_, ?_⟩
    · walk_at "lk"
    · walk_at "lk"
    · walk_at "lk"
    · exact ⟨rfl, rfl, rfl, fun k q e => by simp at e, ⟨fun k q e => by simp at e⟩⟩
  · rintro i h₆ t₇ m σ u it hi HI F
    refine cutQ fun QT hQT => ?_
    obtain ⟨vp, vn, ns, kn, ρ, kr, δ, kl, rfl, m1, m2, m3, T⟩ := HI
    rw [Int.zero_add] at hi F
    have hi' : i < row.length := by lia
    have TO := treeOk row i (by lia)
    have hnl : ns.length = i := by have := congrArg List.length T.ns; simpa using this
    generalize hs : treeF row i = s at T TO
    have hstep : treeF row (i + 1) = stepF row s i := by rw [← hs]; rfl
    iterate 3 walk_at "e"
    repeat walk_at "e"
    refine SB.mul (mulOk_a i (by lia)) fun ua t₈ => ?_
    replace F : Fx H h L h₆ _ _ := F
    refine n_stc F V rfl rfl (.tail (.tail .head)) fun h₇ t₉ F => ?_
    refine wpAny_execs_cons (wpAny_mono (Q := fun fl s' => fl = .next ∧ ∃ h₈ t₁₀ m' ub un, s' = ⟨h₈, g, d, t₁₀, os⟩ ∧ m' "names" = some (.ref Nn) ∧ m' "lists" = some (.ref Ll) ∧ m' "row" = some (.ref ra) ∧ m' "point" = some (.int i ub) ∧
      Fx H h L h₈ m' ((it, riO (0 + ((i + 1 : Nat) : Int)) ((row.length : Int) - 0 - ((i + 1 : Nat) : Int))) :: tσ L Nn Rr Ll vp (some (.str (nameF row s i) un)) ns kn ρ kr δ kl)) ?_ ?_ fun _ _ e => e)
    · refine cutQ fun QN hQN => ?_
      refine wpAny_If ?_
      repeat walk_at "e"
      refine split_bool (fun hc => ?_) fun hc => ?_
      · have hip : 0 < i := by have := of_decide_eq_true hc; lia
        obtain ⟨q, hq⟩ : ∃ q, δ[i - 1]? = some q := ⟨δ[i - 1]'(by have := T.ld; lia), by simp⟩
        have hkept := TO.kept (i - 1) (by lia)
        have hiv := T.iv _ _ hq
        have hlast : (δ.map fun q => Value.ref q.1).getLast? = some (.ref q.1) := by
          rw [List.getLast?_eq_getElem?, List.length_map, T.ld, List.getElem?_map, hq]; rfl
        have hqm : (q.1, listO q.2.1 q.2.2) ∈ (δ.map fun q => (q.1, listO q.2.1 q.2.2)) ++ ρ.flatMap rdσ := List.mem_append_left _ (List.mem_map.mpr ⟨q, List.mem_of_getElem? hq, rfl⟩)
        iterate 2 walk_at "e"
        refine x_call (n_glob F V rfl K0 G.g (gl_sr G) ?_ rfl)
        refine cw_fn ?_ rfl (by decide)
        walk_at "e"
        refine x_call (n_glob F V rfl K0 G.g (gl_prog G) ?_ rfl)
        refine cw_fn ?_ rfl (by decide)
        repeat walk_at "e"
        refine x_neg fun z₁ t₁₀ => ?_
        refine list_last (isList_own F (by walk_at "mm")) hlast (by rw [List.length_map, T.ld]; lia) ?_ (by with_unfolding_all rfl)
        repeat walk_at "e"
        refine x_call (n_glob F V rfl K0 G.g (gl_above G) ?_ rfl)
        refine cw_fn ?_ rfl (by decide)
        repeat walk_at "e"
        refine ⟨⟨_, _, (K0.trans F.kp).getc (G.K 104 _ rfl) nofun, rfl⟩, above_spec G (K0.trans F.kp) F.size (R'.le (by decide)) (by lia) (by lia) fun ff h₈ t₁₁ k8 hff => ?_⟩
        replace F := F.call k8
        repeat walk_at "e"
        have hkl := hiv.length
        have hkept' : Kept (s.lst (i - 1)) i := by have := hkept; rwa [show i - 1 + 1 = i by lia] at this
        refine ⟨⟨_, _, (K0.trans F.kp).getc (G.K 97 _ rfl) nofun, rfl⟩, prog_spec (row := row) (kept := s.lst (i - 1)) (st := 1) G (K0.trans F.kp) F.size (R'.le (by decide)) (isInts_own F (by
          exact .tail _ (.tail _ (.tail _ (.tail _ (.tail _ (.tail _ (.tail _ hqm))))))) hiv) (F.kp.isInts hr) (by lia) (by have := hkept'.len; lia) (fun j hj => by have := hkept'.getD hj; lia) (by show (i : Int) < row.length; lia) (by decide) (by decide) hff fun p h₉ t₁₂ k9 hp => ?_⟩
        replace F := F.call k9
        repeat walk_at "e"
        have hnm : ∀ j, j < i → ∃ uj, (strValues ns)[j]? = some (.str (s.nm j) uj) := by
          intro j hj
          have hj' : j < ns.length := by lia
          refine ⟨ns[j].2, ?_⟩
          have e1 : (ns.map (·.1))[j]? = some (s.nm j) := by rw [T.ns]; simp [hj]
          have e2 : ns[j].1 = s.nm j := by simpa [hj'] using e1
          simp [strValues, hj', e2]
        refine ⟨⟨_, _, (K0.trans F.kp).getc (G.K 28 _ rfl) nofun, rfl⟩, sr_spec G (K0.trans F.kp) F.size (R'.le (by decide)) hp (hkept'.hS (by decide)) ?_⟩
        intro h₁₀ t₁₃ k10
        cases hsr : srF (searchF (s.lst (i - 1)) (aboveF (i : Int) row) 1) ((i : Int) - 1) with
        | none =>
          dsimp only
          replace F := F.call k10
          refine n_st F V rfl fun h₁₁ t₁₄ F => ?_
          repeat walk_at "e"
          refine wpAny_IfExp ?_
          repeat walk_at "e"
          refine wpAny_is_self rfl ?_
          walk_at "e"
          refine if_t ?_
          repeat walk_at "e"
          obtain ⟨uj, huj⟩ := hnm 0 hip
          refine list_item (isList_own F (by walk_at "mm")) (by decide) (by decide) huj ?_ (by with_unfolding_all rfl)
          repeat walk_at "e"
          have l1 := TO.len 0 hip
          have l2 : (Str.ofString ".").length = 1 := rfl
          have l3 := aS_len i
          refine t_add (by lia) fun z₅ t₁₅ => ?_
          refine n_cell F V rfl rfl (.tail _ (.tail _ (.head _))) ?_ rfl
          refine t_add (by rw [len_app]; show _ + (aS i).length ≤ _; lia) fun z₆ t₁₆ => ?_
          refine n_stc F V rfl rfl (.tail (.tail .head)) fun h₁₂ t₁₇ F => ?_
          repeat walk_at "e"
          have hnf : nameF row s i = s.nm 0 ++ "." ++ aS i := by unfold nameF parF; rw [if_neg (by lia), hsr]
          refine hQN _ _ ?_
          rw [hnf]
          exact ⟨rfl, h₁₂, _, _, _, z₆, rfl, by walk_at "lk", by walk_at "lk", by walk_at "lk", by walk_at "lk", F⟩
        | some rr =>
          obtain ⟨a, b⟩ := rr
          dsimp only
          intro hit φ hok fr
          replace F := F.take k10 fr
          replace hok := hok.mono (φ' := φ ++ ((it, riO (0 + ((i + 1 : Nat) : Int)) (row.length - 0 - ((i + 1 : Nat) : Int))) :: tσ L Nn Rr Ll vp (some (.str (aS i) ua)) ns kn ρ kr δ kl)) fun p hp => List.mem_append_left _ hp
          refine n_st F V rfl fun h₁₁ t₁₄ F => ?_
          repeat walk_at "e"
          refine wpAny_IfExp ?_
          repeat walk_at "e"
          refine wpAny_is_other rfl nofun ?_
          walk_at "e"
          refine if_f ?_
          obtain ⟨pl, hpl⟩ := srF_some hsr
          obtain ⟨jj, _, _, hjl, _, hbj, _⟩ := searchF_some (by decide) hpl
          have hb := hkept'.getD hjl
          rw [← hbj] at hb
          obtain ⟨fd1, D1, oD1, mD1, sz1, sp1, fdS1, e1, e2, e3, e4, e5, c1⟩ := id hok
          repeat walk_at "e"
          refine x_meth ?_ rfl rfl (by decide) rfl
          walk_at "e"
          refine fn_method (F.get e1) (e3.ns (F.get e2)) e4 flk_span rfl fun t₆ => ?_
          refine cw_fn ?_ rfl (by decide)
          repeat walk_at "e"
          refine ⟨⟨_, _, F.get e5, rfl⟩, c1 A' _ g d _ os _ _ (K0.trans F.kp) F.has F.size (R'.le (by decide)) fun TT h₅ t₇ u' v' k5 fr5 => ?_⟩
          replace F := F.take k5 fr5
          repeat walk_at "e"
          refine tup_item (k := 1) (F.get (.head _)) rfl (by decide) ?_ (by with_unfolding_all rfl)
          obtain ⟨uj, huj⟩ := hnm b.toNat (by lia)
          refine list_item (isList_own F (List.mem_append_right _ (List.mem_append_right _ (by walk_at "mm")))) hb.1 (by lia) huj ?_ (by with_unfolding_all rfl)
          repeat walk_at "e"
          have l1 := TO.len b.toNat (by lia)
          have l2 : (Str.ofString ".").length = 1 := rfl
          have l3 := aS_len i
          refine t_add (by lia) fun z₅ t₁₅ => ?_
          refine n_cell F V rfl rfl (List.mem_append_right _ (List.mem_append_right _ (.tail _ (.tail _ (.head _))))) ?_ rfl
          refine t_add (by rw [len_app]; show _ + (aS i).length ≤ _; lia) fun z₆ t₁₆ => ?_
          refine n_stc F V rfl rfl (Up.pre (Up.pre (.tail (.tail .head)) _) _) fun h₁₂ t₁₇ F => ?_
          repeat walk_at "e"
          have hnf : nameF row s i = s.nm b.toNat ++ "." ++ aS i := by unfold nameF parF; rw [if_neg (by lia), hsr]
          refine hQN _ _ ?_
          rw [hnf]
          replace F := F.weaken ((List.sublist_append_right φ _).trans (List.sublist_append_right _ _))
          exact ⟨rfl, h₁₂, _, _, _, z₆, rfl, by walk_at "lk", by walk_at "lk", by walk_at "lk", by walk_at "lk", F⟩
      · have hi0 : i = 0 := by have := of_decide_eq_false hc; lia
        subst hi0
        repeat walk_at "e"
        exact hQN _ _ ⟨rfl, h₇, _, _, _, ua, rfl, by walk_at "lk", by walk_at "lk", by walk_at "lk", by walk_at "lk", F⟩
    · rintro fl s' ⟨rfl, h₈, t₁₀, m', ub, un, rfl, m1, m2, m3, m4, F⟩
      generalize hob : riO (0 + ((i + 1 : Nat) : Int)) ((row.length : Int) - 0 - ((i + 1 : Nat) : Int)) = ob at F hQT
      dsimp only
      have TO1 := treeOk row (i + 1) (by lia)
      have hname : (treeF row (i + 1)).nm i = nameF row s i := by rw [hstep]; exact setN_same
      have hnl1 := TO1.len i (by lia)
      have hnm1 : (treeF row (i + 1)).nm = setN s.nm i (nameF row s i) := by rw [hstep]; rfl
      rw [hname] at hnl1
      have hst : treeF row (i + 1) = { nm := setN s.nm i (nameF row s i), lst := setN s.lst i (lstTo { s with nm := setN s.nm i (nameF row s i) } (some (pathOf (nameF row s i))) (nameF row s i) (i + 1)), ca := (askTo { s with nm := setN s.nm i (nameF row s i) } (some (pathOf (nameF row s i))) (nameF row s i) (i + 1)).ca } := by rw [hstep]; rfl
      generalize hnn : nameF row s i = name at F hname hnl1 hnm1 hst
      have hrl : (repl name).length ≤ 200 := by rw [repl_len]; lia
      walk_at "e"
      refine s_append (a := Nn) (vs := strValues ns) ?_ rfl rfl rfl V.notInter
      walk_at "e"
      refine ⟨rfl, ⟨kn, F.get (.tail _ (.tail _ (.tail _ (.tail _ (.head _)))))⟩, ?_⟩
      refine n_cell F V rfl rfl (.tail _ (.tail _ (.head _))) ?_ rfl
      refine c_append F (fun k' => .tail (.tail (.tail (.tail .head)))) (by rw [strValues_length]; lia) fun h₉ kn F => ⟨rfl, ?_⟩
      replace F : Fx H h L h₉ m' ((it, ob) :: tσ L Nn Rr Ll vp (some (.str name un)) (ns ++ [(name, un)]) kn ρ kr δ kl) := by
        unfold tσ; rw [strValues_append]; exact F
      walk_at "e"
      refine s_append (a := Rr) (vs := ρ.map fun r => .ref r.x) ?_ rfl rfl rfl V.notInter
      refine n_cell F V rfl rfl (.tail _ (.tail _ (.tail _ (.head _)))) ?_ rfl
      refine ⟨rfl, ⟨kr, F.get (.tail _ (.tail _ (.tail _ (.tail _ (.tail _ (.head _))))))⟩, ?_⟩
      refine x_call (n_glob F V rfl K0 G.g (gl_reader G) ?_ rfl)
      refine cw_fn ?_ rfl (by decide)
      walk_at "e"
      refine n_cell F V rfl rfl (.tail _ (.tail _ (.head _))) ?_ rfl
      repeat walk_at "e"
      refine i_mod (by decide) fun z₁ t₁₁ => ?_
      repeat walk_at "e"
      refine ⟨⟨_, _, (K0.trans F.kp).getc (G.K 118 _ rfl) nofun, rfl⟩, reader_spec G (K0.trans F.kp) F.size (R'.le (by decide)) (by lia) hrl fun r ys ds h₁₀ t₁₂ hys hds ok k10 fr => ?_⟩
      rw [fodd] at hys hds
      replace F := F.take k10 fr
      refine c_append F (fun k' => Up.pre (.tail (.tail (.tail (.tail (.tail .head))))) _) (by rw [List.length_map, T.lr]; lia) fun h₁₁ kr F => ⟨rfl, ?_⟩
      replace F := F.perm (tσ_reader L Nn Rr Ll vp (some (.str name un)) (ns ++ [(name, un)]) _ ρ r kr kr δ kl (it, ob))
      have X0 : RdAt prog w (setN s.nm i name) s.ca (fun _ => i + 1) ρ := T.rd.to (fun k hk => (setN_ne (by rw [T.lr] at hk; lia)).symm) (fun _ _ => rfl) (fun _ _ => Nat.le_refl _)
      have X1 : RdAt prog w (setN s.nm i name) s.ca (fun _ => i + 1) (ρ ++ [r]) := by
        refine X0.snoc (ys := ys) (ds := ds) ?_ ?_ ?_
        · rw [T.lr, ← hs, treeF_ca0 row i i (Nat.le_refl _)]; exact ok.le (by lia)
        · rw [T.lr, setN_same, hys]; unfold ysOf; simp
        · rw [T.lr, setN_same, hds]; unfold dsOf; simp
      iterate 2 walk_at "e"
      refine wpAny_BinOp (wpAny_BinOp (Calls.Constant_str ?_))
      refine x_meth ?_ rfl rfl (by decide) rfl
      refine n_cell F V rfl rfl (.tail _ (.tail _ (.head _))) ?_ rfl
      refine GM.replace (cw_blt ?_ rfl)
      refine aa_cons (Calls.Constant_str (aa_cons (Calls.Constant_str (aa_nil ?_))))
      dsimp only [List.nil_append, List.cons_append]
      refine SC.replace (Nat.succ_ne_zero _) (Nat.succ_ne_zero _) (Nat.ne_of_lt (Nat.lt_succ_self _)) (by decide) ?_ fun z₂ t₁₃ => ?_
      · have h1 : (Str.ofString "/").length = 1 := rfl
        rw [h1]; lia
      have h1 : (Str.ofString "/").length = 1 := rfl
      have h2 : (Str.ofString "/f").length = 2 := rfl
      have hrl' : (Txt.replace name "." "/").length ≤ 200 := hrl
      refine t_add (by lia) fun z₂ t₁₄ => ?_
      repeat walk_at "e"
      refine t_add (by rw [len_app]; lia) fun z₃ t₁₅ => ?_
      refine n_stc F V rfl rfl (.tail .head) fun h₁₂ t₁₆ F => ?_
      replace F : Fx H h L h₁₂ m' ((it, ob) :: tσ L Nn Rr Ll (some (.str (pathOf name) z₃)) (some (.str name un)) (ns ++ [(name, un)]) kn (ρ ++ [r]) kr δ kl) := F
      walk_at "e"
      refine s_append (a := Ll) (vs := δ.map fun q => .ref q.1) ?_ rfl rfl rfl V.notInter
      walk_at "e"
      refine ⟨rfl, ⟨kl, F.get (.tail _ (.tail _ (.tail _ (.tail _ (.tail _ (.tail _ (.head _)))))))⟩, ?_⟩
      refine comp_start (closureFor_of V rfl) ?_ rfl (by decide) fun _ => rfl
      refine x_call (n_blt F V rfl K0 G.g G.b (gb_range G) ?_ rfl)
      refine cw_type ?_ rfl
      repeat walk_at "e"
      refine c_range1 F fun r₂ h₁₃ t₁₇ u₂ w₂ F => ?_
      refine comp_rangeK (fun j ws σ' => ∃ ρ', σ' = (it, ob) :: tσ L Nn Rr Ll (some (.str (pathOf name) z₃)) (some (.str name un)) (ns ++ [(name, un)]) kn ρ' kr δ kl ∧ ρ'.length = i + 1 ∧
          RdAt prog w (setN s.nm i name) (askTo { s with nm := setN s.nm i name } (some (pathOf name)) name j).ca (fun k => if k < j then i + 2 else i + 1) ρ' ∧ IntsAre ws (lstTo { s with nm := setN s.nm i name } (some (pathOf name)) name j))
        F (by lia) (by lia) (by lia) R'.hd V rfl (by decide) rfl ?_ (by lia) (fun j ws σ' ⟨_, _, _, _, q⟩ => by rw [q.length]; exact lstTo_len _ _ _ _) ?_ ?_
      · exact ⟨_, rfl, by simp [T.lr], X1, .nil⟩
      · rintro j h₁₄ t₁₈ mC ws σ uj it₂ o₂ C D₂ k₂ oL cenv hj HI V₂ F KA KB k1 k0
        obtain ⟨ρ', rfl, hρ, X, hw⟩ := HI
        obtain ⟨r, hrj⟩ : ∃ r, ρ'[j]? = some r := ⟨ρ'[j]'(by lia), by simp⟩
        obtain ⟨ys', ds', okr, _, _⟩ := X.rd j r hrj
        obtain ⟨mI, sz, nso, _, _, _, e4⟩ := okr.ns
        refine ta_cons ?_
        repeat walk_at "e"
        refine x_meth ?_ rfl rfl (by decide) rfl
        walk_at "e"
        refine n_cell F V₂ rfl rfl (.tail _ (.tail _ (.tail _ (.tail _ (.tail _ (.tail _ (.head _))))))) ?_ rfl
        repeat walk_at "e"
        have hzj : (0 + (j : Int)).toNat = j := by lia
        refine list_item (isList_own F (by walk_at "mm")) (by lia) (by lia) (v := .ref r.x) (by rw [hzj, List.getElem?_map, hrj]; rfl) ?_ (by with_unfolding_all rfl)
        have hrm : ∀ p ∈ rdσ r, p ∈ (D₂, listO ws k₂) :: (it₂, o₂) :: (L, oL) :: (it, ob) :: tσ L Nn Rr Ll (some (.str (pathOf name) z₃)) (some (.str name un)) (ns ++ [(name, un)]) kn ρ' kr δ kl := by
          intro p hp
          rw [tσ_eq]
          exact .tail _ (.tail _ (.tail _ (.tail _ (List.mem_append_right _ (flat_mem hrj p hp)))))
        refine i_names G (K0.trans F.kp) (F.get (hrm (r.x, instObj 86 r.dx) (.tail _ (.head _)))) (F.get (hrm (r.dx, r.od) (.tail _ (.tail _ (.head _))))) nso e4 ?_
        refine cw_fn ?_ rfl (by decide)
        walk_at "e"
        refine n_cell F V₂ rfl rfl (.tail _ (.tail _ (.tail _ (.tail _ (.head _))))) ?_ rfl
        walk_at "e"
        refine n_cell F V₂ rfl rfl (.tail _ (.tail _ (.tail _ (.tail _ (.tail _ (.head _)))))) ?_ rfl
        repeat walk_at "e"
        rw [tσ_eq] at F
        refine ⟨⟨_, _, (K0.trans F.kp).getc (G.K 83 _ rfl) nofun, rfl⟩, ask_spec (pre := (D₂, listO ws k₂) :: (it₂, o₂) :: (L, oL) :: (it, ob) :: tP L Nn Rr Ll (some (.str (pathOf name) z₃)) (some (.str name un)) (ns ++ [(name, un)]) kn (ρ'.map (·.x)) kr δ kl)
          (file := some (pathOf name, z₃)) G K0 (R'.le (by decide)) F hrj X (by split <;> lia) (by lia) (by have := TO1.len j (by lia); rw [hnm1] at this; lia) (by have := hdl i j hi' (by lia); rw [hnm1] at this; exact this) fun ρ₂ h₁₅ t₁₉ ua' hx X2 F => ?_⟩
        rw [show askF (ysOf j (setN s.nm i name j)) (dsOf j (setN s.nm i name j)) ((askTo { s with nm := setN s.nm i name } (some (pathOf name)) name j).ca j) (Option.map (·.1) (some (pathOf name, z₃))) name = ({ s with nm := setN s.nm i name } : St).ans (some (pathOf name)) name j from ans_at { s with nm := setN s.nm i name } _ _ _]
        replace X2 : RdAt prog w (setN s.nm i name) (askTo { s with nm := setN s.nm i name } (some (pathOf name)) name (j + 1)).ca (fun k => if k < j + 1 then i + 2 else i + 1) ρ₂ := X2.to (fun _ _ => rfl) (fun k _ => congrFun (askTo_succ { s with nm := setN s.nm i name } (some (pathOf name)) name j) k) (fun k _ => bstep i j k)
        have hρ2 : ρ₂.length = i + 1 := by have := congrArg List.length hx; rw [List.length_map, List.length_map] at this; lia
        replace F : Fx H h C h₁₅ (upd mC (Str.ofString "k") (.int (0 + (j : Int)) uj)) ((D₂, listO ws k₂) :: (it₂, o₂) :: (L, oL) :: (it, ob) :: tσ L Nn Rr Ll (some (.str (pathOf name) z₃)) (some (.str name un)) (ns ++ [(name, un)]) kn ρ₂ kr δ kl) := by
          rw [tσ_eq, hx]; exact F
        repeat walk_at "e"
        refine split_bool (fun hc => ?_) fun hc => ?_
        · refine ta_nil (if_t ?_)
          walk_at "e"
          refine k1 _ _ _ _ _ F ⟨ρ₂, rfl, hρ2, X2, ?_⟩
          rw [lstTo_succ, if_pos (by simpa using hc), Int.zero_add]
          exact intsAre_snoc hw _ _
        · refine if_f (k0 _ _ _ _ F ⟨ρ₂, rfl, hρ2, X2, ?_⟩)
          rw [lstTo_succ, if_neg (by simpa using hc), List.append_nil]
          exact hw
      · rintro D₂ k₂ ws σ ⟨ρ', rfl, hρ, X, hw⟩
        intro h₁₄ t₁₈ F
        refine c_append F (fun k' => .tail (.tail (.tail (.tail (.tail (.tail (.tail .head))))))) (by rw [List.length_map, T.ld]; lia) fun h₁₅ kl F => ⟨rfl, ?_⟩
        replace F := F.perm (tσ_list L Nn Rr Ll _ _ _ _ ρ' kr kl δ D₂ ws k₂ (it, ob))
        repeat walk_at "e"
        have hto : ((i : Int) + 1 - 0).toNat = i + 1 := by lia
        rw [hto] at X hw
        refine hQT _ _ (Turn.next F ⟨_, rfl, _, _, _, _, _, _, _, _, rfl, m1, m2, m3, ?_⟩)
        rw [hst]
        refine ⟨?_, hρ, by simp [T.ld], fun k q e => ?_, X.to (fun _ _ => rfl) (fun _ _ => rfl) (fun k _ => by split <;> lia)⟩
        · rw [List.map_append, T.ns, List.range_succ, List.map_append]
          refine congr (congrArg _ (List.map_congr_left fun k hk => ?_)) ?_
          · exact (setN_ne (Nat.ne_of_lt (List.mem_range.mp hk))).symm
          · show [name] = [setN s.nm i name i]
            rw [setN_same]
        · rcases Nat.lt_trichotomy k i with e2 | e2 | e2
          · rw [List.getElem?_append_left (by rw [T.ld]; exact e2)] at e
            show IntsAre q.2.1 (setN s.lst i _ k)
            rw [setN_ne (Nat.ne_of_lt e2)]
            exact T.iv k q e
          · subst e2
            rw [List.getElem?_append_right (by rw [T.ld]; exact Nat.le_refl _), T.ld, Nat.sub_self] at e
            cases e
            show IntsAre ws (setN s.lst k _ k)
            rw [setN_same]
            exact hw
          · rw [List.getElem?_eq_none (by rw [List.length_append, T.ld]; simp; lia)] at e; cases e
  · rintro h₆ t₇ m σ ⟨vp, vn, ns, kn, ρ, kr, δ, kl, rfl, m1, m2, m3, T⟩ F
    repeat walk_at "e"
    refine x_tuple ?_ rfl
    repeat walk_at "e"
    refine n_cell F V rfl rfl (.tail _ (.tail _ (.head _))) ?_ rfl
    repeat walk_at "e"
    refine mk_tuple F (by simp) fun T₀ h₇ t₈ F => ?_
    refine k T₀ Nn Rr Ll ns kn ρ kr δ kl _ _ F.kp (F.fresh.sub ?_) (by simpa using T)
    exact List.Sublist.cons_cons _ (List.Sublist.cons _ (List.Sublist.cons _ (List.Sublist.cons _ (List.Sublist.refl _))))
end

-- part P1
/-- how three points turn -/
noncomputable def Dt (R : Int → Int) (a b c : Int) : Int := (b - a) * (R c - R a) - (c - a) * (R b - R a)
theorem turn_core {x y z u v t : Int} (h1 : 0 < x * v - y * u) (h2 : 0 < y * t - z * v) (hx : 0 < x) (hz : 0 < z) (hy : 0 < y) : 0 < x * t - z * u := by
  have h3 : 0 < x * (y * t - z * v) := Int.mul_pos hx h2
  have h4 : 0 < z * (x * v - y * u) := Int.mul_pos hz h1
  have h5 : y * (x * t - z * u) = x * (y * t - z * v) + z * (x * v - y * u) := by grind
  exact Int.pos_of_mul_pos_right (a := y) (by lia) (by lia)
section
variable {R : Int → Int} {a b c d : Int}
theorem Dt_l (hab : a < b) (hbc : b < c) (hcd : c < d) (h1 : 0 < Dt R a b c) (h2 : 0 < Dt R b c d) : 0 < Dt R a b d := by
  unfold Dt at *
  have h := turn_core (x := b - a) (y := c - b) (z := d - c) (u := R b - R a) (v := R c - R b) (t := R d - R c)
    (by have : (b - a) * (R c - R b) - (c - b) * (R b - R a) = (b - a) * (R c - R a) - (c - a) * (R b - R a) := by grind
        lia)
    (by have : (c - b) * (R d - R c) - (d - c) * (R c - R b) = (c - b) * (R d - R b) - (d - b) * (R c - R b) := by grind
        lia) (by lia) (by lia) (by lia)
  have e : (b - a) * (R d - R a) - (d - a) * (R b - R a) = ((b - a) * (R c - R a) - (c - a) * (R b - R a)) + ((b - a) * (R d - R c) - (d - c) * (R b - R a)) := by grind
  lia
theorem Dt_r (hab : a < b) (hbc : b < c) (hcd : c < d) (h1 : 0 < Dt R a b c) (h2 : 0 < Dt R b c d) : 0 < Dt R a c d := by
  unfold Dt at *
  have h := turn_core (x := b - a) (y := c - b) (z := d - c) (u := R b - R a) (v := R c - R b) (t := R d - R c)
    (by have : (b - a) * (R c - R b) - (c - b) * (R b - R a) = (b - a) * (R c - R a) - (c - a) * (R b - R a) := by grind
        lia)
    (by have : (c - b) * (R d - R c) - (d - c) * (R c - R b) = (c - b) * (R d - R b) - (d - b) * (R c - R b) := by grind
        lia) (by lia) (by lia) (by lia)
  have e : (c - a) * (R d - R a) - (d - a) * (R c - R a) = ((c - b) * (R d - R b) - (d - b) * (R c - R b)) + ((b - a) * (R d - R c) - (d - c) * (R b - R a)) := by grind
  lia
/-- a point between b and c on the line or above it, d strictly above it -/
theorem Dt_mid (hba : b < a) (hac : a < c) (hcd : c < d) (h1 : Dt R b a c ≤ 0) (h2 : 0 < Dt R b c d) : 0 < Dt R a c d := by
  unfold Dt at *
  have hx : 0 < c - a := by lia
  have hy : 0 < c - b := by lia
  have hz : 0 < d - c := by lia
  -- (c - b) * Dt a c d = (c - a) * Dt b c d - (d - c) * Dt b a c
  have e : (c - b) * ((c - a) * (R d - R a) - (d - a) * (R c - R a)) = (c - a) * ((c - b) * (R d - R b) - (d - b) * (R c - R b)) - (d - c) * ((a - b) * (R c - R b) - (c - b) * (R a - R b)) := by grind
  have p1 := Int.mul_pos hx h2
  have p2 := Int.mul_nonneg (Int.le_of_lt hz) (show 0 ≤ -((a - b) * (R c - R b) - (c - b) * (R a - R b)) by lia)
  rw [Int.mul_neg] at p2
  exact Int.pos_of_mul_pos_right (a := c - b) (by lia) (by lia)
/-- k is a corner of the lower hull of the places 0 to p -/
noncomputable def Vx (R : Int → Int) (p k : Int) : Prop := 0 ≤ k ∧ k ≤ p ∧ ∀ a e, 0 ≤ a → a < k → k < e → e ≤ p → 0 < Dt R a k e
variable {p q k : Int}
theorem Vx.mono (h : Vx R p k) (hk : k ≤ q) (hq : q ≤ p) : Vx R q k := ⟨h.1, hk, fun a e h0 h1 h2 h3 => h.2.2 a e h0 h1 h2 (Int.le_trans h3 hq)⟩
theorem Vx.last (hp : 0 ≤ p) : Vx R p p := ⟨hp, Int.le_refl _, fun a e _ _ h2 h3 => by lia⟩
theorem Vx.first (hp : 0 ≤ p) : Vx R p 0 := ⟨Int.le_refl _, hp, fun a e h0 h1 _ _ => by lia⟩
/-- behind a corner the hull of the whole is that of the beginning -/
theorem Vx.of_le (hv : Vx R p q) (hk : Vx R q k) : Vx R p k := by
  rcases Int.lt_or_eq_of_le hk.2.1 with h | h
  · refine ⟨hk.1, by have := hv.2.1; lia, fun a e h0 h1 h2 h3 => ?_⟩
    rcases Int.lt_trichotomy e q with he | he | he
    · exact hk.2.2 a e h0 h1 h2 (by lia)
    · subst he; exact hk.2.2 a e h0 h1 h2 (Int.le_refl _)
    · exact Dt_l h1 h he (hk.2.2 a q h0 h1 h (Int.le_refl _)) (hv.2.2 k e hk.1 h he h3)
  · subst h; exact hv
theorem Vx.succ : Vx R (p + 1) k ↔ k = p + 1 ∧ 0 ≤ k ∨ (Vx R p k ∧ ∀ a, 0 ≤ a → a < k → 0 < Dt R a k (p + 1)) := by
  constructor
  · intro h
    rcases Int.lt_or_eq_of_le h.2.1 with q | q
    · exact .inr ⟨h.mono (by lia) (by lia), fun a h0 h1 => h.2.2 a (p + 1) h0 h1 q (Int.le_refl _)⟩
    · exact .inl ⟨q, h.1⟩
  · rintro (⟨rfl, h⟩ | ⟨h, h'⟩)
    · exact Vx.last h
    · refine ⟨h.1, by have := h.2.1; lia, fun a e h0 h1 h2 h3 => ?_⟩
      rcases Int.lt_or_eq_of_le h3 with q | q
      · exact h.2.2 a e h0 h1 h2 (by lia)
      · subst q; exact h' a h0 h1

/-- the first lowest place of alpha R - beta x, in lo .. hi -/
theorem low_first (F : Int → Int) : ∀ (n : Nat) (lo : Int), ∃ a, lo ≤ a ∧ a ≤ lo + n ∧ (∀ x, lo ≤ x → x < a → F a < F x) ∧ ∀ x, a ≤ x → x ≤ lo + n → F a ≤ F x
  | 0, lo => by
    refine ⟨lo, Int.le_refl _, by simp, fun x h1 h2 => by lia, fun x h1 h2 => ?_⟩
    have : x = lo := by lia
    subst this
    exact Int.le_refl _
  | n + 1, lo => by
    obtain ⟨a, h1, h2, h3, h4⟩ := low_first F n lo
    by_cases h : F (lo + (n + 1 : Nat)) < F a
    · refine ⟨lo + (n + 1 : Nat), by lia, Int.le_refl _, fun x g1 g2 => ?_, fun x g1 g2 => ?_⟩
      · by_cases hx : x < a
        · have := h3 x g1 hx; lia
        · have := h4 x (by lia) (by push_cast at g2; lia); lia
      · have : x = lo + (n + 1 : Nat) := by lia
        subst this; exact Int.le_refl _
    · refine ⟨a, h1, by push_cast; lia, h3, fun x g1 g2 => ?_⟩
      by_cases hx : x ≤ lo + n
      · exact h4 x g1 hx
      · have : x = lo + (n + 1 : Nat) := by push_cast at g2 ⊢; lia
        subst this; lia
/-- the place of a least value turns strictly -/
theorem Dt_low {α β : Int} {x y z : Int} (hα : 0 < α) (hxy : x < y) (hyz : y < z) (h1 : α * R y - β * y < α * R x - β * x) (h2 : α * R y - β * y ≤ α * R z - β * z) : 0 < Dt R x y z := by
  unfold Dt
  have e : α * ((y - x) * (R z - R x) - (z - x) * (R y - R x)) = (y - x) * ((α * R z - β * z) - (α * R y - β * y)) + (z - y) * ((α * R x - β * x) - (α * R y - β * y)) := by grind
  have p1 := Int.mul_nonneg (show 0 ≤ y - x by lia) (show 0 ≤ (α * R z - β * z) - (α * R y - β * y) by lia)
  have p2 := Int.mul_pos (show 0 < z - y by lia) (show 0 < (α * R x - β * x) - (α * R y - β * y) by lia)
  exact Int.pos_of_mul_pos_right (a := α) (by lia) (by lia)
/-- between two corners that stand side by side no point lies below the edge -/
theorem no_below (hb : Vx R p b) (hc : Vx R p c) (hno : ∀ k, b < k → k < c → ¬ Vx R p k) (h1 : b < a) (h2 : a < c) : Dt R b a c ≤ 0 := by
  rcases Int.lt_or_le 0 (Dt R b a c) with hlt | hle
  · exfalso
    -- F = (c - b) R x - (R c - R b) x
    let F : Int → Int := fun x => (c - b) * R x - (R c - R b) * x
    have hF : ∀ x, F x - F b = - Dt R b x c := by intro x; show (c - b) * R x - (R c - R b) * x - ((c - b) * R b - (R c - R b) * b) = -Dt R b x c; unfold Dt; grind
    have hbc : F b = F c := by show (c - b) * R b - (R c - R b) * b = (c - b) * R c - (R c - R b) * c; grind
    obtain ⟨m, g1, g2, g3, g4⟩ := low_first F (c - b).toNat b
    have hcb : b + ((c - b).toNat : Nat) = c := by lia
    rw [hcb] at g2 g4
    have hFa : F a < F b := by have := hF a; lia
    have hFm : F m < F b := by
      by_cases hm : m ≤ a
      · have := g4 a hm (by lia); lia
      · have := g3 a (by lia) (by lia); lia
    have hmb : b < m := by
      rcases Int.lt_or_eq_of_le g1 with q | q
      · exact q
      · rw [← q] at hFm; lia
    have hmc : m < c := by
      rcases Int.lt_or_eq_of_le g2 with q | q
      · exact q
      · rw [q] at hFm; lia
    have hcbp : 0 < c - b := by lia
    have inn : ∀ x z, b ≤ x → x < m → m < z → z ≤ c → 0 < Dt R x m z := fun x z q1 q2 q3 q4 => Dt_low (α := c - b) (β := R c - R b) hcbp q2 q3 (g3 x q1 q2) (g4 z (by lia) q4)
    refine hno m hmb hmc ⟨by have := hb.1; lia, by have := hc.2.1; lia, fun x e q0 q1 q2 q3 => ?_⟩
    -- first the right end
    have right : ∀ x, b ≤ x → x < m → 0 < Dt R x m e := by
      intro x w1 w2
      by_cases he : e ≤ c
      · exact inn x e w1 w2 q2 he
      · exact Dt_l w2 hmc (by lia) (inn x c w1 w2 hmc (Int.le_refl _)) (hc.2.2 m e (by have := hb.1; lia) hmc (by lia) q3)
    by_cases hx : b ≤ x
    · exact right x hx q1
    · exact Dt_r (by lia) hmb q2 (hb.2.2 x m q0 (by lia) hmb (by have := hc.2.1; lia)) (right b (Int.le_refl _) hmb)
  · exact hle
/-- an edge tells whether its end stays a corner -/
theorem edge_stays (hb : Vx R p b) (hc : Vx R p c) (hbc : b < c) (hno : ∀ k, b < k → k < c → ¬ Vx R p k) (hd : c < d) : 0 < Dt R b c d ↔ ∀ a, 0 ≤ a → a < c → 0 < Dt R a c d := by
  constructor
  · intro h a h0 h1
    rcases Int.lt_trichotomy a b with q | q | q
    · exact Dt_r q hbc hd (hb.2.2 a c h0 q hbc hc.2.1) h
    · subst q; exact h
    · exact Dt_mid q h1 hd (no_below hb hc hno q h1) h
  · intro h; exact h b hb.1 hbc
/-- what stays, stays with all corners ahead of it -/
theorem stays_down (hb : Vx R p b) (hcp : c ≤ p) (hbc : b < c) (hd : c < d) (h : ∀ a, 0 ≤ a → a < c → 0 < Dt R a c d) : ∀ a, 0 ≤ a → a < b → 0 < Dt R a b d := by
  intro a h0 h1
  exact Dt_l h1 hbc hd (hb.2.2 a c h0 h1 hbc hcp) (h b hb.1 hbc)
/-- along three corners: the values fall in the first edge, if they fall in the second one -/
theorem falls_before {s : Int} (hab : a < b) (hbc : b < c) (h : 0 < Dt R a b c) (hf : R c - s * c < R a - s * a ∨ R c - s * c < R b - s * b) : R b - s * b < R a - s * a := by
  rcases Int.lt_or_le (R b - s * b) (R a - s * a) with q | q
  · exact q
  · exfalso
    unfold Dt at h
    have e : (b - a) * (R c - R a) - (c - a) * (R b - R a) = (b - a) * ((R c - s * c) - (R b - s * b)) - (c - b) * ((R b - s * b) - (R a - s * a)) := by grind
    have hlt : (R c - s * c) - (R b - s * b) < 0 := by lia
    have p1 := Int.mul_pos (show 0 < b - a by lia) (show 0 < -((R c - s * c) - (R b - s * b)) by lia)
    have p2 := Int.mul_nonneg (show 0 ≤ c - b by lia) (show 0 ≤ (R b - s * b) - (R a - s * a) by lia)
    rw [Int.mul_neg] at p1
    lia
end

-- part P2
/-- the edge of a list that ends at place i -/
noncomputable def Ed (h : List Int) (T : Int → Int → Bool) (i : Nat) : Prop := T (h.getD (i - 1) 0) (h.getD i 0) = true
section
variable {h : List Int} {T : Int → Int → Bool} {n s : Nat} {pl col : Int}
theorem scan_none : ∀ (m k : Nat), 1 ≤ k → (∀ i, k ≤ i → i < k + m → ¬ Ed h T i) → scanF h T (s : Int) pl m (k : Int) = none
  | 0, _, _, _ => rfl
  | m + 1, k, hk, hi => by
    rw [scanF_miss]
    · have := scan_none m (k + 1) (by lia) fun i h1 h2 => hi i (by lia) (by lia)
      exact_mod_cast this
    · rintro ⟨_, q⟩
      refine hi k (Nat.le_refl _) (by lia) ?_
      unfold Ed
      rw [show ((k : Int) - 1).toNat = k - 1 by lia, show ((k : Int)).toNat = k by lia] at q
      exact q
theorem searchF_at (hpre : ∀ i, 1 ≤ i → i + 1 < h.length → Ed h T (i + 1) → Ed h T i) {k0 : Nat} (hk0 : max 1 s ≤ k0) (h1 : ∀ k, max 1 s ≤ k → k < h.length → (pl ≤ h.getD (k - s) 0 ↔ k0 ≤ k)) :
    (k0 < h.length ∧ Ed h T k0 ∧ searchF h T (s : Int) pl = some (h.getD (k0 - s) 0, h.getD k0 0)) ∨ (¬ (k0 < h.length ∧ Ed h T k0) ∧ searchF h T (s : Int) pl = none) := by
  have key : ∀ (m k : Nat), max 1 s ≤ k → k + m = h.length → k ≤ k0 →
      (k0 < h.length ∧ Ed h T k0 ∧ scanF h T (s : Int) pl m (k : Int) = some (h.getD (k0 - s) 0, h.getD k0 0)) ∨ (¬ (k0 < h.length ∧ Ed h T k0) ∧ scanF h T (s : Int) pl m (k : Int) = none) := by
    intro m
    induction m with
    | zero => intro k _ e hk; exact .inr ⟨fun q => by lia, rfl⟩
    | succ m ih =>
      intro k hs e hk
      have e1 : ((k : Int) - (s : Int)).toNat = k - s := by lia
      have e2 : ((k : Int) - 1).toNat = k - 1 := by lia
      have e3 : ((k : Int)).toNat = k := by lia
      have e4 : (k : Int) + 1 = ((k + 1 : Nat) : Int) := by push_cast; rfl
      have hk1 := h1 k hs (by lia)
      rcases Nat.lt_or_eq_of_le hk with q | q
      · rw [scanF_miss (by rw [e1]; rintro ⟨q1, _⟩; have := hk1.mp q1; lia), e4]
        exact ih (k + 1) (by lia) (by lia) (by lia)
      · subst q
        by_cases hE : Ed h T k
        · refine .inl ⟨by lia, hE, ?_⟩
          rw [scanF_hit (by rw [e1]; exact hk1.mpr (Nat.le_refl _)) (by rw [e2, e3]; exact hE), e1, e3]
        · refine .inr ⟨fun q => hE q.2, ?_⟩
          rw [scanF_miss (by rw [e2, e3]; rintro ⟨_, q⟩; exact hE q), e4]
          refine scan_none m (k + 1) (by lia) fun i g1 g2 => ?_
          -- no edge behind one that is none
          have down : ∀ d, k + d < h.length → Ed h T (k + d) → Ed h T k := by
            intro d
            induction d with
            | zero => intro _ q; exact q
            | succ d ih2 => intro g q; exact ih2 (by lia) (hpre (k + d) (by lia) (by lia) q)
          intro q
          have := down (i - k) (by lia) (by rw [show k + (i - k) = i by lia]; exact q)
          exact hE this
  have hm : (max (1 : Int) (s : Int)) = ((max 1 s : Nat) : Int) := by lia
  unfold searchF
  rw [hm]
  by_cases hl : max 1 s ≤ h.length
  · exact key _ _ (Nat.le_refl _) (by lia) hk0
  · refine .inr ⟨fun q => by lia, ?_⟩
    rw [show ((h.length : Int) - ((max 1 s : Nat) : Int)).toNat = 0 by lia]
    rfl
theorem Kept.lt_iff {l : List Int} {n : Nat} (h : Kept l n) {i j : Nat} (hi : i < l.length) (hj : j < l.length) : l.getD i 0 < l.getD j 0 ↔ i < j := by
  constructor
  · intro q
    rcases Nat.lt_trichotomy i j with e | e | e
    · exact e
    · subst e; lia
    · have := h.lt e hi; lia
  · intro q; exact h.lt q hj
theorem Kept.le_iff {l : List Int} {n : Nat} (h : Kept l n) {i j : Nat} (hi : i < l.length) (hj : j < l.length) : l.getD i 0 ≤ l.getD j 0 ↔ i ≤ j := by
  have := h.lt_iff hj hi
  lia

/-- what search_reverse tells, by the last edge N that holds -/
theorem sr_main (hK : Kept h n) (hpre : ∀ i, 1 ≤ i → i + 1 < h.length → Ed h T (i + 1) → Ed h T i) (N : Nat) (hN : N < h.length) (hT : ∀ i, 1 ≤ i → i ≤ N → Ed h T i)
    (hcond : 1 ≤ N → h.getD N 0 ≤ col ∧ (s = 0 → h.getD N 0 < col)) (hstop : N + 1 < h.length → ¬ Ed h T (N + 1) ∨ ¬ (h.getD (N + 1) 0 ≤ col ∧ (s = 0 → h.getD (N + 1) 0 < col))) :
    srF (searchF h T (s : Int)) col = if N - N % max 1 s = 0 then none else some (h.getD (N - N % max 1 s - s) 0, h.getD (N - N % max 1 s) 0) := by
  generalize hu : max 1 s = u
  have hu1 : 1 ≤ u := by lia
  have hmod := Nat.mod_lt N hu1
  have hdm := Nat.div_add_mod N u
  -- the multiples of u
  have mult : N - N % u = u * (N / u) := by lia
  generalize hM : N - N % u = M at mult ⊢
  have hMN : M ≤ N := by lia
  have hNM : N < M + u := by lia
  have down : ∀ d k, 1 ≤ k → k + d < h.length → Ed h T (k + d) → Ed h T k := by
    intro d
    induction d with
    | zero => intro k _ _ q; exact q
    | succ d ih2 => intro k hk g q; exact ih2 k hk (by lia) (hpre (k + d) (by lia) (by lia) q)
  have edge : ∀ k j, 1 ≤ k → k ≤ j → j < h.length → Ed h T j → Ed h T k := fun k j h1 h2 h3 q => down (j - k) k h1 (by lia) (by rw [show k + (j - k) = j by lia]; exact q)
  have next : ∀ k, u ≤ k → k < h.length → ∀ k', max 1 s ≤ k' → k' < h.length → ((if h.getD (k - s) 0 = h.getD k 0 then h.getD k 0 + 1 else h.getD k 0) ≤ h.getD (k' - s) 0 ↔ k + u ≤ k') := by
    intro k hk hkl k' hk' hkl'
    by_cases h0 : s = 0
    · subst h0
      rw [Nat.sub_zero, if_pos rfl, Nat.sub_zero]
      have := hK.lt_iff hkl hkl'
      lia
    · rw [if_neg (by have := hK.lt_iff (i := k - s) (j := k) (by lia) hkl; lia)]
      have := hK.le_iff (i := k) (j := k' - s) hkl (by lia)
      lia
  have loop : ∀ (m c k : Nat) (f : Option (Int × Int)), k = u * c → u ≤ k → k < h.length → Ed h T k → (col - h.getD (k - s) 0).toNat ≤ m → k ≤ M + u → f = (if k = u then none else some (h.getD (k - u - s) 0, h.getD (k - u) 0)) →
      srLoop (searchF h T (s : Int)) col m (h.getD (k - s) 0) (h.getD k 0) f = if M = 0 then none else some (h.getD (M - s) 0, h.getD M 0) := by
    intro m
    induction m with
    | zero =>
      intro c k f hkc huk hkl hE hm hkM hf
      -- col is not above: k is behind M
      have hck : col ≤ h.getD (k - s) 0 := by lia
      have hkN : N < k := by
        rcases Nat.lt_or_ge N k with q | q
        · exact q
        · exfalso
          have c1 := hcond (by lia)
          have := hK.le_iff (i := k) (j := N) hkl hN
          by_cases h0 : s = 0
          · subst h0; have := c1.2 rfl; rw [Nat.sub_zero] at hck; lia
          · have := hK.lt_iff (i := k - s) (j := k) (by lia) hkl; lia
      have hke : k = M + u := by
        have h1 : N / u < c := by
          rcases Nat.lt_or_ge (N / u) c with q | q
          · exact q
          · have := Nat.mul_le_mul_left u q; lia
        have h2 : u * (N / u + 1) ≤ u * c := Nat.mul_le_mul_left u h1
        rw [Nat.mul_add, Nat.mul_one] at h2
        lia
      subst hke
      unfold srLoop
      rw [hf]
      by_cases hM0 : M = 0
      · rw [if_pos (by lia), if_pos hM0]
      · rw [if_neg (by lia), if_neg hM0, show M + u - u = M by lia]
    | succ m ih =>
      intro c k f hkc huk hkl hE hm hkM hf
      unfold srLoop
      rcases Nat.lt_or_ge N k with q | q
      · -- behind M
        have hke : k = M + u := by
          have h1 : N / u < c := by
            rcases Nat.lt_or_ge (N / u) c with q | q
            · exact q
            · have := Nat.mul_le_mul_left u q; lia
          have h2 : u * (N / u + 1) ≤ u * c := Nat.mul_le_mul_left u h1
          rw [Nat.mul_add, Nat.mul_one] at h2
          lia
        have hnc : ¬ (h.getD (k - s) 0 < col ∧ h.getD k 0 ≤ col) := by
          rintro ⟨q1, q2⟩
          rcases hstop (by lia) with g | g
          · exact g (edge (N + 1) k (by lia) q hkl hE)
          · refine g ⟨?_, fun h0 => ?_⟩
            · have := hK.le_iff (i := N + 1) (j := k) (by lia) hkl; lia
            · subst h0
              have := hK.le_iff (i := N + 1) (j := k) (by lia) hkl
              rw [Nat.sub_zero] at q1; lia
        rw [if_neg hnc, hf, hke]
        by_cases hM0 : M = 0
        · rw [if_pos (by lia), if_pos hM0]
        · rw [if_neg (by lia), if_neg hM0, show M + u - u = M by lia]
      · have c1 := hcond (by lia)
        have hle := hK.le_iff (i := k) (j := N) hkl hN
        have hyes : h.getD (k - s) 0 < col ∧ h.getD k 0 ≤ col := by
          refine ⟨?_, by lia⟩
          by_cases h0 : s = 0
          · subst h0; have := c1.2 rfl; rw [Nat.sub_zero]; lia
          · have := hK.lt_iff (i := k - s) (j := k) (by lia) hkl; lia
        rw [if_pos hyes]
        rcases searchF_at (s := s) hpre (k0 := k + u) (by lia) (next k huk hkl) with ⟨g1, g2, g3⟩ | ⟨g1, g3⟩
        · rw [g3]
          have hinc := hK.lt_iff (i := k - s) (j := k + u - s) (by lia) (by lia)
          refine ih (c + 1) (k + u) _ (by rw [Nat.mul_add, Nat.mul_one, hkc]) (by lia) g1 g2 (by lia) ?_ ?_
          · have h1 : c ≤ N / u := by
              rcases Nat.lt_or_ge (N / u) c with q' | q'
              · have h2 : u * (N / u + 1) ≤ u * c := Nat.mul_le_mul_left u q'
                rw [Nat.mul_add, Nat.mul_one] at h2
                lia
              · exact q'
            have := Nat.mul_le_mul_left u h1
            lia
          · rw [if_neg (by lia), show k + u - u = k by lia]
        · rw [g3]
          have hkM' : k = M := by
            rcases Nat.lt_or_ge k M with q' | q'
            · exfalso
              have h1 : c < N / u := by
                rcases Nat.lt_or_ge c (N / u) with w | w
                · exact w
                · have := Nat.mul_le_mul_left u w; lia
              have h2 : u * (c + 1) ≤ u * (N / u) := Nat.mul_le_mul_left u h1
              rw [Nat.mul_add, Nat.mul_one] at h2
              exact g1 ⟨by lia, hT (k + u) (by lia) (by lia)⟩
            · have h1 : c ≤ N / u := by
                rcases Nat.lt_or_ge (N / u) c with w | w
                · have h2 : u * (N / u + 1) ≤ u * c := Nat.mul_le_mul_left u w
                  rw [Nat.mul_add, Nat.mul_one] at h2
                  lia
                · exact w
              have := Nat.mul_le_mul_left u h1
              lia
          subst hkM'
          rw [if_neg (by lia)]
  unfold srF
  rcases searchF_at (s := s) (pl := 0) hpre (k0 := u) (by lia) (fun k hk hkl => ⟨fun _ => by lia, fun _ => (hK.getD (i := k - s) (by lia)).1⟩) with ⟨g1, g2, g3⟩ | ⟨g1, g3⟩
  · rw [g3]
    exact loop _ 1 u none (by lia) (Nat.le_refl _) g1 g2 (Nat.le_refl _) (by lia) (by rw [if_pos rfl])
  · rw [g3]
    have : M = 0 := by
      rcases Nat.eq_zero_or_pos (N / u) with q | q
      · rw [mult, q, Nat.mul_zero]
      · exfalso
        have := Nat.mul_le_mul_left u q
        exact g1 ⟨by lia, hT u hu1 (by lia)⟩
    rw [if_pos this]
end

-- part P3
/-- parts, a sign between any two -/
noncomputable def Jn (c : Nat) : List (List Nat) → List Nat
  | [] => []
  | [p] => p
  | p :: q :: r => p ++ c :: Jn c (q :: r)
noncomputable def spl (c : Nat) : List Nat → List (List Nat)
  | [] => [[]]
  | x :: r => if x = c then [] :: spl c r else match spl c r with
    | [] => [[x]]
    | h :: t => (x :: h) :: t
theorem spl_ne (c : Nat) : ∀ l, spl c l ≠ []
  | [] => by simp [spl]
  | x :: r => by
    unfold spl
    split
    · simp
    · split <;> simp
theorem spl_free (c : Nat) : ∀ l, ∀ p ∈ spl c l, c ∉ p
  | [], p, hp => by simp [spl] at hp; subst hp; simp
  | x :: r, p, hp => by
    have ih := spl_free c r
    unfold spl at hp
    split at hp
    · rcases List.mem_cons.mp hp with rfl | hp
      · simp
      · exact ih p hp
    · rename_i hx
      split at hp
      · simp at hp; subst hp; simp; exact fun e => hx e.symm
      · rename_i h t e
        rw [e] at ih
        rcases List.mem_cons.mp hp with rfl | hp
        · have := ih h (.head _)
          simp only [List.mem_cons, not_or]
          exact ⟨fun e => hx e.symm, this⟩
        · exact ih p (.tail _ hp)
theorem Jn_cons (c : Nat) (p : List Nat) {L : List (List Nat)} (h : L ≠ []) : Jn c (p :: L) = p ++ c :: Jn c L := by
  cases L with
  | nil => exact absurd rfl h
  | cons q r => rfl
theorem Jn_spl (c : Nat) : ∀ l, Jn c (spl c l) = l
  | [] => rfl
  | x :: r => by
    have ih := Jn_spl c r
    unfold spl
    split
    · rename_i h
      rw [Jn_cons c _ (spl_ne c r), ih, h]; rfl
    · split
      · rename_i e; exact absurd e (spl_ne c r)
      · rename_i h t e
        rw [e] at ih
        cases t with
        | nil => simp only [Jn] at ih ⊢; rw [ih]
        | cons q s => simp only [Jn] at ih ⊢; rw [← ih]; rfl
theorem spl_app (c : Nat) {p : List Nat} (hp : c ∉ p) : ∀ l, spl c (p ++ c :: l) = p :: spl c l := by
  induction p with
  | nil =>
    intro l
    rw [List.nil_append]
    conv => lhs; unfold spl
    rw [if_pos rfl]
  | cons x r ih =>
    intro l
    simp only [List.mem_cons, not_or] at hp
    rw [List.cons_append]
    conv => lhs; unfold spl
    rw [if_neg (fun e => hp.1 e.symm), ih hp.2 l]
theorem spl_one (c : Nat) {p : List Nat} (hp : c ∉ p) : spl c p = [p] := by
  induction p with
  | nil => rfl
  | cons x r ih =>
    simp only [List.mem_cons, not_or] at hp
    unfold spl
    rw [if_neg (fun e => hp.1 e.symm), ih hp.2]
theorem spl_Jn (c : Nat) : ∀ {L : List (List Nat)}, L ≠ [] → (∀ p ∈ L, c ∉ p) → spl c (Jn c L) = L
  | [], h, _ => absurd rfl h
  | [p], _, hf => spl_one c (hf p (.head _))
  | p :: q :: r, _, hf => by
    rw [Jn_cons c p (by simp), spl_app c (hf p (.head _)), spl_Jn c (by simp) (fun x hx => hf x (.tail _ hx))]
theorem Jn_app (c : Nat) : ∀ {M N : List (List Nat)}, M ≠ [] → N ≠ [] → Jn c (M ++ N) = Jn c M ++ c :: Jn c N
  | [], _, h, _ => absurd rfl h
  | [p], N, _, hN => Jn_cons c p hN
  | p :: q :: r, N, _, hN => by
    rw [List.cons_append, Jn_cons c p (by simp), Jn_app c (M := q :: r) (by simp) hN, Jn_cons c p (by simp), List.append_assoc, List.cons_append]
theorem Jn_inj (c : Nat) {L M : List (List Nat)} (hL : L ≠ []) (hM : M ≠ []) (fL : ∀ p ∈ L, c ∉ p) (fM : ∀ p ∈ M, c ∉ p) (h : Jn c L = Jn c M) : L = M := by
  rw [← spl_Jn c hL fL, ← spl_Jn c hM fM, h]
/-- a beginning that ends with the sign -/
theorem Jn_pre (c : Nat) {L M : List (List Nat)} (hL : L ≠ []) (hM : M ≠ []) (fL : ∀ p ∈ L, c ∉ p) (fM : ∀ p ∈ M, c ∉ p) : (Jn c M ++ [c]) <+: Jn c L ↔ ∃ N, N ≠ [] ∧ L = M ++ N := by
  constructor
  · rintro ⟨rest, h⟩
    refine ⟨spl c rest, spl_ne c rest, Jn_inj c hL (by simp [hM]) fL ?_ ?_⟩
    · intro p hp
      rcases List.mem_append.mp hp with q | q
      · exact fM p q
      · exact spl_free c rest p q
    · rw [Jn_app c hM (spl_ne c rest), Jn_spl, ← h, List.append_assoc]; rfl
  · rintro ⟨N, hN, rfl⟩
    exact ⟨Jn c N, by rw [Jn_app c hM hN, List.append_assoc]; rfl⟩

theorem str_ext {x y : Str} (h : x.cps.toList = y.cps.toList) : x = y := lit_cps h
theorem join_cps (c : Nat) : ∀ l : List Str, (Str.join ⟨#[c]⟩ l).cps.toList = Jn c (l.map (·.cps.toList))
  | [] => rfl
  | [_] => rfl
  | x :: y :: r => by
    show (x ++ ⟨#[c]⟩ ++ Str.join ⟨#[c]⟩ (y :: r)).cps.toList = x.cps.toList ++ c :: Jn c ((y :: r).map (·.cps.toList))
    rw [cps_app, cps_app, join_cps c (y :: r), List.append_assoc]; rfl
theorem split_ne (x y : Str) : Txt.split x y ≠ [] := by
  unfold Txt.split
  split
  · simp
  · split
    · simp
    · intro e
      have := congrArg List.length e
      rw [length_partsBetween] at this
      simp at this
theorem split_cps (x : Str) (c : Nat) : (Txt.split x ⟨#[c]⟩).map (·.cps.toList) = spl c x.cps.toList := by
  have h1 := congrArg (fun s : Str => s.cps.toList) (StrLaws.join_split x ⟨#[c]⟩)
  simp only [join_cps] at h1
  rw [← h1, spl_Jn c]
  · simp [split_ne]
  · intro p hp
    obtain ⟨q, hq, rfl⟩ := List.mem_map.mp hp
    exact StrLaws.split_free x c q hq
theorem repl_cps (x : Str) : (repl x).cps.toList = Jn 47 (spl 46 x.cps.toList) := by
  unfold repl
  have e1 : (Str.ofString ".") = (⟨#[46]⟩ : Str) := rfl
  have e2 : (Str.ofString "/") = (⟨#[47]⟩ : Str) := rfl
  rw [e1, e2, StrLaws.replace_one, join_cps, split_cps]
theorem starts_iff (x y : Str) : Txt.startswith x y = true ↔ y.cps.toList <+: x.cps.toList := by
  have lx : x.cps.toList.length = x.length := Array.length_toList
  have ly : y.cps.toList.length = y.length := Array.length_toList
  unfold Txt.startswith
  rw [StrLaws.subAt_eq, List.drop_zero, Bool.and_eq_true, decide_eq_true_eq, beq_iff_eq, List.prefix_iff_eq_take, ly]
  constructor
  · rintro ⟨_, h⟩; exact h.symm
  · intro h
    refine ⟨?_, h.symm⟩
    have := congrArg List.length h
    rw [List.length_take, ly, lx] at this
    lia
/-- the text's parts of a chain of places -/
noncomputable def cmp (k : Int) : List Nat := List.replicate (k.toNat + 1) 97
theorem cmp_free (c : Nat) (hc : c ≠ 97) (k : Int) : c ∉ cmp k := fun h => hc (List.eq_of_mem_replicate h)
theorem cmps_free (c : Nat) (hc : c ≠ 97) (l : List Int) : ∀ p ∈ l.map cmp, c ∉ p := by
  intro p hp
  obtain ⟨k, _, rfl⟩ := List.mem_map.mp hp
  exact cmp_free c hc k
theorem cmp_inj {a b : Int} (ha : 0 ≤ a) (hb : 0 ≤ b) (h : cmp a = cmp b) : a = b := by
  have := congrArg List.length h
  simp [cmp] at this
  lia
theorem cmps_inj : ∀ {l m : List Int}, (∀ x ∈ l, 0 ≤ x) → (∀ x ∈ m, 0 ≤ x) → l.map cmp = m.map cmp → l = m
  | [], [], _, _, _ => rfl
  | [], _ :: _, _, _, h => by simp at h
  | _ :: _, [], _, _, h => by simp at h
  | a :: r, b :: q, ha, hb, h => by
    simp only [List.map_cons, List.cons.injEq] at h
    rw [cmp_inj (ha a (.head _)) (hb b (.head _)) h.1, cmps_inj (fun x hx => ha x (.tail _ hx)) (fun x hx => hb x (.tail _ hx)) h.2]
theorem cmps_pre {l m : List Int} (hl : ∀ x ∈ l, 0 ≤ x) (hm : ∀ x ∈ m, 0 ≤ x) {N : List (List Nat)} (h : l.map cmp = m.map cmp ++ N) : ∃ n, l = m ++ n ∧ N = n.map cmp := by
  refine ⟨l.drop m.length, ?_, ?_⟩
  · have e : (l.take m.length).map cmp = m.map cmp := by
      rw [List.map_take, h]
      have := List.take_left (l₁ := m.map cmp) (l₂ := N)
      rwa [List.length_map] at this
    have := cmps_inj (fun x hx => hl x (List.mem_of_mem_take hx)) hm e
    conv => lhs; rw [← List.take_append_drop m.length l]
    rw [this]
  · rw [List.map_drop, h]
    have := List.drop_left (l₁ := m.map cmp) (l₂ := N)
    rw [List.length_map] at this
    exact this.symm
/-- a name of a chain -/
noncomputable def NameOf (x : Str) (l : List Int) : Prop := l ≠ [] ∧ (∀ k ∈ l, 0 ≤ k) ∧ x.cps.toList = Jn 46 (l.map cmp)
theorem NameOf.repl {x : Str} {l : List Int} (h : NameOf x l) : (repl x).cps.toList = Jn 47 (l.map cmp) := by
  rw [repl_cps, h.2.2, spl_Jn 46 (by simp [h.1]) (cmps_free 46 (by decide) l)]
/-- a reader of modules -/
theorem mods_iff {x y : Str} {l m : List Int} (hx : NameOf x l) (hy : NameOf y m) : (x = y ∨ Txt.startswith x (y ++ ".") = true) ↔ ∃ n, l = m ++ n := by
  have hl : l.map cmp ≠ [] := by simp [hx.1]
  have hm : m.map cmp ≠ [] := by simp [hy.1]
  constructor
  · rintro (rfl | h)
    · refine ⟨[], ?_⟩
      rw [List.append_nil]
      have := hx.2.2.symm.trans hy.2.2
      exact cmps_inj hx.2.1 hy.2.1 (Jn_inj 46 hl hm (cmps_free 46 (by decide) l) (cmps_free 46 (by decide) m) this)
    · rw [starts_iff, cps_app, hx.2.2, hy.2.2] at h
      obtain ⟨N, _, e⟩ := (Jn_pre 46 hl hm (cmps_free 46 (by decide) l) (cmps_free 46 (by decide) m)).mp h
      obtain ⟨n, e', _⟩ := cmps_pre hx.2.1 hy.2.1 e
      exact ⟨n, e'⟩
  · rintro ⟨n, rfl⟩
    by_cases hn : n = []
    · subst hn
      left
      refine str_ext ?_
      rw [hx.2.2, hy.2.2, List.append_nil]
    · right
      rw [starts_iff, cps_app, hx.2.2, hy.2.2]
      exact (Jn_pre 46 hl hm (cmps_free 46 (by decide) _) (cmps_free 46 (by decide) m)).mpr ⟨n.map cmp, by simp [hn], List.map_append⟩
/-- a reader of folders -/
theorem dirs_iff {x y : Str} {l m : List Int} (hx : NameOf x l) (hy : NameOf y m) : Txt.startswith (pathOf x) ("/" ++ repl y ++ "/") = true ↔ ∃ n, l = m ++ n := by
  have hl : l.map cmp ≠ [] := by simp [hx.1]
  have hm : m.map cmp ≠ [] := by simp [hy.1]
  have hl2 : l.map cmp ++ [[102]] ≠ [] := by simp
  have fl2 : ∀ p ∈ l.map cmp ++ [[102]], 47 ∉ p := by
    intro p hp
    rcases List.mem_append.mp hp with q | q
    · exact cmps_free 47 (by decide) l p q
    · simp at q; subst q; decide
  have key : Txt.startswith (pathOf x) ("/" ++ repl y ++ "/") = true ↔ (Jn 47 (m.map cmp) ++ [47]) <+: Jn 47 (l.map cmp ++ [[102]]) := by
    rw [starts_iff]
    unfold pathOf
    rw [cps_app, cps_app, cps_app, cps_app, hx.repl, hy.repl, Jn_app 47 hl (by simp)]
    show (47 :: (Jn 47 (m.map cmp) ++ [47])) <+: (47 :: (Jn 47 (l.map cmp) ++ [47, 102])) ↔ _
    rw [List.cons_prefix_cons]
    simp [Jn]
  rw [key, Jn_pre 47 hl2 hm fl2 (cmps_free 47 (by decide) m)]
  constructor
  · rintro ⟨N, hN, e⟩
    -- the last part is f, which no part of m is
    have e1 : N = N.dropLast ++ [N.getLast hN] := (List.dropLast_concat_getLast hN).symm
    rw [e1, ← List.append_assoc] at e
    have := List.append_inj' e rfl
    obtain ⟨n, e', _⟩ := cmps_pre hx.2.1 hy.2.1 this.1
    exact ⟨n, e'⟩
  · rintro ⟨n, rfl⟩
    exact ⟨n.map cmp ++ [[102]], by simp, by simp⟩

-- part P4
noncomputable def mkS (l : List Nat) : Str := ⟨l.toArray⟩
theorem mkS_cps (l : List Nat) : (mkS l).cps.toList = l := by simp [mkS]
theorem split_of {x : Str} {L : List (List Nat)} (h : x.cps.toList = Jn 47 L) (hL : L ≠ []) (hf : ∀ p ∈ L, 47 ∉ p) : Txt.split x "/" = L.map mkS := by
  have e : (Txt.split x ⟨#[47]⟩).map (·.cps.toList) = L := by rw [split_cps, h, spl_Jn 47 hL hf]
  have e2 : (Txt.split x "/") = (Txt.split x ⟨#[47]⟩) := rfl
  rw [e2, ← e, List.map_map]
  conv => lhs; rw [← List.map_id (Txt.split x ⟨#[47]⟩)]
  refine List.map_congr_left fun y _ => ?_
  exact str_ext (by simp [mkS])
theorem cmp_eq (k : Int) : cmp k = 97 :: List.replicate k.toNat 97 := by unfold cmp; rw [List.replicate_succ]
theorem mkS_ne {k : Int} {y : Str} (h : y.cps.toList.head? ≠ some 97) : mkS (cmp k) ≠ y := by
  intro e
  refine h ?_
  rw [← e, mkS_cps, cmp_eq]; rfl
theorem normL_push {c : Str} {acc r : List Str} (h1 : c ≠ Str.empty) (h2 : c ≠ ".") (h3 : c ≠ "..") : normL (c :: r) acc = normL r (acc ++ [c]) := by
  conv => lhs; unfold normL
  rw [if_neg (by rintro (e | e)
                 · exact h1 e
                 · exact h2 e), if_pos (.inl h3)]
theorem normL_skip {c : Str} {acc r : List Str} (h : c = Str.empty ∨ c = ".") : normL (c :: r) acc = normL r acc := by
  conv => lhs; unfold normL
  rw [if_pos h]
theorem normL_pop {c : Str} {acc r : List Str} (h1 : c ≠ Str.empty) (h2 : c ≠ ".") (h3 : c = "..") (h4 : acc.getLast? ≠ some (Str.ofString "..")) : normL (c :: r) acc = normL r acc.dropLast := by
  conv => lhs; unfold normL
  rw [if_neg (by rintro (e | e)
                 · exact h1 e
                 · exact h2 e), if_neg (by rintro (e | e)
                                           · exact e h3
                                           · exact h4 e)]
theorem normL_cmps : ∀ (l : List Int) (acc rest : List Str), normL (l.map (fun k => mkS (cmp k)) ++ rest) acc = normL rest (acc ++ l.map (fun k => mkS (cmp k)))
  | [], acc, rest => by simp
  | a :: r, acc, rest => by
    rw [List.map_cons, List.cons_append, normL_push (mkS_ne (by decide)) (mkS_ne (by decide)) (mkS_ne (by decide)), normL_cmps r]
    simp
theorem nrm_name {x : Str} {l : List Int} (h : NameOf x l) : nrm ("/b/../" ++ repl x ++ "/.") = "/" ++ repl x := by
  have hl : l.map cmp ≠ [] := by simp [h.1]
  have e0 : ((⟨(("/b/../" ++ repl x ++ "/.").cps.toList.drop 1).toArray⟩ : Str)).cps.toList = Jn 47 ([98] :: [46, 46] :: (l.map cmp ++ [[46]])) := by
    rw [cps_app, cps_app, h.repl, Jn_cons 47 _ (by simp), Jn_cons 47 _ (by simp), Jn_app 47 hl (by simp)]
    simp only [List.append_assoc]
    rfl
  have hf : ∀ p ∈ [98] :: [46, 46] :: (l.map cmp ++ [[46]]), 47 ∉ p := by
    intro p hp
    rcases List.mem_cons.mp hp with rfl | hp
    · decide
    rcases List.mem_cons.mp hp with rfl | hp
    · decide
    rcases List.mem_append.mp hp with hp | hp
    · exact cmps_free 47 (by decide) l p hp
    · simp at hp; subst hp; decide
  unfold nrm
  rw [split_of e0 (by simp) hf]
  have e1 : normL (List.map mkS ([98] :: [46, 46] :: (l.map cmp ++ [[46]]))) [] = l.map (fun k => mkS (cmp k)) := by
    simp only [List.map_cons, List.map_append, List.map_map, List.map_nil]
    rw [normL_push (by decide) (by decide) (by decide), normL_pop (by decide) (by decide) (by decide) (by decide)]
    have := normL_cmps l [] [mkS [46]]
    rw [List.nil_append] at this
    refine (show normL (List.map (fun k => mkS (cmp k)) l ++ [mkS [46]]) [] = _ from ?_)
    rw [this, normL_skip (.inr (by decide))]
    rfl
  rw [e1]
  congr 1
  refine str_ext ?_
  have e2 : (Str.ofString "/") = (⟨#[47]⟩ : Str) := rfl
  rw [e2, join_cps, h.repl, List.map_map]
  rfl
theorem nrm_b : nrm "/b" = "/b" := by
  unfold nrm
  rw [split_of (L := [[98]]) rfl (by simp) (by decide)]
  have : normL (List.map mkS [[98]]) [] = [Str.ofString "b"] := by
    simp only [List.map_cons, List.map_nil]
    rw [normL_push (by decide) (by decide) (by decide)]
    rfl
  rw [this]; rfl
theorem dsOf_name {k : Nat} {x : Str} {l : List Int} (h : NameOf x l) : dsOf k x = if k % 2 = 1 then [Str.ofString "/b", Str.ofString "/" ++ repl x] else [] := by
  unfold dsOf dirTexts
  rw [nrm_name h, nrm_b]
theorem dsOf_short {k : Nat} {x : Str} {l : List Int} (h : NameOf x l) (hx : x.length ≤ 900) : ∀ y ∈ dsOf k x, y.length ≤ 1000 := by
  intro y hy
  rw [dsOf_name h] at hy
  split at hy
  · simp only [List.mem_cons, List.not_mem_nil, or_false] at hy
    rcases hy with rfl | rfl
    · decide
    · rw [len_app, repl_len]
      have : (Str.ofString "/").length = 1 := rfl
      lia
  · simp at hy
/-- what a reader answers that has not been asked yet -/
theorem ask_new {k : Nat} {x y : Str} {l m : List Int} {c : Str → Option Int} (hx : NameOf x l) (hy : NameOf y m) (hc : c x = none) :
    askF (ysOf k y) (dsOf k y) c (some (pathOf x)) x = 1 ↔ ∃ n, l = m ++ n := by
  unfold askF
  rw [hc, dsOf_name hy]
  unfold ysOf
  by_cases hk : k % 2 = 1
  · rw [if_pos hk, if_pos hk]
    have hb : Txt.startswith (pathOf x) ("/b" ++ "/") = false := by
      rw [Bool.eq_false_iff]
      intro q
      rw [starts_iff] at q
      unfold pathOf at q
      rw [cps_app, cps_app, cps_app, hx.repl] at q
      obtain ⟨a, r, rfl⟩ : ∃ a r, l = a :: r := by cases l with
        | nil => exact absurd rfl hx.1
        | cons a r => exact ⟨a, r, rfl⟩
      have e : ∃ t, Jn 47 ((a :: r).map cmp) = 97 :: t := by
        rw [List.map_cons]
        cases h : r.map cmp with
        | nil => exact ⟨_, cmp_eq a⟩
        | cons b s => rw [Jn_cons 47 _ (by simp), cmp_eq]; exact ⟨_, rfl⟩
      obtain ⟨t, e⟩ := e
      rw [e] at q
      obtain ⟨z, hz⟩ := q
      have h0 : ((Str.ofString "/b").cps.toList ++ (Str.ofString "/").cps.toList ++ z).getD 1 0 = 98 := rfl
      rw [hz] at h0
      exact absurd (show (97 : Nat) = 98 from h0) (by decide)
    have := dirs_iff hx hy
    simp only [List.not_mem_nil, if_false, List.any_nil, List.any_cons, hb, Bool.false_or, Bool.or_false]
    rw [← this]
    by_cases q : Txt.startswith (pathOf x) ("/" ++ repl y ++ "/") = true
    · simp [q]
    · simp [q]
  · rw [if_neg hk, if_neg hk]
    have := mods_iff hx hy
    simp only [List.mem_singleton, List.any_cons, List.any_nil, Bool.or_false]
    rw [← this]
    by_cases q1 : x = y
    · simp [q1]
    · by_cases q2 : Txt.startswith x (y ++ ".") = true
      · simp [q1, q2]
      · simp [q1, q2]
theorem ask_01 (ys ds : List Str) (c : Str → Option Int) (file : Option Str) (x : Str) (hc : c x = none) : askF ys ds c file x = 0 ∨ askF ys ds c file x = 1 := by
  unfold askF
  rw [hc]
  dsimp only
  split
  · exact .inr rfl
  · split
    · exact .inr rfl
    · cases file with
      | none => exact .inr rfl
      | some f => dsimp only; split <;> simp
theorem ask_none (ys ds : List Str) (c : Str → Option Int) (x : Str) (hc : c x = none) : askF ys ds c none x = 1 := by
  unfold askF
  rw [hc]
  dsimp only
  split
  · rfl
  · split <;> rfl
theorem ask_old {ys ds : List Str} {c : Str → Option Int} {file : Option Str} {x : Str} {i : Int} (hc : c x = some i) : askF ys ds c file x = i := by
  unfold askF; rw [hc]
theorem NameOf.inj {x : Str} {l m : List Int} (h1 : NameOf x l) (h2 : NameOf x m) : l = m :=
  cmps_inj h1.2.1 h2.2.1 (Jn_inj 46 (by simp [h1.1]) (by simp [h2.1]) (cmps_free 46 (by decide) l) (cmps_free 46 (by decide) m) (h1.2.2.symm.trans h2.2.2))
theorem NameOf.snoc {x : Str} {l : List Int} (h : NameOf x l) (p : Nat) : NameOf (x ++ "." ++ aS p) (l ++ [(p : Int)]) := by
  refine ⟨by simp, fun k hk => ?_, ?_⟩
  · rcases List.mem_append.mp hk with q | q
    · exact h.2.1 k q
    · simp at q; lia
  · rw [cps_app, cps_app, aS_cps, h.2.2, List.map_append, Jn_app 46 (by simp [h.1]) (by simp)]
    simp only [List.map_cons, List.map_nil, Jn, List.append_assoc]
    rfl
theorem nameOf_0 : NameOf (aS 0) [0] := by
  refine ⟨by simp, by simp, ?_⟩
  rw [aS_cps]; rfl
theorem NameOf.ne_str {x : Str} {l : List Int} (h : NameOf x l) : x ≠ "<string>" := by
  rintro rfl
  obtain ⟨a, r, rfl⟩ : ∃ a r, l = a :: r := by cases l with
    | nil => exact absurd rfl h.1
    | cons a r => exact ⟨a, r, rfl⟩
  have e : ∃ t, Jn 46 ((a :: r).map cmp) = 97 :: t := by
    rw [List.map_cons]
    cases h : r.map cmp with
    | nil => exact ⟨_, cmp_eq a⟩
    | cons b s => rw [Jn_cons 46 _ (by simp), cmp_eq]; exact ⟨_, rfl⟩
  obtain ⟨t, e⟩ := e
  have h0 : ((Str.ofString "<string>").cps.toList).head? = some 60 := rfl
  rw [h.2.2, e] at h0
  simp at h0

-- part P5
noncomputable def Rw (row : List Int) (x : Int) : Int := row.getD x.toNat 0
theorem above_iff (row : List Int) (p a b : Int) : aboveF p row a b = true ↔ 0 < Dt (Rw row) a b p := by
  unfold aboveF Dt Rw
  rw [decide_eq_true_eq]
  lia
theorem flat_iff (row : List Int) (s a b : Int) : flatF s row a b = true ↔ Rw row b - s * b < Rw row a - s * a := by
  unfold flatF Rw
  rw [decide_eq_true_eq, Int.mul_sub]
  lia
/-- two rising lists of the same places -/
theorem kept_ext : ∀ {l m : List Int}, l.Pairwise (· < ·) → m.Pairwise (· < ·) → (∀ x, x ∈ l ↔ x ∈ m) → l = m
  | [], [], _, _, _ => rfl
  | [], b :: q, _, _, h => absurd ((h b).mpr (.head _)) (by simp)
  | a :: r, [], _, _, h => absurd ((h a).mp (.head _)) (by simp)
  | a :: r, b :: q, hl, hm, h => by
    rw [List.pairwise_cons] at hl hm
    have hab : a = b := by
      have h1 := (h a).mp (.head _)
      have h2 := (h b).mpr (.head _)
      rcases List.mem_cons.mp h1 with e | e
      · exact e
      · rcases List.mem_cons.mp h2 with e2 | e2
        · exact e2.symm
        · have := hm.1 a e; have := hl.1 b e2; lia
    subst hab
    rw [kept_ext hl.2 hm.2 fun x => ?_]
    constructor
    · intro hx
      rcases List.mem_cons.mp ((h x).mp (.tail _ hx)) with e | e
      · have := hl.1 x hx; lia
      · exact e
    · intro hx
      rcases List.mem_cons.mp ((h x).mpr (.tail _ hx)) with e | e
      · have := hm.1 x hx; lia
      · exact e
theorem mem_getD' {l : List Int} {x : Int} (h : x ∈ l) : ∃ i, i < l.length ∧ l.getD i 0 = x := by
  obtain ⟨i, hi, e⟩ := List.getElem_of_mem h
  exact ⟨i, hi, by simp [hi, e]⟩
theorem getD_mem' {l : List Int} {i : Nat} (h : i < l.length) : l.getD i 0 ∈ l := by
  have : l.getD i 0 = l[i] := by simp [h]
  rw [this]; exact List.getElem_mem h
/-- the last of the edges that hold from the first one on -/
theorem last_edge (P : Nat → Prop) (n : Nat) (hn : 0 < n) : ∃ N, N < n ∧ (∀ i, 1 ≤ i → i ≤ N → P i) ∧ (N + 1 < n → ¬ P (N + 1)) := by
  induction n with
  | zero => lia
  | succ n ih =>
    rcases Nat.eq_zero_or_pos n with h | h
    · subst h; exact ⟨0, by lia, fun i h1 h2 => by lia, fun q => by lia⟩
    · obtain ⟨N, h1, h2, h3⟩ := ih h
      by_cases hN : N + 1 < n
      · exact ⟨N, by lia, h2, fun _ => h3 hN⟩
      · by_cases hP : P (N + 1)
        · exact ⟨N + 1, by lia, fun i g1 g2 => by
            rcases Nat.lt_or_eq_of_le g2 with q | q
            · exact h2 i g1 (by lia)
            · subst q; exact hP, fun q => by lia⟩
        · exact ⟨N, by lia, h2, fun _ => hP⟩
section
variable {row : List Int} {h : List Int} {p : Nat}
/-- no corner stands between two neighbours of the list -/
theorem between {R : Int → Int} {n : Nat} {P : Int} (hK : Kept h n) (hV : ∀ x, x ∈ h ↔ Vx R P x) {i : Nat} (hi : i + 1 < h.length) : ∀ k, h.getD i 0 < k → k < h.getD (i + 1) 0 → ¬ Vx R P k := by
  intro k h1 h2 hk
  obtain ⟨j, hj, rfl⟩ := mem_getD' ((hV k).mpr hk)
  have := (hK.lt_iff (by lia) hj).mp h1
  have := (hK.lt_iff hj hi).mp h2
  lia
/-- the point on which the next one is hung -/
theorem parent_spec (hp : 1 ≤ p) (hK : Kept h p) (hV : ∀ x, x ∈ h ↔ Vx (Rw row) ((p : Int) - 1) x) :
    ∃ N, N < h.length ∧ (match srF (searchF h (aboveF p row) 1) ((p : Int) - 1) with | none => 0 | some (_, b) => b.toNat) = (h.getD N 0).toNat ∧
      (∀ x, Vx (Rw row) p x ↔ x = p ∨ Vx (Rw row) (h.getD N 0) x) := by
  let stays : Int → Prop := fun c => ∀ a, 0 ≤ a → a < c → 0 < Dt (Rw row) a c p
  have h0 : (0 : Int) ∈ h := (hV 0).mpr (Vx.first (by lia))
  have hlen : 0 < h.length := List.length_pos_of_mem h0
  have hvi : ∀ i, i < h.length → Vx (Rw row) ((p : Int) - 1) (h.getD i 0) := fun i hi => (hV _).mp (getD_mem' hi)
  have hlt : ∀ i, i < h.length → h.getD i 0 < p := fun i hi => (hK.getD hi).2
  have hfirst : h.getD 0 0 = 0 := by
    obtain ⟨j, hj, e⟩ := mem_getD' h0
    have := hK.le_iff (i := 0) (j := j) hlen hj
    have := (hK.getD hlen).1
    lia
  have hEd : ∀ i, 1 ≤ i → i < h.length → (Ed h (aboveF p row) i ↔ stays (h.getD i 0)) := by
    intro i h1 hi
    unfold Ed
    rw [above_iff]
    refine edge_stays (hvi (i - 1) (by lia)) (hvi i hi) (hK.lt (by lia) hi) ?_ (hlt i hi)
    have := between hK hV (i := i - 1) (by lia)
    rwa [show i - 1 + 1 = i by lia] at this
  have hdown : ∀ i j, i ≤ j → j < h.length → stays (h.getD j 0) → stays (h.getD i 0) := by
    intro i j hij hj hs
    rcases Nat.lt_or_eq_of_le hij with q | q
    · exact stays_down (hvi i (by lia)) (by have := hlt j hj; lia) (hK.lt q hj) (hlt j hj) hs
    · subst q; exact hs
  have hpre : ∀ i, 1 ≤ i → i + 1 < h.length → Ed h (aboveF p row) (i + 1) → Ed h (aboveF p row) i := fun i h1 hi he =>
    (hEd i h1 (by lia)).mpr (hdown i (i + 1) (by lia) hi ((hEd (i + 1) (by lia) hi).mp he))
  obtain ⟨N, hN, hT, hstop⟩ := last_edge (Ed h (aboveF p row)) h.length hlen
  have hsr := sr_main (s := 1) (col := (p : Int) - 1) hK hpre N hN hT (fun _ => ⟨by have := hlt N hN; lia, fun e => by cases e⟩) (fun q => .inl (hstop q))
  have hm : N - N % max 1 1 = N := by rw [show max 1 1 = 1 from rfl, Nat.mod_one]; rfl
  rw [hm] at hsr
  refine ⟨N, hN, ?_, fun x => ?_⟩
  · rw [show ((1 : Nat) : Int) = 1 from rfl] at hsr
    rw [hsr]
    by_cases hN0 : N = 0
    · subst hN0; rw [if_pos rfl, hfirst]; rfl
    · rw [if_neg hN0]
  · have hs : ∀ i, i < h.length → (stays (h.getD i 0) ↔ i ≤ N) := by
      intro i hi
      constructor
      · intro q
        rcases Nat.lt_or_ge N i with g | g
        · exfalso
          refine hstop (by lia) ((hEd (N + 1) (by lia) (by lia)).mpr (hdown (N + 1) i g hi q))
        · exact g
      · intro q
        by_cases hi0 : i = 0
        · subst hi0
          intro a ha1 ha2
          rw [hfirst] at ha2; lia
        · exact (hEd i (by lia) hi).mp (hT i (by lia) q)
    have e : (p : Int) = (p : Int) - 1 + 1 := by lia
    have hsucc := Vx.succ (R := Rw row) (p := (p : Int) - 1) (k := x)
    rw [← e] at hsucc
    rw [hsucc]
    have hq := hvi N hN
    constructor
    · rintro (⟨q, _⟩ | ⟨hx, hst⟩)
      · exact .inl q
      · right
        obtain ⟨i, hi, rfl⟩ := mem_getD' ((hV x).mpr hx)
        have hiN := (hs i hi).mp hst
        exact hx.mono ((hK.le_iff hi hN).mpr hiN) hq.2.1
    · rintro (q | q)
      · exact .inl ⟨q, by lia⟩
      · right
        have hx := hq.of_le q
        refine ⟨hx, ?_⟩
        obtain ⟨i, hi, rfl⟩ := mem_getD' ((hV x).mpr hx)
        exact (hs i hi).mpr ((hK.le_iff hi hN).mp q.2.1)
end

-- part P6
/-- the tree is the hulls -/
structure TInv (row : List Int) (p : Nat) (s : St) : Prop where
  mem : ∀ k, k < p → ∀ x, x ∈ s.lst k ↔ Vx (Rw row) k x
  kept : ∀ k, k < p → Kept (s.lst k) (k + 1)
  name : ∀ k, k < p → NameOf (s.nm k) (s.lst k)
  chain : ∀ k, k < p → ∀ j ∈ s.lst k, ∃ n, s.lst k = s.lst j.toNat ++ n
  cache : ∀ j, j < p → ∀ k, s.ca k (s.nm j) = if k ≤ j then some (if (k : Int) ∈ s.lst j then 1 else 0) else none
  only : ∀ k x i, s.ca k x = some i → x = "<string>" ∨ ∃ j, j < p ∧ x = s.nm j
theorem mem_lstTo {s : St} {file : Option Str} {name : Str} {n : Nat} {x : Int} : x ∈ lstTo s file name n ↔ ∃ k : Nat, k < n ∧ s.ans file name k = 1 ∧ x = k := by
  unfold lstTo
  rw [List.mem_map]
  constructor
  · rintro ⟨k, hk, rfl⟩
    have := List.mem_filter.mp hk
    exact ⟨k, List.mem_range.mp this.1, of_decide_eq_true this.2, rfl⟩
  · rintro ⟨k, h1, h2, rfl⟩
    exact ⟨k, List.mem_filter.mpr ⟨List.mem_range.mpr h1, decide_eq_true h2⟩, rfl⟩
theorem Kept.snoc {l : List Int} {p : Nat} (h : Kept l p) : Kept (l ++ [(p : Int)]) (p + 1) := by
  refine ⟨?_, fun x hx => ?_⟩
  · rw [List.pairwise_append]
    refine ⟨h.1, by simp, fun a ha b hb => ?_⟩
    simp at hb; subst hb
    exact (h.2 a ha).2
  · rcases List.mem_append.mp hx with q | q
    · have := h.2 x q; lia
    · simp at q; lia
theorem step_base {row : List Int} {p : Nat} {s : St} (T : TInv row p s) : ∃ bl, NameOf (nameF row s p) (bl ++ [(p : Int)]) ∧ Kept bl p ∧ (∀ x, Vx (Rw row) p x ↔ x = p ∨ x ∈ bl) ∧ ∀ j ∈ bl, ∃ n, bl = s.lst j.toNat ++ n := by
  rcases Nat.eq_zero_or_pos p with hp | hp
  · subst hp
    refine ⟨[], ?_, ⟨List.Pairwise.nil, by simp⟩, fun x => ?_, by simp⟩
    · show NameOf (if (0 : Nat) = 0 then aS 0 else _) _
      rw [if_pos rfl]; exact nameOf_0
    · constructor
      · intro h; left; have h1 := h.1; have h2 := h.2.1; simp at h2; show x = 0; lia
      · rintro (h | h)
        · rw [h]; exact Vx.last (by simp)
        · simp at h
  · have hK := T.kept (p - 1) (by lia)
    rw [show p - 1 + 1 = p by lia] at hK
    have hV := T.mem (p - 1) (by lia)
    rw [show ((p - 1 : Nat) : Int) = (p : Int) - 1 by lia] at hV
    obtain ⟨N, hN, hpar, hvx⟩ := parent_spec hp hK hV
    have hq := hK.getD hN
    generalize hqq : (s.lst (p - 1)).getD N 0 = qi at hpar hvx hq
    have hqn : ((qi.toNat : Nat) : Int) = qi := by lia
    have hpf : parF row s p = qi.toNat := hpar
    have hqp : qi.toNat < p := by lia
    refine ⟨s.lst qi.toNat, ?_, ?_, fun x => ?_, T.chain qi.toNat hqp⟩
    · unfold nameF
      rw [if_neg (by lia), hpf]
      exact (T.name qi.toNat hqp).snoc p
    · have := T.kept qi.toNat hqp
      exact ⟨this.1, fun x hx => by have := this.2 x hx; lia⟩
    · rw [hvx x, T.mem qi.toNat hqp x, hqn]
theorem tInv_step {row : List Int} {p : Nat} {s : St} (T : TInv row p s) (hc0 : ∀ k, p ≤ k → s.ca k = c0) : TInv row (p + 1) (stepF row s p) := by
  obtain ⟨bl, hname, hbl, hvx, hchain⟩ := step_base T
  have e_nm : (stepF row s p).nm = setN s.nm p (nameF row s p) := rfl
  have e_lst : (stepF row s p).lst = setN s.lst p (lstTo { s with nm := setN s.nm p (nameF row s p) } (some (pathOf (nameF row s p))) (nameF row s p) (p + 1)) := rfl
  have e_ca : (stepF row s p).ca = (askTo { s with nm := setN s.nm p (nameF row s p) } (some (pathOf (nameF row s p))) (nameF row s p) (p + 1)).ca := rfl
  generalize stepF row s p = s' at e_nm e_lst e_ca
  generalize nameF row s p = name at hname e_nm e_lst e_ca
  have hne : ∀ j, j < p → s.nm j ≠ name := by
    intro j hj e
    have h1 := T.name j hj
    rw [e] at h1
    have := h1.inj hname
    have hm : (p : Int) ∈ s.lst j := by rw [this]; simp
    have := (T.kept j hj).2 _ hm
    lia
  have hfresh : ∀ k, s.ca k name = none := by
    intro k
    cases hk : s.ca k name with
    | none => rfl
    | some i =>
      rcases T.only k name i hk with e | ⟨j, hj, e⟩
      · exact absurd e hname.ne_str
      · exact absurd e.symm (hne j hj)
  have hans : ∀ k, k < p + 1 → (({ s with nm := setN s.nm p name } : St).ans (some (pathOf name)) name k = 1 ↔ (k : Int) ∈ bl ++ [(p : Int)]) := by
    intro k hk
    unfold St.ans
    dsimp only
    rcases Nat.lt_or_eq_of_le (Nat.le_of_lt_succ hk) with q | q
    · rw [setN_ne (Nat.ne_of_lt q), ask_new hname (T.name k q) (hfresh k)]
      have hkk : (k : Int) ∈ s.lst k := (T.mem k q k).mpr (Vx.last (by lia))
      constructor
      · rintro ⟨n, e⟩
        rw [e]; exact List.mem_append_left _ hkk
      · intro hm
        rcases List.mem_append.mp hm with g | g
        · obtain ⟨n, e⟩ := hchain _ g
          rw [Int.toNat_natCast] at e
          exact ⟨n ++ [(p : Int)], by rw [e, List.append_assoc]⟩
        · simp at g; lia
    · subst q
      rw [setN_same, ask_new hname hname (hfresh k)]
      exact ⟨fun _ => by simp, fun _ => ⟨[], by simp⟩⟩
  have hnew : lstTo { s with nm := setN s.nm p name } (some (pathOf name)) name (p + 1) = bl ++ [(p : Int)] := by
    have k1 := lstTo_kept { s with nm := setN s.nm p name } (some (pathOf name)) name (p + 1)
    have k2 := hbl.snoc
    refine kept_ext k1.1 k2.1 fun x => ?_
    rw [mem_lstTo]
    constructor
    · rintro ⟨k, h1, h2, rfl⟩; exact (hans k h1).mp h2
    · intro hx
      have hb := k2.2 x hx
      have hxn : ((x.toNat : Nat) : Int) = x := by lia
      refine ⟨x.toNat, by lia, (hans x.toNat (by lia)).mpr (by rw [hxn]; exact hx), hxn.symm⟩
  rw [hnew] at e_lst
  have l_old : ∀ k, k < p → s'.lst k = s.lst k := fun k hk => by rw [e_lst]; exact setN_ne (Nat.ne_of_lt hk)
  have l_new : s'.lst p = bl ++ [(p : Int)] := by rw [e_lst]; exact setN_same
  have n_old : ∀ k, k < p → s'.nm k = s.nm k := fun k hk => by rw [e_nm]; exact setN_ne (Nat.ne_of_lt hk)
  have n_new : s'.nm p = name := by rw [e_nm]; exact setN_same
  have cases' : ∀ k, k < p + 1 → k < p ∨ k = p := fun k hk => Nat.lt_or_eq_of_le (Nat.le_of_lt_succ hk)
  have ca_old : ∀ k x, x ≠ name → s'.ca k x = s.ca k x := by
    intro k x hx
    rw [e_ca]
    show (if k < p + 1 then putC (s.ca k) name _ else s.ca k) x = _
    split
    · unfold putC; exact if_neg hx
    · rfl
  have ca_new : ∀ k, s'.ca k name = if k ≤ p then some (if (k : Int) ∈ bl ++ [(p : Int)] then 1 else 0) else none := by
    intro k
    rw [e_ca]
    show (if k < p + 1 then putC (s.ca k) name (({ s with nm := setN s.nm p name } : St).ans (some (pathOf name)) name k) else s.ca k) name = _
    by_cases hk : k ≤ p
    · rw [if_pos (by lia), if_pos hk]
      unfold putC
      rw [if_pos rfl]
      by_cases hm : (k : Int) ∈ bl ++ [(p : Int)]
      · rw [if_pos hm, (hans k (by lia)).mpr hm]
      · rw [if_neg hm]
        have h01 : ({ s with nm := setN s.nm p name } : St).ans (some (pathOf name)) name k = 0 ∨ ({ s with nm := setN s.nm p name } : St).ans (some (pathOf name)) name k = 1 := ask_01 _ _ _ _ _ (hfresh k)
        rcases h01 with e | e
        · rw [e]
        · exact absurd ((hans k (by lia)).mp e) hm
    · rw [if_neg (by lia), if_neg hk]; exact hfresh k
  refine ⟨fun k hk x => ?_, fun k hk => ?_, fun k hk => ?_, fun k hk j hj => ?_, fun j hj k => ?_, fun k x i e => ?_⟩
  · rcases cases' k hk with q | rfl
    · rw [l_old k q]; exact T.mem k q x
    · rw [l_new, hvx x, List.mem_append, List.mem_singleton]; exact or_comm
  · rcases cases' k hk with q | rfl
    · rw [l_old k q]; exact T.kept k q
    · rw [l_new]; exact hbl.snoc
  · rcases cases' k hk with q | rfl
    · rw [l_old k q, n_old k q]; exact T.name k q
    · rw [l_new, n_new]; exact hname
  · rcases cases' k hk with q | rfl
    · rw [l_old k q] at hj ⊢
      have := (T.kept k q).2 j hj
      rw [l_old j.toNat (by lia)]
      exact T.chain k q j hj
    · rw [l_new] at hj ⊢
      rcases List.mem_append.mp hj with g | g
      · have := hbl.2 j g
        rw [l_old j.toNat (by lia)]
        obtain ⟨n, e⟩ := hchain j g
        exact ⟨n ++ [(k : Int)], by rw [← List.append_assoc, ← e]⟩
      · rw [List.mem_singleton] at g
        subst g
        rw [Int.toNat_natCast, l_new]
        exact ⟨[], by simp⟩
  · rcases cases' j hj with q | rfl
    · rw [n_old j q, l_old j q, ca_old k _ (hne j q)]; exact T.cache j q k
    · rw [n_new, l_new]; exact ca_new k
  · by_cases hx : x = name
    · exact .inr ⟨p, by lia, by rw [n_new, hx]⟩
    · rw [ca_old k x hx] at e
      rcases T.only k x i e with q | ⟨j, hj, q⟩
      · exact .inl q
      · exact .inr ⟨j, by lia, by rw [n_old j hj, q]⟩
theorem tInv (row : List Int) : ∀ p, TInv row p (treeF row p)
  | 0 => ⟨fun k h => absurd h (by lia), fun k h => absurd h (by lia), fun k h => absurd h (by lia), fun k h => absurd h (by lia), fun k h => absurd h (by lia), fun k x i e => by
      left
      have e' : c0 x = some i := e
      unfold c0 at e'
      by_cases q : x = "<string>"
      · exact q
      · rw [if_neg q] at e'; cases e'⟩
  | p + 1 => tInv_step (tInv row p) (treeF_ca0 row p)

-- part L21
section
open PyProof.V PySem.SeqAt
section
variable {prog : Program} {w : World} {A : Around} {E : Value → Shared → Prop} {H h₀ h : Heap} {g : Array GenState} {d : Drawn} {t : Nat} {os : OsState} {env : Env}
  {m mg mb : Str → Option Value} {σ : List (Addr × Obj)} {L : Addr} {names : List (Str × NameKind)} {cells : List (Str × Addr)}

/-- sum of a list of ints -/
theorem c_sum {l : Addr} {ns : List Int} {Q : Value → Shared → Prop} (F : Fx H h₀ L h m σ) (hh : A.handled = none) (hl : IsInts h l ns) (k : ∀ z h' t', Fx H h₀ L h' m σ → Q (.int ns.sum z) ⟨h', g, d, t', os⟩) :
    wpAny (model prog w) A (call (.builtin "sum") [.ref l]) Q E ⟨h, g, d, t, os⟩ := by
  obtain ⟨vs, hl, hi⟩ := hl
  obtain ⟨xs, hx⟩ := hi.allInts.items
  have hl' : h.IsList l (intItems xs) := hx ▸ hl
  refine sum_intListG hh hl' fun h' tk t' hk => ?_
  have e1 : ns = xs.toList.map (·.1) := by
    rw [← nums_intItems, ← hx]
    exact (show numsOf vs.toArray.toList = ns from hi.numsOf).symm
  have e2 : preSum (numAt xs) xs.size = ns.sum := by
    rw [preSum_eq, List.take_of_length_le (by simp), e1]
  rw [e2]
  exact k t' h' tk (F.call (Kp.of_keeps hk))
/-- the greatest of a list of ints -/
theorem c_maxL {l : Addr} {ns : List Int} {Q : Value → Shared → Prop} (F : Fx H h₀ L h m σ) (hh : A.handled = none) (hl : IsInts h l ns) (hne : 0 < ns.length)
    (k : ∀ M z h' t', M ∈ ns → (∀ a, a ∈ ns → a ≤ M) → Fx H h₀ L h' m σ → Q (.int M z) ⟨h', g, d, t', os⟩) : wpAny (model prog w) A (call (.builtin "max") [.ref l]) Q E ⟨h, g, d, t, os⟩ := by
  obtain ⟨vs, hl, hi⟩ := hl
  obtain ⟨xs, e⟩ := hi.allInts.items
  have hns : ns = xs.toList.map (·.1) := by
    rw [← hi.numsOf, ← nums_intItems, ← e]
  have hsz : 0 < xs.size := by
    have h3 := hne; rw [hns, List.length_map, Array.length_toList] at h3; exact h3
  rw [e] at hl
  refine max_intList hh hl hsz fun v h' tk hv hk => ?_
  obtain ⟨t', rfl⟩ := intItems_at hv
  obtain ⟨h1, h2⟩ := argBest_gt (numAt xs) (xs.size - 1)
  refine k _ t' h' tk ?_ (fun a ha => ?_) (F.call (Kp.of_keeps hk))
  · rw [hns, numAt_eq]; exact getD_mem (by rw [List.length_map, Array.length_toList]; lia)
  · rw [hns] at ha
    obtain ⟨j, hj, rfl⟩ := mem_getD ha
    rw [List.length_map, Array.length_toList] at hj
    rw [← numAt_eq]; exact h2 j (by lia)
/-- two lists, one behind the other -/
theorem l_add {a b : Addr} {vs ws : List Value} {Q : Value → Shared → Prop} (F : Fx H h₀ L h m σ) (ha : h.IsList a vs.toArray) (hb : h.IsList b ws.toArray) (hs : vs.length + ws.length ≤ 1000)
    (k : ∀ D h', Fx H h₀ L h' m ((D, listO (vs ++ ws)) :: σ) → Q (.ref D) ⟨h', g, d, t, os⟩) : wpAny (model prog w) A (binaryOp .Add (.ref a) (.ref b)) Q E ⟨h, g, d, t, os⟩ := by
  obtain ⟨⟨cls, dd, data, sl⟩, ho, hc, n, hd⟩ := id ha
  obtain ⟨⟨cls2, dd2, data2, sl2⟩, ho2, hc2, n2, hd2⟩ := id hb
  simp only at hc hd hc2 hd2
  subst hc hd hc2 hd2
  have e : vs.toArray ++ ws.toArray = (vs ++ ws).toArray := by simp
  refine concat_meets ⟨_, ho, rfl⟩ ⟨_, ho2, rfl⟩ noFill_list_add seq_list_add PySem.F.slot_list_add PySem.F.entry_list_add (PySem.F.args_list_add_2 _ _) (list_addW a b vs.toArray ws.toArray n n2 dd dd2 sl sl2 (by rw [List.size_toArray, List.size_toArray, sizeLine_eq]; lia)) ⟨ho, ho2, ?_⟩
  rw [e]
  exact k _ _ (F.push _ rfl (ncl rfl))
open PySem.SeqAt in
/-- x in a list of ints -/
theorem in_ints {a : Addr} {ns : List Int} {x : Int} {u : Tok} {Q : Value → Shared → Prop} (ha : IsInts h a ns) (k : Q (.bool (decide (x ∈ ns))) ⟨h, g, d, t, os⟩) : wpAny (model prog w) A (compareOp .In (.int x u) (.ref a)) Q E ⟨h, g, d, t, os⟩ := by
  obtain ⟨vs, hl, hi⟩ := ha
  refine in_listAt (isInt x) hl (fun y hy => (eq_isInt x u hi y (by simpa using hy)).at _ _) ?_
  have : vs.toArray.any (isInt x) = decide (x ∈ ns) := by
    rw [List.any_toArray]
    clear hl k
    induction hi with
    | nil => rfl
    | @cons n t vs ns _ ih =>
      rw [List.any_cons, ih, Bool.eq_iff_iff, Bool.or_eq_true, decide_eq_true_eq, decide_eq_true_eq, List.mem_cons]
      refine or_congr ?_ Iff.rfl
      show (isInt x (.int n t)) = true ↔ _
      unfold isInt
      simp only [beq_iff_eq]
      exact eq_comm
  rw [this]; exact k
/-- a list of texts -/
noncomputable def IsStrs (h : Heap) (a : Addr) (ss : List Str) : Prop := ∃ l : List (Str × Tok), h.IsList a (strValues l).toArray ∧ l.map (·.1) = ss
theorem reads_strs {h : Heap} {a : Addr} {ss : List Str} (x : IsStrs h a ss) : Reads h (.ref a) (.list (ss.map PyData.str)) [a] := by
  obtain ⟨l, ⟨o, ho, hc, n, hd⟩, rfl⟩ := x
  refine Reads.list ho hc hd ?_
  clear hd
  induction l with
  | nil => exact .nil
  | cons p r ih =>
    have := ReadsAll.cons (Reads.str (h := h) p.1 p.2) ih
    simpa [strValues] using this
theorem shaped_strs (ss : List Str) (hok : ∀ x ∈ ss, PyData.strOk x = true) : shaped (.list (ss.map PyData.str)) = true := by
  have h1 : ∀ ss : List Str, PyData.depthAll (ss.map PyData.str) ≤ 1 := by
    intro ss
    induction ss with
    | nil => simp [PyData.depthAll]
    | cons n r ih => simp only [List.map_cons, PyData.depthAll, PyData.depth]; lia
  have h2 : ∀ ss : List Str, (∀ x ∈ ss, PyData.strOk x = true) → PyData.canLayAll0 (ss.map PyData.str) = true := by
    intro ss
    induction ss with
    | nil => intro _; simp [PyData.canLayAll0]
    | cons n r ih => intro q; simp [PyData.canLayAll0, PyData.canLay0, ih fun x hx => q x (.tail _ hx), q n (.head _)]
  have h3 : PyData.depth (.list (ss.map PyData.str)) ≤ 64 := by have := h1 ss; simp only [PyData.depth]; lia
  show (PyData.canLay0 (.list (ss.map PyData.str)) && decide (PyData.depth (.list (ss.map PyData.str)) ≤ 64)) = true
  rw [Bool.and_eq_true]
  exact ⟨by simp only [PyData.canLay0]; exact h2 ss hok, decide_eq_true h3⟩
theorem noMix_strs : ∀ ns ms : List Str, noMixAll (ns.map PyData.str) (ms.map PyData.str) = true
  | [], [] => by simp [noMixAll]
  | [], _ :: _ => by simp [noMixAll]
  | _ :: _, [] => by simp [noMixAll]
  | _ :: r, _ :: q => by simp [noMixAll, noMix, noMix_strs r q]
theorem same_strs : ∀ ns : List Str, PySem.Spec.sameAll (ns.map PyData.str) (ns.map PyData.str) = true
  | [] => by simp [PySem.Spec.sameAll]
  | n :: r => by simp only [List.map_cons, PySem.Spec.sameAll, PySem.Spec.same, same_strs r]; simp
/-- two equal lists of texts, != -/
theorem ne_strs {a b : Addr} {ss : List Str} {Q : Value → Shared → Prop} (R : Rm A 9) (hok : ∀ x ∈ ss, PyData.strOk x = true) (ha : IsStrs h a ss) (hb : IsStrs h b ss) (k : Q (.bool false) ⟨h, g, d, t, os⟩) : wpAny (model prog w) A (compareOp .NotEq (.ref a) (.ref b)) Q E ⟨h, g, d, t, os⟩ :=
  ne_dataH_same (reads_strs ha) (reads_strs hb) (shaped_strs ss hok) (shaped_strs ss hok) (by have := R.un; lia) (by simp only [noMix]; exact noMix_strs ss ss) (by simp only [PySem.Spec.same]; rw [same_strs]; exact k)
/-- two equal pairs of ints, != -/
theorem ne_pair {a b : Addr} {x y : Int} {u v u' v' : Tok} {Q : Value → Shared → Prop} (R : Rm A 9) (ha : h.get? a = some (tupO [.int x u, .int y v])) (hb : h.get? b = some (tupO [.int x u', .int y v'])) (k : Q (.bool false) ⟨h, g, d, t, os⟩) :
    wpAny (model prog w) A (compareOp .NotEq (.ref a) (.ref b)) Q E ⟨h, g, d, t, os⟩ := by
  have r : ∀ {a : Addr} {u v : Tok}, h.get? a = some (tupO [.int x u, .int y v]) → Reads h (.ref a) (.tuple [.int x, .int y]) [] := fun e =>
    Reads.tuple e rfl rfl (ReadsAll.cons (Reads.int x _) (ReadsAll.cons (Reads.int y _) ReadsAll.nil))
  refine ne_dataH_same (r ha) (r hb) ?_ ?_ (by have := R.un; lia) ?_ ?_
  · rfl
  · rfl
  · simp [noMix, noMixAll]
  · simp [PySem.Spec.same, PySem.Spec.sameAll]; exact k
theorem ne_nones {Q : Value → Shared → Prop} (R : Rm A 9) (k : Q (.bool false) ⟨h, g, d, t, os⟩) : wpAny (model prog w) A (compareOp .NotEq .none .none) Q E ⟨h, g, d, t, os⟩ :=
  ne_dataH_same (Reads.none) (Reads.none) rfl rfl (by have := R.un; lia) (by simp [noMix]) (by simp [PySem.Spec.same]; exact k)
/-- str of a small number -/
theorem c_str_int {i : Int} {u : Tok} {Q : Value → Shared → Prop} (hi : i = 0 ∨ i = 1) (k : ∀ z t', Q (.str (if i = 1 then "1" else "0") z) ⟨h, g, d, t', os⟩) : wpAny (model prog w) A (call (.type "str") [.int i u]) Q E ⟨h, g, d, t, os⟩ := by
  rcases hi with rfl | rfl
  · exact str_of_int_fit (N := 2) (by decide) (by decide) fun _ => k _ _
  · exact str_of_int_fit (N := 2) (by decide) (by decide) fun _ => k _ _
/-- l[:4] -/
theorem l_upto {value : Expr} {k : Nat} {i : Int} {p p2 pos : Pos} {l : Addr} {ns : List Int} {Q : Value → Shared → Prop} (F : Fx H h₀ L h m σ) (hi : 0 ≤ i)
    (hv : wpAny (model prog w) A (eval value env) (fun o s₁ => o = .ref l ∧ s₁ = ⟨h, g, d, t, os⟩) E ⟨h, g, d, t, os⟩) (hl : IsInts h l ns) (hs : ns.length ≤ 1000)
    (kk : ∀ D vs h' t', IntsAre vs (ns.take i.toNat) → Fx H h₀ L h' m ((D, listO vs) :: σ) → Q (.ref D) ⟨h', g, d, t', os⟩) (ht : ∀ o r, letTemporaryGo value o r = pure ()) :
    wpAny (model prog w) A (eval (.Subscript value (.Slice none (some (.Constant (.int i) k p2)) none p) pos) env) Q E ⟨h, g, d, t, os⟩ := by
  obtain ⟨vs, hl, hi'⟩ := hl
  refine wpAny_Subscript_list_slice (wpAny_mono hv (fun o s₁ h₁ => ?_) fun _ _ e => e) ht
  obtain ⟨rfl, rfl⟩ := h₁
  refine part_none (part_int fun u t' => ⟨l, vs.toArray, none, some i, rfl, hl, by rw [List.size_toArray, hi'.length, sizeLine_eq]; lia, .none, .int .., ?_⟩)
  have h2 := slice_ints_uptoW hi' hi
  have F1 := (F.push' { cls := .type "slice", data := .fields #[.none, .int i u, .none] }).push (listO (slicePick vs.toArray none (some i) none).toList) rfl (ncl rfl)
  have e : (slicePick vs.toArray none (some i) none).toList.toArray = slicePick vs.toArray none (some i) none := by simp
  rw [listO, e, Heap.size_push] at F1
  refine kk _ _ _ _ h2 ?_
  rw [listO, e]
  exact F1
end
theorem it_tup {prog : Program} {w : World} {A : Around} {it l : Addr} {vs : List Value} (hh : A.handled = none) :
    ItOk prog w A it vs.length (fun i o => o.cls = .type "tuple_iterator" ∧ o.data = .fields #[.ref l, .int (i : Nat) 0]) (fun i v => vs[i]? = some v) (fun h => h.IsTuple l vs.toArray) where
  item := by
    rintro i h o g d t os Q E hi ho ⟨hc, hd⟩ hl k
    refine wpAny_pyNext_tuple_item ⟨o, ho, hc, hd⟩ hl (x := vs[i]) (by simp [hi]) fun h₁ hit₁ hs₁ => ?_
    obtain ⟨o', e1, e2, e3⟩ := hit₁
    exact k _ _ o' _ (by simp [hi]) e1 ⟨e2, e3⟩ hs₁
  done := by
    rintro h o g d t os Q E ho ⟨hc, hd⟩ hl k
    exact wpAny_pyNext_tuple_end hh ⟨o, ho, hc, hd⟩ hl (by simp) fun h' he => k h' _ he
  self := by
    rintro i h o g d t os Q E ho ⟨hc, hd⟩ k
    exact wpAny_pyIter_tupleiter ⟨o, ho, hc, hd⟩ k
  nc := by
    rintro i o ⟨hc, hd⟩
    exact ⟨.inl ⟨(by rw [hc]; decide), (by rw [hc]; decide)⟩, (fun fd e => by rw [hd] at e; cases e)⟩

end

-- part L22
section
variable {prog : Program} {w : World} {A : Around} {E : Value → Shared → Prop} {H h₀ h : Heap} {g : Array GenState} {d : Drawn} {t : Nat} {os : OsState} {env : Env}
  {m mg mb : Str → Option Value} {σ : List (Addr × Obj)} {L : Addr} {names : List (Str × NameKind)} {cells : List (Str × Addr)}

theorem sw_of {e : Expr} {gs : List Comprehension} {sc : Scope} {p tp : Pos} {x : Str} {line : Nat} {b : Bool} (V : EnvIs env names L cells)
    (hb : (names.lookup x == some .local && tp.line == p.line && !(sc.names.any fun (n, k) => n == x && (k == .local || k == .cell))) = b) : swapsWith (.ListComp e gs sc p) (some (.Name x tp)) line env = pure b := by
  have e1 : env.blockKind = .function := by unfold Env.blockKind; rw [V.kind]; rfl
  have e2 : env.kindOf x = names.lookup x := by show env.scope.names.lookup x = _; rw [V.names]
  unfold swapsWith
  simp only [pure_bind]
  rw [e1, e2, ← hb]
  rfl
/-- x = [.. for ..], x a local -/
theorem comp_assign {elt iter : Expr} {x y : Str} {px py : Pos} {ifs : List Expr} {scope : Scope} {pos spos : Pos} {cl : List (Str × Addr)} {s : Shared} {Q : Flow → Shared → Prop} (hsw : swapsWith (.ListComp elt [⟨.Name x px, iter, ifs, 0⟩] scope pos) (some (.Name y py)) spos.line env = pure true)
    (hclos : closureFor scope env = pure cl)
    (h' : wpAny (model prog w) A (eval iter env) (fun v s₁ => CompAt (model prog w) A env elt iter x px ifs scope pos cl (some (assign (.Name y py) env)) (fun _ s' => Q .next s') v s₁) NoE s)
    (hkind : scope.kind = .function) (hnames : ∀ x ∈ scope.names, x.2 = .local → scope.names.lookup x.1 = some .local) (hs : ∀ x, foldedSetIterable iter env x = pure x) :
    wpAny (model prog w) A (exec (.Assign [.Name y py] (.ListComp elt [⟨.Name x px, iter, ifs, 0⟩] scope pos) spos) env) Q NoE s := by
  rw [exec_Assign_Name_used _ _ _ _ hsw]
  refine wpAny_bind (wpAny_standAt (wpAny_bind ?_))
  show wpAny _ A (do let _ ← comprehension (.ListComp elt [⟨.Name x px, iter, ifs, 0⟩] scope pos) scope env _ (newList []) false (eval iter env) (some (assign (.Name y py) env))) _ _ s
  refine wpAny_bind (wpAny_mono (wpAny_comprehension_free (use := some (assign (.Name y py) env)) (Q := fun _ s' => Q .next s') rfl hs hclos hkind hnames h') (fun _ s' hq => wpAny_pure (wpAny_pure hq)) fun _ _ e => e)

/-- for over an iterator, its name a cell -/
theorem forc_iter {x : Str} {px : Pos} {body : List Stmt} {it c : Addr} {n : Nat} {St : Nat → Obj → Prop} {P : Nat → Value → Prop} {C : Heap → Prop} {o : Obj} {v₀ : Option Value} {Q : Flow → Shared → Prop} (W : ItOk prog w A it n St P C)
    (I : Nat → (Str → Option Value) → List (Addr × Obj) → Prop) (F : Fx H h₀ L h m ((it, o) :: (c, cellO v₀) :: σ)) (ho : St 0 o) (V : EnvIs env names L cells) (hx : names.lookup x = some .cell) (hc : cells.lookup x = some c) (h0 : I 0 m σ)
    (cond : ∀ i h m σ v, I i m σ → Fx H h₀ L h m ((c, cellO v) :: σ) → C h)
    (turn : ∀ (i : Nat) h t m σ v o, i < n → I i m σ → P i v → St (i + 1) o → Fx H h₀ L h m ((it, o) :: (c, cellO (some v)) :: σ) →
      wpAny (model prog w) A (execs body env) (Turn H h₀ L g d os (fun m' σ' => ∃ v σ₂, σ' = (it, o) :: (c, cellO v) :: σ₂ ∧ I (i + 1) m' σ₂) Q) NoE ⟨h, g, d, t, os⟩)
    (done : ∀ h t m σ v, I n m σ → Fx H h₀ L h m ((c, cellO v) :: σ) → Q .next ⟨h, g, d, t, os⟩) :
    codeAny (model prog w) A (.forLoop (.Name x px) (.ref it) body [] env) (fun r s' => match r with | .ok f => Q f s' | .error _ => False) ⟨h, g, d, t, os⟩ := by
  refine codeAny_forLoop (fun k s' => ∃ h' t' m' σ' i o v, s' = ⟨h', g, d, t', os⟩ ∧ i ≤ n ∧ k = n - i ∧ I i m' σ' ∧ St i o ∧ Fx H h₀ L h' m' ((it, o) :: (c, cellO v) :: σ')) ?_ n ⟨h, t, m, σ, 0, o, v₀, rfl, Nat.zero_le _, rfl, h0, ho, F⟩
  rintro k s' ⟨h', t', m', σ', i, o, v, rfl, hi, rfl, hI, hst, F'⟩
  have hc' := cond i h' m' σ' v hI (F'.weaken (List.sublist_cons_self _ _))
  by_cases hlt : i < n
  · refine W.item i h' o g d t' os _ _ hlt (F'.get (.head _)) hst hc' fun v h₁ o₁ t₁ hP hit₁ hst₁ hs₁ => ?_
    have nc := W.nc _ _ hst₁
    have F2 := F'.upd (σ' := (it, o₁) :: (c, _) :: σ') .head hs₁.extBut hit₁ nc.1 (fun fd e => absurd e (nc.2 fd))
    refine wpAny_assign_Name (n_stc F2 V hx hc (.tail .head) fun h₂ t₂ F3 => ?_)
    refine wpAny_mono (turn i h₂ t₂ m' σ' v o₁ hlt hI hP hst₁ F3) (fun fl s₃ h₃ => ?_) fun _ _ e => e.elim
    cases fl with
    | ret v => exact h₃
    | brk => exact h₃
    | next =>
      obtain ⟨h₄, t₄, m₄, σ₄, rfl, F4, v, σ₂, rfl, hI4⟩ := h₃
      exact ⟨_, by lia, h₄, t₄, m₄, σ₂, i + 1, o₁, v, rfl, hlt, rfl, hI4, hst₁, F4⟩
    | cont =>
      obtain ⟨h₄, t₄, m₄, σ₄, rfl, F4, v, σ₂, rfl, hI4⟩ := h₃
      exact ⟨_, by lia, h₄, t₄, m₄, σ₂, i + 1, o₁, v, rfl, hlt, rfl, hI4, hst₁, F4⟩
  · have hin : i = n := by lia
    subst hin
    exact W.done h' o g d t' os _ _ (F'.get (.head _)) hst hc' fun h₁ t₁ he₁ => wpAny_execs_nil (done h₁ _ m' σ' v hI (F'.forget he₁))
end
theorem bstepG (B j k : Nat) : setN (fun k => if k < j then B + 1 else B) j ((fun k => if k < j then B + 1 else B) j + 1) k ≤ (fun k => if k < j + 1 then B + 1 else B) k := by
  unfold setN
  dsimp only
  repeat' split
  all_goals lia
noncomputable def rowOf (script : List Int) : List Int := (script.take 4).map (fun x => x.fmod 100) ++ [6, 2, 3, 4, 1, 1, 5]
noncomputable def slopeOf (script : List Int) : Int := ((script.take 4).sum + 14).fmod 33 - 16
noncomputable def dueF (row : List Int) (p : Nat) : List Int := ((List.range (p + 1)).filter fun k => decide ((p : Int) < (endsF row row.length).getD k 0)).map fun (k : Nat) => (k : Int)
noncomputable def dueTo (row : List Int) (p n : Nat) : List Int := ((List.range n).filter fun k => decide ((p : Int) < (endsF row row.length).getD k 0)).map fun (k : Nat) => (k : Int)
theorem dueTo_succ (row : List Int) (p n : Nat) : dueTo row p (n + 1) = dueTo row p n ++ (if (p : Int) < (endsF row row.length).getD n 0 then [(n : Int)] else []) := by
  unfold dueTo
  rw [List.range_succ, List.filter_append, List.map_append]
  congr 1
  by_cases h : (p : Int) < (endsF row row.length).getD n 0
  · rw [if_pos h, List.filter_cons, if_pos (decide_eq_true h)]; rfl
  · rw [if_neg h, List.filter_cons, if_neg (by rw [decide_eq_false h]; decide)]; rfl
theorem dueTo_len (row : List Int) (p n : Nat) : (dueTo row p n).length ≤ n := by
  unfold dueTo; rw [List.length_map]
  exact Nat.le_trans (List.length_filter_le _ _) (by simp)
theorem dueF_kept (row : List Int) (p : Nat) : Kept (dueF row p) (p + 1) := by
  unfold dueF
  constructor
  · rw [List.pairwise_map]
    refine List.Pairwise.imp (R := (· < ·)) (fun h => by lia) ?_
    exact List.Pairwise.filter _ List.pairwise_lt_range
  · intro x hx
    obtain ⟨k, hk, rfl⟩ := List.mem_map.mp hx
    have := List.mem_range.mp (List.mem_filter.mp hk).1
    lia
/-- the readers' answers that law asks for -/
noncomputable def agF (row : List Int) (p k : Nat) : Int := if p < k ∨ (k : Int) ∈ dueF row p then 1 else 0
noncomputable def agS (row : List Int) (p k : Nat) : Str := if agF row p k = 1 then "1" else "0"
/-- the state when law has done the points below p -/
noncomputable def stL (row : List Int) : Nat → St
  | 0 => treeF row row.length
  | p + 1 => askTo (askTo (stL row p) none ((treeF row row.length).nm p) row.length) (some "/f") ((treeF row row.length).nm p) row.length
theorem stL_nm (row : List Int) : ∀ p, (stL row p).nm = (treeF row row.length).nm
  | 0 => rfl
  | p + 1 => by
    show (stL row p).nm = _
    exact stL_nm row p
noncomputable def topL (row : List Int) (p : Nat) : List Int := ((treeF row row.length).lst (row.length - 1)).filter fun k => decide (k < (p : Int) + min ((p : Int).fmod 3) 1)
/-- what the plain part has to show -/
structure LawFacts (row : List Int) (sl : Int) : Prop where
  dl : ∀ p k, p < row.length → k ≤ p → ∀ y ∈ dsOf k ((treeF row (p + 1)).nm k), y.length ≤ 1000
  lst : ∀ p, p < row.length → (treeF row row.length).lst p = dueF row p
  ans1 : ∀ p k, p < row.length → k < row.length → (stL row p).ans none ((treeF row row.length).nm p) k = agF row p k
  ans2 : ∀ p k, p < row.length → k < row.length → (askTo (stL row p) none ((treeF row row.length).nm p) row.length).ans (some "/f") ((treeF row row.length).nm p) k = agF row p k
  hit1 : ∀ p, p < row.length → touchF row sl p ∈ dueF row p ∧ srF (searchF (dueF row p) (flatF sl row) 1) p = matchF (dueF row p) (touchF row sl p) 1
  hit2 : ∀ p, p < row.length → ∀ M : Int, M ∈ 0 :: topL row p → (∀ a, a ∈ 0 :: topL row p → a ≤ M) → touchF row 0 M.toNat ∈ (treeF row row.length).lst (row.length - 1) ∧
    srF (searchF ((treeF row row.length).lst (row.length - 1)) (flatF 0 row) ((p : Int).fmod 3)) p = matchF ((treeF row row.length).lst (row.length - 1)) (touchF row 0 M.toNat) ((p : Int).fmod 3)
theorem gl_law {w : World} {H : Heap} {mg mb : Str → Option Value} (G : Glb w H mg mb) : mg "law" = some (.ref 147) := G.glob (by kernel_rfl)
/-- the state ahead of and behind the two rounds at a point -/
noncomputable def stP (row : List Int) (i : Nat) : Nat → St
  | 0 => stL row i
  | 1 => askTo (stL row i) none ((treeF row row.length).nm i) row.length
  | _ => stL row (i + 1)
noncomputable def fileP : Nat → Option Str
  | 0 => none
  | _ => some "/f"
theorem stP_nm (row : List Int) (i : Nat) : ∀ j, (stP row i j).nm = (treeF row row.length).nm
  | 0 => stL_nm row i
  | 1 => stL_nm row i
  | _ + 2 => stL_nm row (i + 1)
theorem stP_succ (row : List Int) (i : Nat) : ∀ j, j < 2 → stP row i (j + 1) = askTo (stP row i j) (fileP j) ((treeF row row.length).nm i) row.length
  | 0, _ => rfl
  | 1, _ => rfl
  | _ + 2, h => by lia
theorem LawFacts.ans {row : List Int} {sl : Int} (LF : LawFacts row sl) {i : Nat} (hi : i < row.length) : ∀ j, j < 2 → ∀ k, k < row.length → (stP row i j).ans (fileP j) ((treeF row row.length).nm i) k = agF row i k
  | 0, _, k, hk => LF.ans1 i k hi hk
  | 1, _, k, hk => LF.ans2 i k hi hk
  | _ + 2, h, _, _ => by lia
theorem agF_01 (row : List Int) (p k : Nat) : agF row p k = 0 ∨ agF row p k = 1 := by unfold agF; split <;> simp
theorem agS_ok (row : List Int) (p n : Nat) : ∀ x ∈ (List.range n).map (agS row p), PyData.strOk x = true := by
  intro x hx
  obtain ⟨k, _, rfl⟩ := List.mem_map.mp hx
  unfold agS
  split <;> decide +kernel
theorem file_at {v : Value} {uf : Tok} {j : Nat} (hv : [Value.none, .str "/f" uf][j]? = some v) : j < 2 ∧ ∃ fl : Option (Str × Tok), v = fileV fl ∧ fl.map (·.1) = fileP j := by
  match j with
  | 0 => cases hv; exact ⟨by decide, none, rfl, rfl⟩
  | 1 => cases hv; exact ⟨by decide, some ("/f", uf), rfl, rfl⟩
  | j + 2 => simp at hv
theorem strValues_snoc {l : List (Str × Tok)} {f : Nat → Str} {n : Nat} {u : Tok} (hl : l.map (·.1) = (List.range n).map f) : strValues l ++ [.str (f n) u] = strValues (l ++ [(f n, u)]) ∧ (l ++ [(f n, u)]).map (·.1) = (List.range (n + 1)).map f := by
  refine ⟨(strValues_append l (f n, u)).symm, ?_⟩
  rw [List.map_append, hl, List.range_succ, List.map_append]; rfl

-- part P7
theorem bad_nil (row : List Int) (k e : Nat) : badL row k e k = [] ↔ ∀ a : Int, 0 ≤ a → a < k → 0 < Dt (Rw row) a k e := by
  unfold badL
  rw [List.map_eq_nil_iff, List.filter_eq_nil_iff]
  constructor
  · intro h a h0 h1
    have := h a.toNat (List.mem_range.mpr (by lia))
    unfold badC at this
    rw [decide_eq_true_eq, show ((a.toNat : Nat) : Int) = a by lia] at this
    unfold Dt Rw
    rw [Int.toNat_natCast, Int.toNat_natCast]
    lia
  · intro h a ha
    have := h a (by lia) (by have := List.mem_range.mp ha; lia)
    unfold Dt Rw at this
    rw [Int.toNat_natCast, Int.toNat_natCast, Int.toNat_natCast] at this
    unfold badC
    rw [decide_eq_true_eq]
    lia
theorem endF_spec (row : List Int) (k : Nat) : ∀ (m e : Nat), e + m = row.length → e ≤ endF row k m e ∧ endF row k m e ≤ row.length ∧ (∀ x, e ≤ x → x < endF row k m e → badL row k x k = []) ∧ (endF row k m e < row.length → badL row k (endF row k m e) k ≠ [])
  | 0, e, h => ⟨Nat.le_refl _, by show e ≤ _; lia, fun x h1 h2 => absurd (show x < e from h2) (by lia), fun q => absurd (show e < row.length from q) (by lia)⟩
  | m + 1, e, h => by
    unfold endF
    split
    · rename_i hc
      obtain ⟨h1, h2, h3, h4⟩ := endF_spec row k m (e + 1) (by lia)
      refine ⟨by lia, h2, fun x g1 g2 => ?_, h4⟩
      rcases Nat.lt_or_eq_of_le g1 with q | q
      · exact h3 x q g2
      · subst q; exact hc.2
    · rename_i hc
      refine ⟨Nat.le_refl _, by lia, fun x g1 g2 => by lia, fun q g => hc ⟨q, g⟩⟩
theorem ends_iff {row : List Int} {k p : Nat} (hk : k ≤ p) (hp : p < row.length) : (p : Int) < (endsF row row.length).getD k 0 ↔ Vx (Rw row) p k := by
  have e : (endsF row row.length).getD k 0 = ((endF row k (row.length - (k + 1)) (k + 1) : Nat) : Int) := by
    unfold endsF
    have hk' : k < row.length := by lia
    simp [hk']
  rw [e]
  obtain ⟨h1, h2, h3, h4⟩ := endF_spec row k (row.length - (k + 1)) (k + 1) (by lia)
  generalize endF row k (row.length - (k + 1)) (k + 1) = E at h1 h2 h3 h4
  constructor
  · intro h
    refine ⟨by lia, by lia, fun a x h0 g1 g2 g3 => ?_⟩
    have hx := (bad_nil row k x.toNat).mp (h3 x.toNat (by lia) (by lia)) a h0 g1
    rwa [show ((x.toNat : Nat) : Int) = x by lia] at hx
  · intro h
    rcases Nat.lt_or_ge p E with q | q
    · lia
    · exfalso
      refine h4 (by lia) ((bad_nil row k E).mpr fun a h0 g1 => h.2.2 a E h0 g1 (by lia) (by lia))
theorem mem_dueF {row : List Int} {p : Nat} (hp : p < row.length) (x : Int) : x ∈ dueF row p ↔ Vx (Rw row) p x := by
  unfold dueF
  rw [List.mem_map]
  constructor
  · rintro ⟨k, hk, rfl⟩
    have := List.mem_filter.mp hk
    exact (ends_iff (by have := List.mem_range.mp this.1; lia) hp).mp (of_decide_eq_true this.2)
  · intro h
    have h1 := h.1
    have h2 := h.2.1
    refine ⟨x.toNat, List.mem_filter.mpr ⟨List.mem_range.mpr (by lia), decide_eq_true ((ends_iff (by lia) hp).mpr ?_)⟩, by lia⟩
    rwa [show ((x.toNat : Nat) : Int) = x by lia]
theorem lst_due {row : List Int} {p : Nat} (hp : p < row.length) : (treeF row row.length).lst p = dueF row p := by
  have T := tInv row row.length
  refine kept_ext (T.kept p hp).1 (dueF_kept row p).1 fun x => ?_
  rw [T.mem p hp x, mem_dueF hp x]
theorem nm_ne {row : List Int} {i j : Nat} (hi : i < row.length) (hj : j < row.length) (h : i ≠ j) : (treeF row row.length).nm i ≠ (treeF row row.length).nm j := by
  intro e
  have T := tInv row row.length
  have h1 := T.name i hi
  rw [e] at h1
  have hl := h1.inj (T.name j hj)
  have a1 : (i : Int) ∈ (treeF row row.length).lst j := by rw [← hl]; exact (T.mem i hi _).mpr (Vx.last (by lia))
  have a2 : (j : Int) ∈ (treeF row row.length).lst i := by rw [hl]; exact (T.mem j hj _).mpr (Vx.last (by lia))
  have := (T.kept j hj).2 _ a1
  have := (T.kept i hi).2 _ a2
  lia
theorem askTo_other (s : St) (file : Option Str) (name x : Str) (n k : Nat) (h : x ≠ name) : (askTo s file name n).ca k x = s.ca k x := by
  show (if k < n then putC (s.ca k) name _ else s.ca k) x = _
  split
  · exact if_neg h
  · rfl
theorem stL_ca (row : List Int) : ∀ i j, i ≤ j → j < row.length → ∀ k, (stL row i).ca k ((treeF row row.length).nm j) = (treeF row row.length).ca k ((treeF row row.length).nm j)
  | 0, _, _, _, _ => rfl
  | i + 1, j, hij, hj, k => by
    have hne := nm_ne (row := row) (i := j) (j := i) hj (by lia) (by lia)
    show (askTo (askTo (stL row i) none _ row.length) (some "/f") _ row.length).ca k _ = _
    rw [askTo_other _ _ _ _ _ _ hne, askTo_other _ _ _ _ _ _ hne]
    exact stL_ca row i j (by lia) hj k
theorem ans1 {row : List Int} {p k : Nat} (hp : p < row.length) : (stL row p).ans none ((treeF row row.length).nm p) k = agF row p k := by
  have T := tInv row row.length
  have hc := stL_ca row p p (Nat.le_refl _) hp k
  rw [T.cache p hp k, lst_due hp] at hc
  unfold St.ans agF
  by_cases hk : k ≤ p
  · rw [if_pos hk] at hc
    rw [ask_old hc]
    by_cases hm : (k : Int) ∈ dueF row p
    · rw [if_pos hm, if_pos (.inr hm)]
    · rw [if_neg hm, if_neg (by rintro (q | q)
                                · lia
                                · exact hm q)]
  · rw [if_neg hk] at hc
    rw [ask_none _ _ _ _ hc, if_pos (.inl (by lia))]
theorem ans2 {row : List Int} {p k : Nat} (hp : p < row.length) (hk : k < row.length) : (askTo (stL row p) none ((treeF row row.length).nm p) row.length).ans (some "/f") ((treeF row row.length).nm p) k = agF row p k := by
  have hc : (askTo (stL row p) none ((treeF row row.length).nm p) row.length).ca k ((treeF row row.length).nm p) = some (agF row p k) := by
    show (if k < row.length then putC ((stL row p).ca k) _ ((stL row p).ans none ((treeF row row.length).nm p) k) else _) _ = _
    rw [if_pos hk, ans1 hp]
    exact if_pos rfl
  unfold St.ans
  exact ask_old hc
/-- the place of the first least value -/
theorem touch_low (row : List Int) (s : Int) : ∀ n : Nat, (∀ x, 0 ≤ x → x < touchF row s n → Rw row (touchF row s n) - s * touchF row s n < Rw row x - s * x) ∧ (∀ x, touchF row s n ≤ x → x ≤ n → Rw row (touchF row s n) - s * touchF row s n ≤ Rw row x - s * x)
  | 0 => ⟨fun x h1 h2 => absurd (show x < 0 from h2) (by lia), fun x h1 h2 => by
      have : x = 0 := by have h3 : (0 : Int) ≤ x := h1; simp at h2; lia
      subst this; exact Int.le_refl _⟩
  | n + 1 => by
    obtain ⟨h1, h2⟩ := touch_low row s n
    have hb := touchF_le row s n
    have eR : Rw row (touchF row s n) = row.getD (touchF row s n).toNat 0 := rfl
    have eN : Rw row ((n + 1 : Nat) : Int) = row.getD (n + 1) 0 := by unfold Rw; rw [Int.toNat_natCast]
    by_cases hc : row.getD (n + 1) 0 - s * ((n + 1 : Nat) : Int) < row.getD (touchF row s n).toNat 0 - s * touchF row s n
    · have e : touchF row s (n + 1) = ((n + 1 : Nat) : Int) := by
        conv => lhs; unfold touchF
        rw [if_pos hc]
      rw [e, eN]
      rw [← eR] at hc
      refine ⟨fun x g1 g2 => ?_, fun x g1 g2 => ?_⟩
      · rcases Int.lt_or_le x (touchF row s n) with q | q
        · have := h1 x g1 q; lia
        · have := h2 x q (by push_cast at g2; lia); lia
      · have : x = ((n + 1 : Nat) : Int) := by lia
        subst this; rw [eN]; exact Int.le_refl _
    · have e : touchF row s (n + 1) = touchF row s n := by
        conv => lhs; unfold touchF
        rw [if_neg hc]
      rw [e]
      rw [← eR] at hc
      refine ⟨h1, fun x g1 g2 => ?_⟩
      rcases Int.lt_or_le x ((n : Int) + 1) with q | q
      · exact h2 x g1 (by lia)
      · have : x = ((n + 1 : Nat) : Int) := by push_cast at g2 ⊢; lia
        subst this; rw [eN]; lia
theorem touch_vx (row : List Int) (s : Int) (n : Nat) : Vx (Rw row) n (touchF row s n) := by
  have hb := touchF_le row s n
  obtain ⟨h1, h2⟩ := touch_low row s n
  refine ⟨hb.1, hb.2, fun a e h0 g1 g2 g3 => ?_⟩
  refine Dt_low (α := 1) (β := s) (by decide) g1 g2 ?_ ?_
  · rw [Int.one_mul, Int.one_mul]; exact h1 a h0 g1
  · rw [Int.one_mul, Int.one_mul]; exact h2 e (by lia) g3
/-- search_reverse against the place that is touched -/
theorem hit_spec {row h : List Int} {n s : Nat} {sl col t : Int} (hK : Kept h n) (hconv : ∀ i j k, i < j → j < k → k < h.length → 0 < Dt (Rw row) (h.getD i 0) (h.getD j 0) (h.getD k 0)) (ht : t ∈ h)
    (hmin : ∀ x ∈ h, x < t → Rw row t - sl * t < Rw row x - sl * x) (hcond : 0 < t → t ≤ col ∧ (s = 0 → t < col)) (h0 : ∀ x ∈ h, 0 ≤ x)
    (hstop : ∀ x ∈ h, t < x → Rw row t - sl * t ≤ Rw row x - sl * x ∨ ¬ (x ≤ col ∧ (s = 0 → x < col))) : srF (searchF h (flatF sl row) (s : Int)) col = matchF h t (s : Int) := by
  have hN : h.idxOf t < h.length := List.idxOf_lt_length_iff.mpr ht
  have hNt : h.getD (h.idxOf t) 0 = t := by simp [hN]
  generalize hNN : h.idxOf t = N at hN hNt
  have hEd : ∀ i, Ed h (flatF sl row) i ↔ Rw row (h.getD i 0) - sl * h.getD i 0 < Rw row (h.getD (i - 1) 0) - sl * h.getD (i - 1) 0 := fun i => flat_iff row sl _ _
  have hpre : ∀ i, 1 ≤ i → i + 1 < h.length → Ed h (flatF sl row) (i + 1) → Ed h (flatF sl row) i := by
    intro i h1 h2 he
    rw [hEd] at he ⊢
    rw [Nat.add_sub_cancel] at he
    exact falls_before (hK.lt (by lia) (by lia)) (hK.lt (by lia) h2) (hconv (i - 1) i (i + 1) (by lia) (by lia) h2) (.inr he)
  have hT : ∀ i, 1 ≤ i → i ≤ N → Ed h (flatF sl row) i := by
    intro i h1 h2
    rw [hEd]
    have hlt := hK.lt (i := i - 1) (j := N) (by lia) hN
    rw [hNt] at hlt
    have hm := hmin _ (getD_mem' (i := i - 1) (by lia)) hlt
    rcases Nat.lt_or_eq_of_le h2 with q | q
    · refine falls_before (c := h.getD N 0) (hK.lt (by lia) (by lia)) (hK.lt q hN) (hconv (i - 1) i N (by lia) q hN) (.inl ?_)
      rw [hNt]; exact hm
    · subst q; rw [hNt]; exact hm
  have hsr := sr_main (s := s) (col := col) hK hpre N hN hT (fun q => by
      rw [hNt]
      refine hcond ?_
      have := hK.lt (i := 0) (j := N) (by lia) hN
      have := (hK.getD (i := 0) (by lia)).1
      lia) (fun q => by
      have hlt := hK.lt (i := N) (j := N + 1) (by lia) q
      rw [hNt] at hlt
      rcases hstop _ (getD_mem' q) hlt with g | g
      · left
        rw [hEd, Nat.add_sub_cancel, hNt]; lia
      · exact .inr g)
  rw [hsr]
  unfold matchF
  rw [hNN]
  dsimp only
  have hu : max (1 : Int) (s : Int) = ((max 1 s : Nat) : Int) := by lia
  have hf : ((N : Nat) : Int).fmod (max 1 (s : Int)) = ((N % max 1 s : Nat) : Int) := by
    rw [hu, Int.fmod_eq_emod_of_nonneg _ (by lia)]; rfl
  have hle := Nat.mod_le N (max 1 s)
  rw [hf]
  by_cases hz : N - N % max 1 s = 0
  · rw [if_pos hz, if_pos (by lia)]
  · rw [if_neg hz, if_neg (by lia)]
    congr 2
    · congr 1; lia
    · congr 1; lia

-- part P8
theorem hit1_ok {row : List Int} {p : Nat} (hp : p < row.length) (sl : Int) : touchF row sl p ∈ dueF row p ∧ srF (searchF (dueF row p) (flatF sl row) 1) p = matchF (dueF row p) (touchF row sl p) 1 := by
  have hb := touchF_le row sl p
  obtain ⟨l1, l2⟩ := touch_low row sl p
  have ht : touchF row sl p ∈ dueF row p := (mem_dueF hp _).mpr (touch_vx row sl p)
  have hK := dueF_kept row p
  refine ⟨ht, ?_⟩
  exact hit_spec (s := 1) hK (fun i j k hij hjk hk => ((mem_dueF hp _).mp (getD_mem' (i := j) (by lia))).2.2 _ _ (hK.getD (i := i) (by lia)).1 (hK.lt hij (by lia)) (hK.lt hjk hk) (by have := (hK.getD hk).2; lia)) ht
    (fun x hx hlt => l1 x (hK.2 x hx).1 hlt) (fun _ => ⟨hb.2, fun e => by cases e⟩) (fun x hx => (hK.2 x hx).1) (fun x hx hlt => .inl (l2 x (by lia) (by have := (hK.2 x hx).2; lia)))
theorem hit2_ok {row : List Int} {p : Nat} (hp : p < row.length) (M : Int) (h1 : M ∈ 0 :: topL row p) (h2 : ∀ a, a ∈ 0 :: topL row p → a ≤ M) : touchF row 0 M.toNat ∈ (treeF row row.length).lst (row.length - 1) ∧
    srF (searchF ((treeF row row.length).lst (row.length - 1)) (flatF 0 row) ((p : Int).fmod 3)) p = matchF ((treeF row row.length).lst (row.length - 1)) (touchF row 0 M.toNat) ((p : Int).fmod 3) := by
  have T := tInv row row.length
  have hmem := T.mem (row.length - 1) (by lia)
  have hK := T.kept (row.length - 1) (by lia)
  have htop : topL row p = ((treeF row row.length).lst (row.length - 1)).filter fun k => decide (k < (p : Int) + min ((p : Int).fmod 3) 1) := rfl
  generalize (treeF row row.length).lst (row.length - 1) = kk at hmem hK htop ⊢
  have hs : (p : Int).fmod 3 = ((p % 3 : Nat) : Int) := by rw [Int.fmod_eq_emod_of_nonneg _ (by decide)]; rfl
  have hs3 : p % 3 < 3 := Nat.mod_lt _ (by decide)
  rw [hs] at htop ⊢
  generalize p % 3 = s at htop hs3 ⊢
  have hM0 : 0 ≤ M := h2 0 (.head _)
  have hMk : Vx (Rw row) ((row.length - 1 : Nat) : Int) M := by
    rcases List.mem_cons.mp h1 with e | e
    · rw [e]; exact Vx.first (by lia)
    · rw [htop] at e; exact (hmem M).mp (List.mem_filter.mp e).1
  have hMn : ((M.toNat : Nat) : Int) = M := by lia
  have hb := touchF_le row 0 M.toNat
  obtain ⟨l1, l2⟩ := touch_low row 0 M.toNat
  have hv := touch_vx row 0 M.toNat
  rw [hMn] at hv hb l2
  have ht : touchF row 0 M.toNat ∈ kk := (hmem _).mpr (hMk.of_le hv)
  refine ⟨ht, ?_⟩
  refine hit_spec hK (fun i j k hij hjk hk => ((hmem _).mp (getD_mem' (i := j) (by lia))).2.2 _ _ (hK.getD (i := i) (by lia)).1 (hK.lt hij (by lia)) (hK.lt hjk hk) (by have := (hK.getD hk).2; lia)) ht
    (fun x hx hlt => l1 x (hK.2 x hx).1 hlt) (fun hpos => ?_) (fun x hx => (hK.2 x hx).1) (fun x hx hlt => ?_)
  · rcases List.mem_cons.mp h1 with e | e
    · lia
    · rw [htop] at e
      have hlt := of_decide_eq_true (List.mem_filter.mp e).2
      exact ⟨by lia, fun e0 => by lia⟩
  · rcases Int.lt_or_le M x with q | q
    · right
      rintro ⟨g1, g2⟩
      have hx2 : x ∈ topL row p := by
        rw [htop]
        refine List.mem_filter.mpr ⟨hx, decide_eq_true ?_⟩
        rcases Nat.eq_zero_or_pos s with hs0 | hs0
        · have := g2 hs0; lia
        · lia
      have := h2 x (.tail _ hx2)
      lia
    · exact .inl (l2 x (by lia) q)
theorem lawFacts (script : List Int) : LawFacts (rowOf script) (slopeOf script) := by
  have hl : (rowOf script).length ≤ 11 := by unfold rowOf; simp; lia
  generalize slopeOf script = sl
  generalize rowOf script = row at hl ⊢
  refine ⟨fun p k hp hk => ?_, fun p hp => lst_due hp, fun p k hp _ => ans1 hp, fun p k hp hk => ans2 hp hk, fun p hp => hit1_ok hp sl, fun p hp M a b => hit2_ok hp M a b⟩
  have T := tInv row (p + 1)
  have O := treeOk row (p + 1) (by lia)
  exact dsOf_short (T.name k (by lia)) (by have := O.len k (by lia); lia)

-- part L23
/-- None or a pair, told -/
noncomputable def SpanIs (φ : List (Addr × Obj)) (v : Value) (r : Option (Int × Int)) : Prop := match r with
  | none => v = .none
  | some (a, b) => ∃ T u u', v = .ref T ∧ (T, tupO [.int a u, .int b u']) ∈ φ
theorem SpanIs.mono {φ φ' : List (Addr × Obj)} {v : Value} {r : Option (Int × Int)} (x : SpanIs φ v r) (k : ∀ p ∈ φ, p ∈ φ') : SpanIs φ' v r := by
  cases r with
  | none => exact x
  | some q => obtain ⟨T, u, u', e, y⟩ := x; exact ⟨T, u, u', e, k _ y⟩
theorem FoundQ.of {prog : Program} {w : World} {H h₁ : Heap} {g : Array GenState} {d : Drawn} {os : OsState} {r : Option (Int × Int)} {Q : Value → Shared → Prop}
    (k : ∀ v φ h' t', FoundIs prog w H φ v r → Kp H h₁ h' → Fresh H h₁ h' φ → Q v ⟨h', g, d, t', os⟩) : FoundQ prog w H h₁ g d os r Q := by
  intro h' t' k1
  cases r with
  | none => exact k .none [] h' t' rfl k1 Fresh.nil
  | some q => exact fun hit φ ho fr => k (.ref hit) φ h' t' ⟨hit, rfl, ho⟩ k1 fr
theorem MatchQ.of {H h₁ : Heap} {g : Array GenState} {d : Drawn} {os : OsState} {r : Option (Int × Int)} {Q : Value → Shared → Prop}
    (k : ∀ v φ h' t', SpanIs φ v r → Kp H h₁ h' → Fresh H h₁ h' φ → Q v ⟨h', g, d, t', os⟩) : MatchQ H h₁ g d os r Q := by
  intro h' t' k1
  cases r with
  | none => exact k .none [] h' t' rfl k1 Fresh.nil
  | some q => exact fun T u v fr => k (.ref T) _ h' t' ⟨T, u, v, rfl, .head _⟩ k1 fr
section
variable {prog : Program} {w : World} {A : Around} {E : Value → Shared → Prop} {H h₀ h : Heap} {g : Array GenState} {d : Drawn} {t : Nat} {os : OsState} {env : Env}
  {m mg mb : Str → Option Value} {σ : List (Addr × Obj)} {L : Addr} {names : List (Str × NameKind)} {cells : List (Str × Addr)}

theorem exec_two {M : Model} {s1 s2 : Stmt} {rest : List Stmt} {s : Shared} {Q : Flow → Shared → Prop} (P : Shared → Prop)
    (h1 : wpAny M A (exec s1 env) (fun fl s => fl = .next ∧ wpAny M A (exec s2 env) (fun fl s' => fl = .next ∧ P s') NoE s) NoE s) (h2 : ∀ s', P s' → wpAny M A (execs rest env) Q NoE s') : wpAny M A (execs (s1 :: s2 :: rest) env) Q NoE s := by
  refine wpAny_execs_cons (wpAny_mono h1 (fun fl s₁ h₁ => ?_) fun _ _ e => e)
  obtain ⟨rfl, h₁⟩ := h₁
  refine wpAny_execs_cons (wpAny_mono h₁ (fun fl s₂ h₂ => ?_) fun _ _ e => e)
  obtain ⟨rfl, h₂⟩ := h₂
  exact h2 s₂ h₂

/-- None if hit is None else hit.span() -/
theorem x_span {vh : Value} {r : Option (Int × Int)} {p1 p2 p3 p4 p5 p6 p7 p8 : Pos} {k1 k2 : Nat} {Q : Value → Shared → Prop} (K0 : Kp H H h₀) (R : Rm A 2) (F : Fx H h₀ L h m σ) (V : EnvIs env names L cells) (hl : names.lookup (Str.ofString "hit") = some .local) (hv : m "hit" = some vh) (hf : FoundIs prog w H σ vh r)
    (hpos : (p5.endLine == p6.line) = true) (k : ∀ v φ h' t', SpanIs φ v r → Fx H h₀ L h' m (φ ++ σ) → Q v ⟨h', g, d, t', os⟩) :
    wpAny (model prog w) A (eval (.IfExp (.Compare (.Name "hit" p1) [.Is] [.Constant .none k1 p2] p3) (.Constant .none k2 p4) (.Call (.Attribute (.Name "hit" p7) "span" p5) [] [] p6) p8) env) Q E ⟨h, g, d, t, os⟩ := by
  refine wpAny_IfExp (wpAny_isTrue_Compare1 ?_ rfl)
  refine n_local F V hl hv ?_ rfl
  refine c_none ?_
  cases r with
  | none =>
    rw [show vh = .none from hf]
    refine wpAny_is_self rfl (wpAny_truthy_bool (if_t (c_none ?_)))
    exact k .none [] h t rfl F
  | some q =>
    obtain ⟨a, b⟩ := q
    obtain ⟨hit, rfl, fd1, D1, oD1, mD1, sz1, sp1, fdS1, e1, e2, e3, e4, e5, c1⟩ := hf
    refine wpAny_is_other rfl nofun (wpAny_truthy_bool (if_f ?_))
    refine x_meth (n_local F V hl hv ?_ rfl) rfl rfl (by decide) hpos
    refine fn_method (F.get e1) (e3.ns (F.get e2)) e4 flk_span rfl fun t₆ => ?_
    refine cw_fn (aa_nil ?_) rfl (by decide)
    refine ⟨⟨_, _, F.get e5, rfl⟩, c1 A _ g d _ os _ _ (K0.trans F.kp) F.has F.size (R.le (by decide)) fun TT h₅ t₇ u' v' k5 fr5 => ?_⟩
    exact k (.ref TT) _ h₅ t₇ ⟨TT, u', v', rfl, .head _⟩ (F.take k5 fr5)

/-- two that tell the same, != -/
theorem ne_span {v1 v2 : Value} {r : Option (Int × Int)} {Q : Value → Shared → Prop} (R : Rm A 9) (F : Fx H h₀ L h m σ) (x1 : SpanIs σ v1 r) (x2 : SpanIs σ v2 r) (k : Q (.bool false) ⟨h, g, d, t, os⟩) : wpAny (model prog w) A (compareOp .NotEq v1 v2) Q E ⟨h, g, d, t, os⟩ := by
  cases r with
  | none => rw [show v1 = .none from x1, show v2 = .none from x2]; exact ne_nones R k
  | some q =>
    obtain ⟨T, u, u', rfl, m1⟩ := x1
    obtain ⟨T', w, w', rfl, m2⟩ := x2
    exact ne_pair R (F.get m1) (F.get m2) k
end
theorem filter_take_succ {l : List Int} {p : Int → Bool} {j : Nat} (hj : j < l.length) : (l.take (j + 1)).filter p = (l.take j).filter p ++ (if p (l.getD j 0) = true then [l.getD j 0] else []) := by
  have e : l.take (j + 1) = l.take j ++ [l.getD j 0] := by
    rw [List.take_succ, List.getElem?_eq_getElem hj]; simp [hj]
  rw [e, List.filter_append]
  congr 1
  rw [List.filter_cons, List.filter_nil]

-- part L24
theorem RdAt.nso {prog : Program} {w : World} {nm : Nat → Str} {ca : Nat → Str → Option Int} {b : Nat → Nat} {ρ : List Rd} (X : RdAt prog w nm ca b ρ) {k : Nat} {r : Rd} (e : ρ[k]? = some r) : ∃ mI sz, NsO r.od mI sz ∧ mI "names" = none := by
  obtain ⟨ys, ds, ok, _, _⟩ := X.rd k r e
  obtain ⟨mI, sz, n, _, _, _, h⟩ := ok.ns
  exact ⟨mI, sz, n, h⟩
/-- law's loop over the points -/
inductive LawI (prog : Program) (w : World) (row : List Int) (L Rr Ll ra : Addr) (fx : List (Addr × Obj)) (ρ : List Rd) (sl : Int) (us : Tok) (i : Nat) : (Str → Option Value) → List (Addr × Obj) → Prop
  | mk {m : Str → Option Value} (vs vp vd : Option Value) (ρ' : List Rd) (hx : ρ'.map (·.x) = ρ.map (·.x)) (Y : RdAt prog w (treeF row row.length).nm (stL row i).ca (fun _ => row.length + 1 + 2 * i) ρ')
      (m1 : m "readers" = some (.ref Rr)) (m2 : m "lists" = some (.ref Ll)) (m3 : m "row" = some (.ref ra)) (m4 : m "slope" = some (.int sl us)) :
      LawI prog w row L Rr Ll ra fx ρ sl us i m ((L + 1 + 1 + 1 + 1 + 1 + 1, cellO vs) :: (L + 1 + 1 + 1 + 1 + 1, cellO vp) :: (L + 1 + 1 + 1 + 1, cellO vd) :: (fx ++ ρ'.flatMap rdσ))
/-- law's loop over the two files -/
inductive LawP (prog : Program) (w : World) (row : List Int) (Rr Ll ra : Addr) (p1 p2 p3 p4 p5 p6 : Addr × Obj) (fx : List (Addr × Obj)) (ρ : List Rd) (sl : Int) (us : Tok) (i j : Nat) : (Str → Option Value) → List (Addr × Obj) → Prop
  | mk {m : Str → Option Value} (ρ₂ : List Rd) (hx : ρ₂.map (·.x) = ρ.map (·.x)) (Y : RdAt prog w (treeF row row.length).nm (stP row i j).ca (fun _ => row.length + 1 + 2 * i + j) ρ₂)
      (m1 : m "readers" = some (.ref Rr)) (m2 : m "lists" = some (.ref Ll)) (m3 : m "row" = some (.ref ra)) (m4 : m "slope" = some (.int sl us)) :
      LawP prog w row Rr Ll ra p1 p2 p3 p4 p5 p6 fx ρ sl us i j m (p1 :: p2 :: p3 :: p4 :: p5 :: p6 :: (fx ++ ρ₂.flatMap rdσ))
/-- law's round over the readers -/
inductive LawC (prog : Program) (w : World) (row : List Int) (p1 p2 p3 p4 p5 p6 p7 p8 : Addr × Obj) (fx : List (Addr × Obj)) (ρ : List Rd) (i j k : Nat) : List Value → List (Addr × Obj) → Prop
  | mk (ρ₃ : List Rd) (l : List (Str × Tok)) (hx : ρ₃.map (·.x) = ρ.map (·.x))
      (Y : RdAt prog w (treeF row row.length).nm (askTo (stP row i j) (fileP j) ((treeF row row.length).nm i) k).ca (fun x => if x < k then row.length + 1 + 2 * i + j + 1 else row.length + 1 + 2 * i + j) ρ₃) (hl : l.map (·.1) = (List.range k).map (agS row i)) :
      LawC prog w row p1 p2 p3 p4 p5 p6 p7 p8 fx ρ i j k (strValues l) (p1 :: p2 :: p3 :: p4 :: p5 :: p6 :: p7 :: p8 :: (fx ++ ρ₃.flatMap rdσ))
/-- the written texts -/
inductive LawD (row : List Int) (σ : List (Addr × Obj)) (i k : Nat) : List Value → List (Addr × Obj) → Prop
  | mk (l : List (Str × Tok)) (hl : l.map (·.1) = (List.range k).map (agS row i)) : LawD row σ i k (strValues l) σ
/-- behind the first search -/
inductive LawM (H h : Heap) (L Rr Ll ra : Addr) (sl : Int) (us : Tok) (g : Array GenState) (d : Drawn) (os : OsState) (σ : List (Addr × Obj)) : Shared → Prop
  | mk (hh : Heap) (tt : Nat) (m : Str → Option Value) (m1 : m "readers" = some (.ref Rr)) (m2 : m "lists" = some (.ref Ll)) (m3 : m "row" = some (.ref ra)) (m4 : m "slope" = some (.int sl us)) (F : Fx H h L hh m σ) : LawM H h L Rr Ll ra sl us g d os σ ⟨hh, g, d, tt, os⟩
/-- what law has made ahead of its loop -/
structure LawFx (L De ra Nn Rr Ll : Addr) (es : List Value) (ke : Nat) (rs : List Value) (ns : List (Str × Tok)) (kn : Nat) (xs : List Addr) (kr : Nat) (δ : List (Addr × List Value × Nat)) (kl : Nat) (fx : List (Addr × Obj)) : Prop where
  f1 : (L + 1 + 1, cellO (some (.ref De))) ∈ fx
  f2 : (L + 1, cellO (some (.ref Nn))) ∈ fx
  f3 : (De, listO es ke) ∈ fx
  f4 : (ra, listO rs) ∈ fx
  f5 : (Nn, listO (strValues ns) kn) ∈ fx
  f6 : (Rr, listO (xs.map .ref) kr) ∈ fx
  f7 : (Ll, listO (δ.map fun q => .ref q.1) kl) ∈ fx
  f8 : ∀ q ∈ δ, (q.1, listO q.2.1 q.2.2) ∈ fx
theorem LawC.snoc {prog : Program} {w : World} {row : List Int} {p1 p2 p3 p4 p5 p6 p7 p8 : Addr × Obj} {fx : List (Addr × Obj)} {ρ ρ₃ : List Rd} {i j k : Nat} {l : List (Str × Tok)} {z : Tok} (hx : ρ₃.map (·.x) = ρ.map (·.x))
    (Y : RdAt prog w (treeF row row.length).nm (askTo (stP row i j) (fileP j) ((treeF row row.length).nm i) (k + 1)).ca (fun x => if x < k + 1 then row.length + 1 + 2 * i + j + 1 else row.length + 1 + 2 * i + j) ρ₃) (hl : l.map (·.1) = (List.range k).map (agS row i)) :
    LawC prog w row p1 p2 p3 p4 p5 p6 p7 p8 fx ρ i j (k + 1) (strValues l ++ [.str (agS row i k) z]) (p1 :: p2 :: p3 :: p4 :: p5 :: p6 :: p7 :: p8 :: (fx ++ ρ₃.flatMap rdσ)) := by
  rw [(strValues_snoc hl).1]; exact .mk _ _ hx Y (strValues_snoc hl).2
theorem LawD.snoc {row : List Int} {σ : List (Addr × Obj)} {i k : Nat} {l : List (Str × Tok)} {z : Tok} {x : Str} (hl : l.map (·.1) = (List.range k).map (agS row i)) (e : agS row i k = x) : LawD row σ i (k + 1) (strValues l ++ [.str x z]) σ := by
  rw [← e, (strValues_snoc hl).1]; exact .mk _ (strValues_snoc hl).2

-- part F15
section
variable {prog : Program} {w : World} {A : Around} {E : Value → Shared → Prop} {H h : Heap} {g : Array GenState} {d : Drawn} {t : Nat} {os : OsState} {mg mb : Str → Option Value}

set_option maxHeartbeats 8000000 in
theorem law_spec (G : Glb w H mg mb) (K0 : Kp H H h) (hz : H.objs.size ≤ h.objs.size) (R : Rm A 20) {sa : Addr} {script : List Int} {Q : Value → Shared → Prop} (hs : IsInts h sa script) (hlen : script.length ≤ 63)
    (LF : LawFacts (rowOf script) (slopeOf script)) (k : ∀ h' t', Kp H h h' → Q (.bool true) ⟨h', g, d, t', os⟩) :
    wpAny (model prog w) A (call (.ref 147) [.ref sa]) Q E ⟨h, g, d, t, os⟩ := by
  refine call_s (c := 146) (binds := [("script", .ref sa)]) R hz (K0.getc (G.K 147 _ rfl) nofun) rfl rfl (G.cd K0 rfl rfl rfl rfl) rfl (BindsTo.of_eq rfl) rfl rfl rfl rfl rfl fun env L h₁ t₁ A' V hcode R' F => ?_
  replace V : EnvIs env _ L [("step", L + 1 + 1 + 1 + 1 + 1 + 1), ("path", L + 1 + 1 + 1 + 1 + 1), ("due", L + 1 + 1 + 1 + 1), ("point", L + 1 + 1 + 1), ("ends", L + 1 + 1), ("names", L + 1)] := V
  replace F : Fx H h L h₁ (fun _ => none) [(L + 1 + 1 + 1 + 1 + 1 + 1, cellO none), (L + 1 + 1 + 1 + 1 + 1, cellO none), (L + 1 + 1 + 1 + 1, cellO none), (L + 1 + 1 + 1, cellO none), (L + 1 + 1, cellO none), (L + 1, cellO none)] := F
  refine ba_cons (n_st F V rfl fun h₂ t₂ F => ba_nil ⟨(K0.trans F.kp).noLimit G.nolimit, ?_⟩)
  iterate 3 walk_at "e"
  refine comp_start (closureFor_of V rfl) ?_ rfl (by decide) fun _ => rfl
  refine l_upto F (by decide) (by walk_at "e"; exact ⟨rfl, rfl⟩) (F.kp.isInts hs) (by lia) (fun D₁ vs₁ h₃ t₃ hv₁ F => ?_) (fun _ _ => rfl)
  rw [show (4 : Int).toNat = 4 from rfl] at hv₁
  obtain ⟨s4, hs4⟩ : ∃ s4, s4 = script.take 4 := ⟨_, rfl⟩
  have hrow : rowOf script = s4.map (fun x => x.fmod 100) ++ [6, 2, 3, 4, 1, 1, 5] := by rw [hs4]; rfl
  have hslope : slopeOf script = (s4.sum + 14).fmod 33 - 16 := by rw [hs4]; rfl
  have hs4l : s4.length ≤ 4 := by rw [hs4, List.length_take]; exact Nat.min_le_left ..
  rw [← hs4] at hv₁
  have hvl := hv₁.length
  refine comp_listK (isList_own (k := 0) F (.head _)) (fun i ws σ' => σ' = [(D₁, listO vs₁), (L + 1 + 1 + 1 + 1 + 1 + 1, cellO none), (L + 1 + 1 + 1 + 1 + 1, cellO none), (L + 1 + 1 + 1 + 1, cellO none), (L + 1 + 1 + 1, cellO none), (L + 1 + 1, cellO none), (L + 1, cellO none)] ∧ IntsAre ws ((s4.take i).map fun x => x.fmod 100))
    F R'.hd V rfl (by decide) rfl ⟨rfl, .nil⟩ (by lia) (fun i ws σ' q => by rw [q.2.length, List.length_map, List.length_take]; lia) (fun i ws h C mC σ σ₀ hI hsub F => isList_own (k := 0) F (hsub _ (by rw [hI.1]; exact .head _))) ?_ ?_
  · rintro i h₄ t₄ mC ws σ v it o C D₂ k₂ oL cenv hv HI V₂ F KA KB k1 k0
    obtain ⟨rfl, hw⟩ := HI
    have hil : i < vs₁.length := by
      rcases Nat.lt_or_ge i vs₁.length with q | q
      · exact q
      · rw [List.getElem?_eq_none q] at hv; cases hv
    obtain ⟨u₁, hu₁⟩ := intsAre_get hv₁ (k := i) (by have := hv₁.length; lia)
    rw [hv] at hu₁
    cases hu₁
    refine ta_nil (if_t ?_)
    repeat walk_at "e"
    refine i_mod (by decide) fun z t' => ?_
    refine k1 _ _ _ _ _ F ⟨rfl, ?_⟩
    have e : s4.take (i + 1) = s4.take i ++ [s4.getD i 0] := by
      have : i < s4.length := by lia
      rw [List.take_succ, List.getElem?_eq_getElem this]
      simp [this]
    rw [e, List.map_append]
    exact intsAre_snoc hw _ _
  rintro D₂ k₂ ws σ ⟨rfl, hw⟩
  rw [List.take_of_length_le (by lia)] at hw
  intro h₄ t₄ F
  refine x_list ?_ rfl
  repeat walk_at "e"
  refine mk_list F (by simp) fun D₃ h₅ t₅ F => ?_
  have hwl := hw.length
  rw [List.length_map] at hwl
  refine l_add F (isList_own F (.tail _ (.head _))) (isList_own F (.head _)) (by simp; lia) fun ra h₆ F => ?_
  refine n_st F V rfl fun h₇ t₆ F => ?_
  obtain ⟨rs, hri, F⟩ : ∃ rs, IntsAre rs (rowOf script) ∧ Fx H h L h₇ (upd (upd (fun _ => none) "script" (.ref sa)) "row" (.ref ra)) [(ra, listO rs), (L + 1 + 1 + 1 + 1 + 1 + 1, cellO none), (L + 1 + 1 + 1 + 1 + 1, cellO none), (L + 1 + 1 + 1 + 1, cellO none), (L + 1 + 1 + 1, cellO none), (L + 1 + 1, cellO none), (L + 1, cellO none)] := by
    refine ⟨_, ?_, F.weaken (.cons_cons _ (.cons _ (.cons _ (.cons _ (List.Sublist.refl _)))))⟩
    rw [hrow]
    exact intsAre_append hw (.cons _ _ (.cons _ _ (.cons _ _ (.cons _ _ (.cons _ _ (.cons _ _ (.cons _ _ .nil)))))))
  have hrl : 7 ≤ (rowOf script).length ∧ (rowOf script).length ≤ 11 := by rw [hrow]; simp; lia
  generalize rowOf script = row at LF hri hrl hrow
  generalize slopeOf script = sl at LF hslope
  -- the slope
  repeat walk_at "e"
  refine x_call (n_blt F V rfl K0 G.g G.b (gb_sum G) ?_ rfl)
  refine cw_blt ?_ rfl
  walk_at "e"
  refine l_upto F (by decide) (by walk_at "e"; exact ⟨rfl, rfl⟩) (F.kp.isInts hs) (by lia) (fun D₄ vs₄ h₈ t₇ hv₄ F => ?_) (fun _ _ => rfl)
  rw [show (4 : Int).toNat = 4 from rfl, ← hs4] at hv₄
  repeat walk_at "e"
  refine c_sum F R'.hd (isInts_own (k := 0) F (.head _) hv₄) fun z h₉ t₈ F => ?_
  repeat walk_at "e"
  refine i_mod (by decide) fun z₂ t₉ => ?_
  walk_at "e"
  refine i_sub fun us tus => ?_
  refine n_st F V rfl fun h₁₀ t₁₀ F => ?_
  replace F := F.weaken (List.sublist_cons_self _ _)
  rw [← hslope] at F
  -- the tree
  walk_at "e"
  refine Assign_Tuple ?_ rfl rfl
  refine x_call (n_glob F V rfl K0 G.g (gl_tree G) ?_ rfl)
  refine cw_fn ?_ rfl (by decide)
  repeat walk_at "e"
  refine ⟨⟨_, _, (K0.trans F.kp).getc (G.K 123 _ rfl) nofun, rfl⟩, tree_spec G (K0.trans F.kp) F.size (R'.le (by decide)) (isInts_own F (.head _) hri) hrl.2 LF.dl fun TT Nn Rr Ll ns kn ρ kr δ kl h₁₁ t₁₁ k11 fr X => ?_⟩
  replace F := F.take k11 fr
  refine u_tuple F (F.get (.head _)) R'.hd rfl rfl fun h₁₂ F => ?_
  replace F := (F.weaken (List.sublist_cons_self _ _)).perm (List.perm_append_comm.trans (List.perm_middle (l₁ := [_, _, _, _, _, _])).symm)
  refine ai_cons (wpAny_assign_Name (n_stc F V rfl rfl (.tail (.tail (.tail (.tail (.tail .head))))) fun h₁₃ t₁₂ F => ?_))
  refine ai_cons (wpAny_assign_Name (n_st F V rfl fun h₁₄ t₁₃ F => ?_))
  refine ai_cons (wpAny_assign_Name (n_st F V rfl fun h₁₅ t₁₄ F => ?_))
  refine ai_nil ?_
  -- the ends
  iterate 2 walk_at "e"
  refine x_call (n_glob F V rfl K0 G.g (gl_ends G) ?_ rfl)
  refine cw_fn ?_ rfl (by decide)
  repeat walk_at "e"
  refine ⟨⟨_, _, (K0.trans F.kp).getc (G.K 128 _ rfl) nofun, rfl⟩, ends_spec G (K0.trans F.kp) F.size (R'.le (by decide)) (isInts_own F (.tail _ (.tail _ (.tail _ (.tail _ (.tail _ (.tail _ (.head _))))))) hri) (by lia) fun De es ke h₁₆ t₁₅ k16 fr16 hei => ?_⟩
  replace F := F.take k16 fr16
  refine n_stc F V rfl rfl (.tail (.tail (.tail (.tail (.tail .head))))) fun h₁₇ t₁₆ F => ?_
  obtain ⟨fx, ff, F⟩ : ∃ fx : List (Addr × Obj), LawFx L De ra Nn Rr Ll es ke rs ns kn (ρ.map (·.x)) kr δ kl fx ∧
      Fx H h L h₁₇ (upd (upd (upd (upd (upd (fun _ => none) "script" (.ref sa)) "row" (.ref ra)) "slope" (.int sl _)) "readers" (.ref Rr)) "lists" (.ref Ll))
        ((L + 1 + 1 + 1, cellO none) :: (L + 1 + 1 + 1 + 1 + 1 + 1, cellO none) :: (L + 1 + 1 + 1 + 1 + 1, cellO none) :: (L + 1 + 1 + 1 + 1, cellO none) :: (fx ++ ρ.flatMap rdσ)) := by
    refine ⟨(De, listO es ke) :: (L + 1 + 1, cellO (some (.ref De))) :: (L + 1, cellO (some (.ref Nn))) :: (ra, listO rs) :: (Nn, listO (strValues ns) kn) :: (Rr, listO ((ρ.map (·.x)).map .ref) kr) :: (Ll, listO (δ.map fun q => .ref q.1) kl) :: (δ.map fun q => (q.1, listO q.2.1 q.2.2)),
      ⟨by walk_at "mm", by walk_at "mm", by walk_at "mm", by walk_at "mm", by walk_at "mm", by walk_at "mm", by walk_at "mm", fun q hq => ?_⟩, ?_⟩
    · exact .tail _ (.tail _ (.tail _ (.tail _ (.tail _ (.tail _ (.tail _ (List.mem_map.mpr ⟨q, hq, rfl⟩)))))))
    · rw [List.map_map]
      exact F.perm ((List.perm_middle (l₁ := [_, _, _, _])).trans (List.Perm.cons _ (List.perm_middle (l₁ := [_, _, _])).symm))
  have f1 := ff.f1
  have f2 := ff.f2
  have f3 := ff.f3
  have f4 := ff.f4
  have f5 := ff.f5
  have f6 := ff.f6
  have f7 := ff.f7
  have f8 := ff.f8
  -- the loop
  walk_at "e"
  refine for_start ?_ fun _ => rfl
  refine x_call (n_blt F V rfl K0 G.g G.b (gb_range G) ?_ rfl)
  refine cw_type ?_ rfl
  walk_at "e"
  refine x_call (n_blt F V rfl K0 G.g G.b (gb_len G) ?_ rfl)
  refine cw_blt ?_ rfl
  repeat walk_at "e"
  have inF : ∀ {p : Addr × Obj} {τ : List (Addr × Obj)}, p ∈ fx → p ∈ fx ++ τ := fun q => List.mem_append_left _ q
  refine c_len (isInts_own F (.tail _ (.tail _ (.tail _ (.tail _ (inF f4))))) hri) (by lia) fun z₃ t₁₇ => ?_
  repeat walk_at "e"
  refine c_range1 F fun r h₁₈ t₁₈ u₁ w₁ F => ?_
  refine forc_range (LawI prog w row L Rr Ll ra fx ρ sl us) F (by lia) (by lia) (by lia) R'.hd V rfl rfl
    ?_ ?_ ?_
  · exact .mk none none none ρ rfl X.rd (by walk_at "lk") (by walk_at "lk") (by walk_at "lk") (by walk_at "lk")
  · rintro i h₁₉ t₁₉ m σ u it o hi HI F
    refine cutQ fun QT hQT => ?_
    obtain ⟨vs, vp, vd, ρ', hx, Y, m1, m2, m3, m4⟩ := HI
    rw [Int.zero_add] at hi F
    have hi' : i < row.length := by lia
    -- the places due
    walk_at "e"
    refine wpAny_Assign_Name ?_ (sw_of V rfl)
    refine comp_start (closureFor_of V rfl) ?_ rfl (by decide) fun _ => rfl
    refine x_call (n_blt F V rfl K0 G.g G.b (gb_range G) ?_ rfl)
    refine cw_type ?_ rfl
    repeat walk_at "e"
    refine c_range1 F fun r₂ h₂₀ t₂₀ u₂ w₂ F => ?_
    refine comp_rangeK (fun j ws σ' => σ' = (it, o) :: (L + 1 + 1 + 1, cellO (some (.int i u))) :: (L + 1 + 1 + 1 + 1 + 1 + 1, cellO vs) :: (L + 1 + 1 + 1 + 1 + 1, cellO vp) :: (L + 1 + 1 + 1 + 1, cellO vd) :: (fx ++ ρ'.flatMap rdσ) ∧ IntsAre ws (dueTo row i j))
      F (by lia) (by lia) (by lia) R'.hd V rfl (by decide) rfl ⟨rfl, .nil⟩ (by lia) (fun j ws σ' q => by rw [q.2.length]; exact dueTo_len _ _ _) ?_ ?_
    · rintro j h₂₁ t₂₁ mC ws σ uj it₂ o₂ C D₅ k₅ oL cenv hj HI V₂ F KA KB k1 k0
      obtain ⟨rfl, hw⟩ := HI
      rw [Int.zero_add] at F
      refine ta_cons ?_
      repeat walk_at "e"
      refine s_ints' (isInts_own F (by walk_at "mm") hei) (by lia) (by unfold endsF; simp; lia) (by lia) (fun u => ?_) (by with_unfolding_all rfl)
      repeat walk_at "e"
      rw [Int.toNat_natCast]
      refine split_bool (fun hc => ?_) fun hc => ?_
      · refine ta_nil (if_t ?_)
        walk_at "e"
        refine k1 _ _ _ _ _ F ⟨rfl, ?_⟩
        rw [dueTo_succ, if_pos (of_decide_eq_true hc)]
        exact intsAre_snoc hw _ _
      · refine if_f (k0 _ _ _ _ F ⟨rfl, ?_⟩)
        rw [dueTo_succ, if_neg (of_decide_eq_false hc), List.append_nil]
        exact hw
    rintro D₅ k₅ ws σ ⟨rfl, hw⟩
    rw [show ((i : Int) + 1 - 0).toNat = i + 1 by lia] at hw
    have hdue : IntsAre ws (dueF row i) := hw
    intro h₂₁ t₂₁ F
    refine n_stc F V rfl rfl (.tail (.tail (.tail (.tail (.tail .head))))) fun h₂₂ t₂₂ F => ?_
    -- the list is the places due
    obtain ⟨q, hq⟩ : ∃ q, δ[i]? = some q := ⟨δ[i]'(by rw [X.ld]; exact hi'), by simp⟩
    have hqm := f8 q (List.mem_of_getElem? hq)
    have hqi := X.iv i q hq
    rw [LF.lst i hi'] at hqi
    walk_at "e"
    refine wpAny_If ?_
    repeat walk_at "e"
    refine list_item (isList_own F (by walk_at "mm")) (by lia) (by lia) (v := .ref q.1) (by rw [Int.toNat_natCast, List.getElem?_map, hq]; rfl) ?_ (by with_unfolding_all rfl)
    repeat walk_at "e"
    refine ne_ints (R'.le (by decide)) (isInts_own F (by walk_at "mm") hqi) (isInts_own F (by walk_at "mm") hdue) ?_
    rw [show (!decide (dueF row i = dueF row i)) = false by simp]
    repeat walk_at "e"
    refine if_f ?_
    repeat walk_at "e"
    -- both rounds
    have hTO := treeOk row row.length (by lia)
    have hnm : ∀ j, j < row.length → ∃ uj, (strValues ns)[j]? = some (.str ((treeF row row.length).nm j) uj) := by
      intro j hj
      have hjl : j < ns.length := by have := congrArg List.length X.ns; simp at this; lia
      refine ⟨ns[j].2, ?_⟩
      have e1 : (ns.map (·.1))[j]? = some ((treeF row row.length).nm j) := by rw [X.ns]; simp [hj]
      have e2 : ns[j].1 = (treeF row row.length).nm j := by simpa [hjl] using e1
      simp [strValues, hjl, e2]
    refine for_start ?_ fun _ => rfl
    refine x_tuple ?_ rfl
    refine aa_cons (c_none (aa_cons (c_str fun uf tf => aa_nil ?_)))
    refine mk_tuple F (by simp) fun TT₂ h₂₃ t₂₃ F => ?_
    refine wpAny_pyIter_tuple ⟨_, F.get (.head _), rfl, _, rfl⟩ ?_
    replace F := (F.push { cls := .type "tuple_iterator", data := .fields #[.ref TT₂, .int 0 0] } rfl (ncl rfl)).perm (List.Perm.cons _ (List.perm_middle (l₁ := [_, _, _, _, _])))
    refine forc_iter (it_tup (vs := [Value.none, .str "/f" uf]) R'.hd) (LawP prog w row Rr Ll ra (TT₂, tupO [Value.none, .str "/f" uf]) (D₅, listO ws k₅) (it, o) (L + 1 + 1 + 1, cellO (some (.int i u))) (L + 1 + 1 + 1 + 1 + 1 + 1, cellO vs) (L + 1 + 1 + 1 + 1, cellO (some (.ref D₅))) fx ρ sl us i) F ⟨rfl, rfl⟩ V rfl rfl
      (.mk ρ' hx Y m1 m2 m3 m4) ?_ ?_ ?_
    · rintro j h m σ v ⟨⟩ F
      exact ⟨_, F.get (.tail _ (.head _)), rfl, _, rfl⟩
    · rintro j h₂₄ t₂₄ m σ v oi hj HI hv - F
      refine cutQ fun QU hQU => ?_
      obtain ⟨ρ₂, hx₂, Y₂, m1, m2, m3, m4⟩ := HI
      obtain ⟨hj2, fl, rfl, hfl⟩ := file_at hv
      have hns : (stP row i j).nm = (treeF row row.length).nm := stP_nm row i j
      have hans := LF.ans hi' j hj2
      have hrl₂ : ρ₂.length = row.length := by have := congrArg List.length hx₂; simpa [X.lr] using this
      walk_at "e"
      refine comp_assign (sw_of V rfl) (closureFor_of V rfl) ?_ rfl (by decide) fun _ => rfl
      repeat walk_at "e"
      refine comp_listK (isList_own F (by walk_at "mm")) (LawC prog w row (h₂₃.objs.size, oi) (L + 1 + 1 + 1 + 1 + 1, cellO (some (fileV fl))) (TT₂, tupO [Value.none, .str "/f" uf]) (D₅, listO ws k₅) (it, o) (L + 1 + 1 + 1, cellO (some (.int i u))) (L + 1 + 1 + 1 + 1 + 1 + 1, cellO vs) (L + 1 + 1 + 1 + 1, cellO (some (.ref D₅))) fx ρ i j)
        F R'.hd V rfl (by decide) rfl (.mk ρ₂ [] hx₂ Y₂ rfl) (by simp [X.lr]; lia) ?_ ?_ ?_ ?_
      · rintro i' as σ' ⟨ρ₃, l, _, _, hl⟩
        have := congrArg List.length hl
        rw [List.length_map, List.length_map, List.length_range] at this
        rw [strValues_length]; lia
      · rintro i' as h C mC σ' σ₀ ⟨⟩ hsub F
        exact isList_own F (hsub _ (by walk_at "mm"))
      · rintro i' h₂₅ t₂₅ mC as σ' v it₂ o₂ C D₆ k₆ oL cenv hv' HI V₂ F KA KB k1 k0
        obtain ⟨ρ₃, l, hx₃, Y₃, hl⟩ := HI
        have hil : i' < row.length := by
          rcases Nat.lt_or_ge i' row.length with q | q
          · exact q
          · rw [List.getElem?_eq_none (by simp [X.lr]; lia)] at hv'; cases hv'
        have hrl₃ : ρ₃.length = row.length := by have := congrArg List.length hx₃; simpa [X.lr] using this
        obtain ⟨r, hrj⟩ : ∃ r, ρ₃[i']? = some r := ⟨ρ₃[i']'(by lia), by simp⟩
        have hve : v = .ref r.x := by
          rw [← hx₃, List.getElem?_map, List.getElem?_map, hrj] at hv'
          exact (Option.some.inj hv').symm
        subst hve
        obtain ⟨mI, sz, nso, e4⟩ := Y₃.nso hrj
        obtain ⟨ui, hui⟩ := hnm i hi'
        have hli := hTO.len i hi'
        have hlk := hTO.len i' hil
        have hrm : ∀ p ∈ rdσ r, p ∈ (D₆, listO (strValues l) k₆) :: (it₂, o₂) :: (L, oL) :: (h₂₃.objs.size, oi) :: (L + 1 + 1 + 1 + 1 + 1, cellO (some (fileV fl))) :: (TT₂, tupO [Value.none, .str "/f" uf]) :: (D₅, listO ws k₅) :: (it, o) :: (L + 1 + 1 + 1, cellO (some (.int i u))) :: (L + 1 + 1 + 1 + 1 + 1 + 1, cellO vs) :: (L + 1 + 1 + 1 + 1, cellO (some (.ref D₅))) :: (fx ++ ρ₃.flatMap rdσ) := by
          intro p hp
          iterate 11 refine List.mem_cons_of_mem _ ?_
          exact List.mem_append_right _ (flat_mem hrj p hp)
        refine ta_nil (if_t ?_)
        refine x_call (n_blt F V₂ rfl K0 G.g G.b (gb_str G) ?_ rfl)
        refine cw_type ?_ rfl
        walk_at "e"
        refine x_meth ?_ rfl rfl (by decide) rfl
        walk_at "e"
        refine i_names G (K0.trans F.kp) (F.get (hrm (r.x, instObj 86 r.dx) (.tail _ (.head _)))) (F.get (hrm (r.dx, r.od) (.tail _ (.tail _ (.head _))))) nso e4 ?_
        refine cw_fn ?_ rfl (by decide)
        repeat walk_at "e"
        refine list_item (isList_own F (by walk_at "mm")) (by lia) (by lia) (by rw [Int.toNat_natCast]; exact hui) ?_ (by with_unfolding_all rfl)
        repeat walk_at "e"
        refine ⟨⟨_, _, (K0.trans F.kp).getc (G.K 83 _ rfl) nofun, rfl⟩, ask_spec (pre := (D₆, listO (strValues l) k₆) :: (it₂, o₂) :: (L, oL) :: (h₂₃.objs.size, oi) :: (L + 1 + 1 + 1 + 1 + 1, cellO (some (fileV fl))) :: (TT₂, tupO [Value.none, .str "/f" uf]) :: (D₅, listO ws k₅) :: (it, o) :: (L + 1 + 1 + 1, cellO (some (.int i u))) :: (L + 1 + 1 + 1 + 1 + 1 + 1, cellO vs) :: (L + 1 + 1 + 1 + 1, cellO (some (.ref D₅))) :: fx)
          (file := fl) G K0 (R'.le (by decide)) F hrj Y₃ (by split <;> lia) (by lia) (by lia) ?_ fun ρ₄ h₂₆ t₂₆ ua hx₄ Y₄ F => ?_⟩
        · have := LF.dl (row.length - 1) i' (by lia) (by lia)
          rw [show row.length - 1 + 1 = row.length by lia] at this
          exact this
        have hval := ans_at (stP row i j) (fileP j) ((treeF row row.length).nm i) i'
        have hsu := askTo_succ (stP row i j) (fileP j) ((treeF row row.length).nm i) i'
        rw [hns] at hval hsu
        rw [hfl] at Y₄ ⊢
        replace Y₄ : RdAt prog w (treeF row row.length).nm (askTo (stP row i j) (fileP j) ((treeF row row.length).nm i) (i' + 1)).ca (fun k => if k < i' + 1 then row.length + 1 + 2 * i + j + 1 else row.length + 1 + 2 * i + j) ρ₄ :=
          Y₄.to (fun _ _ => rfl) (fun k _ => congrFun hsu k) (fun k _ => bstepG _ i' k)
        rw [hval, hans i' hil]
        walk_at "e"
        refine c_str_int (agF_01 row i i') fun z t₂₇ => ?_
        exact k1 _ _ _ _ _ F (.snoc (hx₄.trans hx₃) Y₄ hl)
      rintro D₆ k₆ as σ' ⟨ρ₃, l, hx₃, Y₃, hl⟩
      intro h₂₅ t₂₅ C oC F
      refine wpAny_assign_Name (n_st F V rfl fun h₂₆ t₂₆ F => ⟨h₂₆, t₂₆, _, _, rfl, F, fun h₂₇ t₂₇ F => ?_⟩)
      refine (show wpAny (model prog w) A' _ _ _ _ from ?_)
      have hml : (List.map (fun x => Value.ref x) (ρ.map (·.x))).length = row.length := by rw [List.length_map, List.length_map, X.lr]
      walk_at "e"
      refine wpAny_If ?_
      iterate 2 walk_at "e"
      refine comp_start (closureFor_of V rfl) ?_ rfl (by decide) fun _ => rfl
      refine x_call (n_blt F V rfl K0 G.g G.b (gb_range G) ?_ rfl)
      refine cw_type ?_ rfl
      walk_at "e"
      refine x_call (n_blt F V rfl K0 G.g G.b (gb_len G) ?_ rfl)
      refine cw_blt ?_ rfl
      repeat walk_at "e"
      refine c_len (isInts_own F (by walk_at "mm") hri) (by lia) fun z₃ t₂₈ => ?_
      repeat walk_at "e"
      refine c_range1 F fun r₃ h₂₈ t₂₉ u₃ w₃ F => ?_
      refine comp_rangeK (LawD row ((D₆, listO (strValues l) k₆) :: (h₂₃.objs.size, oi) :: (L + 1 + 1 + 1 + 1 + 1, cellO (some (fileV fl))) :: (TT₂, tupO [Value.none, .str "/f" uf]) :: (D₅, listO ws k₅) :: (it, o) :: (L + 1 + 1 + 1, cellO (some (.int i u))) :: (L + 1 + 1 + 1 + 1 + 1 + 1, cellO vs) :: (L + 1 + 1 + 1 + 1, cellO (some (.ref D₅))) :: (fx ++ ρ₃.flatMap rdσ)) i) F (by lia) (by lia) (by lia) R'.hd V rfl (by decide) rfl (.mk [] rfl) (by lia) ?_ ?_ ?_
      · rintro i' bs σ' ⟨l', hl'⟩
        have := congrArg List.length hl'
        rw [List.length_map, List.length_map, List.length_range] at this
        rw [strValues_length]; lia
      · rintro i' h₂₉ t₃₀ mC bs σ' uj it₂ o₂ C D₇ k₇ oL' cenv hj' HI V₂ F KA KB k1 k0
        obtain ⟨l', hl'⟩ := HI
        rw [Int.zero_add] at F
        refine ta_nil (if_t ?_)
        refine wpAny_IfExp ?_
        refine t_bool (t_or ?_)
        repeat walk_at "e"
        refine split_bool (fun hc => ?_) fun hc => ?_
        · have ha : agF row i i' = 1 := by unfold agF; exact if_pos (.inl (by have := of_decide_eq_true hc; lia))
          refine if_t ?_
          refine c_str fun uz tz => ?_
          exact k1 _ _ _ _ _ F (.snoc hl' (if_pos ha))
        · refine t_or ?_
          repeat walk_at "e"
          refine in_ints (isInts_own F (by walk_at "mm") hdue) ?_
          repeat walk_at "e"
          refine split_bool (fun hc₂ => ?_) fun hc₂ => ?_
          · have ha : agF row i i' = 1 := by unfold agF; exact if_pos (.inr (of_decide_eq_true hc₂))
            refine if_t ?_
            refine c_str fun uz tz => ?_
            exact k1 _ _ _ _ _ F (.snoc hl' (if_pos ha))
          · have ha : ¬ agF row i i' = 1 := by
              unfold agF
              rw [if_neg (by rintro (q | q)
                             · have := of_decide_eq_false hc; lia
                             · exact of_decide_eq_false hc₂ q)]
              decide
            refine t_or0 (if_f ?_)
            refine c_str fun uz tz => ?_
            exact k1 _ _ _ _ _ F (.snoc hl' (if_neg ha))
      rintro D₇ k₇ bs σ' ⟨l', hl'⟩
      intro h₂₉ t₃₀ F
      rw [hml] at hl
      rw [show ((row.length : Int) - 0).toNat = row.length by lia] at hl'
      refine ne_strs (R'.le (by decide)) (agS_ok row i row.length) ⟨l, isList_own F (by walk_at "mm"), hl⟩ ⟨l', isList_own F (by walk_at "mm"), hl'⟩ ?_
      repeat walk_at "e"
      refine if_f ?_
      repeat walk_at "e"
      replace F := F.weaken (List.Sublist.cons _ (List.Sublist.cons _ (List.Sublist.refl _)))
      rw [hml] at Y₃
      refine hQU _ _ (Turn.next F ⟨_, _, rfl, .mk ρ₃ hx₃ (Y₃.to (fun _ _ => rfl) (fun k _ => by rw [stP_succ row i j hj2]) (fun k hk => by split <;> lia)) (by walk_at "lk") (by walk_at "lk") (by walk_at "lk") (by walk_at "lk")⟩)
    rintro h₂₄ t₂₄ m σ v ⟨ρ₂, hx₂, Y₂, m1, m2, m3, m4⟩ F
    dsimp only
    -- the edges that rise less than the slope
    have hdl := (dueF_kept row i).len
    have hslb : -16 ≤ sl ∧ sl ≤ 16 := by
      have e1 := Int.fmod_nonneg_of_pos (s4.sum + 14) (show (0 : Int) < 33 by decide)
      have e2 := Int.fmod_lt_of_pos (s4.sum + 14) (show (0 : Int) < 33 by decide)
      lia
    obtain ⟨hit1m, hit1⟩ := LF.hit1 i hi'
    have htl := touchF_le row sl i
    refine exec_twoK (LawM H h L Rr Ll ra sl us g d os ((L + 1 + 1 + 1 + 1 + 1, cellO v) :: (TT₂, tupO [Value.none, .str "/f" uf]) :: (D₅, listO ws k₅) :: (it, o) :: (L + 1 + 1 + 1, cellO (some (.int i u))) :: (L + 1 + 1 + 1 + 1 + 1 + 1, cellO vs) :: (L + 1 + 1 + 1 + 1, cellO (some (.ref D₅))) :: (fx ++ ρ₂.flatMap rdσ))) ?_ ?_
    · intro KK hKK
      walk_at "e"
      refine x_call (n_glob F V rfl K0 G.g (gl_sr G) ?_ rfl)
      refine cw_fn ?_ rfl (by decide)
      walk_at "e"
      refine x_call (n_glob F V rfl K0 G.g (gl_prog G) ?_ rfl)
      refine cw_fn ?_ rfl (by decide)
      repeat walk_at "e"
      refine x_call (n_glob F V rfl K0 G.g (gl_flatter G) ?_ rfl)
      refine cw_fn ?_ rfl (by decide)
      repeat walk_at "e"
      refine ⟨⟨_, _, (K0.trans F.kp).getc (G.K 111 _ rfl) nofun, rfl⟩, flatter_spec G (K0.trans F.kp) F.size (R'.le (by decide)) (by lia) (by lia) fun ff h₂₅ t₂₅ k25 hff => ?_⟩
      replace F := F.call k25
      repeat walk_at "e"
      refine ⟨⟨_, _, (K0.trans F.kp).getc (G.K 97 _ rfl) nofun, rfl⟩, prog_spec (row := row) (kept := dueF row i) (st := 1) G (K0.trans F.kp) F.size (R'.le (by decide)) (isInts_own F (by walk_at "mm") hdue) (isInts_own F (by walk_at "mm") hri) (by lia) (by lia) (fun j hj => by have := (dueF_kept row i).getD hj; lia) trivial (by decide) (by decide) hff fun p h₂₆ t₂₆ k26 hp => ?_⟩
      replace F := F.call k26
      repeat walk_at "e"
      refine ⟨⟨_, _, (K0.trans F.kp).getc (G.K 28 _ rfl) nofun, rfl⟩, sr_spec G (K0.trans F.kp) F.size (R'.le (by decide)) hp ((dueF_kept row i).hS (by decide)) (FoundQ.of fun vh φ h₂₇ t₂₇ hfo k27 fr27 => ?_)⟩
      replace F := F.take k27 fr27
      refine n_st F V rfl fun h₂₈ t₂₈ F => ⟨rfl, ?_⟩
      refine wpAny_If ?_
      walk_at "e"
      refine x_span K0 (R'.le (by decide)) F V rfl (by walk_at "lk") (hfo.mono (σ' := φ ++ _) fun p hp => List.mem_append_left _ hp) rfl fun v1 φ1 h₂₉ t₂₉ hs1 F => ?_
      refine x_call (n_glob F V rfl K0 G.g (gl_match G) ?_ rfl)
      refine cw_fn ?_ rfl (by decide)
      repeat walk_at "e"
      refine x_call (n_glob F V rfl K0 G.g (gl_touch G) ?_ rfl)
      refine cw_fn ?_ rfl (by decide)
      repeat walk_at "e"
      refine ⟨⟨_, _, (K0.trans F.kp).getc (G.K 135 _ rfl) nofun, rfl⟩, touch_spec G (K0.trans F.kp) F.size (R'.le (by decide)) (isInts_own F (by walk_at "mm") hri) (by lia) (by lia) (by lia) (by lia) fun h₃₀ t₃₀ ut k30 => ?_⟩
      replace F := F.call k30
      rw [Int.toNat_natCast]
      repeat walk_at "e"
      refine ⟨⟨_, _, (K0.trans F.kp).getc (G.K 142 _ rfl) nofun, rfl⟩, match_spec G (K0.trans F.kp) F.size (R'.le (by decide)) ⟨ws, k₅, F.get (by walk_at "mm"), hdue⟩ (by lia) hit1m (by decide) (by decide) (MatchQ.of fun v2 φ2 h₃₁ t₃₁ hs2 k31 fr31 => ?_)⟩
      replace F := F.take k31 fr31
      rw [← hit1] at hs2
      refine ne_span (R'.le (by decide)) F (hs1.mono fun p hp => List.mem_append_right _ (List.mem_append_left _ hp)) (hs2.mono fun p hp => List.mem_append_left _ hp) ?_
      repeat walk_at "e"
      refine if_f ?_
      repeat walk_at "e"
      exact ⟨rfl, hKK _ (.mk _ _ _ (by walk_at "lk") (by walk_at "lk") (by walk_at "lk") (by walk_at "lk") (F.weaken ((List.sublist_append_right φ _).trans ((List.sublist_append_right φ1 _).trans (List.sublist_append_right φ2 _)))))⟩
    rintro _ ⟨h₂₅, t₂₅, m', m1, m2, m3, m4, F⟩
    -- the edges that fall, by turns
    obtain ⟨q', hq'⟩ : ∃ q', δ[row.length - 1]? = some q' := ⟨δ[row.length - 1]'(by rw [X.ld]; lia), by simp⟩
    have hqm' := f8 q' (List.mem_of_getElem? hq')
    have hqi' := X.iv _ q' hq'
    have hkept := hTO.kept (row.length - 1) (by lia)
    rw [show row.length - 1 + 1 = row.length by lia] at hkept
    have hkl := hkept.len
    have hql := hqi'.length
    have hlast : (δ.map fun q => Value.ref q.1).getLast? = some (.ref q'.1) := by
      rw [List.getLast?_eq_getElem?, List.length_map, X.ld, List.getElem?_map, hq']; rfl
    have hst0 : 0 ≤ (i : Int).fmod 3 ∧ (i : Int).fmod 3 < 3 := ⟨Int.fmod_nonneg_of_pos _ (by decide), Int.fmod_lt_of_pos _ (by decide)⟩
    have hit2 := LF.hit2 i hi'
    have htL : topL row i = ((treeF row row.length).lst (row.length - 1)).filter fun k => decide (k < (i : Int) + min ((i : Int).fmod 3) 1) := rfl
    generalize hkk : (treeF row row.length).lst (row.length - 1) = kk at hqi' hkept hkl hql hit2 htL
    repeat walk_at "e"
    refine i_mod (by decide) fun z₃ t₂₆ => ?_
    refine n_stc F V rfl rfl (.tail (.tail (.tail (.tail (.tail .head))))) fun h₂₆ t₂₇ F => ?_
    iterate 2 walk_at "e"
    refine x_call (n_glob F V rfl K0 G.g (gl_sr G) ?_ rfl)
    refine cw_fn ?_ rfl (by decide)
    walk_at "e"
    refine x_call (n_glob F V rfl K0 G.g (gl_prog G) ?_ rfl)
    refine cw_fn ?_ rfl (by decide)
    repeat walk_at "e"
    refine x_neg fun z₄ t₂₈ => ?_
    refine list_last (isList_own F (by walk_at "mm")) hlast (by rw [List.length_map, X.ld]; lia) ?_ (by with_unfolding_all rfl)
    repeat walk_at "e"
    refine x_call (n_glob F V rfl K0 G.g (gl_flatter G) ?_ rfl)
    refine cw_fn ?_ rfl (by decide)
    repeat walk_at "e"
    refine ⟨⟨_, _, (K0.trans F.kp).getc (G.K 111 _ rfl) nofun, rfl⟩, flatter_spec G (K0.trans F.kp) F.size (R'.le (by decide)) (by decide) (by decide) fun ff h₂₇ t₂₉ k27 hff => ?_⟩
    replace F := F.call k27
    repeat walk_at "e"
    refine ⟨⟨_, _, (K0.trans F.kp).getc (G.K 97 _ rfl) nofun, rfl⟩, prog_spec (row := row) (kept := kk) (st := (i : Int).fmod 3) G (K0.trans F.kp) F.size (R'.le (by decide)) (isInts_own F (by walk_at "mm") hqi') (isInts_own F (by walk_at "mm") hri) (by lia) (by lia) (fun j hj => by have := hkept.getD hj; lia) trivial hst0.1 (by lia) hff fun p h₂₈ t₃₀ k28 hp => ?_⟩
    replace F := F.call k28
    repeat walk_at "e"
    refine ⟨⟨_, _, (K0.trans F.kp).getc (G.K 28 _ rfl) nofun, rfl⟩, sr_spec G (K0.trans F.kp) F.size (R'.le (by decide)) hp (hkept.hS hst0.1) (FoundQ.of fun vh φ h₂₉ t₃₁ hfo k29 fr29 => ?_)⟩
    replace F := F.take k29 fr29
    refine n_st F V rfl fun h₃₀ t₃₂ F => ?_
    -- the top
    iterate 2 walk_at "e"
    refine x_call (n_blt F V rfl K0 G.g G.b (gb_max G) ?_ rfl)
    refine cw_blt ?_ rfl
    iterate 2 walk_at "e"
    refine x_list ?_ rfl
    refine aa_cons (c_int fun u0 t0 => aa_nil ?_)
    refine mk_list F (by simp) fun D₈ h₃₁ t₃₃ F => ?_
    refine comp_start (closureFor_of V rfl) ?_ rfl (by decide) fun _ => rfl
    repeat walk_at "e"
    refine x_neg fun z₅ t₃₄ => ?_
    refine list_last (isList_own F (by walk_at "mm")) hlast (by rw [List.length_map, X.ld]; lia) ?_ (by with_unfolding_all rfl)
    refine comp_listK (isList_own F (by walk_at "mm")) (fun j bs σ' => σ' = (D₈, listO [.int 0 u0]) :: (φ ++ (L + 1 + 1 + 1 + 1 + 1, cellO v) :: (TT₂, tupO [Value.none, .str "/f" uf]) :: (D₅, listO ws k₅) :: (it, o) :: (L + 1 + 1 + 1, cellO (some (.int i u))) :: (L + 1 + 1 + 1 + 1 + 1 + 1, cellO (some (.int ((i : Int).fmod 3) z₃))) :: (L + 1 + 1 + 1 + 1, cellO (some (.ref D₅))) :: (fx ++ ρ₂.flatMap rdσ)) ∧
        IntsAre bs ((kk.take j).filter fun k => decide (k < (i : Int) + min ((i : Int).fmod 3) 1))) F R'.hd V rfl (by decide) rfl ⟨rfl, .nil⟩ (by lia) ?_ ?_ ?_ ?_
    · rintro j bs σ' ⟨_, hb⟩
      rw [hb.length]
      refine Nat.le_trans (List.length_filter_le _ _) ?_
      rw [List.length_take]; lia
    · rintro j bs h C mC σ' σ₀ ⟨rfl, _⟩ hsub F
      exact isList_own F (hsub _ (by walk_at "mm"))
    · rintro j h₃₂ t₃₅ mC bs σ' vk it₂ o₂ C D₉ k₉ oL cenv hvk HI V₂ F KA KB k1 k0
      obtain ⟨rfl, hb⟩ := HI
      have hjl : j < q'.2.1.length := by
        rcases Nat.lt_or_ge j q'.2.1.length with q | q
        · exact q
        · rw [List.getElem?_eq_none q] at hvk; cases hvk
      obtain ⟨u₅, hu₅⟩ := intsAre_get hqi' (k := j) (by lia)
      rw [hvk] at hu₅
      cases hu₅
      refine ta_cons ?_
      repeat walk_at "e"
      refine x_call (n_blt F V₂ rfl K0 G.g G.b (gb_min G) ?_ rfl)
      refine cw_blt ?_ rfl
      repeat walk_at "e"
      refine c_min2 F R'.hd fun z h₃₃ t₃₆ F => ?_
      repeat walk_at "e"
      refine split_bool (fun hc => ?_) fun hc => ?_
      · refine ta_nil (if_t ?_)
        walk_at "e"
        refine k1 _ _ _ _ _ F ⟨rfl, ?_⟩
        rw [filter_take_succ (by lia), if_pos hc]
        exact intsAre_snoc hb _ _
      · refine if_f (k0 _ _ _ _ F ⟨rfl, ?_⟩)
        rw [filter_take_succ (by lia), if_neg (by rw [hc]; decide), List.append_nil]
        exact hb
    rintro D₉ k₉ bs σ' ⟨rfl, hb⟩
    rw [hql, List.take_of_length_le (Nat.le_refl _), ← htL] at hb
    intro h₃₂ t₃₅ F
    have hbl := hb.length
    have htl2 : (topL row i).length ≤ 11 := by rw [htL]; exact Nat.le_trans (List.length_filter_le _ _) (by lia)
    refine l_add F (isList_own F (by walk_at "mm")) (isList_own F (by walk_at "mm")) (by simp; lia) fun D₁₀ h₃₃ F => ?_
    repeat walk_at "e"
    have hb0 : IntsAre ([Value.int 0 u0] ++ bs) (0 :: topL row i) := .cons _ _ hb
    refine c_maxL F R'.hd (isInts_own (k := 0) F (.head _) hb0) (by simp) fun M zM h₃₄ t₃₆ hM1 hM2 F => ?_
    refine n_st F V rfl fun h₃₅ t₃₇ F => ?_
    obtain ⟨hit2m, hit2⟩ := hit2 M hM1 hM2
    have hM0 : 0 ≤ M := hM2 0 (.head _)
    have hMr : M < row.length := by
      rcases List.mem_cons.mp hM1 with e | e
      · lia
      · rw [htL] at e
        have := hkept.2 M (List.mem_filter.mp e).1
        lia
    -- compare
    walk_at "e"
    refine wpAny_If ?_
    walk_at "e"
    refine x_span K0 (R'.le (by decide)) F V rfl (by walk_at "lk") (hfo.mono (σ' := (D₁₀, listO ([Value.int 0 u0] ++ bs)) :: (D₉, listO bs k₉) :: (D₈, listO [.int 0 u0]) :: (φ ++ _)) fun p hp => .tail _ (.tail _ (.tail _ (List.mem_append_left _ hp)))) rfl fun v1 φ1 h₃₆ t₃₈ hs1 F => ?_
    refine x_call (n_glob F V rfl K0 G.g (gl_match G) ?_ rfl)
    refine cw_fn ?_ rfl (by decide)
    repeat walk_at "e"
    refine x_neg fun z₆ t₃₉ => ?_
    refine list_last (isList_own F (by walk_at "mm")) hlast (by rw [List.length_map, X.ld]; lia) ?_ (by with_unfolding_all rfl)
    repeat walk_at "e"
    refine x_call (n_glob F V rfl K0 G.g (gl_touch G) ?_ rfl)
    refine cw_fn ?_ rfl (by decide)
    repeat walk_at "e"
    refine ⟨⟨_, _, (K0.trans F.kp).getc (G.K 135 _ rfl) nofun, rfl⟩, touch_spec G (K0.trans F.kp) F.size (R'.le (by decide)) (isInts_own F (by walk_at "mm") hri) (by decide) hM0 hMr (by lia) fun h₃₇ t₄₀ ut k37 => ?_⟩
    replace F := F.call k37
    repeat walk_at "e"
    refine ⟨⟨_, _, (K0.trans F.kp).getc (G.K 142 _ rfl) nofun, rfl⟩, match_spec G (K0.trans F.kp) F.size (R'.le (by decide)) ⟨q'.2.1, q'.2.2, F.get (by walk_at "mm"), hqi'⟩ (by lia) hit2m hst0.1 (by lia) (MatchQ.of fun v2 φ2 h₃₈ t₄₁ hs2 k38 fr38 => ?_)⟩
    replace F := F.take k38 fr38
    rw [← hit2] at hs2
    refine ne_span (R'.le (by decide)) F (hs1.mono fun p hp => List.mem_append_right _ (List.mem_append_left _ hp)) (hs2.mono fun p hp => List.mem_append_left _ hp) ?_
    repeat walk_at "e"
    refine if_f ?_
    repeat walk_at "e"
    replace F := F.weaken ((List.sublist_cons_self _ _).trans ((List.sublist_cons_self _ _).trans ((List.sublist_cons_self _ _).trans ((List.sublist_append_right φ1 _).trans (List.sublist_append_right φ2 _)))))
    replace F := (F.weaken (List.sublist_append_right φ _)).perm (List.perm_middle (l₁ := [_, _, _, _, _])).symm
    replace F := F.weaken ((List.sublist_cons_self _ _).trans (List.sublist_cons_self _ _))
    refine hQT _ _ (Turn.next F ⟨_, _, rfl, .mk _ _ _ ρ₂ hx₂ (Y₂.to (fun _ _ => rfl) (fun _ _ => rfl) (fun _ _ => by simp; lia)) (by walk_at "lk") (by walk_at "lk") (by walk_at "lk") (by walk_at "lk")⟩)
  · rintro h₁₉ t₁₉ m σ v - F
    repeat walk_at "e"
    exact k _ _ F.kp
end

-- part J1
theorem good_tab {H : Heap} {c P : Addr} (hd : CodeHd H c P) (hP : H.get? P = some (tabObj #[])) (hc : Cd H c) : Good H H c := by
  intro n
  cases n with
  | zero => exact hc
  | succ n => exact ⟨hc, P, #[], hd, hP, trivial, .inl (hd.tab hP).isCodeTable, fun pos cv e => by cases e⟩
theorem glb_of {w : World} {H : Heap} {mg mb : Str → Option Value} {p : Program} {loose : List Str} {mean : ExcName → Option Value} (T : Top p loose mean mg mb H) (KX : (hd.heap_39 w.params).In H) (hT : ∀ P ∈ [99, 106, 92], H.get? P = some (tabObj #[])) : Glb w H mg mb := by
  have cd : ∀ {c : Addr} {o : Obj} {vs : Array Value} {q : Str} {t : Tok}, (Kf w).lookup c = some o → o.cls = .type "code" → o.data = .fields vs → vs[1]? = some (.str q t) → Cd H c :=
    fun e hc hd hq => ⟨_, _, _, _, KX _ _ e, hc, hd, hq⟩
  exact ⟨KX, T.g, T.b, T.nolimit, T.nodigits, T.builtins, T.bmain,
    good_tab (P := 92) (codeHd_of_K KX (by kernel_rfl)) (hT 92 (by simp)) (cd rfl rfl rfl rfl),
    good_tab (P := 99) (codeHd_of_K KX (by kernel_rfl)) (hT 99 (by simp)) (cd rfl rfl rfl rfl),
    good_tab (P := 106) (codeHd_of_K KX (by kernel_rfl)) (hT 106 (by simp)) (cd rfl rfl rfl rfl)⟩
theorem caller_rm : Rm callerA 20 := ⟨rfl, by decide, by decide⟩

-- part J2
theorem joined : PySem.Challenge.rw_pu0006_01.Holds := Mine.hd (by
  k_fill
  intro w s₀ s₁ mg mb G Y fa o pm cd doc dV kV ho hd hcd hD hmg hg args vals as hpre hlay hrd hwl hlo
  have KX := km_in_of Y
  have hT8 := km_tabs_of Y
  refine Ground.open G ?_
  intro T B D TE TW
  wrow_args hpre hlay hrd hwl hlo
  rename_i script _ _ _ _ _ _ _ l vs _ hl _ _ _ hi _ hlen _
  have GG := glb_of T KX hT8
  have hfa : fa = 147 := by
    have := gl_law GG
    rw [hmg] at this
    cases this; rfl
  subst hfa
  rcases s₁ with ⟨h, g, d, t, os⟩
  refine law_spec (script := script) GG (Kp.refl _ _) (Nat.le_refl _) caller_rm ⟨vs, hl, hi⟩ (by lia) (lawFacts script) fun h' t' k => ?_
  exact ⟨.inl ⟨.bool true, .bool true, [], rfl, fun _ => rfl, .bool _, by wrow_post, fun _ => ⟨List.nodup_nil, fun a ha => by cases ha⟩⟩, k.oldK, rfl, .of_eq hg⟩)

end Mine
set_option maxRecDepth 100000 in
set_option maxHeartbeats 8000000 in
theorem PySem.Challenge.cw_pu0006_01_holds : PySem.Challenge.rw_pu0006_01.Holds := by
  exact Mine.joined
