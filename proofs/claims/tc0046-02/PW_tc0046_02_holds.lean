import PyProof.Rows.All
import Wide.All
import OpenK.AllK
import Wide.FinOn
import PySem.Challenge.RW_tc0046_02
open PySem PySem.Calls PySem.W PyProof.Rows
set_option Elab.async false
set_option maxRecDepth 100000
set_option linter.unusedVariables false
namespace Mine

/-- abstract values -/
inductive AV where
  | none
  | bool (b : Bool)
  | int (i : Int)
  | str (s : Str)
  | val (v : Value)
  | tup (xs : List AV)
  | lst (xs : List AV)
  | dct (kvs : List (Str × AV))
  | obj (i : Nat)
  | hdr (i : Nat)
  | inst (i : Nat)

/-- abstract objects (tracked) -/
inductive AO where
  | lst (xs : List AV)
  | dct (kvs : List (Str × AV))
  | ns (vars : List (Str × AV))
  | cell (v : Option AV)
  | inst (v : Option AV)
  | loan

/-- what stays fixed -/
structure Cx where
  prog : Program
  w : World
  K : Frag
  p : Program
  loose : List Str
  mg : Str → Option Value
  mb : Str → Option Value
  C : Addr
  r : Shared
  kin : K.In r.heap
  top : TopRead p loose mg mb r.heap

abbrev Cx.M (X : Cx) : Model := model X.prog X.w

noncomputable def HdrAt (C : Addr) (h : Heap) (x dx l : Addr) : Prop :=
  h.get? x = some (instObj C dx) ∧ ∃ m, h.Ns dx m ∧ m (Str.ofString "_headers") = some (.ref l) ∧ ∀ y, y ≠ Str.ofString "_headers" → m y = none

mutual
noncomputable def VR (X : Cx) (ρ T : List Addr) (h : Heap) : AV → Value → Prop
  | .none, v => v = .none
  | .bool b, v => v = .bool b
  | .int i, v => ∃ t, v = .int i t
  | .str x, v => x.length ≤ sizeLine ∧ ∃ t, v = .str x t
  | .val u, v => v = u
  | .tup xs, v => ∃ a vs, v = .ref a ∧ a ∉ T ∧ IsTup h a vs.toArray ∧ VRs X ρ T h xs vs
  | .lst xs, v => ∃ a vs, v = .ref a ∧ a ∉ T ∧ h.IsList a vs.toArray ∧ VRs X ρ T h xs vs
  | .dct kvs, v => ∃ a vs, v = .ref a ∧ a ∉ T ∧ (a == sysModules) = false ∧ h.DictOf (strKind X.prog X.w) a vs ∧ VRk X ρ T h kvs vs
  | .obj i, v => ∃ a, v = .ref a ∧ ρ[i]? = some a
  | .hdr i, v => ∃ x dx l, v = .ref x ∧ x ∉ T ∧ dx ∉ T ∧ ρ[i]? = some l ∧ HdrAt X.C h x dx l
  | .inst i, v => ∃ x dx, v = .ref x ∧ x ∉ T ∧ ρ[i]? = some dx ∧ h.get? x = some (instObj X.C dx)
noncomputable def VRs (X : Cx) (ρ T : List Addr) (h : Heap) : List AV → List Value → Prop
  | [], vs => vs = []
  | x :: xs, vs => ∃ v r, vs = v :: r ∧ VR X ρ T h x v ∧ VRs X ρ T h xs r
noncomputable def VRk (X : Cx) (ρ T : List Addr) (h : Heap) : List (Str × AV) → List (Str × Value) → Prop
  | [], vs => vs = []
  | (k, x) :: xs, vs => ∃ v r, vs = (k, v) :: r ∧ VR X ρ T h x v ∧ VRk X ρ T h xs r
end

/-- heaps that agree on what is not tracked -/
structure Mv (ρ T : List Addr) (h : Heap) (ρ' T' : List Addr) (h' : Heap) : Prop where
  keep : ∀ b o, b ∉ T → h.get? b = some o → h'.get? b = some o
  trk : ∀ a ∈ T', a ∈ T ∨ h.get? a = none
  ids : ∀ (i : Nat) (a : Addr), ρ[i]? = some a → ρ'[i]? = some a

section
variable {X : Cx} {ρ T ρ' T' ρ'' T'' : List Addr} {h h' h'' : Heap}

@[simp] theorem VR_none {v : Value} : VR X ρ T h .none v ↔ v = .none := Iff.rfl
@[simp] theorem VR_bool {b : Bool} {v : Value} : VR X ρ T h (.bool b) v ↔ v = .bool b := Iff.rfl
@[simp] theorem VR_int {i : Int} {v : Value} : VR X ρ T h (.int i) v ↔ ∃ t, v = .int i t := Iff.rfl
@[simp] theorem VR_str {i : Str} {v : Value} : VR X ρ T h (.str i) v ↔ i.length ≤ sizeLine ∧ ∃ t, v = .str i t := Iff.rfl
@[simp] theorem VR_val {u v : Value} : VR X ρ T h (.val u) v ↔ v = u := Iff.rfl
@[simp] theorem VRs_nil {vs : List Value} : VRs X ρ T h [] vs ↔ vs = [] := Iff.rfl
theorem VRs_cons {x : AV} {xs : List AV} {vs : List Value} : VRs X ρ T h (x :: xs) vs ↔ ∃ v r, vs = v :: r ∧ VR X ρ T h x v ∧ VRs X ρ T h xs r := Iff.rfl

theorem VRk_nil {vs : List (Str × Value)} : VRk X ρ T h [] vs ↔ vs = [] := Iff.rfl
theorem VRk_cons {k : Str} {x : AV} {xs : List (Str × AV)} {vs : List (Str × Value)} : VRk X ρ T h ((k, x) :: xs) vs ↔ ∃ v r, vs = (k, v) :: r ∧ VR X ρ T h x v ∧ VRk X ρ T h xs r := Iff.rfl
theorem Mv.old (m : Mv ρ T h ρ' T' h') {a : Addr} {o : Obj} (ha : a ∉ T) (e : h.get? a = some o) : a ∉ T' ∧ h'.get? a = some o :=
  ⟨fun q => (m.trk a q).elim ha fun z => (by rw [z] at e; cases e), m.keep a o ha e⟩

theorem isList_at {a : Addr} {vs : Array Value} (m : Mv ρ T h ρ' T' h') (ha : a ∉ T) (x : h.IsList a vs) : a ∉ T' ∧ h'.IsList a vs :=
  by obtain ⟨o, ho, r⟩ := x; exact ⟨(m.old ha ho).1, o, (m.old ha ho).2, r⟩
theorem isTup_at {a : Addr} {vs : Array Value} (m : Mv ρ T h ρ' T' h') (ha : a ∉ T) (x : IsTup h a vs) : a ∉ T' ∧ IsTup h' a vs :=
  by obtain ⟨o, ho, r⟩ := x; exact ⟨(m.old ha ho).1, o, (m.old ha ho).2, r⟩
theorem dictOf_at {a : Addr} {kvs : List (Str × Value)} (m : Mv ρ T h ρ' T' h') (ha : a ∉ T) (x : h.DictOf (strKind X.prog X.w) a kvs) : a ∉ T' ∧ h'.DictOf (strKind X.prog X.w) a kvs :=
  by obtain ⟨o, es, ep, ho, r⟩ := x; exact ⟨(m.old ha ho).1, o, es, ep, (m.old ha ho).2, r⟩

mutual
theorem VR.mv (m : Mv ρ T h ρ' T' h') : ∀ (x : AV) {v : Value}, VR X ρ T h x v → VR X ρ' T' h' x v
  | .none, _, q => q
  | .bool _, _, q => q
  | .int _, _, q => q
  | .str _, _, q => q
  | .val _, _, q => q
  | .tup xs, _, q => by
    skip
    obtain ⟨a, vs, rfl, ha, ht, hv⟩ := q
    obtain ⟨ha', ht'⟩ := isTup_at m ha ht
    exact ⟨a, vs, rfl, ha', ht', VRs.mv m xs hv⟩
  | .lst xs, _, q => by
    skip
    obtain ⟨a, vs, rfl, ha, ht, hv⟩ := q
    obtain ⟨ha', ht'⟩ := isList_at m ha ht
    exact ⟨a, vs, rfl, ha', ht', VRs.mv m xs hv⟩
  | .dct kvs, _, q => by
    skip
    obtain ⟨a, vs, rfl, ha, hy, ht, hv⟩ := q
    obtain ⟨ha', ht'⟩ := dictOf_at m ha ht
    exact ⟨a, vs, rfl, ha', hy, ht', VRk.mv m kvs hv⟩
  | .obj i, _, q => by
    skip
    obtain ⟨a, rfl, e⟩ := q
    exact ⟨a, rfl, m.ids _ _ e⟩
  | .hdr i, _, q => by
    skip
    obtain ⟨x, dx, l, rfl, hx, hd, e, h1, mm, ⟨o, es, ep, h2, r⟩, r2⟩ := q
    obtain ⟨a1, a2⟩ := m.old hx h1
    obtain ⟨b1, b2⟩ := m.old hd h2
    exact ⟨x, dx, l, rfl, a1, b1, m.ids _ _ e, a2, mm, ⟨o, es, ep, b2, r⟩, r2⟩
  | .inst i, _, q => by
    skip
    obtain ⟨x, dx, rfl, hx, e, h1⟩ := q
    obtain ⟨a1, a2⟩ := m.old hx h1
    exact ⟨x, dx, rfl, a1, m.ids _ _ e, a2⟩
theorem VRs.mv (m : Mv ρ T h ρ' T' h') : ∀ (xs : List AV) {vs : List Value}, VRs X ρ T h xs vs → VRs X ρ' T' h' xs vs
  | [], _, q => by exact q
  | x :: xs, _, q => by
    skip
    obtain ⟨v, r, rfl, h1, h2⟩ := q
    exact ⟨v, r, rfl, VR.mv m x h1, VRs.mv m xs h2⟩
theorem VRk.mv (m : Mv ρ T h ρ' T' h') : ∀ (xs : List (Str × AV)) {vs : List (Str × Value)}, VRk X ρ T h xs vs → VRk X ρ' T' h' xs vs
  | [], _, q => by exact q
  | (k, x) :: xs, _, q => by
    skip
    obtain ⟨v, r, rfl, h1, h2⟩ := q
    exact ⟨v, r, rfl, VR.mv m x h1, VRk.mv m xs h2⟩
end

theorem VRs.length : ∀ {xs : List AV} {vs : List Value}, VRs X ρ T h xs vs → vs.length = xs.length
  | [], _, q => by rw [VRs_nil.mp q]; rfl
  | x :: xs, _, q => by
    obtain ⟨v, r, rfl, _, h2⟩ := VRs_cons.mp q
    simp [VRs.length h2]
theorem VRs.get : ∀ {xs : List AV} {vs : List Value}, VRs X ρ T h xs vs → ∀ {i : Nat} {x : AV}, xs[i]? = some x → ∃ v, vs[i]? = some v ∧ VR X ρ T h x v
  | [], _, _, _, _, e => by simp at e
  | y :: xs, _, q, i, x, e => by
    obtain ⟨v, r, rfl, h1, h2⟩ := VRs_cons.mp q
    cases i with
    | zero => simp at e; subst e; exact ⟨v, by simp, h1⟩
    | succ i => simp at e; obtain ⟨u, a, b⟩ := VRs.get h2 e; exact ⟨u, by simpa using a, b⟩
theorem VRs.app : ∀ {xs ys : List AV} {vs us : List Value}, VRs X ρ T h xs vs → VRs X ρ T h ys us → VRs X ρ T h (xs ++ ys) (vs ++ us)
  | [], _, _, _, q, q' => by rw [VRs_nil.mp q]; exact q'
  | x :: xs, _, _, _, q, q' => by
    obtain ⟨v, r, rfl, h1, h2⟩ := VRs_cons.mp q
    exact VRs_cons.mpr ⟨v, _, rfl, h1, VRs.app h2 q'⟩
theorem VRs.one {x : AV} {v : Value} (q : VR X ρ T h x v) : VRs X ρ T h [x] [v] := VRs_cons.mpr ⟨v, [], rfl, q, VRs_nil.mpr rfl⟩
end
end Mine
namespace Mine

noncomputable def VRo (X : Cx) (ρ T : List Addr) (h : Heap) : Option AV → Option Value → Prop
  | .none, .none => True
  | .some x, .some v => VR X ρ T h x v
  | _, _ => False

noncomputable def OR (X : Cx) (ρ T : List Addr) (h : Heap) (a : Addr) : AO → Prop
  | .lst xs => ∃ vs : List Value, h.PlainList a vs.toArray ∧ VRs X ρ T h xs vs
  | .dct kvs => ∃ vs, h.DictOf (strKind X.prog X.w) a vs ∧ VRk X ρ T h kvs vs
  | .ns vars => ∃ m, h.Ns a m ∧ (∀ x v, vars.lookup x = some v → ∃ u, m x = some u ∧ VR X ρ T h v u) ∧ ∀ x, vars.lookup x = none → m x = none
  | .cell v => ∃ u, h.IsCell a u ∧ VRo X ρ T h v u
  | .inst v => match v with
    | none => h.get? a = some emptyDict
    | some v => ∃ hs t n u, h.get? a = some (dictOf [⟨hs, .str (Str.ofString "_headers") t, u⟩] n) ∧ VR X ρ T h v u
  | .loan => True

structure Rep (X : Cx) (S : List AO) (ρ T : List Addr) (s : Shared) : Prop where
  keep : ∀ b o, X.r.heap.get? b = some o → s.heap.get? b = some o
  len : ρ.length = S.length
  obj : ∀ (i : Nat) (ao : AO) (a : Addr), S[i]? = some ao → ρ[i]? = some a → OR X ρ T s.heap a ao
  nodup : ρ.Nodup
  nosys : ∀ a ∈ ρ, (a == sysModules) = false
  sub : ∀ a ∈ ρ, a ∈ T
  new : ∀ a ∈ T, X.r.heap.get? a = none
  low : ∀ a ∈ T, ∃ o, s.heap.get? a = some o
  rest : s.gens = X.r.gens ∧ s.os = X.r.os ∧ s.drawn = X.r.drawn
  toks : 1 ≤ s.toks

noncomputable def Live (S : List AO) (ρ : List Addr) (b : Addr) : Prop := ∃ (i : Nat) (ao : AO), ρ[i]? = some b ∧ S[i]? = some ao ∧ ao ≠ .loan

structure Step (X : Cx) (S : List AO) (ρ T : List Addr) (s : Shared) (S' : List AO) (ρ' T' : List Addr) (s' : Shared) : Prop where
  rep : Rep X S' ρ' T' s'
  more : ∃ m, ρ' = ρ ++ m ∧ T' = T ++ m ∧ ∀ a ∈ m, s.heap.get? a = none
  keep : ∀ b o, ¬ Live S ρ b → s.heap.get? b = some o → s'.heap.get? b = some o
  loans : ∀ i : Nat, S[i]? = some .loan → S'[i]? = some .loan

section
variable {X : Cx} {S S' S'' : List AO} {ρ T ρ' T' ρ'' T'' : List Addr} {s s' s'' : Shared} {h h' : Heap}

theorem Live.mem {b : Addr} (l : Live S ρ b) : b ∈ ρ := by obtain ⟨_, _, e, _⟩ := l; exact List.mem_of_getElem? e

theorem Step.mv (R : Rep X S ρ T s) (st : Step X S ρ T s S' ρ' T' s') : Mv ρ T s.heap ρ' T' s'.heap where
  keep := fun b o hb e => st.keep b o (fun l => hb (R.sub b l.mem)) e
  trk := fun a ha => by
    obtain ⟨m, _, rfl, hm⟩ := st.more
    rcases List.mem_append.mp ha with q | q
    · exact .inl q
    · exact .inr (hm a q)
  ids := fun i a e => by
    obtain ⟨m, rfl, _, _⟩ := st.more
    rw [List.getElem?_append_left (List.getElem?_eq_some_iff.mp e).1]
    exact e

theorem Step.trans (R : Rep X S ρ T s) (a : Step X S ρ T s S' ρ' T' s') (b : Step X S' ρ' T' s' S'' ρ'' T'' s'') : Step X S ρ T s S'' ρ'' T'' s'' where
  rep := b.rep
  more := by
    obtain ⟨m, rfl, rfl, h1⟩ := a.more
    obtain ⟨n, rfl, rfl, h2⟩ := b.more
    refine ⟨m ++ n, by simp, by simp, fun x hx => ?_⟩
    rcases List.mem_append.mp hx with q | q
    · exact h1 x q
    · have n1 := h2 x q
      cases e : s.heap.get? x with
      | none => rfl
      | some o =>
        by_cases hT : x ∈ T
        · obtain ⟨o', e'⟩ := a.rep.low x (List.mem_append_left _ hT)
          rw [n1] at e'; cases e'
        · have := a.keep x o (fun l => hT (R.sub x l.mem)) e
          rw [n1] at this; cases this
  keep := fun x o hx e => b.keep x o (fun l => by
    obtain ⟨m, rfl, rfl, h1⟩ := a.more
    obtain ⟨i, ao, e1, e2, e3⟩ := l
    by_cases hi : i < ρ.length
    · rw [List.getElem?_append_left hi] at e1
      have hiS : i < S.length := R.len ▸ hi
      cases q : S[i]? with
      | none => exact absurd (List.getElem?_eq_none_iff.mp q) (by omega)
      | some ao' =>
        by_cases hl' : ao' = .loan
        · subst hl'
          have := a.loans i q
          rw [e2] at this
          exact e3 (Option.some.inj this)
        · exact hx ⟨i, ao', e1, q, hl'⟩
    · have hm : x ∈ m := by
        rw [List.getElem?_append_right (by omega)] at e1
        exact List.mem_of_getElem? e1
      rw [h1 x hm] at e; cases e) (a.keep x o hx e)
  loans := fun i e => b.loans i (a.loans i e)

theorem VRo.mv (m : Mv ρ T h ρ' T' h') : ∀ {x : Option AV} {v : Option Value}, VRo X ρ T h x v → VRo X ρ' T' h' x v
  | .none, .none, _ => trivial
  | .some x, .some _, q => VR.mv m x q
  | .none, .some _, q => q.elim
  | .some _, .none, q => q.elim

theorem OR.mv (m : Mv ρ T h ρ' T' h') {a : Addr} (hk : ∀ o, h.get? a = some o → h'.get? a = some o) {ao : AO} (q : OR X ρ T h a ao) : OR X ρ' T' h' a ao := by
  cases ao with
  | lst xs => obtain ⟨vs, ⟨o, ho⟩, q⟩ := q; exact ⟨vs, ⟨o, hk _ ho⟩, VRs.mv m _ q⟩
  | dct xs => obtain ⟨vs, ⟨o, es, ep, ho, r⟩, q⟩ := q; exact ⟨vs, ⟨o, es, ep, hk o ho, r⟩, VRk.mv m _ q⟩
  | ns xs => obtain ⟨mm, ⟨o, es, ep, ho, r⟩, q, q'⟩ := q; exact ⟨mm, ⟨o, es, ep, hk o ho, r⟩, fun x v e => (q x v e).elim fun u w => ⟨u, w.1, VR.mv m _ w.2⟩, q'⟩
  | cell v => obtain ⟨u, ⟨o, ho, r⟩, q⟩ := q; exact ⟨u, ⟨o, hk o ho, r⟩, q.mv m⟩
  | inst v =>
    cases v with
    | none => exact hk _ q
    | some v => obtain ⟨hs, t, n, u, q, r⟩ := q; exact ⟨hs, t, n, u, hk _ q, VR.mv m v r⟩
  | loan => trivial

/-- all that stood stands -/
theorem Step.ext (R : Rep X S ρ T s) (hk : ∀ b o, s.heap.get? b = some o → s'.heap.get? b = some o)
    (hr : s'.gens = s.gens ∧ s'.os = s.os ∧ s'.drawn = s.drawn) (ht : s.toks ≤ s'.toks) : Step X S ρ T s S ρ T s' where
  rep := {
    keep := fun b o e => hk b o (R.keep b o e)
    len := R.len
    obj := fun i ao a e1 e2 => (R.obj i ao a e1 e2).mv ⟨fun b o _ e => hk b o e, fun a ha => .inl ha, fun _ _ e => e⟩ fun o e => hk a o e
    nodup := R.nodup
    nosys := R.nosys
    sub := R.sub
    new := R.new
    low := fun a ha => by obtain ⟨o, e⟩ := R.low a ha; exact ⟨o, hk a o e⟩
    rest := ⟨hr.1.trans R.rest.1, hr.2.1.trans R.rest.2.1, hr.2.2.trans R.rest.2.2⟩
    toks := Nat.le_trans R.toks ht }
  more := ⟨[], by simp, by simp, fun _ h => nomatch h⟩
  keep := fun b o _ e => hk b o e
  loans := fun _ e => e

theorem Step.refl (R : Rep X S ρ T s) : Step X S ρ T s S ρ T s := .ext R (fun _ _ e => e) ⟨rfl, rfl, rfl⟩ (Nat.le_refl _)
theorem Step.toks (R : Rep X S ρ T s) (n : Nat) (hn : s.toks ≤ n := by first | exact Nat.le_refl _ | omega) : Step X S ρ T s S ρ T { s with toks := n } := .ext R (fun _ _ e => e) ⟨rfl, rfl, rfl⟩ hn
theorem Step.push (R : Rep X S ρ T s) (o : Obj) (n : Nat) (hn : s.toks ≤ n := by first | exact Nat.le_refl _ | omega) : Step X S ρ T s S ρ T { s with heap := s.heap.push o, toks := n } :=
  .ext R (fun _ _ e => Heap.get?_push_of_some _ e) ⟨rfl, rfl, rfl⟩ hn

/-- a tracked object turned -/
theorem Step.upd (R : Rep X S ρ T s) {i : Nat} {a : Addr} {ao ao' : AO} (hi : S[i]? = some ao) (ha : ρ[i]? = some a) (hn : ao ≠ .loan) (hn' : ao' ≠ .loan) (hs : Heap.ExtBut a s.heap h') (hO : OR X ρ T h' a ao') (ho : ∃ o, h'.get? a = some o) (n : Nat) (hnn : s.toks ≤ n := by first | exact Nat.le_refl _ | omega) :
    Step X S ρ T s (S.set i ao') ρ T { s with heap := h', toks := n } := by
  have haT : a ∈ T := R.sub a (List.mem_of_getElem? ha)
  have mv : Mv ρ T s.heap ρ T h' := ⟨fun b o hb e => hs b o (fun q => hb (q ▸ haT)) e, fun a ha => .inl ha, fun _ _ e => e⟩
  exact {
    rep := {
      keep := fun b o e => hs b o (fun q => by have := R.new a haT; rw [← q, e] at this; cases this) (R.keep b o e)
      len := by simpa using R.len
      obj := fun j oj b e1 e2 => by
        by_cases hij : i = j
        · subst hij
          rw [List.getElem?_set_self (List.getElem?_eq_some_iff.mp hi).1] at e1
          rw [ha] at e2
          cases e1; cases e2
          exact hO
        · rw [List.getElem?_set_ne hij] at e1
          have hb : b ≠ a := fun q => by
            subst q
            have h1 := List.getElem?_eq_some_iff.mp ha
            have h2 := List.getElem?_eq_some_iff.mp e2
            obtain ⟨l1, z1⟩ := h1
            obtain ⟨l2, z2⟩ := h2
            exact hij ((List.getElem_inj R.nodup).mp (z1.trans z2.symm))
          exact (R.obj j oj b e1 e2).mv mv fun o e => hs b o hb e
      nodup := R.nodup
      nosys := R.nosys
      sub := R.sub
      new := R.new
      low := fun b hb => by
        by_cases q : b = a
        · rw [q]; exact ho
        · obtain ⟨o, e⟩ := R.low b hb; exact ⟨o, hs b o q e⟩
      rest := R.rest
      toks := Nat.le_trans R.toks hnn }
    more := ⟨[], by simp, by simp, fun _ h => nomatch h⟩
    keep := fun b o hb e => hs b o (fun q => hb ⟨i, ao, q ▸ ha, hi, hn⟩) e
    loans := fun j e => by
      by_cases hij : i = j
      · subst hij; rw [hi] at e; exact absurd (Option.some.inj e) hn
      · rw [List.getElem?_set_ne hij]; exact e }

/-- a new tracked object -/
theorem Step.new (R : Rep X S ρ T s) {a : Addr} {ao : AO} (hk : ∀ b o, s.heap.get? b = some o → h'.get? b = some o) (ha : s.heap.get? a = none) (hy : (a == sysModules) = false) (ha' : ∃ o, h'.get? a = some o)
    (hO : OR X (ρ ++ [a]) (T ++ [a]) h' a ao) (n : Nat) (hn : s.toks ≤ n := by first | exact Nat.le_refl _ | omega) : Step X S ρ T s (S ++ [ao]) (ρ ++ [a]) (T ++ [a]) { s with heap := h', toks := n } := by
  have mv : Mv ρ T s.heap (ρ ++ [a]) (T ++ [a]) h' := ⟨fun b o _ e => hk b o e, fun b hb => by
    rcases List.mem_append.mp hb with q | q
    · exact .inl q
    · rw [List.mem_singleton.mp q]; exact .inr ha, fun i b e => by rw [List.getElem?_append_left (List.getElem?_eq_some_iff.mp e).1]; exact e⟩
  have hnot : a ∉ T := fun q => by obtain ⟨o, e⟩ := R.low a q; rw [ha] at e; cases e
  exact {
    rep := {
      keep := fun b o e => hk b o (R.keep b o e)
      len := by simp [R.len]
      obj := fun j oj b e1 e2 => by
        by_cases hj : j < S.length
        · rw [List.getElem?_append_left hj] at e1
          rw [List.getElem?_append_left (by rw [R.len]; exact hj)] at e2
          exact (R.obj j oj b e1 e2).mv mv fun o e => hk b o e
        · rw [List.getElem?_append_right (by omega)] at e1
          rw [List.getElem?_append_right (by rw [R.len]; omega)] at e2
          have hz : j - S.length = 0 := by
            have := (List.getElem?_eq_some_iff.mp e1).1
            simpa using this
          rw [R.len] at e2
          rw [hz] at e1 e2
          cases e1; cases e2
          exact hO
      nodup := List.nodup_append.mpr ⟨R.nodup, by simp, fun x hx y hy e => by
        rw [List.mem_singleton.mp hy] at e
        exact hnot (e ▸ R.sub x hx)⟩
      nosys := fun b hb => by
        rcases List.mem_append.mp hb with q | q
        · exact R.nosys b q
        · rw [List.mem_singleton.mp q]; exact hy
      sub := fun b hb => by
        rcases List.mem_append.mp hb with q | q
        · exact List.mem_append_left _ (R.sub b q)
        · exact List.mem_append_right _ q
      new := fun b hb => by
        rcases List.mem_append.mp hb with q | q
        · exact R.new b q
        · rw [List.mem_singleton.mp q]
          cases e : X.r.heap.get? a with
          | none => rfl
          | some o => have := R.keep a o e; rw [ha] at this; cases this
      low := fun b hb => by
        rcases List.mem_append.mp hb with q | q
        · obtain ⟨o, e⟩ := R.low b q; exact ⟨o, hk b o e⟩
        · rw [List.mem_singleton.mp q]; exact ha'
      rest := R.rest
      toks := Nat.le_trans R.toks hn }
    more := ⟨[a], rfl, rfl, fun b hb => by rw [List.mem_singleton.mp hb]; exact ha⟩
    keep := fun b o _ e => hk b o e
    loans := fun i e => by rw [List.getElem?_append_left (List.getElem?_eq_some_iff.mp e).1]; exact e }

theorem Rep.nosysOf (R : Rep X S ρ T s) {a : Addr} (ha : s.heap.objs.size ≤ a) : (a == sysModules) = false := by
  obtain ⟨o, _, _, ho, _⟩ := X.top.g
  have h1 : mainGlobals < s.heap.objs.size := Heap.lt_size (R.keep _ _ ho)
  have h2 : sysModules < mainGlobals := by decide
  exact beq_false_of_ne (Nat.ne_of_gt (Nat.lt_of_lt_of_le (Nat.lt_trans h2 h1) ha))

end

/-- the frame -/
structure AEnv where
  scope : Scope
  loc : Nat
  cells : List (Str × Nat)

structure EnvOk (ae : AEnv) (ρ : List Addr) (env : Env) : Prop where
  scope : env.scope = ae.scope
  fn : ae.scope.kind = .function
  loc : ρ[ae.loc]? = some env.locals
  glob : env.globals = mainGlobals
  bui : env.builtins = builtinsNs
  cells : ∀ (x : Str) (i : Nat), ae.cells.lookup x = some i → ∃ c, env.cells.lookup x = some c ∧ ρ[i]? = some c

structure Room (n : Nat) (A : Around) : Prop where
  depth : A.depth + n < recursionLimit
  units : A.units + 8 * n < cLine
  handled : A.handled = .none

abbrev No : Value → Shared → Prop := fun _ _ => False

noncomputable def PostG {α β : Type} (R : List Addr → List Addr → Heap → α → β → Prop) (X : Cx) (S : List AO) (ρ T : List Addr) (s : Shared) (K : α → List AO → Prop) (b : β) (s' : Shared) : Prop :=
  ∃ x S' ρ' T', K x S' ∧ Step X S ρ T s S' ρ' T' s' ∧ R ρ' T' s'.heap x b

abbrev PostV (X : Cx) := PostG (VR X) X
abbrev PostL (X : Cx) := PostG (VRs X) X
abbrev PostB (X : Cx) := PostG (fun _ _ _ (x b : Bool) => b = x) X
abbrev PostU (X : Cx) := PostG (fun _ _ _ (_ _ : Unit) => True) X

inductive AF where
  | next | brk | cont
  | ret (x : AV)
noncomputable def FR (X : Cx) (ρ T : List Addr) (h : Heap) : AF → Flow → Prop
  | .next, f => f = .next
  | .brk, f => f = .brk
  | .cont, f => f = .cont
  | .ret x, f => ∃ v, f = .ret v ∧ VR X ρ T h x v
abbrev PostF (X : Cx) := PostG (FR X) X

section
variable {X : Cx} {S S' : List AO} {ρ T ρ' T' : List Addr} {s s' : Shared} {α β : Type} {R : List Addr → List Addr → Heap → α → β → Prop} {K K' : α → List AO → Prop} {A : Around} {E : Value → Shared → Prop}

theorem EnvOk.step {ae : AEnv} {env : Env} (E : EnvOk ae ρ env) (st : Step X S ρ T s S' ρ' T' s') (hR : Rep X S ρ T s) : EnvOk ae ρ' env :=
  ⟨E.scope, E.fn, (st.mv hR).ids _ _ E.loc, E.glob, E.bui, fun x i e => by obtain ⟨c, a, b⟩ := E.cells x i e; exact ⟨c, a, (st.mv hR).ids _ _ b⟩⟩

theorem PostG.mono {b : β} (p : PostG R X S ρ T s K b s') (h : ∀ x S', K x S' → K' x S') : PostG R X S ρ T s K' b s' :=
  by obtain ⟨x, S', ρ', T', k, r⟩ := p; exact ⟨x, S', ρ', T', h _ _ k, r⟩
theorem PostG.trans {b : β} {s'' : Shared} (hR : Rep X S ρ T s) (st : Step X S ρ T s S' ρ' T' s') (p : PostG R X S' ρ' T' s' K b s'') : PostG R X S ρ T s K b s'' :=
  by obtain ⟨x, S'', ρ'', T'', k, st', r⟩ := p; exact ⟨x, S'', ρ'', T'', k, st.trans hR st', r⟩
theorem PostG.mk {b : β} {x : α} (st : Step X S ρ T s S' ρ' T' s') (k : K x S') (r : R ρ' T' s'.heap x b) : PostG R X S ρ T s K b s' := ⟨x, S', ρ', T', k, st, r⟩

theorem chain {t : Sem β} {Q : β → Shared → Prop} (h : wpAny X.M A t (PostG R X S ρ T s K) No s)
    (k : ∀ x S' ρ' T' b s', K x S' → Step X S ρ T s S' ρ' T' s' → R ρ' T' s'.heap x b → Q b s') : wpAny X.M A t Q E s :=
  wpAny_mono h (fun b s' p => by obtain ⟨x, S', ρ', T', a, st, r⟩ := p; exact k x S' ρ' T' b s' a st r) fun _ _ f => f.elim

theorem thenG {γ δ : Type} {R' : List Addr → List Addr → Heap → γ → δ → Prop} {K' : γ → List AO → Prop} {t : Sem δ} (hR : Rep X S ρ T s) (st : Step X S ρ T s S' ρ' T' s') (h : wpAny X.M A t (PostG R' X S' ρ' T' s' K') No s') : wpAny X.M A t (PostG R' X S ρ T s K') E s' :=
  wpAny_mono h (fun _ _ p => p.trans hR st) fun _ _ f => f.elim
end

noncomputable def WpE (X : Cx) (n : Nat) (ae : AEnv) (S : List AO) (e : Expr) (K : AV → List AO → Prop) : Prop :=
  ∀ A ρ T s env, Room n A → Rep X S ρ T s → EnvOk ae ρ env → wpAny X.M A (eval e env) (PostV X S ρ T s K) No s
noncomputable def WpB (X : Cx) (n : Nat) (ae : AEnv) (S : List AO) (e : Expr) (K : Bool → List AO → Prop) : Prop :=
  ∀ A ρ T s env, Room n A → Rep X S ρ T s → EnvOk ae ρ env → wpAny X.M A (isTrue e env (eval e env)) (PostB X S ρ T s K) No s
noncomputable def WpS (X : Cx) (n : Nat) (ae : AEnv) (S : List AO) (st : Stmt) (K : AF → List AO → Prop) : Prop :=
  ∀ A ρ T s env, Room n A → Rep X S ρ T s → EnvOk ae ρ env → wpAny X.M A (exec st env) (PostF X S ρ T s K) No s
noncomputable def WpSs (X : Cx) (n : Nat) (ae : AEnv) (S : List AO) (st : List Stmt) (K : AF → List AO → Prop) : Prop :=
  ∀ A ρ T s env, Room n A → Rep X S ρ T s → EnvOk ae ρ env → wpAny X.M A (execs st env) (PostF X S ρ T s K) No s
/-- a tree of one, two, three values -/
noncomputable def Wp1 (X : Cx) (n : Nat) (S : List AO) (f : Value → Sem Value) (x : AV) (K : AV → List AO → Prop) : Prop :=
  ∀ A ρ T s v, Room n A → Rep X S ρ T s → VR X ρ T s.heap x v → wpAny X.M A (f v) (PostV X S ρ T s K) No s
noncomputable def Wp2 (X : Cx) (n : Nat) (S : List AO) (f : Value → Value → Sem Value) (x y : AV) (K : AV → List AO → Prop) : Prop :=
  ∀ A ρ T s v u, Room n A → Rep X S ρ T s → VR X ρ T s.heap x v → VR X ρ T s.heap y u → wpAny X.M A (f v u) (PostV X S ρ T s K) No s
/-- a call -/
noncomputable def WpC (X : Cx) (n : Nat) (S : List AO) (f : AV) (xs : List AV) (kw : List (Str × AV)) (K : AV → List AO → Prop) : Prop :=
  ∀ A ρ T s g vs ks, Room n A → Rep X S ρ T s → VR X ρ T s.heap f g → VRs X ρ T s.heap xs vs → VRk X ρ T s.heap kw ks → wpAny X.M A (call g vs ks) (PostV X S ρ T s K) No s

end Mine
namespace Mine

section
variable {X : Cx} {n : Nat} {ae : AEnv} {S S' : List AO} {K : AV → List AO → Prop}

/-! monotone -/
theorem WpE.mono {e : Expr} {K K' : AV → List AO → Prop} (h : WpE X n ae S e K) (hk : ∀ x S', K x S' → K' x S') : WpE X n ae S e K' :=
  fun A ρ T s env hr hR hE => wpAny_mono (h A ρ T s env hr hR hE) (fun _ _ p => p.mono hk) fun _ _ f => f
theorem WpB.mono {e : Expr} {K K' : Bool → List AO → Prop} (h : WpB X n ae S e K) (hk : ∀ x S', K x S' → K' x S') : WpB X n ae S e K' :=
  fun A ρ T s env hr hR hE => wpAny_mono (h A ρ T s env hr hR hE) (fun _ _ p => p.mono hk) fun _ _ f => f
theorem WpS.mono {e : Stmt} {K K' : AF → List AO → Prop} (h : WpS X n ae S e K) (hk : ∀ x S', K x S' → K' x S') : WpS X n ae S e K' :=
  fun A ρ T s env hr hR hE => wpAny_mono (h A ρ T s env hr hR hE) (fun _ _ p => p.mono hk) fun _ _ f => f
theorem WpSs.mono {e : List Stmt} {K K' : AF → List AO → Prop} (h : WpSs X n ae S e K) (hk : ∀ x S', K x S' → K' x S') : WpSs X n ae S e K' :=
  fun A ρ T s env hr hR hE => wpAny_mono (h A ρ T s env hr hR hE) (fun _ _ p => p.mono hk) fun _ _ f => f
theorem room_a (a n : Nat) : a + 1 + 8 * n ≤ a + 8 * (n + 1) := by omega
theorem room_b (a n : Nat) : a + 3 + 8 * n ≤ a + 8 * (n + 1) := by omega
theorem room_c (a n : Nat) : a + 1 + n = a + (n + 1) := by omega
theorem Room.in1 {A : Around} (h : Room (n + 1) A) : Room n A.in1 := ⟨Nat.lt_of_succ_lt h.depth, Nat.lt_of_le_of_lt (room_a _ _) h.units, h.handled⟩
theorem Room.deeper {A : Around} {env : Env} (h : Room (n + 1) A) : Room n (A.deeper env) := ⟨Nat.lt_of_le_of_lt (Nat.le_of_eq (room_c _ _)) h.depth, Nat.lt_of_le_of_lt (room_b _ _) h.units, h.handled⟩

theorem EnvOk.kind {ρ : List Addr} {env : Env} (E : EnvOk ae ρ env) (x : Str) : env.kindOf x = ae.scope.names.lookup x := by unfold Env.kindOf; rw [E.scope]
theorem EnvOk.fnk {ρ : List Addr} {env : Env} (E : EnvOk ae ρ env) : env.scope.kind = .function := by rw [E.scope, E.fn]

theorem Rep.ns {ρ T : List Addr} {s : Shared} (hR : Rep X S ρ T s) {env : Env} (hE : EnvOk ae ρ env) {vars : List (Str × AV)} (hS : S[ae.loc]? = some (.ns vars)) :
    ∃ m, s.heap.Ns env.locals m ∧ ∀ x v, vars.lookup x = some v → ∃ u, m x = some u ∧ VR X ρ T s.heap v u := by obtain ⟨m, a, b, _⟩ := hR.obj _ _ _ hS hE.loc; exact ⟨m, a, b⟩

/-! names -/
theorem wName {x : Str} {pos : Pos} {vars : List (Str × AV)} {v : AV} (hk : ae.scope.names.lookup x = some .local) (hS : S[ae.loc]? = some (.ns vars)) (hv : vars.lookup x = some v) (h : K v S)
    (hd : (x == ("__debug__" : Str)) = false := by decide +kernel) : WpE X n ae S (.Name x pos) K := fun A ρ T s env hr hR hE => by
  obtain ⟨m, hm, hq⟩ := hR.ns hE hS
  obtain ⟨u, e, q⟩ := hq x v hv
  exact wpAny_Name (wpAny_loadName_local hE.fnk ((hE.kind x).trans hk) hm e (PostG.mk (.refl hR) h q)) hd

theorem Rep.cell {ρ T : List Addr} {s : Shared} (hR : Rep X S ρ T s) {env : Env} (hE : EnvOk ae ρ env) {x : Str} {i : Nat} {v : Option AV} (hc : ae.cells.lookup x = some i) (hS : S[i]? = some (.cell v)) :
    ∃ c u, env.cells.lookup x = some c ∧ ρ[i]? = some c ∧ s.heap.IsCell c u ∧ VRo X ρ T s.heap v u := by
  obtain ⟨c, h1, h2⟩ := hE.cells x i hc
  obtain ⟨u, h3, h4⟩ := hR.obj _ _ _ hS h2
  exact ⟨c, u, h1, h2, h3, h4⟩

theorem wCell {x : Str} {pos : Pos} {i : Nat} {v : AV} (hk : ae.scope.names.lookup x = some .cell ∨ ae.scope.names.lookup x = some .free) (hc : ae.cells.lookup x = some i) (hS : S[i]? = some (.cell (some v))) (h : K v S)
    (hd : (x == ("__debug__" : Str)) = false := by decide +kernel) (hn : (x == ("__classdict__" : Str)) = false := by decide +kernel) : WpE X n ae S (.Name x pos) K := fun A ρ T s env hr hR hE => by
  obtain ⟨c, u, h1, h2, h3, h4⟩ := hR.cell hE hc hS
  cases u with
  | none => exact h4.elim
  | some u =>
    rcases hk with hk | hk
    · exact wpAny_Name (wpAny_loadName_cell hE.fnk ((hE.kind x).trans hk) h1 h3 (PostG.mk (.refl hR) h h4)) hd
    · exact wpAny_Name (wpAny_loadName_free hE.fnk ((hE.kind x).trans hk) h1 h3 (PostG.mk (.refl hR) h h4) hn) hd

theorem Rep.topR {ρ T : List Addr} {s : Shared} (hR : Rep X S ρ T s) : TopRead X.p X.loose X.mg X.mb s.heap := X.top.keeps hR.keep
theorem Rep.kin {ρ T : List Addr} {s : Shared} (hR : Rep X S ρ T s) : X.K.In s.heap := X.kin.keeps hR.keep

theorem wGlob {x : Str} {pos : Pos} {v : Value} {av : AV} (hk : ae.scope.names.lookup x = some .globalImplicit) (e : nsIn X.K mainGlobals x = some (some v)) (hv : ∀ ρ T h, VR X ρ T h av v) (h : K av S)
    (hd : (x == ("__debug__" : Str)) = false := by decide +kernel) : WpE X n ae S (.Name x pos) K := fun A ρ T s env hr hR hE =>
  Name_function_global hE.fnk ((hE.kind x).trans hk) (loadGlobal_global (by rw [hE.glob]; exact hR.topR.g) (mg_of X.kin X.top.g e) (PostG.mk (.refl hR) h (hv _ _ _))) hd
theorem wBoot {x : Str} {pos : Pos} {v : Value} (hk : ae.scope.names.lookup x = some .globalImplicit) (e : nsIn X.K mainGlobals x = some none) (hv : bootBuiltins x = some v) (h : K (.val v) S)
    (hn : x ≠ "__name__" := by decide +kernel) (hd : (x == ("__debug__" : Str)) = false := by decide +kernel) : WpE X n ae S (.Name x pos) K := fun A ρ T s env hr hR hE =>
  Name_function_global hE.fnk ((hE.kind x).trans hk) (loadGlobal_builtin (by rw [hE.glob]; exact hR.topR.g) (mg_none_of X.kin X.top.g e) (by rw [hE.bui]; exact hR.topR.b) ((X.top.builtins x hn).trans hv) (PostG.mk (.refl hR) h (by simp))) hd

/-! constants -/
theorem wInt {i : Int} {k : Nat} {pos : Pos} (h : K (.int i) S) : WpE X n ae S (.Constant (.int i) k pos) K := fun A ρ T s env hr hR hE =>
  wpAny_Constant_int (PostG.mk (.toks hR _) h (by simp))
theorem wStr {x : Str} {k : Nat} {pos : Pos} (h : K (.str x) S) (hl : x.length ≤ sizeLine := by decide +kernel) : WpE X n ae S (.Constant (.str x) k pos) K := fun A ρ T s env hr hR hE =>
  Calls.Constant_str (PostG.mk (.toks hR _) h (by simp [hl]))
theorem wNone {k : Nat} {pos : Pos} (h : K .none S) : WpE X n ae S (.Constant .none k pos) K := fun A ρ T s env hr hR hE =>
  wpAny_pure (PostG.mk (.refl hR) h (by simp))
theorem wBool {b : Bool} {k : Nat} {pos : Pos} (h : K (.bool b) S) : WpE X n ae S (.Constant (.bool b) k pos) K := fun A ρ T s env hr hR hE =>
  wpAny_pure (PostG.mk (.refl hR) h (by simp))

/-! operators -/
theorem wBin {l r : Expr} {op : Operator} {pos : Pos} (h : WpE X n ae S l fun a S1 => WpE X n ae S1 r fun b S2 => Wp2 X n S2 (binaryOp op) a b K) : WpE X n ae S (.BinOp l op r pos) K := fun A ρ T s env hr hR hE =>
  wpAny_BinOp (chain (h A ρ T s env hr hR hE) fun a S1 ρ1 T1 v s1 hK st hv => chain (hK A ρ1 T1 s1 env hr st.rep (hE.step st hR)) fun b S2 ρ2 T2 u s2 hK2 st2 hu =>
    thenG hR (st.trans hR st2) (hK2 A ρ2 T2 s2 v u hr st2.rep (VR.mv (st2.mv st.rep) _ hv) hu))

theorem wCmp {l r : Expr} {op : CmpOp} {pos : Pos} (h : WpE X n ae S l fun a S1 => WpE X n ae S1 r fun b S2 => Wp2 X n S2 (compareOp op) a b K)
    (hm : behindInMarks op r = false := by with_unfolding_all rfl) : WpE X n ae S (.Compare l [op] [r] pos) K := fun A ρ T s env hr hR hE =>
  wpAny_Compare1 (chain (h A ρ T s env hr hR hE) fun a S1 ρ1 T1 v s1 hK st hv => chain (hK A ρ1 T1 s1 env hr st.rep (hE.step st hR)) fun b S2 ρ2 T2 u s2 hK2 st2 hu =>
    thenG hR (st.trans hR st2) (hK2 A ρ2 T2 s2 v u hr st2.rep (VR.mv (st2.mv st.rep) _ hv) hu)) hm

/-- one tree that makes an immediate -/
theorem op2 {f : Value → Value → Sem Value} {x y z : AV} (hz : ∀ A ρ T s v u, Room n A → Rep X S ρ T s → VR X ρ T s.heap x v → VR X ρ T s.heap y u →
    ∀ (Q : Value → Shared → Prop) (E : Value → Shared → Prop), (∀ r k, VR X ρ T s.heap z r → Q r { s with toks := k }) → wpAny X.M A (f v u) Q E s) (h : K z S) : Wp2 X n S f x y K :=
  fun A ρ T s v u hr hR hv hu => wpAny_with_toks (Nat.le_refl _) (hz A ρ T s v u hr hR hv hu _ _ fun _ k q hk => PostG.mk (.toks hR k hk) h q)

section
variable {a b : Int} {x y : Str}
theorem oAdd (h : K (.int (a + b)) S) : Wp2 X n S (binaryOp .Add) (.int a) (.int b) K := op2 (fun A ρ T s v u _ _ hv hu Q E hq => by
  obtain ⟨t, rfl⟩ := VR_int.mp hv; obtain ⟨t', rfl⟩ := VR_int.mp hu
  exact AutoIntOps.add_0 (hq _ _ (by simp))) h
theorem oSub (h : K (.int (a - b)) S) : Wp2 X n S (binaryOp .Sub) (.int a) (.int b) K := op2 (fun A ρ T s v u _ _ hv hu Q E hq => by
  obtain ⟨t, rfl⟩ := VR_int.mp hv; obtain ⟨t', rfl⟩ := VR_int.mp hu
  exact AutoIntOps.sub_0 (hq _ _ (by simp))) h
theorem oMod (hb : (b == 0) = false) (h : K (.int (a.fmod b)) S) : Wp2 X n S (binaryOp .Mod) (.int a) (.int b) K := op2 (fun A ρ T s v u _ _ hv hu Q E hq => by
  obtain ⟨t, rfl⟩ := VR_int.mp hv; obtain ⟨t', rfl⟩ := VR_int.mp hu
  exact AutoIntOps.mod_1 (by simp [hb]) (hq _ _ (by simp))) h
theorem oAddS (hl : x.length + y.length ≤ sizeLine) (h : K (.str (x ++ y)) S) : Wp2 X n S (binaryOp .Add) (.str x) (.str y) K := op2 (fun A ρ T s v u _ _ hv hu Q E hq => by
  obtain ⟨l1, t, rfl⟩ := VR_str.mp hv; obtain ⟨l2, t', rfl⟩ := VR_str.mp hu
  refine P.add_str ?_
  have ex : ∀ z w : Str, z.length = 0 → z ++ w = w ∧ w ++ z = w := fun z w e => by
    obtain ⟨⟨l⟩⟩ := z
    obtain ⟨⟨l'⟩⟩ := w
    have : l = [] := by simpa [Str.length] using e
    subst this
    constructor <;> (show Str.append _ _ = _; simp [Str.append])
  split
  · rename_i e; exact hq _ s.toks (by rw [(ex x y (by simpa using e)).1]; simp [l2])
  · split
    · rename_i e; exact hq _ s.toks (by rw [(ex y x (by simpa using e)).2]; simp [l1])
    · exact ⟨by rw [Str.length_append]; exact hl, hq _ _ (by simp [Str.length_append, hl])⟩) h

theorem oEqI (h : K (.bool (a == b)) S) : Wp2 X n S (compareOp .Eq) (.int a) (.int b) K := op2 (fun A ρ T s v u _ _ hv hu Q E hq => by
  obtain ⟨t, rfl⟩ := VR_int.mp hv; obtain ⟨t', rfl⟩ := VR_int.mp hu
  exact P.eq_int (hq _ s.toks (by simp))) h
theorem oLtI (h : K (.bool (decide (a < b))) S) : Wp2 X n S (compareOp .Lt) (.int a) (.int b) K := op2 (fun A ρ T s v u _ _ hv hu Q E hq => by
  obtain ⟨t, rfl⟩ := VR_int.mp hv; obtain ⟨t', rfl⟩ := VR_int.mp hu
  exact P.lt_int (hq _ s.toks (by simp))) h
theorem oGtI (h : K (.bool (decide (a > b))) S) : Wp2 X n S (compareOp .Gt) (.int a) (.int b) K := op2 (fun A ρ T s v u _ _ hv hu Q E hq => by
  obtain ⟨t, rfl⟩ := VR_int.mp hv; obtain ⟨t', rfl⟩ := VR_int.mp hu
  exact P.gt_int (hq _ s.toks (by simp))) h
theorem oGeI (h : K (.bool (decide (a ≥ b))) S) : Wp2 X n S (compareOp .GtE) (.int a) (.int b) K := op2 (fun A ρ T s v u _ _ hv hu Q E hq => by
  obtain ⟨t, rfl⟩ := VR_int.mp hv; obtain ⟨t', rfl⟩ := VR_int.mp hu
  exact P.ge_int (hq _ s.toks (by simp))) h
theorem oEqS (h : K (.bool (x.cps.toList == y.cps.toList)) S) : Wp2 X n S (compareOp .Eq) (.str x) (.str y) K := op2 (fun A ρ T s v u _ _ hv hu Q E hq => by
  obtain ⟨l1, t, rfl⟩ := VR_str.mp hv; obtain ⟨l2, t', rfl⟩ := VR_str.mp hu
  exact P.eq_str (hq _ s.toks (by simp))) h
theorem oInS (h : K (.bool (Txt.contains x y)) S) : Wp2 X n S (compareOp .In) (.str y) (.str x) K := op2 (fun A ρ T s v u _ _ hv hu Q E hq => by
  obtain ⟨l1, t, rfl⟩ := VR_str.mp hv; obtain ⟨l2, t', rfl⟩ := VR_str.mp hu
  exact SB.contains (hq _ s.toks (by simp))) h
theorem oNotInS (h : K (.bool (!Txt.contains x y)) S) : Wp2 X n S (compareOp .NotIn) (.str y) (.str x) K := op2 (fun A ρ T s v u _ _ hv hu Q E hq => by
  obtain ⟨l1, t, rfl⟩ := VR_str.mp hv; obtain ⟨l2, t', rfl⟩ := VR_str.mp hu
  exact SB.notContains (hq _ s.toks (by simp))) h
end
end
end Mine
namespace Mine

section
variable {X : Cx} {n : Nat} {ae : AEnv} {S S' : List AO} {K : AV → List AO → Prop} {KB : Bool → List AO → Prop} {KF : AF → List AO → Prop} {KU : Unit → List AO → Prop}

/-! truth -/
noncomputable def WpT (X : Cx) (n : Nat) (S : List AO) (x : AV) (K : Bool → List AO → Prop) : Prop :=
  ∀ A ρ T s v, Room n A → Rep X S ρ T s → VR X ρ T s.heap x v → wpAny X.M A (truthy v) (PostB X S ρ T s K) No s

theorem tBool {b : Bool} (h : KB b S) : WpT X n S (.bool b) KB := fun A ρ T s v hr hR hv => by
  rw [VR_bool.mp hv]; exact wpAny_truthy_bool (PostG.mk (.refl hR) h rfl)
theorem tNone (h : KB false S) : WpT X n S .none KB := fun A ρ T s v hr hR hv => by
  rw [VR_none.mp hv]; exact truthy_none (PostG.mk (.refl hR) h rfl)
theorem tInt {i : Int} (h : KB (i != 0) S) : WpT X n S (.int i) KB := fun A ρ T s v hr hR hv => by
  obtain ⟨t, rfl⟩ := VR_int.mp hv; exact P.truthy_int (PostG.mk (.refl hR) h rfl)
theorem tStr {x : Str} (h : KB (x.length != 0) S) : WpT X n S (.str x) KB := fun A ρ T s v hr hR hv => by
  obtain ⟨hl, t, rfl⟩ := VR_str.mp hv
  refine P.truthy_str (by rw [sizeLine_eq] at hl; omega) (PostG.mk (.toks hR _) (x := x.length != 0) h ?_)
  rw [Bool.eq_iff_iff]; simp only [bne_iff_ne]; omega
/-! tests -/
theorem bCmp {l r : Expr} {op : CmpOp} {pos : Pos} (h : WpE X n ae S l fun a S1 => WpE X n ae S1 r fun b S2 => Wp2 X n S2 (compareOp op) a b fun c S3 => WpT X n S3 c KB)
    (hm : behindInMarks op r = false := by with_unfolding_all rfl) : WpB X n ae S (.Compare l [op] [r] pos) KB := fun A ρ T s env hr hR hE =>
  wpAny_isTrue_Compare1 (chain (h A ρ T s env hr hR hE) fun a S1 ρ1 T1 v s1 hK st hv => chain (hK A ρ1 T1 s1 env hr st.rep (hE.step st hR)) fun b S2 ρ2 T2 u s2 hK2 st2 hu =>
    chain (hK2 A ρ2 T2 s2 v u hr st2.rep (VR.mv (st2.mv st.rep) _ hv) hu) fun c S3 ρ3 T3 z s3 hK3 st3 hz =>
      thenG hR ((st.trans hR st2).trans hR st3) (hK3 A ρ3 T3 s3 z hr st3.rep hz)) hm
theorem bVal {e : Expr} (h : WpE X n ae S e fun a S1 => WpT X n S1 a KB)
    (he : ∀ env whole, isTrue e env whole = (do let v ← whole; standAt e.pos; holding [v] (truthy v)) := by intro _ _; rfl) : WpB X n ae S e KB := fun A ρ T s env hr hR hE =>
  isTrue_plain (chain (h A ρ T s env hr hR hE) fun a S1 ρ1 T1 v s1 hK st hv => thenG hR st (hK A ρ1 T1 s1 v hr st.rep hv)) (he env _)
theorem bAnd0 {pos : Pos} (h : KB true S) : WpB X n ae S (.BoolOp .And [] pos) KB := fun A ρ T s env hr hR hE => isTrue_and_nil (PostG.mk (.refl hR) h rfl)
theorem bAnd {e : Expr} {r : List Expr} {pos : Pos} (h : WpB X n ae S e fun b S1 => if b = true then WpB X n ae S1 (.BoolOp .And r pos) KB else KB false S1) : WpB X n ae S (.BoolOp .And (e :: r) pos) KB := fun A ρ T s env hr hR hE =>
  isTrue_and (chain (h A ρ T s env hr hR hE) fun b S1 ρ1 T1 v s1 hK st hv => by
    subst hv
    split at hK
    · rename_i e; rw [if_pos e]; exact thenG hR st (hK A ρ1 T1 s1 env hr st.rep (hE.step st hR))
    · rename_i e; rw [if_neg e]; exact PostG.mk st hK rfl)
/-! boolean and conditional expressions as values -/
theorem wIf {t b o : Expr} {pos : Pos} (h : WpB X n ae S t fun c S1 => if c = true then WpE X n ae S1 b K else WpE X n ae S1 o K) : WpE X n ae S (.IfExp t b o pos) K := fun A ρ T s env hr hR hE =>
  wpAny_IfExp (chain (h A ρ T s env hr hR hE) fun c S1 ρ1 T1 v s1 hK st hv => by
    subst hv
    split at hK
    · rename_i e; rw [if_pos e]; exact thenG hR st (hK A ρ1 T1 s1 env hr st.rep (hE.step st hR))
    · rename_i e; rw [if_neg e]; exact thenG hR st (hK A ρ1 T1 s1 env hr st.rep (hE.step st hR)))
theorem wOp1 {e : Expr} {op : UnaryOp} {pos : Pos} (h : WpE X n ae S e fun a S1 => Wp1 X n S1 (unaryOp op) a K) : WpE X n ae S (.UnaryOp op e pos) K := fun A ρ T s env hr hR hE =>
  wpAny_UnaryOp (chain (h A ρ T s env hr hR hE) fun a S1 ρ1 T1 v s1 hK st hv => thenG hR st (hK A ρ1 T1 s1 v hr st.rep hv))
/-! statements -/
theorem sNil (h : KF .next S) : WpSs X n ae S [] KF := fun A ρ T s env hr hR hE => wpAny_execs_nil (PostG.mk (.refl hR) h rfl)
/-- what a list of statements does behind one of them -/
noncomputable def Seq (X : Cx) (n : Nat) (ae : AEnv) (rest : List Stmt) (KF : AF → List AO → Prop) (f : AF) (S : List AO) : Prop := match f with
  | .next => WpSs X n ae S rest KF
  | f => KF f S
theorem sCons {st : Stmt} {r : List Stmt} (h : WpS X n ae S st (Seq X n ae r KF)) : WpSs X n ae S (st :: r) KF := fun A ρ T s env hr hR hE =>
  wpAny_execs_cons (chain (h A ρ T s env hr hR hE) fun f S1 ρ1 T1 v s1 hK st hv => by
    cases f with
    | next => cases hv; exact thenG hR st (hK A ρ1 T1 s1 env hr st.rep (hE.step st hR))
    | brk => cases hv; exact PostG.mk st hK rfl
    | cont => cases hv; exact PostG.mk st hK rfl
    | ret x => obtain ⟨u, rfl, hu⟩ := hv; exact PostG.mk st hK ⟨u, rfl, hu⟩)
theorem sRet {e : Expr} {pos : Pos} (h : WpE X n ae S e fun a S1 => KF (.ret a) S1) : WpS X n ae S (.Return (some e) pos) KF := fun A ρ T s env hr hR hE =>
  wpAny_Return_some (chain (h A ρ T s env hr hR hE) fun a S1 ρ1 T1 v s1 hK st hv => PostG.mk st hK ⟨v, rfl, hv⟩)
theorem sIf {t : Expr} {b o : List Stmt} {pos : Pos} (h : WpB X n ae S t fun c S1 => if c = true then WpSs X n ae S1 b KF else WpSs X n ae S1 o KF) : WpS X n ae S (.If t b o pos) KF := fun A ρ T s env hr hR hE =>
  wpAny_If (chain (h A ρ T s env hr hR hE) fun c S1 ρ1 T1 v s1 hK st hv => by
    subst hv
    split at hK
    · rename_i e; rw [if_pos e]; exact thenG hR st (hK A ρ1 T1 s1 env hr st.rep (hE.step st hR))
    · rename_i e; rw [if_neg e]; exact thenG hR st (hK A ρ1 T1 s1 env hr st.rep (hE.step st hR)))
theorem sAssert {t : Expr} {msg : Option Expr} {pos : Pos} (h : WpB X n ae S t fun c S1 => c = true ∧ KF .next S1) : WpS X n ae S (.Assert t msg pos) KF := fun A ρ T s env hr hR hE =>
  wpAny_Assert_holds (chain (h A ρ T s env hr hR hE) fun c S1 ρ1 T1 v s1 hK st hv => by subst hv; exact ⟨hK.1, PostG.mk st hK.2 rfl⟩)

/-! stores -/
noncomputable def put (x : Str) (v : AV) : List (Str × AV) → List (Str × AV)
  | [] => [(x, v)]
  | (y, u) :: r => if x = y then (x, v) :: r else (y, u) :: put x v r
theorem put_lookup (x : Str) (v : AV) (y : Str) : ∀ l, (put x v l).lookup y = if y = x then some v else l.lookup y
  | [] => by by_cases h : y = x <;> simp [put, List.lookup_cons, h, beq_iff_eq]; · simp [beq_eq_false_iff_ne.mpr h]
  | (z, u) :: r => by
    have ih := put_lookup x v y r
    unfold put
    by_cases hz : x = z
    · subst hz
      rw [if_pos rfl]
      by_cases h : y = x
      · subst h; simp [List.lookup_cons]
      · simp [List.lookup_cons, h, beq_eq_false_iff_ne.mpr h]
    · rw [if_neg hz]
      by_cases h : y = z
      · subst h
        have : ¬ y = x := fun e => hz e.symm
        simp [List.lookup_cons, this]
      · simp [List.lookup_cons, beq_eq_false_iff_ne.mpr h, ih]

/-- a store of a name -/
noncomputable def WpN (X : Cx) (n : Nat) (ae : AEnv) (S : List AO) (x : Str) (v : AV) (K : Unit → List AO → Prop) : Prop :=
  ∀ A ρ T s env u, Room n A → Rep X S ρ T s → EnvOk ae ρ env → VR X ρ T s.heap v u → wpAny X.M A (storeName env x u) (PostU X S ρ T s K) No s
theorem nLoc {x : Str} {v : AV} {vars : List (Str × AV)} (hk : ae.scope.names.lookup x = some .local) (hS : S[ae.loc]? = some (.ns vars)) (h : KU () (S.set ae.loc (.ns (put x v vars)))) : WpN X n ae S x v KU := fun A ρ T s env u hr hR hE hv => by
  obtain ⟨m, hm, hq, hq'⟩ := hR.obj _ _ _ hS hE.loc
  refine wpAny_storeName_local ((hE.kind x).trans hk) hm (fun h' hn hs => ?_) (by rw [hE.fnk]; rfl)
  have hmv : Mv ρ T s.heap ρ T h' := ⟨fun b o hb e => (hs.2 b (fun q => hb (q ▸ hR.sub _ (List.mem_of_getElem? hE.loc)))).trans e, fun a ha => .inl ha, fun _ _ e => e⟩
  refine PostG.mk (x := ()) (.upd hR hS hE.loc (by intro q; cases q) (by intro q; cases q) hs.extBut (show OR X ρ T h' _ (.ns (put x v vars)) from ⟨_, hn, fun y w e => ?_, fun y e => ?_⟩) (by obtain ⟨o, _, _, ho, _⟩ := hn; exact ⟨o, ho⟩) _) h trivial
  rw [put_lookup] at e
  by_cases hy : y = x
  · rw [if_pos hy] at e; cases e
    exact ⟨u, by rw [if_pos hy], VR.mv hmv _ hv⟩
  · rw [if_neg hy] at e
    obtain ⟨z, a, b⟩ := hq y w e
    exact ⟨z, by rw [if_neg hy]; exact a, VR.mv hmv _ b⟩
  rw [put_lookup] at e
  by_cases hy : y = x
  · rw [if_pos hy] at e; cases e
  · rw [if_neg hy] at e ⊢; exact hq' y e
theorem nCell {x : Str} {v : AV} {i : Nat} {v0 : Option AV} (hk : ae.scope.names.lookup x = some .cell) (hc : ae.cells.lookup x = some i) (hS : S[i]? = some (.cell v0)) (h : KU () (S.set i (.cell (some v)))) : WpN X n ae S x v KU := fun A ρ T s env u hr hR hE hv => by
  obtain ⟨c, u0, h1, h2, h3, h4⟩ := hR.cell hE hc hS
  refine wpAny_storeName_cell hE.fnk ((hE.kind x).trans hk) h1 h3 fun h' hn hs => ?_
  have hmv : Mv ρ T s.heap ρ T h' := ⟨fun b o hb e => (hs.2 b (fun q => hb (q ▸ hR.sub _ (List.mem_of_getElem? h2)))).trans e, fun a ha => .inl ha, fun _ _ e => e⟩
  exact PostG.mk (x := ()) (.upd hR hS h2 (by intro q; cases q) (by intro q; cases q) hs.extBut (show OR X ρ T h' _ (.cell (some v)) from ⟨_, hn, VR.mv hmv _ hv⟩) (by obtain ⟨o, ho, _⟩ := hn; exact ⟨o, ho⟩) _) h trivial

noncomputable def dumb (sc : Scope) : Env := { scope := sc, locals := 0, globals := 0, cells := [] }

theorem sAsg {x : Str} {p pos : Pos} {e : Expr} (h : WpE X n ae S e fun a S1 => WpN X n ae S1 x a fun _ S2 => KF .next S2)
    (hs : swapsWith e (some (.Name x p)) pos.line (dumb ae.scope) = pure false := by rfl) : WpS X n ae S (.Assign [.Name x p] e pos) KF := fun A ρ T s env hr hR hE =>
  wpAny_Assign_Name (chain (h A ρ T s env hr hR hE) fun a S1 ρ1 T1 v s1 hK st hv => chain (hK A ρ1 T1 s1 env v hr st.rep (hE.step st hR) hv) fun _ S2 ρ2 T2 _ s2 hK2 st2 _ =>
    PostG.mk (st.trans hR st2) hK2 rfl) (by rw [← hE.scope] at hs; exact hs)
/-- a name read for a store in its place -/
noncomputable def WpL (X : Cx) (n : Nat) (ae : AEnv) (S : List AO) (x : Str) (K : AV → List AO → Prop) : Prop :=
  ∀ A ρ T s env, Room n A → Rep X S ρ T s → EnvOk ae ρ env → wpAny X.M A (loadName env x) (PostV X S ρ T s K) No s
theorem lLoc {x : Str} {vars : List (Str × AV)} {v : AV} (hk : ae.scope.names.lookup x = some .local) (hS : S[ae.loc]? = some (.ns vars)) (hv : vars.lookup x = some v) (h : K v S) : WpL X n ae S x K := fun A ρ T s env hr hR hE => by
  obtain ⟨m, hm, hq⟩ := hR.ns hE hS
  obtain ⟨u, e, q⟩ := hq x v hv
  exact wpAny_loadName_local hE.fnk ((hE.kind x).trans hk) hm e (PostG.mk (.refl hR) h q)
theorem sAug {x : Str} {p pos : Pos} {op : Operator} {e : Expr} (h : WpL X n ae S x fun a S1 => WpE X n ae S1 e fun b S2 => Wp2 X n S2 (inplaceOp op) a b fun c S3 => WpN X n ae S3 x c fun _ S4 => KF .next S4) :
    WpS X n ae S (.AugAssign (.Name x p) op e pos) KF := fun A ρ T s env hr hR hE =>
  wpAny_AugAssign_Name (chain (h A ρ T s env hr hR hE) fun a S1 ρ1 T1 v s1 hK st hv => chain (hK A ρ1 T1 s1 env hr st.rep (hE.step st hR)) fun b S2 ρ2 T2 u s2 hK2 st2 hu =>
    chain (hK2 A ρ2 T2 s2 v u hr st2.rep (VR.mv (st2.mv st.rep) _ hv) hu) fun c S3 ρ3 T3 z s3 hK3 st3 hz =>
    chain (hK3 A ρ3 T3 s3 env z hr st3.rep (hE.step ((st.trans hR st2).trans hR st3) hR) hz) fun _ S4 ρ4 T4 _ s4 hK4 st4 _ =>
      PostG.mk (((st.trans hR st2).trans hR st3).trans hR st4) hK4 rfl)
end
end Mine
namespace Mine

noncomputable def lo (S : List AO) : Option Nat → List AO
  | none => S
  | some k => S.set k .loan
noncomputable def un (S S2 : List AO) : Option Nat → List AO
  | none => S2
  | some k => match S[k]? with
    | some ao => S2.set k ao
    | none => S2

section
variable {X : Cx} {S S' S1 S2 : List AO} {ρ T ρ' T' ρ1 T1 wr : List Addr} {s s' s1 : Shared} {h h' : Heap}

theorem Rep.mvT (R : Rep X S ρ T s) {T' : List Addr} (h1 : ∀ a ∈ T', a ∈ T) (h2 : ∀ a ∈ ρ, a ∈ T') : Rep X S ρ T' s where
  keep := R.keep
  len := R.len
  obj := fun i ao a e1 e2 => (R.obj i ao a e1 e2).mv ⟨fun b o _ e => e, fun a ha => .inl (h1 a ha), fun _ _ e => e⟩ fun o e => e
  nodup := R.nodup
  nosys := R.nosys
  sub := h2
  new := fun a ha => R.new a (h1 a ha)
  low := fun a ha => R.low a (h1 a ha)
  rest := R.rest
  toks := R.toks

theorem Rep.lo (R : Rep X S ρ T s) (k : Option Nat) : Rep X (lo S k) ρ T s := by
  cases k with
  | none => exact R
  | some k => exact {
      keep := R.keep
      len := by simpa [Mine.lo] using R.len
      obj := fun i ao a e1 e2 => by
        simp only [Mine.lo] at e1
        by_cases hi : k = i
        · subst hi
          have hlt : k < S.length := by have := (List.getElem?_eq_some_iff.mp e1).1; simpa using this
          rw [List.getElem?_set_self hlt] at e1
          cases e1; trivial
        · rw [List.getElem?_set_ne hi] at e1; exact R.obj i ao a e1 e2
      nodup := R.nodup
      nosys := R.nosys
      sub := R.sub
      new := R.new
      low := R.low
      rest := R.rest
      toks := R.toks }

theorem Live.lo {b : Addr} {k : Option Nat} (l : Live (lo S k) ρ b) : Live S ρ b := by
  cases k with
  | none => exact l
  | some k =>
    obtain ⟨i, ao, e1, e2, e3⟩ := l
    simp only [Mine.lo] at e2
    by_cases hi : k = i
    · subst hi
      have hlt : k < S.length := by have := (List.getElem?_eq_some_iff.mp e2).1; simpa using this
      rw [List.getElem?_set_self hlt] at e2
      cases e2; exact absurd rfl e3
    · rw [List.getElem?_set_ne hi] at e2; exact ⟨i, ao, e1, e2, e3⟩

theorem Step.un {k : Option Nat} (R : Rep X S ρ T s) (st : Step X (Mine.lo S k) ρ T s S' ρ' T' s') : Step X S ρ T s (Mine.un S S' k) ρ' T' s' := by
  cases k with
  | none => exact st
  | some k =>
    cases hk : S[k]? with
    | none =>
      have e : Mine.lo S (some k) = S := by simp only [Mine.lo]; exact List.set_eq_of_length_le (List.getElem?_eq_none_iff.mp hk)
      rw [e] at st
      simp only [Mine.un, hk]; exact st
    | some ao =>
      simp only [Mine.un, hk]
      have hlt : k < S.length := (List.getElem?_eq_some_iff.mp hk).1
      have hl : (S.set k AO.loan)[k]? = some .loan := List.getElem?_set_self hlt
      have hl' : S'[k]? = some .loan := st.loans k hl
      have hlt' : k < S'.length := (List.getElem?_eq_some_iff.mp hl').1
      have mv := st.mv (R.lo (some k))
      exact {
        rep := {
          keep := st.rep.keep
          len := by simpa using st.rep.len
          obj := fun i oj a e1 e2 => by
            by_cases hi : k = i
            · subst hi
              rw [List.getElem?_set_self hlt'] at e1
              cases e1
              have hlen : k < ρ.length := by rw [R.len]; exact hlt
              have ea : ρ[k]? = some a := by
                have h1 : ρ[k]? = some ρ[k] := List.getElem?_eq_getElem hlen
                have h2 := mv.ids k _ h1
                rw [e2] at h2; rw [h1]; exact h2.symm
              refine (R.obj k ao a hk ea).mv mv fun o e => st.keep a o (fun l => ?_) e
              obtain ⟨j, oj, f1, f2, f3⟩ := l
              have hjk : j = k := by
                obtain ⟨l1, z1⟩ := List.getElem?_eq_some_iff.mp f1
                obtain ⟨l2, z2⟩ := List.getElem?_eq_some_iff.mp ea
                exact (List.getElem_inj R.nodup).mp (z1.trans z2.symm)
              subst hjk
              simp only [Mine.lo] at f2
              rw [hl] at f2; cases f2; exact f3 rfl
            · rw [List.getElem?_set_ne hi] at e1; exact st.rep.obj i oj a e1 e2
          nodup := st.rep.nodup
          nosys := st.rep.nosys
          sub := st.rep.sub
          new := st.rep.new
          low := st.rep.low
          rest := st.rep.rest
          toks := st.rep.toks }
        more := st.more
        keep := fun b o hb e => st.keep b o (fun l => hb l.lo) e
        loans := fun i e => by
          by_cases hi : k = i
          · subst hi
            rw [hk] at e; cases e
            rw [List.getElem?_set_self hlt']
          · rw [List.getElem?_set_ne hi]
            refine st.loans i ?_
            simp only [Mine.lo]; rw [List.getElem?_set_ne hi]; exact e }

/-- within a loop: S1 is the (loaned) start, s1 the state before the iterator was made -/
structure Lp (X : Cx) (S1 : List AO) (ρ1 T1 wr : List Addr) (s1 : Shared) (S : List AO) (ρ T : List Addr) (s : Shared) : Prop where
  rep : Rep X S ρ T s
  more : ∃ m, ρ = ρ1 ++ m ∧ T = (T1 ++ wr) ++ m ∧ ∀ a ∈ m, s1.heap.get? a = none ∧ a ∉ wr
  keep : ∀ b o, ¬ Live S1 ρ1 b → s1.heap.get? b = some o → s.heap.get? b = some o
  loans : ∀ i : Nat, S1[i]? = some .loan → S[i]? = some .loan

theorem Lp.start (R : Rep X S1 ρ1 T1 s1) (hk : ∀ b o, s1.heap.get? b = some o → h.get? b = some o) (hw : ∀ b ∈ wr, s1.heap.get? b = none) (he : ∀ b ∈ wr, ∃ o, h.get? b = some o) (n : Nat) (hn : s1.toks ≤ n) :
    Lp X S1 ρ1 T1 wr s1 S1 ρ1 (T1 ++ wr) { s1 with heap := h, toks := n } where
  rep := {
    keep := fun b o e => hk b o (R.keep b o e)
    len := R.len
    obj := fun i ao a e1 e2 => (R.obj i ao a e1 e2).mv ⟨fun b o _ e => hk b o e, fun a ha => (List.mem_append.mp ha).imp id fun q => hw a q, fun _ _ e => e⟩ fun o e => hk a o e
    nodup := R.nodup
    nosys := R.nosys
    sub := fun a ha => List.mem_append_left _ (R.sub a ha)
    new := fun a ha => by
      rcases List.mem_append.mp ha with q | q
      · exact R.new a q
      · cases e : X.r.heap.get? a with
        | none => rfl
        | some o => have := R.keep a o e; rw [hw a q] at this; cases this
    low := fun a ha => by
      rcases List.mem_append.mp ha with q | q
      · obtain ⟨o, e⟩ := R.low a q; exact ⟨o, hk a o e⟩
      · exact he a q
    rest := R.rest
    toks := Nat.le_trans R.toks hn }
  more := ⟨[], by simp, by simp, fun _ h => nomatch h⟩
  keep := fun b o _ e => hk b o e
  loans := fun _ e => e

theorem Lp.mv (R : Rep X S1 ρ1 T1 s1) (hw : ∀ b ∈ wr, s1.heap.get? b = none) (L : Lp X S1 ρ1 T1 wr s1 S ρ T s) : Mv ρ1 T1 s1.heap ρ T s.heap where
  keep := fun b o hb e => L.keep b o (fun l => hb (R.sub b l.mem)) e
  trk := fun a ha => by
    obtain ⟨m, _, rfl, hm⟩ := L.more
    rcases List.mem_append.mp ha with q | q
    · exact (List.mem_append.mp q).imp id fun z => hw a z
    · exact .inr (hm a q).1
  ids := fun i a e => by
    obtain ⟨m, rfl, _, _⟩ := L.more
    rw [List.getElem?_append_left (List.getElem?_eq_some_iff.mp e).1]; exact e

theorem Lp.notin (R : Rep X S1 ρ1 T1 s1) (hw : ∀ b ∈ wr, s1.heap.get? b = none) (L : Lp X S1 ρ1 T1 wr s1 S ρ T s) : ∀ b ∈ wr, b ∉ ρ := fun b hb q => by
  obtain ⟨m, rfl, _, hm⟩ := L.more
  rcases List.mem_append.mp q with q | q
  · obtain ⟨o, e⟩ := R.low b (R.sub b q); rw [hw b hb] at e; cases e
  · exact (hm b q).2 hb

/-- the iterator moved -/
theorem Lp.move (R : Rep X S1 ρ1 T1 s1) (hw : ∀ b ∈ wr, s1.heap.get? b = none) (L : Lp X S1 ρ1 T1 wr s1 S ρ T s) (hk : ∀ b o, b ∉ wr → s.heap.get? b = some o → h.get? b = some o) (he : ∀ b ∈ wr, ∃ o, h.get? b = some o) (n : Nat) (hnn : s.toks ≤ n) :
    Lp X S1 ρ1 T1 wr s1 S ρ T { s with heap := h, toks := n } := by
  have hwT : ∀ b ∈ wr, b ∈ T := fun b hb => by
    obtain ⟨m, _, rfl, _⟩ := L.more
    exact List.mem_append_left _ (List.mem_append_right _ hb)
  have hn := L.notin R hw
  exact {
    rep := {
      keep := fun b o e => hk b o (fun q => by have := L.rep.new b (hwT b q); rw [e] at this; cases this) (L.rep.keep b o e)
      len := L.rep.len
      obj := fun i ao a e1 e2 => (L.rep.obj i ao a e1 e2).mv ⟨fun b o hb e => hk b o (fun q => hb (hwT b q)) e, fun a ha => .inl ha, fun _ _ e => e⟩ fun o e => hk a o (fun q => hn a q (List.mem_of_getElem? e2)) e
      nodup := L.rep.nodup
      nosys := L.rep.nosys
      sub := L.rep.sub
      new := L.rep.new
      low := fun a ha => by
        by_cases q : a ∈ wr
        · exact he a q
        · obtain ⟨o, e⟩ := L.rep.low a ha; exact ⟨o, hk a o q e⟩
      rest := L.rep.rest
      toks := Nat.le_trans L.rep.toks hnn }
    more := L.more
    keep := fun b o hb e => hk b o (fun q => by rw [hw b q] at e; cases e) (L.keep b o hb e)
    loans := L.loans }

theorem Lp.ex (L : Lp X S1 ρ1 T1 wr s1 S ρ T s) : ∀ b ∈ wr, ∃ o, s.heap.get? b = some o := fun b hb => by
  obtain ⟨m, _, e, _⟩ := L.more
  exact L.rep.low b (by rw [e]; exact List.mem_append_left _ (List.mem_append_right _ hb))

/-- the body ran -/
theorem Lp.step (R : Rep X S1 ρ1 T1 s1) (L : Lp X S1 ρ1 T1 wr s1 S ρ T s) (st : Step X S ρ T s S' ρ' T' s') : Lp X S1 ρ1 T1 wr s1 S' ρ' T' s' where
  rep := st.rep
  more := by
    obtain ⟨m, e1, e2, hm⟩ := L.more
    obtain ⟨m', e3, e4, hm'⟩ := st.more
    refine ⟨m ++ m', by rw [e3, e1, List.append_assoc], by rw [e4, e2, List.append_assoc], fun a ha => ?_⟩
    rcases List.mem_append.mp ha with q | q
    · exact hm a q
    · have z := hm' a q
      refine ⟨?_, fun hw => by obtain ⟨o, e⟩ := L.ex a hw; rw [z] at e; cases e⟩
      cases e : s1.heap.get? a with
      | none => rfl
      | some o =>
        by_cases hT : a ∈ T
        · obtain ⟨o', e'⟩ := L.rep.low a hT; rw [z] at e'; cases e'
        · have := L.keep a o (fun l => hT (by rw [e2]; exact List.mem_append_left _ (List.mem_append_left _ (R.sub a l.mem)))) e
          rw [z] at this; cases this
  keep := fun b o hb e => st.keep b o (fun l => by
    obtain ⟨m, e1, e2, hm⟩ := L.more
    obtain ⟨i, ao, f1, f2, f3⟩ := l
    rw [e1] at f1
    by_cases hi : i < ρ1.length
    · rw [List.getElem?_append_left hi] at f1
      have hiS : i < S1.length := R.len ▸ hi
      have q : S1[i]? = some S1[i] := List.getElem?_eq_getElem hiS
      by_cases hl : S1[i] = .loan
      · rw [hl] at q
        have := L.loans i q
        rw [f2] at this; exact f3 (Option.some.inj this)
      · exact hb ⟨i, _, f1, q, hl⟩
    · rw [List.getElem?_append_right (by omega)] at f1
      rw [(hm b (List.mem_of_getElem? f1)).1] at e; cases e) (L.keep b o hb e)
  loans := fun i e => st.loans i (L.loans i e)

/-- what the iterator reads stands -/
theorem Lp.fp (R : Rep X S1 ρ1 T1 s1) (hw : ∀ b ∈ wr, s1.heap.get? b = none) (L : Lp X S1 ρ1 T1 wr s1 S ρ T s) (st : Step X S ρ T s S' ρ' T' s') {b : Addr} (hb : b ∈ wr ∨ (¬ Live S1 ρ1 b ∧ ∃ o, s1.heap.get? b = some o)) {o : Obj}
    (e : s.heap.get? b = some o) : s'.heap.get? b = some o := st.keep b o (fun l => by
  rcases hb with hb | ⟨hb, o1, eo⟩
  · exact L.notin R hw b hb l.mem
  · obtain ⟨m, e1, e2, hm⟩ := L.more
    obtain ⟨i, ao, f1, f2, f3⟩ := l
    rw [e1] at f1
    by_cases hi : i < ρ1.length
    · rw [List.getElem?_append_left hi] at f1
      have hiS : i < S1.length := R.len ▸ hi
      have q : S1[i]? = some S1[i] := List.getElem?_eq_getElem hiS
      by_cases hl : S1[i] = .loan
      · rw [hl] at q
        have := L.loans i q
        rw [f2] at this; exact f3 (Option.some.inj this)
      · exact hb ⟨i, _, f1, q, hl⟩
    · rw [List.getElem?_append_right (by omega)] at f1
      rw [(hm b (List.mem_of_getElem? f1)).1] at eo; cases eo) e

/-- behind the loop -/
theorem Lp.done (R : Rep X S1 ρ1 T1 s1) (L : Lp X S1 ρ1 T1 wr s1 S ρ T s) : ∃ T', Step X S1 ρ1 T1 s1 S ρ T' s ∧ ∀ a ∈ T', a ∈ T := by
  obtain ⟨m, e1, e2, hm⟩ := L.more
  have hsub : ∀ a ∈ T1 ++ m, a ∈ T := fun a ha => by
    rw [e2]
    rcases List.mem_append.mp ha with q | q
    · exact List.mem_append_left _ (List.mem_append_left _ q)
    · exact List.mem_append_right _ q
  refine ⟨T1 ++ m, ⟨L.rep.mvT hsub fun a ha => ?_, ⟨m, e1, rfl, fun a ha => (hm a ha).1⟩, L.keep, L.loans⟩, hsub⟩
  rw [e1] at ha
  rcases List.mem_append.mp ha with q | q
  · exact List.mem_append_left _ (R.sub a q)
  · exact List.mem_append_right _ q
theorem Lp.fin (R : Rep X S1 ρ1 T1 s1) (hw : ∀ b ∈ wr, s1.heap.get? b = none) (L : Lp X S1 ρ1 T1 wr s1 S ρ T s) (hk : ∀ b o, b ∉ wr → s.heap.get? b = some o → h.get? b = some o) (n : Nat) (hnn : s.toks ≤ n) :
    ∃ T', Step X S1 ρ1 T1 s1 S ρ T' { s with heap := h, toks := n } := by
  have hn := L.notin R hw
  obtain ⟨m, e1, e2, hm⟩ := L.more
  have hsub : ∀ a ∈ T1 ++ m, a ∈ T := fun a ha => by
    rw [e2]
    rcases List.mem_append.mp ha with q | q
    · exact List.mem_append_left _ (List.mem_append_left _ q)
    · exact List.mem_append_right _ q
  have hno : ∀ a ∈ T1 ++ m, a ∉ wr := fun a ha q => by
    rcases List.mem_append.mp ha with z | z
    · obtain ⟨o, e⟩ := R.low a z; rw [hw a q] at e; cases e
    · exact (hm a z).2 q
  have hwT : ∀ b ∈ wr, b ∈ T := fun b hb => by rw [e2]; exact List.mem_append_left _ (List.mem_append_right _ hb)
  refine ⟨T1 ++ m, ⟨?_, ⟨m, e1, rfl, fun a ha => (hm a ha).1⟩, fun b o hb e => hk b o (fun q => by rw [hw b q] at e; cases e) (L.keep b o hb e), L.loans⟩⟩
  exact {
    keep := fun b o e => hk b o (fun q => by have := L.rep.new b (hwT b q); rw [e] at this; cases this) (L.rep.keep b o e)
    len := L.rep.len
    obj := fun i ao a f1 f2 => (L.rep.obj i ao a f1 f2).mv ⟨fun b o hb e => hk b o (fun q => hb (hwT b q)) e, fun a ha => .inl (hsub a ha), fun _ _ e => e⟩ fun o e => hk a o (fun q => hn a q (List.mem_of_getElem? f2)) e
    nodup := L.rep.nodup
    nosys := L.rep.nosys
    sub := fun a ha => by
      rw [e1] at ha
      rcases List.mem_append.mp ha with q | q
      · exact List.mem_append_left _ (R.sub a q)
      · exact List.mem_append_right _ q
    new := fun a ha => L.rep.new a (hsub a ha)
    low := fun a ha => by obtain ⟨o, e⟩ := L.rep.low a (hsub a ha); exact ⟨o, hk a o (hno a ha) e⟩
    rest := L.rep.rest
    toks := Nat.le_trans L.rep.toks hnn }
end

/-- an item that goes to a target -/
noncomputable def VI (X : Cx) (ρ T : List Addr) (h : Heap) (target : Expr) (it : AV) (v : Value) : Prop := match target with
  | .Tuple .. => ∃ xs a vs, it = .tup xs ∧ v = .ref a ∧ IsTup h a vs.toArray ∧ VRs X ρ T h xs vs
  | _ => VR X ρ T h it v

/-- an iterator made in s1: what its turns give -/
structure SrcAt (X : Cx) (A : Around) (S : List AO) (k : Option Nat) (ρ T : List Addr) (s : Shared) (target : Expr) (items : List AV) (I : Addr) (fp wr : List Addr) (P Md : Nat → Value → Heap → Prop) (St : Nat → Heap → Prop) (h' : Heap) (tk : Nat) : Prop where
  hk : ∀ b o, s.heap.get? b = some o → h'.get? b = some o
  turns : KTurns X.prog X.w A target I fp wr items.length P Md St
  st : St 0 h'
  time : s.toks ≤ tk
  new : ∀ b ∈ wr, s.heap.get? b = none
  foot : ∀ b ∈ fp, b ∈ wr ∨ (¬ Live (lo S k) ρ b ∧ ∃ o, s.heap.get? b = some o)
  ex : ∀ i h, St i h → ∀ b ∈ wr, ∃ o, h.get? b = some o
  item : ∀ (j : Nat) (it : AV) (v : Value) (h : Heap) (ρ' T' : List Addr), items[j]? = some it → P j v h → Mv ρ T s.heap ρ' T' h → (∀ b ∈ wr, b ∈ T') → VI X ρ' T' h target it v
  self : ∀ (s' : Shared) (Q' : Value → Shared → Prop) (E' : Value → Shared → Prop), St 0 s'.heap → Q' (.ref I) s' → wpAny X.M A (pyIter (.ref I)) Q' E' s'
/-- what a value gives when it is iterated -/
noncomputable def Src (X : Cx) (n : Nat) (S : List AO) (k : Option Nat) (target : Expr) (x : AV) (items : List AV) : Prop :=
  ∀ (A : Around) (ρ T : List Addr) (s : Shared) (v : Value) (Q : Value → Shared → Prop) (E : Value → Shared → Prop), Room n A → Rep X S ρ T s → VR X ρ T s.heap x v →
    (∀ (I : Addr) (fp wr : List Addr) (P Md : Nat → Value → Heap → Prop) (St : Nat → Heap → Prop) (h' : Heap) (tk : Nat), SrcAt X A S k ρ T s target items I fp wr P Md St h' tk →
      Q (.ref I) { s with heap := h', toks := tk }) → wpAny X.M A (pyIter v) Q E s
/-- what an iterable expression gives -/
noncomputable def WpI (X : Cx) (n : Nat) (ae : AEnv) (S : List AO) (target iter : Expr) (K : List AV → Option Nat → List AO → Prop) : Prop :=
  ∀ (A : Around) (ρ T : List Addr) (s : Shared) (env : Env) (Q : Value → Shared → Prop) (E : Value → Shared → Prop) (E' : Value → Shared → Prop), Room n A → Rep X S ρ T s → EnvOk ae ρ env →
    (∀ items k S1 ρ1 T1 s1, K items k S1 → Step X S ρ T s S1 ρ1 T1 s1 → ∀ (I : Addr) (fp wr : List Addr) (P Md : Nat → Value → Heap → Prop) (St : Nat → Heap → Prop) (h' : Heap) (tk : Nat), SrcAt X A S1 k ρ1 T1 s1 target items I fp wr P Md St h' tk →
      Q (.ref I) { s1 with heap := h', toks := tk }) → wpAny X.M A (eval iter env) (fun v s' => wpAny X.M A (pyIter v) Q E s') E' s

/-- a value goes to a target -/
noncomputable def WpA (X : Cx) (n : Nat) (ae : AEnv) (S : List AO) (target : Expr) (it : AV) (K : Unit → List AO → Prop) : Prop :=
  ∀ A ρ T s env v, Room n A → Rep X S ρ T s → EnvOk ae ρ env → VI X ρ T s.heap target it v → wpAny X.M A (assign target env v) (PostU X S ρ T s K) No s

noncomputable def WpLoop (X : Cx) (n : Nat) (ae : AEnv) (target : Expr) (body : List Stmt) : List AV → List AO → (AF → List AO → Prop) → Prop
  | [], S, K => K .next S
  | it :: r, S, K => WpA X n ae S target it fun _ S1 => WpSs X n ae S1 body fun f S2 => match f with
    | .next => WpLoop X n ae target body r S2 K
    | .cont => WpLoop X n ae target body r S2 K
    | .brk => K .next S2
    | .ret v => K (.ret v) S2

section
variable {X : Cx} {n : Nat} {ae : AEnv} {S S' : List AO} {K : AV → List AO → Prop} {KB : Bool → List AO → Prop} {KF : AF → List AO → Prop} {KU : Unit → List AO → Prop}

theorem EnvOk.lp {ρ ρ1 T1 wr T : List Addr} {s1 s : Shared} {S1 : List AO} {env : Env} (R : Rep X S1 ρ1 T1 s1) (hw : ∀ b ∈ wr, s1.heap.get? b = none) (E : EnvOk ae ρ1 env) (L : Lp X S1 ρ1 T1 wr s1 S ρ T s) : EnvOk ae ρ env :=
  ⟨E.scope, E.fn, (L.mv R hw).ids _ _ E.loc, E.glob, E.bui, fun x i e => by obtain ⟨c, a, b⟩ := E.cells x i e; exact ⟨c, a, (L.mv R hw).ids _ _ b⟩⟩

theorem PostG.un {α β : Type} {R : List Addr → List Addr → Heap → α → β → Prop} {K : α → List AO → Prop} {ρ T : List Addr} {s s' : Shared} {k : Option Nat} {b : β} (hR : Rep X S ρ T s)
    (p : PostG R X (lo S k) ρ T s (fun x S2 => K x (un S S2 k)) b s') : PostG R X S ρ T s K b s' :=
  by
  obtain ⟨x, S2, ρ', T', hk, st, r⟩ := p
  exact ⟨x, Mine.un S S2 k, ρ', T', hk, Step.un hR st, r⟩

theorem FR.mvT {ρ T T' : List Addr} {h : Heap} (hT : ∀ a ∈ T', a ∈ T) : ∀ {f : AF} {g : Flow}, FR X ρ T h f g → FR X ρ T' h f g
  | .next, _, q => q
  | .brk, _, q => q
  | .cont, _, q => q
  | .ret x, _, ⟨v, e, q⟩ => ⟨v, e, VR.mv ⟨fun _ _ _ e => e, fun a ha => .inl (hT a ha), fun _ _ e => e⟩ x q⟩

theorem iE {target iter : Expr} {K : List AV → Option Nat → List AO → Prop} (h : WpE X n ae S iter fun x S1 => ∃ items k, Src X n S1 k target x items ∧ K items k S1) : WpI X n ae S target iter K :=
  fun A ρ T s env Q E E' hr hR hE hQ => chain (h A ρ T s env hr hR hE) fun x S1 ρ1 T1 v s1 hK st hv => by
    obtain ⟨items, k, hsrc, hK⟩ := hK
    exact hsrc A ρ1 T1 s1 v Q E hr st.rep hv fun I fp wr P Md St h' tk W => hQ items k S1 ρ1 T1 s1 hK st I fp wr P Md St h' tk W

theorem sFor {target iter : Expr} {body : List Stmt} {pos : Pos} (h : WpI X n ae S target iter fun items k S1 => WpLoop X n ae target body items (lo S1 k) fun f S2 => KF f (un S1 S2 k))
    (hs : ∀ env x, foldedSetIterable iter env x = pure x := by intro _ _; rfl) : WpS X n ae S (.For target iter body [] pos) KF := fun A ρ T s env hr hR hE => by
  refine wpAny_For (h A ρ T s env _ _ _ hr hR hE fun items k S1 ρ1 T1 s1 hloop st I fp wr P Md St h' tk W0 => ?_) (hs env)
  obtain ⟨hk, W, hst, htk, hwr, hfp, hex, hP, _⟩ := W0
  have R1 := st.rep.lo k
  have fin : ∀ {f : AF} {g : Flow} {S2 : List AO} {ρ2 T2 : List Addr} {s2 : Shared}, Lp X (lo S1 k) ρ1 T1 wr s1 S2 ρ2 T2 s2 → KF f (un S1 S2 k) → FR X ρ2 T2 s2.heap f g → PostF X S ρ T s KF g s2 := fun L hkf hf => by
    obtain ⟨T', stp, hT⟩ := L.done R1
    exact (PostG.un (K := KF) (k := k) st.rep (PostG.mk stp hkf (hf.mvT hT))).trans hR st
  refine codeAny_forLoop_any (fun m s' => ∃ i S2 ρ2 T2, m = items.length + 1 - i ∧ i ≤ items.length ∧ Lp X (lo S1 k) ρ1 T1 wr s1 S2 ρ2 T2 s' ∧ St i s'.heap ∧ WpLoop X n ae target body (items.drop i) S2 fun f S2 => KF f (un S1 S2 k)) ?_ (items.length + 1)
    ⟨0, lo S1 k, ρ1, T1 ++ wr, by omega, Nat.zero_le _, Lp.start R1 hk hwr (hex 0 h' hst) tk htk, hst, by simpa using hloop⟩
  rintro m s' ⟨i, S2, ρ2, T2, rfl, hi, L, hst', hw⟩
  by_cases hlt : i < items.length
  · refine wpAny_with_toks (Nat.le_refl _) (W.item i s' _ _ hlt hst' fun u h1 tk1 hMd hk1 htk1 => W.go i u _ _ _ hMd fun h2 hP2 hst2 hk2 => ?_)
    have L2 := L.move (h := h2) R1 hwr (fun b o hb e => hk2 b o hb (hk1 b o hb e)) (hex _ _ hst2) tk1 htk1
    have hdrop : items.drop i = items[i] :: items.drop (i + 1) := List.drop_eq_getElem_cons hlt
    rw [hdrop] at hw
    have hwT : ∀ b ∈ wr, b ∈ T2 := fun b hb => by
      obtain ⟨m, _, e, _⟩ := L.more
      rw [e]; exact List.mem_append_left _ (List.mem_append_right _ hb)
    have hv2 := hP i items[i] u h2 ρ2 T2 (List.getElem?_eq_getElem hlt) hP2 (L2.mv R1 hwr) hwT
    have hE2 : EnvOk ae ρ2 env := (hE.step st hR).lp R1 hwr L2
    refine chain (hw A ρ2 T2 _ env u hr L2.rep hE2 hv2) fun _ S3 ρ3 T3 _ s3 hK3 st3 _ => ?_
    refine chain (hK3 A ρ3 T3 s3 env hr st3.rep (hE2.step st3 L2.rep)) fun f S4 ρ4 T4 g s4 hK4 st4 hf => ?_
    have st34 := st3.trans L2.rep st4
    have L4 := L2.step R1 st34
    have hst4 : St (i + 1) s4.heap := W.frame _ _ _ hst2 fun b hb o e => L2.fp R1 hwr st34 (hfp b hb) e
    cases f with
    | next => cases hf; exact ⟨items.length + 1 - (i + 1), by omega, i + 1, S4, ρ4, T4, rfl, hlt, L4, hst4, hK4⟩
    | cont => cases hf; exact ⟨items.length + 1 - (i + 1), by omega, i + 1, S4, ρ4, T4, rfl, hlt, L4, hst4, hK4⟩
    | brk => cases hf; exact fin L4 hK4 rfl
    | ret x => obtain ⟨z, rfl, hz⟩ := hf; exact fin L4 hK4 ⟨z, rfl, hz⟩
  · have hin : i = items.length := by omega
    subst hin
    rw [List.drop_length] at hw
    refine wpAny_with_toks (Nat.le_refl _) (W.done s' _ _ hst' fun h1 tk1 hk1 htk1 => wpAny_execs_nil ?_)
    obtain ⟨T', stp⟩ := L.fin (h := h1) R1 hwr hk1 tk1 htk1
    exact (PostG.un (K := KF) (k := k) st.rep (PostG.mk stp hw rfl)).trans hR st
end
end Mine
namespace Mine

/-! ## comprehensions -/
noncomputable def testsT (ifs : List Expr) (env : Env) : Sem Bool := forIn ifs true fun c r => if r = true then do let ok ← isTrue c env (eval c env); pure (ForInStep.yield ok) else pure (ForInStep.yield r)
/-- what a clause behind another one does -/
noncomputable def nestT (e : Expr) (t i : Expr) (d : Nat) (acc : Value) (env : Env) : Sem Unit :=
  eval i env >>= fun x => standAt i.pos >>= fun _ => foldedSetIterable i env x >>= fun x => holding [x] (pyIter x) >>= fun it => runOwn (.compStart e (d + 1) it acc env) env >>= fun _ => pure ()
noncomputable def restT (e : Expr) (gens : List Comprehension) (emit : Sem Unit) (d : Nat) (acc : Value) (env : Env) : Sem Unit := match gens[d + 1]? with
  | some ⟨t, i, _, _⟩ => nestT e t i d acc env
  | none => emit
/-- a turn of a plain clause -/
noncomputable def turnT (e t i : Expr) (fs : List Expr) (rest : Sem Unit) (d : Nat) (it acc : Value) (env : Env) : Sem PySem.Fin :=
  standAt i.pos >>= fun _ => pyNext it >>= fun r => match r with
    | none => pure (.done .next)
    | some v => letOwnedTupleGo t it v >>= fun _ => assign t env v >>= fun _ => testsT fs env >>= fun ok =>
      if ok = true then rest >>= fun _ => again (.compLoop e d it acc env) else again (.compLoop e d it acc env)
noncomputable def emitL (elt : Expr) (acc : Value) (env : Env) : Sem Unit := eval elt env >>= fun v => call (.builtin "list.append") [acc, v] >>= fun _ => pure ()
noncomputable def emitD (k v : Expr) (a : Addr) (env : Env) : Sem Unit :=
  eval k env >>= fun x => holding [x] (eval v env) >>= fun y => standAt { k.pos with endLine := v.pos.endLine, endCol := v.pos.endCol } >>= fun _ => holding [x, y] (dictSet a x y)

theorem turn_list {elt : Expr} {gens : List Comprehension} {scope : Scope} {pos : Pos} {d : Nat} {it acc : Value} {env : Env} {t i : Expr} {fs : List Expr} (hg : gens[d]? = some ⟨t, i, fs, 0⟩) (ha : ∀ g ∈ gens, g.is_async = 0) :
    compTurn (.ListComp elt gens scope pos) d it acc env = turnT (.ListComp elt gens scope pos) t i fs (restT (.ListComp elt gens scope pos) gens (emitL elt acc env) d acc env) d it acc env := by
  unfold compTurn turnT restT
  dsimp only
  rw [hg]
  cases h : gens[d + 1]? with
  | none => dsimp only; simp only [bne_self_eq_false, Bool.false_eq_true, if_false]; rfl
  | some g' =>
    obtain ⟨t', i', fs', k'⟩ := g'
    have hz : k' = 0 := ha _ (List.mem_of_getElem? h)
    subst hz
    unfold nestT
    dsimp only
    simp only [bne_self_eq_false, Bool.false_eq_true, if_false, bind_assoc, pure_bind]
    rfl
theorem turn_dict {k v : Expr} {gens : List Comprehension} {scope : Scope} {pos : Pos} {d : Nat} {it : Value} {a : Addr} {env : Env} {t i : Expr} {fs : List Expr} (hg : gens[d]? = some ⟨t, i, fs, 0⟩) (ha : ∀ g ∈ gens, g.is_async = 0) :
    compTurn (.DictComp k v gens scope pos) d it (.ref a) env = turnT (.DictComp k v gens scope pos) t i fs (restT (.DictComp k v gens scope pos) gens (emitD k v a env) d (.ref a) env) d it (.ref a) env := by
  unfold compTurn turnT restT
  dsimp only
  rw [hg]
  cases h : gens[d + 1]? with
  | none => dsimp only; simp only [bne_self_eq_false, Bool.false_eq_true, if_false]; rfl
  | some g' =>
    obtain ⟨t', i', fs', k'⟩ := g'
    have hz : k' = 0 := ha _ (List.mem_of_getElem? h)
    subst hz
    unfold nestT
    dsimp only
    simp only [bne_self_eq_false, Bool.false_eq_true, if_false, bind_assoc, pure_bind]
    rfl

section
variable {prog : Program} {w : World} {A : Around} {R : Result → Shared → Prop} {s : Shared}

theorem andThen {M : Model} {α β : Type} {m : Sem α} {f : α → Sem β} {Q' : α → Shared → Prop} {Q : β → Shared → Prop} {E : Value → Shared → Prop} (h : wpAny M A m Q' E s) (k : ∀ a s', Q' a s' → wpAny M A (f a) Q E s') : wpAny M A (m >>= f) Q E s :=
  wpAny_bind (wpAny_mono h k fun _ _ e => e)
theorem compLoop_gen {e : Expr} {gens : List Comprehension} {emit : Sem Unit} {d : Nat} {it acc : Value} {env : Env} {t i : Expr} {fs : List Expr}
    (hu : ∀ A' : Around, A'.under (.compLoop e d it acc env) = A') (hden : (model prog w).den (.compLoop e d it acc env) = (turnT e t i fs (restT e gens emit d acc env) d it acc env).onRaise (fun x => do noteFrame x env; theTreesLotGoes x))
    (I : Nat → Shared → Prop)
    (turn : ∀ n s, I n s → wpAny (model prog w) A (pyNext it) (fun r s₁ => match r with
      | none => R (.ok .next) s₁
      | some v => wpAny (model prog w) A (letOwnedTupleGo t it v) (fun _ s₂ => wpAny (model prog w) A (assign t env v) (fun _ s₃ => wpAny (model prog w) A (testsT fs env) (fun ok s₄ =>
          if ok = true then wpAny (model prog w) A (restT e gens emit d acc env) (fun _ s₅ => ∃ m, m < n ∧ I m s₅) (notedBy (model prog w) A env fun e s' => R (.error e) s') s₄
          else ∃ m, m < n ∧ I m s₄) (notedBy (model prog w) A env fun e s' => R (.error e) s') s₃) (notedBy (model prog w) A env fun e s' => R (.error e) s') s₂) (notedBy (model prog w) A env fun e s' => R (.error e) s') s₁) (notedBy (model prog w) A env fun e s' => R (.error e) s') s)
    (n : Nat) (h : I n s) : codeAny (model prog w) A (.compLoop e d it acc env) R s := by
  refine codeAny_loop (M := model prog w) rfl I ?_ n h
  intro n s hI
  rw [hu, hden]
  refine wpAny_noted (wpAny_bind (wpAny_standAt (andThen (turn n s hI) fun r s1 q => ?_)))
  cases r with
  | none => exact wpAny_pure q
  | some v =>
    refine andThen q fun _ _ q => andThen q fun _ _ q => andThen q fun ok _ q => ?_
    by_cases b : ok = true
    · rw [if_pos b] at q ⊢
      exact andThen q fun _ _ q => wpAny_pure ⟨rfl, q⟩
    · rw [if_neg b] at q ⊢
      exact wpAny_pure ⟨rfl, q⟩

theorem compStart_gen {e : Expr} {d : Nat} {it acc : Value} {env : Env} {t i : Expr} {fs : List Expr}
    (hu : ∀ A' : Around, A'.under (.compStart e d it acc env) = A') (hden : (model prog w).den (.compStart e d it acc env) = (compStart e d it acc env).onRaise (fun x => do noteFrame x env; standAt theWindowsPlace))
    (hg : (clausesOf e)[d]? = some ⟨t, i, fs, 0⟩) (h0 : codeAny (model prog w) A (.compLoop e d it acc env) R s)
    (h : wpAny (model prog w) A (pyIter it) (fun it' s' => codeAny (model prog w) A (.compLoop e d it' acc env) R s') No s) :
    codeAny (model prog w) A (.compStart e d it acc env) R s := by
  refine codeAny_of_tree ?_
  rw [hu, hden]
  unfold compStart
  rw [hg]
  refine wpAny_notedAt (wpAny_bind (m := ask) (wpAny_askSetting (wpAny_ite ?_)))
  split
  · exact wpAny_pure ⟨rfl, h0⟩
  · exact wpAny_bind (wpAny_rule (wpAny_bind (m := standAt i.pos) (wpAny_standAt (wpAny_bind (wpAny_mono h (fun _ _ q => wpAny_pure ⟨rfl, q⟩) fun _ _ x => x.elim)))))
end

/-! the shadows -/
noncomputable def WpTests (X : Cx) (n : Nat) (ae : AEnv) : List Expr → List AO → (Bool → List AO → Prop) → Prop
  | [], S, K => K true S
  | c :: r, S, K => WpB X n ae S c fun b S1 => if b = true then WpTests X n ae r S1 K else K false S1
noncomputable def WpItems (body : AV → List AO → (List AO → Prop) → Prop) : List AV → List AO → (List AO → Prop) → Prop
  | [], S, K => K S
  | it :: r, S, K => body it S fun S2 => WpItems body r S2 K
noncomputable def WpIn (X : Cx) (n : Nat) (ae : AEnv) (t : Expr) (fs : List Expr) (rest : List AO → (List AO → Prop) → Prop) (it : AV) (S : List AO) (K : List AO → Prop) : Prop :=
  WpA X n ae S t it fun _ S1 => WpTests X n ae fs S1 fun b S2 => if b = true then rest S2 K else K S2
noncomputable def WpGens (X : Cx) (n : Nat) (ae : AEnv) (emit : List AO → (List AO → Prop) → Prop) : List Comprehension → List AO → (List AO → Prop) → Prop
  | [], S, K => emit S K
  | ⟨t, i, fs, a⟩ :: r, S, K => a = 0 ∧ WpI X n ae S t i fun items k S1 => WpItems (WpIn X n ae t fs (WpGens X n ae emit r)) items (lo S1 k) fun S2 => K (un S1 S2 k)

noncomputable def Sound (X : Cx) (n : Nat) (ae : AEnv) (ia : Nat) (a : Addr) (env : Env) (B : List AO → (List AO → Prop) → Prop) (t : Sem Unit) : Prop :=
  ∀ A ρ T s S K, Room n A → Rep X S ρ T s → EnvOk ae ρ env → ρ[ia]? = some a → B S K → wpAny X.M A t (PostU X S ρ T s fun _ S' => K S') No s

section
variable {X : Cx} {n : Nat} {ae : AEnv}

theorem forIn_false (env : Env) : ∀ (fs : List Expr) {M : Model} {A : Around} {E : Value → Shared → Prop} {s : Shared} {Q : Bool → Shared → Prop}, Q false s →
    wpAny M A (forIn fs false fun c r => if r = true then do let ok ← isTrue c env (eval c env); pure (ForInStep.yield ok) else pure (ForInStep.yield r)) Q E s
  | [], _, _, _, _, _, h => by rw [List.forIn_nil]; exact wpAny_pure h
  | c :: r, _, _, _, _, _, h => by
    rw [List.forIn_cons]
    refine wpAny_bind ?_
    rw [if_neg (by decide)]
    exact wpAny_pure (forIn_false env r h)

theorem tests_sound : ∀ (fs : List Expr) {A : Around} {ρ T : List Addr} {s : Shared} {env : Env} {S : List AO} {K : Bool → List AO → Prop}, Room n A → Rep X S ρ T s → EnvOk ae ρ env → WpTests X n ae fs S K →
    wpAny X.M A (testsT fs env) (PostB X S ρ T s K) No s
  | [], A, ρ, T, s, env, S, K, hr, hR, hE, h => by
    unfold testsT; rw [List.forIn_nil]; exact wpAny_pure (PostG.mk (.refl hR) h rfl)
  | c :: r, A, ρ, T, s, env, S, K, hr, hR, hE, h => by
    unfold testsT
    rw [List.forIn_cons]
    refine wpAny_bind ?_
    rw [if_pos rfl]
    refine wpAny_bind (chain (h A ρ T s env hr hR hE) fun b S1 ρ1 T1 v s1 hK st hv => ?_)
    subst hv
    refine wpAny_pure ?_
    dsimp only
    cases v with
    | true => rw [if_pos rfl] at hK; exact thenG hR st (tests_sound r hr st.rep (hE.step st hR) hK)
    | false => rw [if_neg (by decide)] at hK; exact forIn_false env r (PostG.mk st hK rfl)

theorem items_sound {e : Expr} {gens : List Comprehension} {emit : Sem Unit} {d : Nat} {env : Env} {t i : Expr} {fs : List Expr} {ia : Nat} {a : Addr} {A : Around} {rest : List AO → (List AO → Prop) → Prop}
    (hu : ∀ I (A' : Around), A'.under (.compLoop e d (.ref I) (.ref a) env) = A') (hden : ∀ I, X.M.den (.compLoop e d (.ref I) (.ref a) env) = (turnT e t i fs (restT e gens emit d (.ref a) env) d (.ref I) (.ref a) env).onRaise (fun x => do noteFrame x env; theTreesLotGoes x))
    (hg : gens[d]? = some ⟨t, i, fs, 0⟩) (ha : ∀ g ∈ gens, g.is_async = 0) (hrest : Sound X n ae ia a env rest (restT e gens emit d (.ref a) env)) (hr : Room n A)
    {S1 S0 : List AO} {ρ1 T1 wr fp ρ0 T0 : List Addr} {s1 s0 : Shared} {I : Addr} {items : List AV} {P Md : Nat → Value → Heap → Prop} {St : Nat → Heap → Prop} {K : List AO → Prop}
    (R1 : Rep X S1 ρ1 T1 s1) (L0 : Lp X S1 ρ1 T1 wr s1 S0 ρ0 T0 s0) (hE : EnvOk ae ρ0 env) (hia : ρ0[ia]? = some a)
    (W : KTurns X.prog X.w A t I fp wr items.length P Md St) (hst : St 0 s0.heap)
    (hwr : ∀ b ∈ wr, s1.heap.get? b = none) (hfp : ∀ b ∈ fp, b ∈ wr ∨ (¬ Live S1 ρ1 b ∧ ∃ o, s1.heap.get? b = some o)) (hex : ∀ i h, St i h → ∀ b ∈ wr, ∃ o, h.get? b = some o)
    (hP : ∀ (j : Nat) (it : AV) (v : Value) (h : Heap) (ρ' T' : List Addr), items[j]? = some it → P j v h → Mv ρ1 T1 s1.heap ρ' T' h → (∀ b ∈ wr, b ∈ T') → VI X ρ' T' h t it v)
    (hI : WpItems (WpIn X n ae t fs rest) items S0 K) :
    codeAny X.M A (.compLoop e d (.ref I) (.ref a) env) (fun r s' => r = .ok .next ∧ ∃ S' ρ' T', K S' ∧ Step X S1 ρ1 T1 s1 S' ρ' T' s' ∧ ∀ (j : Nat) (b : Addr), ρ0[j]? = some b → ρ'[j]? = some b) s0 := by
  refine compLoop_gen (hu I) (hden I) (fun m s' => ∃ i S2 ρ2 T2, m = items.length + 1 - i ∧ i ≤ items.length ∧ Lp X S1 ρ1 T1 wr s1 S2 ρ2 T2 s' ∧ (∀ (j : Nat) (b : Addr), ρ0[j]? = some b → ρ2[j]? = some b) ∧ St i s'.heap ∧ WpItems (WpIn X n ae t fs rest) (items.drop i) S2 K) ?_ (items.length + 1)
    ⟨0, S0, ρ0, T0, by omega, Nat.zero_le _, L0, fun _ _ e => e, hst, by simpa using hI⟩
  rintro m s' ⟨i, S2, ρ2, T2, rfl, hi, L, hpre, hst', hw⟩
  by_cases hlt : i < items.length
  · refine wpAny_with_toks (Nat.le_refl _) (W.item i s' _ _ hlt hst' fun u h1 tk1 hMd hk1 htk1 => W.go i u _ _ _ hMd fun h2 hP2 hst2 hk2 => ?_)
    have L2 := L.move (h := h2) R1 hwr (fun b o hb e => hk2 b o hb (hk1 b o hb e)) (hex _ _ hst2) tk1 htk1
    have hdrop : items.drop i = items[i] :: items.drop (i + 1) := List.drop_eq_getElem_cons hlt
    rw [hdrop] at hw
    have hwT : ∀ b ∈ wr, b ∈ T2 := fun b hb => by
      obtain ⟨m, _, e, _⟩ := L.more
      rw [e]; exact List.mem_append_left _ (List.mem_append_right _ hb)
    have hv2 := hP i items[i] u h2 ρ2 T2 (List.getElem?_eq_getElem hlt) hP2 (L2.mv R1 hwr) hwT
    have hE2 : EnvOk ae ρ2 env := ⟨hE.scope, hE.fn, hpre _ _ hE.loc, hE.glob, hE.bui, fun x i e => by obtain ⟨c, a, b⟩ := hE.cells x i e; exact ⟨c, a, hpre _ _ b⟩⟩
    have hia2 : ρ2[ia]? = some a := hpre _ _ hia
    have hw : WpA X n ae S2 t items[i] _ := hw
    refine chain (hw A ρ2 T2 _ env u hr L2.rep hE2 hv2) fun _ S3 ρ3 T3 _ s3 hK3 st3 _ => ?_
    refine chain (tests_sound fs hr st3.rep (hE2.step st3 L2.rep) hK3) fun b S4 ρ4 T4 g s4 hK4 st4 hf => ?_
    subst hf
    have st34 := st3.trans L2.rep st4
    cases g with
    | false =>
      rw [if_neg (by decide)] at hK4 ⊢
      exact ⟨items.length + 1 - (i + 1), by omega, i + 1, S4, ρ4, T4, rfl, hlt, L2.step R1 st34, fun j b e => (st34.mv L2.rep).ids _ _ (hpre j b e), W.frame _ _ _ hst2 fun b hb o e => L2.fp R1 hwr st34 (hfp b hb) e, hK4⟩
    | true =>
      rw [if_pos rfl] at hK4 ⊢
      refine chain (hrest A ρ4 T4 s4 S4 _ hr st34.rep (hE2.step st34 L2.rep) ((st34.mv L2.rep).ids _ _ hia2) hK4) fun _ S5 ρ5 T5 _ s5 hK5 st5 _ => ?_
      have st35 := st34.trans L2.rep st5
      exact ⟨items.length + 1 - (i + 1), by omega, i + 1, S5, ρ5, T5, rfl, hlt, L2.step R1 st35, fun j b e => (st35.mv L2.rep).ids _ _ (hpre j b e), W.frame _ _ _ hst2 fun b hb o e => L2.fp R1 hwr st35 (hfp b hb) e, hK5⟩
  · have hin : i = items.length := by omega
    subst hin
    rw [List.drop_length] at hw
    refine wpAny_with_toks (Nat.le_refl _) (W.done s' _ _ hst' fun h1 tk1 hk1 htk1 => ?_)
    obtain ⟨T', stp⟩ := L.fin (h := h1) R1 hwr hk1 tk1 htk1
    exact ⟨rfl, _, _, _, hw, stp, hpre⟩

/-- from the source to the loop, once or twice through iter -/
theorem start_sound {e : Expr} {gens : List Comprehension} {emit : Sem Unit} {d : Nat} {env : Env} {t i : Expr} {fs : List Expr} {ia : Nat} {a : Addr} {A : Around} {rest : List AO → (List AO → Prop) → Prop}
    (hu : ∀ I (A' : Around), A'.under (.compLoop e d (.ref I) (.ref a) env) = A') (hden : ∀ I, X.M.den (.compLoop e d (.ref I) (.ref a) env) = (turnT e t i fs (restT e gens emit d (.ref a) env) d (.ref I) (.ref a) env).onRaise (fun x => do noteFrame x env; theTreesLotGoes x))
    (hu' : ∀ I (A' : Around), A'.under (.compStart e d (.ref I) (.ref a) env) = A') (hden' : ∀ I, X.M.den (.compStart e d (.ref I) (.ref a) env) = (compStart e d (.ref I) (.ref a) env).onRaise (fun x => do noteFrame x env; standAt theWindowsPlace))
    (hc : clausesOf e = gens) (hg : gens[d]? = some ⟨t, i, fs, 0⟩) (ha : ∀ g ∈ gens, g.is_async = 0) (hrest : Sound X n ae ia a env rest (restT e gens emit d (.ref a) env)) (hr : Room n A)
    {S1 S0 : List AO} {ρ1 T1 wr fp ρ0 T0 : List Addr} {s1 s0 : Shared} {I : Addr} {items : List AV} {P Md : Nat → Value → Heap → Prop} {St : Nat → Heap → Prop} {K : List AO → Prop}
    (R1 : Rep X S1 ρ1 T1 s1) (L0 : Lp X S1 ρ1 T1 wr s1 S0 ρ0 T0 s0) (hE : EnvOk ae ρ0 env) (hia : ρ0[ia]? = some a)
    (W : KTurns X.prog X.w A t I fp wr items.length P Md St) (hst : St 0 s0.heap)
    (hwr : ∀ b ∈ wr, s1.heap.get? b = none) (hfp : ∀ b ∈ fp, b ∈ wr ∨ (¬ Live S1 ρ1 b ∧ ∃ o, s1.heap.get? b = some o)) (hex : ∀ i h, St i h → ∀ b ∈ wr, ∃ o, h.get? b = some o)
    (hP : ∀ (j : Nat) (it : AV) (v : Value) (h : Heap) (ρ' T' : List Addr), items[j]? = some it → P j v h → Mv ρ1 T1 s1.heap ρ' T' h → (∀ b ∈ wr, b ∈ T') → VI X ρ' T' h t it v)
    (hself : ∀ (s' : Shared) (Q' : Value → Shared → Prop) (E' : Value → Shared → Prop), St 0 s'.heap → Q' (.ref I) s' → wpAny X.M A (pyIter (.ref I)) Q' E' s')
    (hI : WpItems (WpIn X n ae t fs rest) items S0 K) :
    codeAny X.M A (.compStart e d (.ref I) (.ref a) env) (fun r s' => r = .ok .next ∧ ∃ S' ρ' T', K S' ∧ Step X S1 ρ1 T1 s1 S' ρ' T' s' ∧ ∀ (j : Nat) (b : Addr), ρ0[j]? = some b → ρ'[j]? = some b) s0 := by
  have lp := items_sound hu hden hg ha hrest hr R1 L0 hE hia W hst hwr hfp hex hP hI
  exact compStart_gen (hu' I) (hden' I) (by rw [hc]; exact hg) lp (hself _ _ _ hst lp)

theorem gens_sound {e : Expr} {gens : List Comprehension} {emit : Sem Unit} {env : Env} {ia : Nat} {a : Addr} {B : List AO → (List AO → Prop) → Prop}
    (hu : ∀ d I (A' : Around), A'.under (.compLoop e d (.ref I) (.ref a) env) = A') (hden : ∀ d I t i fs, gens[d]? = some ⟨t, i, fs, 0⟩ → X.M.den (.compLoop e d (.ref I) (.ref a) env) = (turnT e t i fs (restT e gens emit d (.ref a) env) d (.ref I) (.ref a) env).onRaise (fun x => do noteFrame x env; theTreesLotGoes x))
    (hu' : ∀ d I (A' : Around), A'.under (.compStart e d (.ref I) (.ref a) env) = A') (hden' : ∀ d I, X.M.den (.compStart e d (.ref I) (.ref a) env) = (compStart e d (.ref I) (.ref a) env).onRaise (fun x => do noteFrame x env; standAt theWindowsPlace))
    (hc : clausesOf e = gens) (ha : ∀ g ∈ gens, g.is_async = 0) (hs : ∀ g ∈ gens, ∀ env x, foldedSetIterable g.iter env x = pure x) (hem : Sound X n ae ia a env B emit) :
    ∀ (r : List Comprehension) (d : Nat), gens.drop (d + 1) = r → Sound X n ae ia a env (WpGens X n ae B r) (restT e gens emit d (.ref a) env)
  | [], d, hd => by
    have : gens[d + 1]? = none := by
      have h1 : gens.length ≤ d + 1 := by simpa using List.drop_eq_nil_iff.mp hd
      exact List.getElem?_eq_none h1
    intro A ρ T s S K hr hR hE hia hB
    unfold restT; rw [this]
    exact hem A ρ T s S K hr hR hE hia hB
  | ⟨t, i, fs, k0⟩ :: r, d, hd => by
    have hg : gens[d + 1]? = some ⟨t, i, fs, k0⟩ := by
      have := congrArg (fun l : List Comprehension => l[0]?) hd
      simpa using this
    have hd' : gens.drop (d + 1 + 1) = r := by
      have := congrArg (List.drop 1) hd
      simpa [List.drop_drop] using this
    have ih := gens_sound hu hden hu' hden' hc ha hs hem r (d + 1) hd'
    intro A ρ T s S K hr hR hE hia hB
    obtain ⟨rfl, hB⟩ := hB
    unfold restT; rw [hg]
    show wpAny X.M A (nestT e t i d (.ref a) env) _ _ _
    unfold nestT
    have key : wpAny X.M A (eval i env) (fun v s' => wpAny X.M A (pyIter v) (fun it s' => wpAny X.M A (runOwn (.compStart e (d + 1) it (.ref a) env) env >>= fun _ => pure ()) (PostU X S ρ T s fun _ S' => K S') No s') No s') No s := by
      refine hB A ρ T s env (fun it s' => wpAny X.M A (runOwn (.compStart e (d + 1) it (.ref a) env) env >>= fun _ => pure ()) (PostU X S ρ T s fun _ S' => K S') No s') No No hr hR hE fun items k S1 ρ1 T1 s1 hI st I fp wr P Md St h' tk W0 => ?_
      obtain ⟨hk, W, hst, htk, hwr, hfp, hex, hP, hself⟩ := W0
      refine wpAny_bind (wpAny_runOwn ?_)
      have := start_sound (hu (d + 1)) (fun I => hden (d + 1) I _ _ _ hg) (hu' (d + 1)) (hden' (d + 1)) hc hg ha ih hr (st.rep.lo k) (Lp.start (st.rep.lo k) hk hwr (hex 0 h' hst) tk htk) (hE.step st hR) ((st.mv hR).ids _ _ hia) W hst hwr hfp hex hP hself hI
      refine codeAny_mono this fun q s' hq => ?_
      obtain ⟨rfl, S', ρ', T', hq, stq, _⟩ := hq
      exact wpAny_pure ((PostG.un (K := fun _ S' => K S') (k := k) st.rep (PostG.mk (x := ()) stq hq trivial)).trans hR st)
    refine wpAny_bind (wpAny_mono key (fun v s' hv => wpAny_bind (wpAny_standAt ?_)) fun _ _ f => f)
    show wpAny X.M A (foldedSetIterable i env v >>= _) _ _ _
    rw [hs _ (List.mem_of_getElem? hg)]
    refine wpAny_bind (wpAny_pure ?_)
    show wpAny X.M A (holding [v] (pyIter v) >>= _) _ _ _
    exact wpAny_bind (wpAny_holding hv)
end
end Mine
namespace Mine

/-! ## values without tracked parts; dropping -/
mutual
noncomputable def AV.und (m : Nat) : AV → Prop
  | .tup xs => AV.unds m xs
  | .lst xs => AV.unds m xs
  | .dct kvs => AV.undk m kvs
  | .obj i => i < m
  | .hdr i => i < m
  | .inst i => i < m
  | _ => True
noncomputable def AV.unds (m : Nat) : List AV → Prop
  | [] => True
  | x :: xs => x.und m ∧ AV.unds m xs
noncomputable def AV.undk (m : Nat) : List (Str × AV) → Prop
  | [] => True
  | (_, x) :: xs => x.und m ∧ AV.undk m xs
end
noncomputable def AO.und (m : Nat) : AO → Prop
  | .lst xs => AV.unds m xs
  | .dct kvs => AV.undk m kvs
  | .ns vars => ∀ x v, vars.lookup x = some v → v.und m
  | .cell (some v) => v.und m
  | .cell none => True
  | .inst (some v) => v.und m
  | .inst none => True
  | .loan => True

section
variable {X : Cx} {ρ T ρ' T' : List Addr} {h h' : Heap} {m : Nat}
mutual
theorem VR.und : ∀ (x : AV) {v : Value}, VR X ρ T h x v → x.und ρ.length
  | .none, _, _ => trivial
  | .bool _, _, _ => trivial
  | .int _, _, _ => trivial
  | .str _, _, _ => trivial
  | .val _, _, _ => trivial
  | .tup xs, _, q => by
    skip
    obtain ⟨a, vs, rfl, ha, ht, hv⟩ := q
    exact VRs.und xs hv
  | .lst xs, _, q => by
    skip
    obtain ⟨a, vs, rfl, ha, ht, hv⟩ := q
    exact VRs.und xs hv
  | .dct kvs, _, q => by
    skip
    obtain ⟨a, vs, rfl, ha, hy, ht, hv⟩ := q
    exact VRk.und kvs hv
  | .obj i, _, q => by
    skip
    obtain ⟨a, rfl, e⟩ := q
    exact (List.getElem?_eq_some_iff.mp e).1
  | .hdr i, _, q => by
    skip
    obtain ⟨x, dx, l, rfl, hx, hd, e, _⟩ := q
    exact (List.getElem?_eq_some_iff.mp e).1
  | .inst i, _, q => by
    skip
    obtain ⟨x, dx, rfl, hx, e, _⟩ := q
    exact (List.getElem?_eq_some_iff.mp e).1
theorem VRs.und : ∀ (xs : List AV) {vs : List Value}, VRs X ρ T h xs vs → AV.unds ρ.length xs
  | [], _, _ => by simp [AV.unds]
  | x :: xs, _, q => by
    skip
    obtain ⟨v, r, rfl, h1, h2⟩ := q
    exact ⟨VR.und x h1, VRs.und xs h2⟩
theorem VRk.und : ∀ (xs : List (Str × AV)) {vs : List (Str × Value)}, VRk X ρ T h xs vs → AV.undk ρ.length xs
  | [], _, _ => by simp [AV.undk]
  | (k, x) :: xs, _, q => by
    skip
    obtain ⟨v, r, rfl, h1, h2⟩ := q
    exact ⟨VR.und x h1, VRk.und xs h2⟩
end

/-- fewer are tracked -/
structure Dr (m : Nat) (ρ T : List Addr) (h : Heap) (ρ' T' : List Addr) (h' : Heap) : Prop where
  keep : ∀ b o, b ∉ T → h.get? b = some o → h'.get? b = some o
  trk : ∀ a ∈ T', a ∈ T
  ids : ∀ (i : Nat) (a : Addr), i < m → ρ[i]? = some a → ρ'[i]? = some a

mutual
theorem VR.dr (d : Dr m ρ T h ρ' T' h') : ∀ (x : AV) {v : Value}, x.und m → VR X ρ T h x v → VR X ρ' T' h' x v
  | .none, _, _, q => q
  | .bool _, _, _, q => q
  | .int _, _, _, q => q
  | .str _, _, _, q => q
  | .val _, _, _, q => q
  | .tup xs, _, b, q => by
    skip
    obtain ⟨a, vs, rfl, ha, ⟨o, ho, r⟩, hv⟩ := q
    exact ⟨a, vs, rfl, fun z => ha (d.trk a z), ⟨o, d.keep a o ha ho, r⟩, VRs.dr d xs b hv⟩
  | .lst xs, _, b, q => by
    skip
    obtain ⟨a, vs, rfl, ha, ⟨o, ho, r⟩, hv⟩ := q
    exact ⟨a, vs, rfl, fun z => ha (d.trk a z), ⟨o, d.keep a o ha ho, r⟩, VRs.dr d xs b hv⟩
  | .dct kvs, _, b, q => by
    skip
    obtain ⟨a, vs, rfl, ha, hy, ⟨o, es, ep, ho, r⟩, hv⟩ := q
    exact ⟨a, vs, rfl, fun z => ha (d.trk a z), hy, ⟨o, es, ep, d.keep a o ha ho, r⟩, VRk.dr d kvs b hv⟩
  | .obj i, _, b, q => by
    skip
    obtain ⟨a, rfl, e⟩ := q
    exact ⟨a, rfl, d.ids _ _ b e⟩
  | .hdr i, _, b, q => by
    skip
    obtain ⟨x, dx, l, rfl, hx, hd, e, h1, mm, ⟨o, es, ep, h2, r⟩, r2⟩ := q
    exact ⟨x, dx, l, rfl, fun z => hx (d.trk _ z), fun z => hd (d.trk _ z), d.ids _ _ b e, d.keep _ _ hx h1, mm, ⟨o, es, ep, d.keep _ _ hd h2, r⟩, r2⟩
  | .inst i, _, b, q => by
    skip
    obtain ⟨x, dx, rfl, hx, e, h1⟩ := q
    exact ⟨x, dx, rfl, fun z => hx (d.trk _ z), d.ids _ _ b e, d.keep _ _ hx h1⟩
theorem VRs.dr (d : Dr m ρ T h ρ' T' h') : ∀ (xs : List AV) {vs : List Value}, AV.unds m xs → VRs X ρ T h xs vs → VRs X ρ' T' h' xs vs
  | [], _, _, q => by exact q
  | x :: xs, _, b, q => by
    skip
    obtain ⟨v, r, rfl, h1, h2⟩ := q
    exact ⟨v, r, rfl, VR.dr d x b.1 h1, VRs.dr d xs b.2 h2⟩
theorem VRk.dr (d : Dr m ρ T h ρ' T' h') : ∀ (xs : List (Str × AV)) {vs : List (Str × Value)}, AV.undk m xs → VRk X ρ T h xs vs → VRk X ρ' T' h' xs vs
  | [], _, _, q => by exact q
  | (k, x) :: xs, _, b, q => by
    skip
    obtain ⟨v, r, rfl, h1, h2⟩ := q
    exact ⟨v, r, rfl, VR.dr d x b.1 h1, VRk.dr d xs b.2 h2⟩
end

mutual
theorem AV.und_le {m m' : Nat} (hm : m ≤ m') : ∀ {x : AV}, x.und m → x.und m'
  | .none, h => by simp [AV.und]
  | .bool _, h => by simp [AV.und]
  | .int _, h => by simp [AV.und]
  | .str _, h => by simp [AV.und]
  | .val _, h => by simp [AV.und]
  | .tup xs, h => by simp only [AV.und] at h ⊢; exact AV.unds_le hm h
  | .lst xs, h => by simp only [AV.und] at h ⊢; exact AV.unds_le hm h
  | .dct kvs, h => by simp only [AV.und] at h ⊢; exact AV.undk_le hm h
  | .obj i, h => by simp only [AV.und] at h ⊢; omega
  | .hdr i, h => by simp only [AV.und] at h ⊢; omega
  | .inst i, h => by simp only [AV.und] at h ⊢; omega
theorem AV.unds_le {m m' : Nat} (hm : m ≤ m') : ∀ {xs : List AV}, AV.unds m xs → AV.unds m' xs
  | [], _ => by simp [AV.unds]
  | x :: xs, h => by simp only [AV.unds] at h ⊢; exact ⟨AV.und_le hm h.1, AV.unds_le hm h.2⟩
theorem AV.undk_le {m m' : Nat} (hm : m ≤ m') : ∀ {xs : List (Str × AV)}, AV.undk m xs → AV.undk m' xs
  | [], _ => by simp [AV.undk]
  | (_, x) :: xs, h => by simp only [AV.undk] at h ⊢; exact ⟨AV.und_le hm h.1, AV.undk_le hm h.2⟩
end
end

section
variable {X : Cx} {S S' : List AO} {ρ T ρ' T' : List Addr} {s s' : Shared} {h : Heap}

theorem OR.und {a : Addr} {ao : AO} (q : OR X ρ T h a ao) : ao.und ρ.length := by
  cases ao with
  | lst xs => obtain ⟨_, _, q⟩ := q; exact VRs.und xs q
  | dct xs => obtain ⟨_, _, q⟩ := q; exact VRk.und xs q
  | ns xs => obtain ⟨_, _, q, _⟩ := q; exact fun x v e => (q x v e).elim fun _ w => VR.und v w.2
  | cell v =>
    cases v with
    | none => trivial
    | some v =>
      obtain ⟨u, _, q⟩ := q
      cases u with
      | none => exact q.elim
      | some u => exact VR.und v q
  | inst v =>
    cases v with
    | none => trivial
    | some v => obtain ⟨_, _, _, _, _, q⟩ := q; exact VR.und v q
  | loan => trivial
theorem OR.dr {m : Nat} {h' : Heap} (d : Dr m ρ T h ρ' T' h') {a : Addr} (hk : ∀ o, h.get? a = some o → h'.get? a = some o) {ao : AO} (b : ao.und m) (q : OR X ρ T h a ao) : OR X ρ' T' h' a ao := by
  cases ao with
  | lst xs => obtain ⟨vs, ⟨o, ho⟩, q⟩ := q; exact ⟨vs, ⟨o, hk _ ho⟩, VRs.dr d _ b q⟩
  | dct xs => obtain ⟨vs, ⟨o, es, ep, ho, r⟩, q⟩ := q; exact ⟨vs, ⟨o, es, ep, hk o ho, r⟩, VRk.dr d _ b q⟩
  | ns xs => obtain ⟨mm, ⟨o, es, ep, ho, r⟩, q, q'⟩ := q; exact ⟨mm, ⟨o, es, ep, hk o ho, r⟩, fun x v e => (q x v e).elim fun u w => ⟨u, w.1, VR.dr d _ (b x v e) w.2⟩, q'⟩
  | cell v =>
    obtain ⟨u, ⟨o, ho, r⟩, q⟩ := q
    cases v with
    | some v =>
      cases u with
      | some u => exact ⟨some u, ⟨o, hk o ho, r⟩, VR.dr d _ b q⟩
      | none => exact q.elim
    | none =>
      cases u with
      | some u => exact q.elim
      | none => exact ⟨none, ⟨o, hk o ho, r⟩, trivial⟩
  | inst v =>
    cases v with
    | none => exact hk _ q
    | some v => obtain ⟨hs, t, n, u, q, r⟩ := q; exact ⟨hs, t, n, u, hk _ q, VR.dr d v b r⟩
  | loan => trivial

theorem Rep.und (R : Rep X S ρ T s) : ∀ (i : Nat) (ao : AO), S[i]? = some ao → ao.und S.length := fun i ao e => by
  have hi : i < ρ.length := by rw [R.len]; exact (List.getElem?_eq_some_iff.mp e).1
  have := OR.und (R.obj i ao _ e (List.getElem?_eq_getElem hi))
  rwa [R.len] at this

/-- what was made behind S is let go; the first part is S again -/
theorem Step.back (R : Rep X S ρ T s) (st : Step X S ρ T s S' ρ' T' s') (hS : ∀ (i : Nat) (ao : AO), S[i]? = some ao → S'[i]? = some ao)
    (hk : ∀ b o, (∀ j : Nat, S.length ≤ j → ρ'[j]? ≠ some b) → s'.heap.get? b = some o → h.get? b = some o) (n : Nat) (hn : s'.toks ≤ n) :
    Step X S ρ T s S ρ T { s' with heap := h, toks := n } ∧ Dr S.length ρ' T' s'.heap ρ T h := by
  obtain ⟨mm, e1, e2, hm⟩ := st.more
  have hnm : ∀ b, b ∉ mm → ∀ j : Nat, S.length ≤ j → ρ'[j]? ≠ some b := fun b hb j hj e => by
    rw [e1, List.getElem?_append_right (by rw [R.len]; exact hj)] at e
    exact hb (List.mem_of_getElem? e)
  have hTm : ∀ a ∈ T, a ∉ mm := fun a ha q => by obtain ⟨o, e⟩ := R.low a ha; rw [hm a q] at e; cases e
  have d : Dr S.length ρ' T' s'.heap ρ T h := ⟨fun b o hb e => hk b o (hnm b fun q => hb (by rw [e2]; exact List.mem_append_right _ q)) e, fun a ha => by rw [e2]; exact List.mem_append_left _ ha, fun i a hi e => by
    rw [e1, List.getElem?_append_left (by rw [R.len]; exact hi)] at e; exact e⟩
  refine ⟨⟨?_, ⟨[], by simp, by simp, fun _ h => nomatch h⟩, fun b o hb e => hk b o (hnm b fun q => by rw [hm b q] at e; cases e) (st.keep b o hb e), fun _ e => e⟩, d⟩
  exact {
    keep := fun b o e => hk b o (hnm b fun q => by have := R.keep b o e; rw [hm b q] at this; cases this) (st.rep.keep b o e)
    len := R.len
    obj := fun i ao a f1 f2 => by
      have hi : i < S.length := (List.getElem?_eq_some_iff.mp f1).1
      have f2' : ρ'[i]? = some a := (st.mv R).ids _ _ f2
      refine (st.rep.obj i ao a (hS i ao f1) f2').dr d (fun o e => hk a o (hnm a (hTm a (R.sub a (List.mem_of_getElem? f2)))) e) (R.und i ao f1)
    nodup := R.nodup
    nosys := R.nosys
    sub := R.sub
    new := R.new
    low := fun a ha => by
      obtain ⟨o, e⟩ := st.rep.low a (by rw [e2]; exact List.mem_append_left _ ha)
      exact ⟨o, hk a o (hnm a (hTm a ha)) e⟩
    rest := st.rep.rest
    toks := Nat.le_trans st.rep.toks hn }

/-! ## cells of a new frame -/
noncomputable def cellAOs : List (Str × NameKind) → List AO
  | [] => []
  | (_, k) :: r => if (k == .cell) = true then .cell none :: cellAOs r else cellAOs r

theorem cells_step : ∀ (names : List (Str × NameKind)) {S : List AO} {ρ T : List Addr} {s : Shared} (R : Rep X S ρ T s) (acc : List (Str × Nat)) (cacc : List (Str × Addr)),
    (∀ (x : Str) (i : Nat), acc.lookup x = some i → ∃ c, cacc.lookup x = some c ∧ ρ[i]? = some c) →
    ∃ ρ' T', Step X S ρ T s (S ++ cellAOs names) ρ' T' { s with heap := pushCells s.heap names } ∧
      ∀ (x : Str) (i : Nat), (cellsFrom S.length names acc).lookup x = some i → ∃ c, (cellsFrom s.heap.objs.size names cacc).lookup x = some c ∧ ρ'[i]? = some c
  | [], S, ρ, T, s, R, acc, cacc, h => ⟨ρ, T, by simpa [cellAOs, pushCells] using Step.refl R, by simpa [cellsFrom] using h⟩
  | (x, k) :: r, S, ρ, T, s, R, acc, cacc, h => by
    unfold cellAOs pushCells cellsFrom
    by_cases hk : (k == .cell) = true
    · simp only [hk, if_true]
      have hnew : s.heap.get? s.heap.objs.size = none := by
        cases e : s.heap.get? s.heap.objs.size with
        | none => rfl
        | some o => exact absurd (Heap.lt_size e) (Nat.lt_irrefl _)
      have hput : (s.heap.push { cls := .type "cell", data := .cell none }).get? s.heap.objs.size = some { cls := .type "cell", data := .cell none } := Heap.get?_push_size _ rfl
      have st : Step X S ρ T s (S ++ [.cell none]) (ρ ++ [s.heap.objs.size]) (T ++ [s.heap.objs.size]) { s with heap := s.heap.push { cls := .type "cell", data := .cell none }, toks := s.toks } :=
        Step.new (ao := .cell none) R (fun b o e => Heap.get?_push_of_some _ e) hnew (R.nosysOf (Nat.le_refl _)) ⟨_, hput⟩ ⟨none, ⟨_, hput, rfl⟩, trivial⟩ s.toks
      obtain ⟨ρ', T', st', hc⟩ := cells_step r st.rep ((x, S.length) :: acc) ((x, s.heap.objs.size) :: cacc) (fun y i e => by
        rw [List.lookup_cons] at e
        cases hy : y == x with
        | true =>
          rw [hy] at e; cases e
          exact ⟨s.heap.objs.size, by rw [List.lookup_cons, hy], by rw [← R.len]; simp⟩
        | false =>
          rw [hy] at e
          obtain ⟨c, c1, c2⟩ := h y i e
          exact ⟨c, by rw [List.lookup_cons, hy]; exact c1, by rw [List.getElem?_append_left (List.getElem?_eq_some_iff.mp c2).1]; exact c2⟩)
      refine ⟨ρ', T', ?_, ?_⟩
      · have := st.trans R st'
        simpa using this
      · simpa using hc
    · simp only [hk]
      obtain ⟨ρ', T', st', hc⟩ := cells_step r R acc cacc h
      exact ⟨ρ', T', by simpa using st', by simpa using hc⟩
end

section
variable {M : Model} {A : Around} {E : Value → Shared → Prop} {s : Shared} {env : Env}
theorem newEnv_comp {scope : Scope} {cl : List (Str × Addr)} {Q : Env → Shared → Prop}
    (h : Q { scope := scope, locals := s.heap.objs.size, globals := env.globals, cells := cellsFrom (s.heap.objs.size + 1) scope.names cl, qual := env.qual, func := none, code := env.code, frame := env.frame, builtins := env.builtins }
      { s with heap := pushCells (s.heap.push { cls := .type "dict", data := .dict #[] }) scope.names }) :
    wpAny M A (newFunctionEnv scope env.globals cl [] env.qual none .none (some env)) Q E s := by
  simp only [newFunctionEnv, Option.isSome_some, if_true]
  refine wpAny_bind (wpAny_alloc ?_)
  refine wpAny_bind (wpAny_layCells _ (fun name kind cells => by cases hkc : kind == NameKind.cell <;> simp [hkc]) _ _ _ _ ?_)
  rw [show ({ s with heap := s.heap.push { cls := .type "dict", data := .dict #[] } } : Shared).heap.objs.size = s.heap.objs.size + 1 from Heap.size_push ..]
  refine wpAny_bind ?_
  rw [List.forIn_nil]
  exact wpAny_pure (wpAny_pure h)

noncomputable def closA (cs : List (Str × Nat)) : List (Str × NameKind) → List (Str × Nat) → List (Str × Nat)
  | [], acc => acc
  | (x, k) :: r, acc => if (k == .free) = true then (match cs.lookup x with | some i => closA cs r ((x, i) :: acc) | none => closA cs r acc) else closA cs r acc
noncomputable def closV (cs : List (Str × Addr)) : List (Str × NameKind) → List (Str × Addr) → List (Str × Addr)
  | [], acc => acc
  | (x, k) :: r, acc => if (k == .free) = true then (match cs.lookup x with | some i => closV cs r ((x, i) :: acc) | none => closV cs r acc) else closV cs r acc

theorem closureFor_eq {scope : Scope} (hall : ∀ x ∈ scope.names, x.2 = .free → (env.cells.lookup x.1).isSome = true) : closureFor scope env = pure (closV env.cells scope.names []) := by
  simp only [closureFor]
  have key : ∀ (names : List (Str × NameKind)) (acc : List (Str × Addr)), (∀ x ∈ names, x.2 = .free → (env.cells.lookup x.1).isSome = true) →
      (forIn names acc (fun (x : Str × NameKind) (r : List (Str × Addr)) => (if (x.2 == .free) = true then do let a ← cellOf env x.1; pure (ForInStep.yield ((x.1, a) :: r)) else pure (ForInStep.yield r) : Sem (ForInStep (List (Str × Addr)))))) = pure (closV env.cells names acc) := by
    intro names
    induction names with
    | nil => intro acc _; rw [List.forIn_nil]; rfl
    | cons x r ih =>
      intro acc hh
      obtain ⟨n, k⟩ := x
      rw [List.forIn_cons]
      by_cases hk : (k == .free) = true
      · simp only [hk, if_true]
        obtain ⟨c, hc⟩ := Option.isSome_iff_exists.mp (hh (n, k) (.head _) (by simpa using hk))
        have hcell : cellOf env n = pure c := by unfold cellOf; rw [show env.cells.lookup n = some c from hc]
        simp only [hcell, pure_bind]
        rw [ih _ fun y hy => hh y (.tail _ hy)]
        simp only [closV, hk, if_true]
        rw [show env.cells.lookup n = some c from hc]
      · simp only [hk]
        simp only [Bool.false_eq_true, if_false, pure_bind]
        rw [ih _ fun y hy => hh y (.tail _ hy)]
        simp only [closV, hk]
        rfl
  have h2 := key scope.names [] hall
  show (forIn scope.names [] _ >>= pure) = _
  rw [bind_pure]
  exact h2

theorem clos_rel {ρ : List Addr} {cs : List (Str × Nat)} {cv : List (Str × Addr)} (hc : ∀ (x : Str) (i : Nat), cs.lookup x = some i → ∃ c, cv.lookup x = some c ∧ ρ[i]? = some c) :
    ∀ (names : List (Str × NameKind)) (acc : List (Str × Nat)) (cacc : List (Str × Addr)), (∀ x ∈ names, x.2 = .free → (cs.lookup x.1).isSome = true) →
      (∀ (x : Str) (i : Nat), acc.lookup x = some i → ∃ c, cacc.lookup x = some c ∧ ρ[i]? = some c) →
      ∀ (x : Str) (i : Nat), (closA cs names acc).lookup x = some i → ∃ c, (closV cv names cacc).lookup x = some c ∧ ρ[i]? = some c
  | [], acc, cacc, _, h => h
  | (n, k) :: r, acc, cacc, hall, h => by
    unfold closA closV
    by_cases hk : (k == .free) = true
    · simp only [hk, if_true]
      obtain ⟨i, hi⟩ := Option.isSome_iff_exists.mp (hall (n, k) (.head _) (by simpa using hk))
      obtain ⟨c, h1, h2⟩ := hc n i hi
      rw [show cs.lookup n = some i from hi, h1]
      refine clos_rel hc r _ _ (fun y hy => hall y (.tail _ hy)) fun y j e => ?_
      rw [List.lookup_cons] at e
      cases hy : y == n with
      | true => rw [hy] at e; cases e; exact ⟨c, by rw [List.lookup_cons, hy], h2⟩
      | false => rw [hy] at e; obtain ⟨c', a1, a2⟩ := h y j e; exact ⟨c', by rw [List.lookup_cons, hy]; exact a1, a2⟩
    · simp only [hk]
      exact clos_rel hc r _ _ (fun y hy => hall y (.tail _ hy)) h
end
end Mine
namespace Mine

/-- the frame of a comprehension that is made when m objects are tracked -/
noncomputable def cEnv (ae : AEnv) (sc : Scope) (m : Nat) : AEnv := ⟨relabel sc (dumb ae.scope), m + 1, cellsFrom (m + 2) sc.names (closA ae.cells sc.names [])⟩

noncomputable def accTree : Expr → Sem Value
  | .DictComp .. => newDict
  | _ => newList []
noncomputable def accAO : Expr → AO
  | .DictComp .. => .dct []
  | _ => .lst []
noncomputable def emitT (e : Expr) (acc : Value) (env : Env) : Sem Unit := match e with
  | .ListComp elt _ _ _ => emitL elt acc env
  | .DictComp k v _ _ _ => match acc with
    | .ref a => emitD k v a env
    | _ => pure ()
  | _ => pure ()
noncomputable def emitW (X : Cx) (n : Nat) (ae : AEnv) (ia : Nat) (e : Expr) (S : List AO) (K : List AO → Prop) : Prop := match e with
  | .ListComp elt _ _ _ => WpE X n ae S elt fun v S1 => ∃ xs, S1[ia]? = some (.lst xs) ∧ xs.length ≤ sizeLine ∧ K (S1.set ia (.lst (xs ++ [v])))
  | .DictComp k v _ _ _ => WpE X n ae S k fun kv S1 => WpE X n ae S1 v fun vv S2 => ∃ kvs x, S2[ia]? = some (.dct kvs) ∧ kv = .str x ∧ kvs.length ≤ sizeLine ∧ K (S2.set ia (.dct (put x vv kvs)))
  | _ => False
inductive IsComp : Expr → List Comprehension → Scope → Pos → Prop
  | list (elt : Expr) (gens : List Comprehension) (sc : Scope) (pos : Pos) : IsComp (.ListComp elt gens sc pos) gens sc pos
  | dict (k v : Expr) (gens : List Comprehension) (sc : Scope) (pos : Pos) : IsComp (.DictComp k v gens sc pos) gens sc pos

section
variable {X : Cx} {n : Nat} {ae : AEnv} {S S' : List AO}

theorem newAddr (h : Heap) : h.get? h.objs.size = none := by
  cases e : h.get? h.objs.size with
  | none => rfl
  | some o => exact absurd (Heap.lt_size e) (Nat.lt_irrefl _)

theorem IsComp.clauses {e : Expr} {gens : List Comprehension} {sc : Scope} {pos : Pos} (c : IsComp e gens sc pos) : clausesOf e = gens := by cases c <;> rfl
theorem IsComp.eval {e : Expr} {gens : List Comprehension} {sc : Scope} {pos : Pos} (c : IsComp e gens sc pos) (env : Env) : eval e env = comprehension e sc env (firstIterPos gens pos) (accTree e) (firstAsync gens) (firstIter gens env) := by cases c <;> rfl
theorem IsComp.used {e : Expr} {gens : List Comprehension} {sc : Scope} {pos : Pos} (c : IsComp e gens sc pos) (env : Env) (u : Value → Sem Unit) : evalThenUse e env u = (do let _ ← comprehension e sc env (firstIterPos gens pos) (accTree e) (firstAsync gens) (firstIter gens env) (some u)) := by cases c <;> rfl
theorem IsComp.u1 {e : Expr} {gens : List Comprehension} {sc : Scope} {pos : Pos} (c : IsComp e gens sc pos) (d : Nat) (it acc : Value) (env : Env) (A' : Around) : A'.under (.compLoop e d it acc env) = A' := by cases c <;> exact Around.under_of_weight rfl
theorem IsComp.u2 {e : Expr} {gens : List Comprehension} {sc : Scope} {pos : Pos} (c : IsComp e gens sc pos) (d : Nat) (it acc : Value) (env : Env) (A' : Around) : A'.under (.compStart e d it acc env) = A' := by cases c <;> exact Around.under_of_weight rfl
theorem IsComp.d1 {e : Expr} {gens : List Comprehension} {sc : Scope} {pos : Pos} (c : IsComp e gens sc pos) (ha : ∀ g ∈ gens, g.is_async = 0) (d : Nat) (it : Value) (a : Addr) (env : Env) {t i : Expr} {fs : List Expr} (hg : gens[d]? = some ⟨t, i, fs, 0⟩) :
    X.M.den (.compLoop e d it (.ref a) env) = (turnT e t i fs (restT e gens (emitT e (.ref a) env) d (.ref a) env) d it (.ref a) env).onRaise (fun x => do noteFrame x env; theTreesLotGoes x) := by
  cases c
  · exact congrArg (fun t : Sem PySem.Fin => t.onRaise (fun x => do noteFrame x env; theTreesLotGoes x)) (turn_list (d := d) (it := it) (acc := .ref a) (env := env) hg ha)
  · exact congrArg (fun t : Sem PySem.Fin => t.onRaise (fun x => do noteFrame x env; theTreesLotGoes x)) (turn_dict (d := d) (it := it) (a := a) (env := env) hg ha)
theorem IsComp.d2 {e : Expr} {gens : List Comprehension} {sc : Scope} {pos : Pos} (c : IsComp e gens sc pos) (d : Nat) (it acc : Value) (env : Env) : X.M.den (.compStart e d it acc env) = (compStart e d it acc env).onRaise (fun x => do noteFrame x env; standAt theWindowsPlace) := by cases c <;> rfl

theorem VRk.lookup_put {ρ T : List Addr} {h : Heap} {x : Str} {v : AV} {u : Value} (hv : VR X ρ T h v u) : ∀ {kvs : List (Str × AV)} {vs : List (Str × Value)}, VRk X ρ T h kvs vs → (vs.map (·.1)).Nodup → VRk X ρ T h (put x v kvs) (stored vs x u)
  | [], vs, q, _ => by
    have : vs = [] := by exact q
    subst this
    simp only [put, stored, List.any_nil, Bool.false_eq_true, if_false, List.nil_append, VRk_nil, VRk_cons]
    exact ⟨u, [], rfl, hv, rfl⟩
  | (y, w) :: r, vs, q, hn => by
    skip
    obtain ⟨z, vs', rfl, h1, h2⟩ := q
    have hn' := List.nodup_cons.mp hn
    by_cases hx : x = y
    · subst hx
      unfold put
      rw [if_pos rfl]
      have : stored ((x, z) :: vs') x u = (x, u) :: vs' := by
        unfold stored
        rw [if_pos (by simp), List.map_cons, if_pos rfl]
        rw [map_store_of_not_mem vs' x u hn'.1]
      rw [this]
      skip
      exact ⟨u, vs', rfl, hv, h2⟩
    · unfold put
      rw [if_neg hx]
      have ih := VRk.lookup_put (x := x) hv h2 hn'.2
      have : stored ((y, z) :: vs') x u = (y, z) :: stored vs' x u := by
        unfold stored
        have hyx : ¬ y = x := fun e => hx e.symm
        simp only [List.any_cons, hyx, decide_false, Bool.false_or, List.map_cons, if_false]
        split <;> rfl
      rw [this]
      skip
      exact ⟨z, _, rfl, h1, ih⟩

theorem putOR {ρ T : List Addr} {d : Addr} {h' : Heap} {x : Str} {v : AV} {u : Value} {kvs : List (Str × AV)} {vs : List (Str × Value)} (hv : VR X ρ T h' v u) (hq : VRk X ρ T h' kvs vs) (hd : h'.DictOf (strKind X.prog X.w) d (stored vs x u)) (hn : (vs.map (·.1)).Nodup) :
    OR X ρ T h' d (.dct (put x v kvs)) := ⟨_, hd, VRk.lookup_put hv hq hn⟩

theorem Rep.mvSelf {ρ T : List Addr} {s : Shared} {a : Addr} {h' : Heap} (hR : Rep X S ρ T s) (ha : a ∈ ρ) (hs : Heap.ExtBut a s.heap h') : Mv ρ T s.heap ρ T h' :=
  ⟨fun b o hb e => hs b o (fun q => hb (q ▸ hR.sub a ha)) e, fun a ha => .inl ha, fun _ _ e => e⟩

theorem emit_sound {e : Expr} {gens : List Comprehension} {sc : Scope} {pos : Pos} (c : IsComp e gens sc pos) (ia : Nat) (a : Addr) (env : Env) : Sound X n ae ia a env (emitW X n ae ia e) (emitT e (.ref a) env) := by
  intro A ρ T s S K hr hR hE hia hB
  cases c with
  | list elt =>
    show wpAny X.M A (emitL elt (.ref a) env) _ _ _
    unfold emitL
    refine wpAny_bind (chain (hB A ρ T s env hr hR hE) fun v S1 ρ1 T1 u s1 hK st hv => ?_)
    obtain ⟨xs, hS, hl, hK⟩ := hK
    have ha1 : ρ1[ia]? = some a := (st.mv hR).ids _ _ hia
    obtain ⟨vs, hi, hq⟩ := st.rep.obj _ _ _ hS ha1
    refine wpAny_bind (wpAny_list_append_plain hi (fun h' hl' hs => ?_) (by rw [List.size_toArray, hq.length]; exact hl))
    have mv := st.rep.mvSelf (List.mem_of_getElem? ha1) hs.extBut
    refine wpAny_pure (PostG.mk (x := ()) (st.trans hR (.upd st.rep hS ha1 (by intro q; cases q) (by intro q; cases q) hs.extBut (ao' := .lst (xs ++ [v])) ⟨vs ++ [u], by simpa using hl', VRs.app (VRs.mv mv _ hq) (VRs.one (VR.mv mv _ hv))⟩ (by obtain ⟨_, ho⟩ := hl'; exact ⟨_, ho⟩) s1.toks)) hK trivial)
  | dict k v =>
    show wpAny X.M A (emitD k v a env) _ _ _
    unfold emitD
    refine wpAny_bind (chain (hB A ρ T s env hr hR hE) fun kv S1 ρ1 T1 ku s1 hK st hkv => ?_)
    refine wpAny_bind (wpAny_holding (chain (hK A ρ1 T1 s1 env hr st.rep (hE.step st hR)) fun vv S2 ρ2 T2 vu s2 hK2 st2 hvv => ?_))
    obtain ⟨kvs, x, hS, rfl, hl, hK2⟩ := hK2
    obtain ⟨hx, t, rfl⟩ := VR_str.mp hkv
    have ha2 : ρ2[ia]? = some a := (st2.mv st.rep).ids _ _ ((st.mv hR).ids _ _ hia)
    obtain ⟨vs, hd, hq⟩ := st2.rep.obj _ _ _ hS ha2
    have hn : (vs.map (·.1)).Nodup := by obtain ⟨_, _, _, _, _, _, _, _, hn⟩ := hd; exact hn
    have hlen : vs.length = kvs.length := by
      clear hd hn hK2 hS
      induction kvs generalizing vs with
      | nil => have hq := VRk_nil.mp hq; subst hq; rfl
      | cons p r ih =>
        obtain ⟨k, y⟩ := p
        skip
        obtain ⟨v, r', rfl, _, h2⟩ := hq
        simp [ih (by simp only [List.length_cons] at hl; omega) _ h2]
    refine wpAny_bind (wpAny_standAt (wpAny_holding (wpAny_dictSet_pairs (k := x) (strKind_is X.prog X.w x t) hd (fun h' hd' hs => ?_) (by rw [hlen]; exact hl))))
    have mv := st2.rep.mvSelf (List.mem_of_getElem? ha2) hs.extBut
    exact PostG.mk (x := ()) ((st.trans hR st2).trans hR (.upd st2.rep hS ha2 (by intro q; cases q) (by intro q; cases q) hs.extBut (ao' := .dct (put x vv kvs)) (putOR (VR.mv mv _ hvv) (VRk.mv mv _ hq) hd' hn) (by obtain ⟨o, _, _, ho, _⟩ := hd'; exact ⟨o, ho⟩) _)) hK2 trivial

/-- what a comprehension does, behind its first iterable -/
noncomputable def CompOk (X : Cx) (n : Nat) (ae : AEnv) (e : Expr) (t : Expr) (fs : List Expr) (r : List Comprehension) (sc : Scope) (items : List AV) (k : Option Nat) (S1 : List AO) (K : Option Nat → List AO → Prop) : Prop :=
  WpItems (WpIn X n (cEnv ae sc S1.length) t fs (WpGens X n (cEnv ae sc S1.length) (emitW X n (cEnv ae sc S1.length) S1.length e) r)) items
    (lo S1 k ++ ([accAO e] ++ ([.ns []] ++ cellAOs sc.names))) (K k)

theorem accTree_ok {e : Expr} {gens : List Comprehension} {sc : Scope} {pos : Pos} (c : IsComp e gens sc pos) {M : Model} {A : Around} {E : Value → Shared → Prop} {s : Shared} {Q : Value → Shared → Prop}
    (h : ∀ o, o.isFreed = false → (∀ (X : Cx) ρ T h', h'.get? s.heap.objs.size = some o → OR X ρ T h' s.heap.objs.size (accAO e)) → Q (.ref s.heap.objs.size) { s with heap := s.heap.push o }) : wpAny M A (accTree e) Q E s := by
  cases c with
  | list elt => exact wpAny_newObj_type (h _ rfl fun X ρ T h' e => ⟨[], ⟨_, e⟩, by simp⟩)
  | dict k v =>
    show wpAny M A (newObj (.type "dict") (.dict #[])) Q E s
    refine wpAny_newObj_type (h _ rfl fun X ρ T h' e => ⟨[], ?_, VRk_nil.mpr rfl⟩)
    exact ⟨_, #[], 0, e, ⟨rfl, rfl, rfl⟩, rfl, fun _ he => by simp at he, .nil, by simp⟩

theorem comp_core {e t i : Expr} {fs : List Expr} {r : List Comprehension} {sc : Scope} {pos : Pos} (c : IsComp e (⟨t, i, fs, 0⟩ :: r) sc pos) (hsk : sc.kind = .function)
    (ha : ∀ g ∈ (⟨t, i, fs, 0⟩ :: r : List Comprehension), g.is_async = 0) (hsi : ∀ g ∈ (⟨t, i, fs, 0⟩ :: r : List Comprehension), ∀ env x, foldedSetIterable g.iter env x = pure x)
    (hfree : ∀ x ∈ sc.names, x.2 = .free → (ae.cells.lookup x.1).isSome = true)
    {A : Around} {E : Value → Shared → Prop} {S1 : List AO} {ρ1 T1 : List Addr} {s1 : Shared} {env : Env} {items : List AV} {k : Option Nat} {K : Option Nat → List AO → Prop} (hr : Room n A) (R1 : Rep X S1 ρ1 T1 s1) (hE : EnvOk ae ρ1 env)
    {I : Addr} {fp wr : List Addr} {P Md : Nat → Value → Heap → Prop} {St : Nat → Heap → Prop} {h' : Heap} {tk : Nat} (W0 : SrcAt X A S1 k ρ1 T1 s1 t items I fp wr P Md St h' tk)
    (h : CompOk X n ae e t fs r sc items k S1 K) {R : Value → Addr → Result → Shared → Prop}
    (hR : ∀ a C s' S' ρ' T', K k S' → Step X (lo S1 k) ρ1 T1 s1 S' ρ' T' s' → ρ'[S1.length]? = some a → ρ'[S1.length + 1]? = some C → R (.ref a) C (.ok .next) s') :
    wpAny X.M A (accTree e) (fun acc s₃ => wpAny X.M A (newFunctionEnv sc env.globals (closV env.cells sc.names []) [] env.qual none .none (some env)) (fun cenv s₄ =>
      codeAny X.M A (.compStart e 0 (.ref I) acc { cenv with scope := relabel sc env }) (R acc cenv.locals) s₄) E s₃) E { s1 with heap := h', toks := tk } := by
  have hI := h
  unfold CompOk at hI
  obtain ⟨hk, W, hst, htk, hwr, hfp, hex, hP, hself⟩ := W0
  have RL := R1.lo k
  have L2 : Lp X (lo S1 k) ρ1 T1 wr s1 (lo S1 k) ρ1 (T1 ++ wr) { s1 with heap := h', toks := tk } := Lp.start RL hk hwr (hex 0 h' hst) tk htk
  have hlen : (lo S1 k).length = S1.length := by cases k <;> simp [lo]
  refine accTree_ok c fun o hof hO => ?_
  refine newEnv_comp ?_
  -- the accumulator
  have p1 : (h'.push o).get? h'.objs.size = some o := Heap.get?_push_size _ hof
  have st1 : Step X (lo S1 k) ρ1 (T1 ++ wr) { s1 with heap := h', toks := tk } (lo S1 k ++ [accAO e]) (ρ1 ++ [h'.objs.size]) ((T1 ++ wr) ++ [h'.objs.size]) { s1 with heap := h'.push o, toks := tk } :=
    Step.new L2.rep (fun b o e => Heap.get?_push_of_some _ e) (newAddr h') (L2.rep.nosysOf (Nat.le_refl _)) ⟨_, p1⟩ (hO X _ _ _ p1) tk
  -- the frame
  have p2 := Heap.Ns.new (h'.push o) (.type "dict")
  have st2 : Step X (lo S1 k ++ [accAO e]) (ρ1 ++ [h'.objs.size]) ((T1 ++ wr) ++ [h'.objs.size]) { s1 with heap := h'.push o, toks := tk } ((lo S1 k ++ [accAO e]) ++ [.ns []]) ((ρ1 ++ [h'.objs.size]) ++ [(h'.push o).objs.size]) (((T1 ++ wr) ++ [h'.objs.size]) ++ [(h'.push o).objs.size]) { s1 with heap := (h'.push o).push { cls := .type "dict", data := .dict #[] }, toks := tk } :=
    Step.new (ao := .ns []) st1.rep (fun b o e => Heap.get?_push_of_some _ e) (newAddr (h'.push o)) (st1.rep.nosysOf (Nat.le_refl _)) ⟨_, Heap.get?_push_size _ rfl⟩ ⟨_, p2, fun x v e => by simp at e, fun _ _ => rfl⟩ tk
  have st12 := st1.trans L2.rep st2
  -- the cells
  have hcl := clos_rel (ρ := ρ1) (cs := ae.cells) (cv := env.cells) hE.cells sc.names [] [] hfree (fun x i e => by simp at e)
  obtain ⟨ρ3, T3, st3, hc3⟩ := cells_step sc.names st2.rep (closA ae.cells sc.names []) (closV env.cells sc.names []) (fun x i e => by
    obtain ⟨c, a, b⟩ := hcl x i e
    exact ⟨c, a, (st12.mv L2.rep).ids _ _ b⟩)
  have st13 := st12.trans L2.rep st3
  have L3 := L2.step RL st13
  have e1 : ((ρ1 ++ [h'.objs.size]) ++ [(h'.push o).objs.size])[S1.length]? = some h'.objs.size := by
    have : S1.length = ρ1.length := R1.len.symm
    rw [this]; simp
  have e2 : ((ρ1 ++ [h'.objs.size]) ++ [(h'.push o).objs.size])[S1.length + 1]? = some (h'.push o).objs.size := by
    have : S1.length + 1 = (ρ1 ++ [h'.objs.size]).length := by simp [R1.len]
    rw [this, List.getElem?_append_right (Nat.le_refl _)]; simp
  have ids3 := (st3.mv st2.rep).ids
  have i1 := ids3 _ _ e1
  have i2 := ids3 _ _ e2
  have hcE : EnvOk (cEnv ae sc S1.length) ρ3 { scope := relabel sc env, locals := (h'.push o).objs.size, globals := env.globals, cells := cellsFrom ((h'.push o).objs.size + 1) sc.names (closV env.cells sc.names []), qual := env.qual, func := none, code := env.code, frame := env.frame, builtins := env.builtins } := {
    scope := by show relabel sc (dumb env.scope) = relabel sc (dumb ae.scope); rw [hE.scope]
    fn := hsk
    loc := i2
    glob := hE.glob
    bui := hE.bui
    cells := fun y j ej => by
      have hl : (lo S1 k ++ [accAO e] ++ [AO.ns []]).length = S1.length + 2 := by simp [hlen]
      have e' : (cellsFrom (lo S1 k ++ [accAO e] ++ [AO.ns []]).length sc.names (closA ae.cells sc.names [])).lookup y = some j := by rw [hl]; exact ej
      obtain ⟨c, a, b⟩ := hc3 y j e'
      refine ⟨c, ?_, b⟩
      rw [Heap.size_push] at a
      exact a }
  have hI' : WpItems (WpIn X n (cEnv ae sc S1.length) t fs (WpGens X n (cEnv ae sc S1.length) (emitW X n (cEnv ae sc S1.length) S1.length e) r)) items (((lo S1 k ++ [accAO e]) ++ [.ns []]) ++ cellAOs sc.names) (K k) := by
    simpa [List.append_assoc] using hI
  have hg := fun cv : Env => gens_sound (X := X) (n := n) (ae := cEnv ae sc S1.length) (env := cv) (ia := S1.length) (a := h'.objs.size) (fun d I A' => c.u1 d _ _ cv A') (fun d I t i fs hg => c.d1 ha d (.ref I) h'.objs.size cv hg) (fun d I A' => c.u2 d _ _ cv A') (fun d I => c.d2 d (.ref I) (.ref h'.objs.size) cv) c.clauses ha hsi (emit_sound (ae := cEnv ae sc S1.length) c S1.length h'.objs.size cv) r 0 rfl
  have key := start_sound (fun I A' => c.u1 0 _ _ _ A') (fun I => c.d1 ha 0 (.ref I) h'.objs.size _ rfl) (fun I A' => c.u2 0 _ _ _ A') (fun I => c.d2 0 (.ref I) (.ref h'.objs.size) _) c.clauses rfl ha (hg _) hr RL L3 hcE i1 W
    (W.frame _ _ _ hst fun b _ o e => pushCells_keeps _ _ b o (Heap.get?_push_of_some _ (Heap.get?_push_of_some _ e))) hwr hfp hex hP hself hI'
  refine codeAny_mono key fun q s' hq => ?_
  obtain ⟨rfl, S', ρ', T', hq, stq, hpre⟩ := hq
  exact hR _ _ _ S' ρ' T' hq stq (hpre _ _ i1) (hpre _ _ i2)
end
end Mine
namespace Mine

theorem lo_length (S : List AO) (k : Option Nat) : (lo S k).length = S.length := by cases k <;> simp [lo]
theorem un_lo_app (S r : List AO) (k : Option Nat) : un S (lo S k ++ r) k = S ++ r := by
  cases k with
  | none => rfl
  | some k =>
    cases h : S[k]? with
    | none =>
      simp only [un, h, lo]
      rw [List.set_eq_of_length_le (List.getElem?_eq_none_iff.mp h)]
    | some ao =>
      have hk : k < S.length := (List.getElem?_eq_some_iff.mp h).1
      simp only [un, h, lo]
      rw [List.set_append_left _ _ (by simpa using hk), List.set_set]
      congr 1
      have := (List.getElem?_eq_some_iff.mp h).2
      rw [← this]; exact List.set_getElem_self hk

section
variable {X : Cx} {S S' : List AO} {ρ T ρ' T' : List Addr} {s s' : Shared} {h : Heap}

/-- what was made behind S is let go, but for C -/
theorem Step.backLp (R : Rep X S ρ T s) (st : Step X S ρ T s S' ρ' T' s') (hS : ∀ (i : Nat) (ao : AO), S[i]? = some ao → S'[i]? = some ao) {C : Addr} (hC : ∃ j : Nat, S.length ≤ j ∧ ρ'[j]? = some C) :
    Lp X S ρ T [C] s S ρ (T ++ [C]) s' ∧ Dr S.length ρ' T' s'.heap ρ (T ++ [C]) s'.heap := by
  obtain ⟨mm, e1, e2, hm⟩ := st.more
  obtain ⟨j, hj, ej⟩ := hC
  have hCm : C ∈ mm := by
    rw [e1, List.getElem?_append_right (by rw [R.len]; exact hj)] at ej
    exact List.mem_of_getElem? ej
  obtain ⟨st0, d0⟩ := st.back R hS (h := s'.heap) (fun _ _ _ e => e) s'.toks (Nat.le_refl _)
  have trk : ∀ a ∈ T ++ [C], a ∈ T' := fun a ha => by
    rw [e2]
    rcases List.mem_append.mp ha with q | q
    · exact List.mem_append_left _ q
    · rw [List.mem_singleton.mp q]; exact List.mem_append_right _ hCm
  have d : Dr S.length ρ' T' s'.heap ρ (T ++ [C]) s'.heap := ⟨d0.keep, trk, d0.ids⟩
  refine ⟨{ rep := ?_, more := ⟨[], by simp, by simp, fun _ h => nomatch h⟩, keep := st0.keep, loans := fun _ e => e }, d⟩
  exact {
    keep := st0.rep.keep
    len := R.len
    obj := fun i ao a f1 f2 => by
      have f2' : ρ'[i]? = some a := (st.mv R).ids _ _ f2
      exact (st.rep.obj i ao a (hS i ao f1) f2').dr d (fun o e => e) (R.und i ao f1)
    nodup := R.nodup
    nosys := R.nosys
    sub := fun a ha => List.mem_append_left _ (R.sub a ha)
    new := fun a ha => st.rep.new a (trk a ha)
    low := fun a ha => st.rep.low a (trk a ha)
    rest := st.rep.rest
    toks := st.rep.toks }

theorem app_get {r : List AO} : ∀ (i : Nat) (ao : AO), S[i]? = some ao → (S ++ r)[i]? = some ao := fun i ao e => by
  rw [List.getElem?_append_left (List.getElem?_eq_some_iff.mp e).1]; exact e

/-- the accumulator, frozen -/
theorem acc_frozen {acc : AO} {y : AV} {r : List AO} {C a : Addr} (R : Rep X S ρ T s) (st : Step X S ρ T s (S ++ (acc :: r)) ρ' T' s') (ha : ρ'[S.length]? = some a) (hC : ρ'[S.length + 1]? = some C)
    (hy : (∃ xs, acc = .lst xs ∧ y = .lst xs ∧ AV.unds S.length xs) ∨ (∃ kvs, acc = .dct kvs ∧ y = .dct kvs ∧ AV.undk S.length kvs)) :
    VR X ρ (T ++ [C]) s'.heap y (.ref a) := by
  obtain ⟨L, d⟩ := st.backLp R app_get ⟨_, Nat.le_succ _, hC⟩
  obtain ⟨mm, e1, e2, hm⟩ := st.more
  have haC : a ≠ C := fun e => by
    subst e
    obtain ⟨l1, z1⟩ := List.getElem?_eq_some_iff.mp ha
    obtain ⟨l2, z2⟩ := List.getElem?_eq_some_iff.mp hC
    have := (List.getElem_inj st.rep.nodup).mp (z1.trans z2.symm)
    omega
  have ham : a ∈ mm := by
    rw [e1, List.getElem?_append_right (by rw [R.len]; exact Nat.le_refl _)] at ha
    exact List.mem_of_getElem? ha
  have haT : a ∉ T ++ [C] := fun q => by
    rcases List.mem_append.mp q with q | q
    · obtain ⟨o, e⟩ := R.low a q; rw [hm a ham] at e; cases e
    · exact haC (List.mem_singleton.mp q)
  have ho := st.rep.obj S.length acc a (by simp) ha
  rcases hy with ⟨xs, rfl, rfl, hu⟩ | ⟨xs, rfl, rfl, hu⟩
  · obtain ⟨vs, hi, hq⟩ := ho
    skip
    exact ⟨a, vs, rfl, haT, hi.isList, VRs.dr d xs hu hq⟩
  · obtain ⟨vs, hi, hq⟩ := ho
    skip
    exact ⟨a, vs, rfl, haT, st.rep.nosys a (List.mem_of_getElem? ha), hi, VRk.dr d xs hu hq⟩
end

section
variable {X : Cx} {n : Nat} {ae : AEnv} {S S' : List AO} {K : AV → List AO → Prop} {KF : AF → List AO → Prop}

noncomputable def Frz (m : Nat) (acc : AO) (y : AV) : Prop := (∃ xs, acc = .lst xs ∧ y = .lst xs ∧ AV.unds m xs) ∨ (∃ kvs, acc = .dct kvs ∧ y = .dct kvs ∧ AV.undk m kvs)
theorem Frz.lst {m : Nat} {xs : List AV} (h : AV.unds m xs) : Frz m (.lst xs) (.lst xs) := .inl ⟨xs, rfl, rfl, h⟩
/-- the end of a comprehension -/
noncomputable def CompEnd (S1 : List AO) (K : AV → List AO → Prop) (k : Option Nat) (S' : List AO) : Prop :=
  ∃ acc vars r y, S' = lo S1 k ++ (acc :: AO.ns vars :: r) ∧ Frz S1.length acc y ∧ K y S1

structure CompIs (ae : AEnv) (gens : List Comprehension) (sc : Scope) : Prop where
  fn : sc.kind = .function
  sync : ∀ g ∈ gens, g.is_async = 0
  free : ∀ x ∈ sc.names, x.2 = .free → (ae.cells.lookup x.1).isSome = true
  names : ∀ x ∈ sc.names, x.2 = .local → sc.names.lookup x.1 = some .local

theorem comp_state {S1 : List AO} {ρ1 T1 : List Addr} {s1 s' : Shared} {k : Option Nat} {ρ' T' : List Addr} {a C : Addr} (R1 : Rep X S1 ρ1 T1 s1) (hK : CompEnd S1 K k S') (st : Step X (lo S1 k) ρ1 T1 s1 S' ρ' T' s') (ha : ρ'[S1.length]? = some a) (hC : ρ'[S1.length + 1]? = some C) :
    ∃ m y, s'.heap.Ns C m ∧ K y S1 ∧ Lp X S1 ρ1 T1 [C] s1 S1 ρ1 (T1 ++ [C]) s' ∧ VR X ρ1 (T1 ++ [C]) s'.heap y (.ref a) ∧ s1.heap.get? C = none := by
  obtain ⟨acc, vars, r, y, rfl, hf, hk⟩ := hK
  have st2 := Step.un R1 st
  rw [un_lo_app] at st2
  have hn := st2.rep.obj (S1.length + 1) (.ns vars) C (by simp) hC
  obtain ⟨m, hm, _⟩ := hn
  obtain ⟨L, _⟩ := st2.backLp R1 app_get ⟨_, Nat.le_succ _, hC⟩
  obtain ⟨mm, e1, e2, hmm⟩ := st2.more
  refine ⟨m, y, hm, hk, L, acc_frozen R1 st2 ha hC hf, hmm C ?_⟩
  rw [e1, List.getElem?_append_right (by rw [R1.len]; omega)] at hC
  exact List.mem_of_getElem? hC

theorem wComp {e t i : Expr} {fs : List Expr} {r : List Comprehension} {sc : Scope} {pos : Pos} (c : IsComp e (⟨t, i, fs, 0⟩ :: r) sc pos) (hc : CompIs ae (⟨t, i, fs, 0⟩ :: r) sc)
    (hsi : ∀ g ∈ (⟨t, i, fs, 0⟩ :: r : List Comprehension), ∀ env x, foldedSetIterable g.iter env x = pure x)
    (h : WpI X n ae S t i fun items k S1 => CompOk X n ae e t fs r sc items k S1 (CompEnd S1 K)) : WpE X n ae S e K := fun A ρ T s env hr hR hE => by
  rw [c.eval]
  have hfree' : ∀ x ∈ sc.names, x.2 = .free → (env.cells.lookup x.1).isSome = true := fun x hx e => by
    obtain ⟨i, hi⟩ := Option.isSome_iff_exists.mp (hc.free x hx e)
    obtain ⟨c, h1, _⟩ := hE.cells _ _ hi
    rw [h1]; rfl
  refine wpAny_comprehension_free c.clauses (fun x => hsi _ (.head _) env x) (closureFor_eq hfree') hc.fn hc.names ?_
  refine h A ρ T s env _ _ _ hr hR hE fun items k S1 ρ1 T1 s1 hK st I fp wr P Md St h0 tk W0 => ?_
  refine comp_core c hc.fn hc.sync hsi hc.free hr st.rep (hE.step st hR) W0 hK fun a C s' S' ρ' T' hK' st' ha hC => ?_
  obtain ⟨m, y, hm, hk, L, hy, hnew⟩ := comp_state st.rep hK' st' ha hC
  refine ⟨m, hm, fun h' hs => ?_⟩
  have hw : ∀ b ∈ [C], s1.heap.get? b = none := fun b hb => by rw [List.mem_singleton.mp hb]; exact hnew
  obtain ⟨T2, st2⟩ := L.fin (h := h') st.rep hw (fun b o hb e => (hs.2 b fun q => hb (by rw [q]; exact .head _)).trans e) s'.toks (Nat.le_refl _)
  obtain ⟨mm, q1, q2, q3⟩ := st2.more
  have : T2 = T1 := by
    have : mm = [] := by
      have := congrArg List.length q1
      simp at this; exact this
    rw [q2, this, List.append_nil]
  subst this
  refine PostG.mk (st.trans hR st2) hk (VR.dr (m := ρ1.length) ⟨fun b o hb e => (hs.2 b fun q => hb (by rw [q]; simp)).trans e, fun a ha => List.mem_append_left _ ha, fun _ _ _ e => e⟩ y (VR.und y hy) hy)

/-- a comprehension stored under a name -/
theorem sAsgComp {x : Str} {p ps : Pos} {e t i : Expr} {fs : List Expr} {r : List Comprehension} {sc : Scope} {pos : Pos} (c : IsComp e (⟨t, i, fs, 0⟩ :: r) sc pos) (hc : CompIs ae (⟨t, i, fs, 0⟩ :: r) sc)
    (hsi : ∀ g ∈ (⟨t, i, fs, 0⟩ :: r : List Comprehension), ∀ env x, foldedSetIterable g.iter env x = pure x)
    (hs : swapsWith e (some (.Name x p)) ps.line (dumb ae.scope) = pure true)
    (h : WpI X n ae S t i fun items k S1 => CompOk X n ae e t fs r sc items k S1 (CompEnd S1 fun y S2 => WpN X n ae S2 x y fun _ S3 => KF .next S3)) : WpS X n ae S (.Assign [.Name x p] e ps) KF := fun A ρ T s env hr hR hE => by
  rw [exec_Assign_Name_used x p e ps (by rw [← hE.scope] at hs; exact hs), c.used]
  have hfree' : ∀ x ∈ sc.names, x.2 = .free → (env.cells.lookup x.1).isSome = true := fun x hx e => by
    obtain ⟨i, hi⟩ := Option.isSome_iff_exists.mp (hc.free x hx e)
    obtain ⟨c, h1, _⟩ := hE.cells _ _ hi
    rw [h1]; rfl
  refine wpAny_bind (wpAny_standAt (wpAny_bind (wpAny_bind (wpAny_comprehension_free c.clauses (fun x => hsi _ (.head _) env x) (closureFor_eq hfree') hc.fn hc.names ?_))))
  refine h A ρ T s env _ _ _ hr hR hE fun items k S1 ρ1 T1 s1 hK st I fp wr P Md St h0 tk W0 => ?_
  refine comp_core c hc.fn hc.sync hsi hc.free hr st.rep (hE.step st hR) W0 hK fun a C s' S' ρ' T' hK' st' ha hC => ?_
  obtain ⟨m, y, hm, hk, L, hy, hnew⟩ := comp_state st.rep hK' st' ha hC
  have hw : ∀ b ∈ [C], s1.heap.get? b = none := fun b hb => by rw [List.mem_singleton.mp hb]; exact hnew
  show wpAny X.M A (assign (.Name x p) env (.ref a)) _ _ s'
  refine wpAny_assign_Name (chain (hk A ρ1 (T1 ++ [C]) s' env (.ref a) hr L.rep ((hE.step st hR)) hy) fun _ S2 ρ2 T2 _ s2 hK2 st2 _ => ?_)
  have L2 := L.step st.rep st2
  refine ⟨m, ?_, fun h' hs => ?_⟩
  · obtain ⟨o, es, ep, ho, rr⟩ := hm
    exact ⟨o, es, ep, st2.keep C o (fun l => by obtain ⟨o', e⟩ := st.rep.low C (st.rep.sub C l.mem); rw [hnew] at e; cases e) ho, rr⟩
  obtain ⟨T3, st3⟩ := L2.fin (h := h') st.rep hw (fun b o hb e => (hs.2 b fun q => hb (by rw [q]; exact .head _)).trans e) s2.toks (Nat.le_refl _)
  exact wpAny_pure (wpAny_pure (PostG.mk (st.trans hR st3) hK2 rfl))
end
end Mine
namespace Mine

noncomputable def TOk (target : Expr) (it : AV) : Prop := match target with
  | .Tuple .. => ∃ xs, it = .tup xs
  | _ => True

theorem KTn {prog : Program} {w : World} {A : Around} {target : Expr} {I : Addr} {fp wr : List Addr} {n m : Nat} {P Md : Nat → Value → Heap → Prop} {St : Nat → Heap → Prop} (e : m = n) (W : KTurns prog w A target I fp wr n P Md St) : KTurns prog w A target I fp wr m P Md St := by subst e; exact W
section
variable {X : Cx} {n : Nat} {ae : AEnv} {S S' : List AO} {ρ T : List Addr} {s : Shared} {target : Expr}

theorem VI.ok {h : Heap} {it : AV} {v : Value} (ok : TOk target it) (q : VR X ρ T h it v) : VI X ρ T h target it v := by
  unfold VI TOk at *
  split
  · obtain ⟨xs, rfl⟩ := ok
    skip
    obtain ⟨a, vs, rfl, _, h1, h2⟩ := q
    exact ⟨xs, a, vs, rfl, rfl, h1, h2⟩
  · exact q

theorem Rep.notLive (R : Rep X S ρ T s) {k : Option Nat} {a : Addr} (h : (∃ i, k = some i ∧ ρ[i]? = some a) ∨ a ∉ T) : ¬ Live (Mine.lo S k) ρ a := by
  rintro ⟨j, ao, e1, e2, e3⟩
  rcases h with ⟨i, rfl, hi⟩ | h
  · obtain ⟨l1, z1⟩ := List.getElem?_eq_some_iff.mp hi
    obtain ⟨l2, z2⟩ := List.getElem?_eq_some_iff.mp e1
    have hij : i = j := (List.getElem_inj R.nodup).mp (z1.trans z2.symm)
    subst hij
    simp only [Mine.lo] at e2
    rw [List.getElem?_set_self (by rw [← R.len]; exact l1)] at e2
    cases e2; exact e3 rfl
  · exact h (R.sub a (List.mem_of_getElem? e1))

theorem src_listAt {k : Option Nat} {xs : List AV} (hok : ∀ it ∈ xs, TOk target it) {A : Around} {Q E : Value → Shared → Prop} (hr : Room n A) (hR : Rep X S ρ T s) {a : Addr} {vs : List Value} (hi : s.heap.IsList a vs.toArray) (hq : VRs X ρ T s.heap xs vs)
    (hl : (∃ i, k = some i ∧ ρ[i]? = some a) ∨ a ∉ T)
    (hQ : ∀ (I : Addr) (fp wr : List Addr) (P Md : Nat → Value → Heap → Prop) (St : Nat → Heap → Prop) (h' : Heap) (tk : Nat), SrcAt X A S k ρ T s target xs I fp wr P Md St h' tk → Q (.ref I) { s with heap := h', toks := tk }) : wpAny X.M A (pyIter (.ref a)) Q E s := by
  refine wpAny_pyIter_list hi ?_
  have hlt : a < s.heap.objs.size := by obtain ⟨o, ho, _⟩ := hi; exact Heap.lt_size ho
  have hlen : xs.length = vs.toArray.size := by rw [List.size_toArray, hq.length]
  refine hQ s.heap.objs.size _ _ _ _ _ _ s.toks { hk := fun b o e => Heap.get?_push_of_some _ e, turns := KTn hlen <| KTurns.ofWalks (Walks.list hr.handled s.heap.objs.size a (Nat.ne_of_lt hlt) vs.toArray) fun i v s Q E st q => letGo_listiter st.1 q, st := ?_, time := Nat.le_refl _, new := ?_, foot := ?_, ex := ?_, item := ?_, self := ?_ }
  · exact ⟨⟨_, Heap.get?_push_size _ rfl, rfl, rfl⟩, hi.at fun o e => Heap.get?_push_of_some _ e⟩
  · intro b hb; rw [List.mem_singleton.mp hb]; exact newAddr _
  · intro b hb
    rcases List.mem_cons.mp hb with rfl | hb
    · exact .inl (by simp)
    · rw [List.mem_singleton.mp hb]
      obtain ⟨o, ho, _⟩ := hi
      exact .inr ⟨hR.notLive hl, o, ho⟩
  · rintro i h ⟨⟨o, ho, _⟩, _⟩ b hb
    rw [List.mem_singleton.mp hb]; exact ⟨o, ho⟩
  · intro j it v h ρ' T' hj hp mv _
    have hp : vs.toArray[j]? = some v := hp
    obtain ⟨u, hu, hv⟩ := hq.get hj
    have : u = v := by rw [List.getElem?_toArray, hu] at hp; exact Option.some.inj hp
    subst this
    exact VI.ok (hok it (List.mem_of_getElem? hj)) (VR.mv mv it hv)
  · intro s' Q' E' st q
    exact (Walks.list (prog := X.prog) (w := X.w) hr.handled s.heap.objs.size a (Nat.ne_of_lt hlt) vs.toArray).self 0 s' Q' E' st q

theorem srcLst {xs : List AV} (hok : ∀ it ∈ xs, TOk target it) : Src X n S none target (.lst xs) xs := fun A ρ T s v Q E hr hR hv hQ => by
  skip
  obtain ⟨a, vs, rfl, ha, hi, hq⟩ := hv
  exact src_listAt hok hr hR hi hq (.inr ha) hQ
theorem srcObj {i : Nat} {xs : List AV} (hS : S[i]? = some (.lst xs)) (hok : ∀ it ∈ xs, TOk target it) : Src X n S (some i) target (.obj i) xs := fun A ρ T s v Q E hr hR hv hQ => by
  skip
  obtain ⟨a, rfl, ha⟩ := hv
  obtain ⟨vs, hi, hq⟩ := hR.obj _ _ _ hS ha
  exact src_listAt hok hr hR hi.isList hq (.inl ⟨i, rfl, ha⟩) hQ

noncomputable def signs (x : Str) : List AV := x.cps.toList.map fun c => .str ⟨#[c]⟩
theorem src_strAt {x : Str} {p : Pos} {y : Str} {t : Tok} {A : Around} {Q : Value → Shared → Prop} {ty : String} {St : Nat → Heap → Prop} (W : Walks X.prog X.w A s.heap.objs.size [s.heap.objs.size] [s.heap.objs.size] y.cps.size (SignAt y) St)
    (hst : ∀ i h, St i h → ∃ o, h.get? s.heap.objs.size = some o) {o : Obj} (h0 : St 0 (s.heap.push o))
    (hQ : ∀ (I : Addr) (fp wr : List Addr) (P Md : Nat → Value → Heap → Prop) (St : Nat → Heap → Prop) (h' : Heap) (tk : Nat), SrcAt X A S none ρ T s (.Name x p) (signs y) I fp wr P Md St h' tk → Q (.ref I) { s with heap := h', toks := tk }) :
    Q (.ref s.heap.objs.size) { s with heap := s.heap.push o } := by
  have hlen : (signs y).length = y.cps.size := by simp [signs]
  refine hQ s.heap.objs.size _ _ _ _ _ _ s.toks { hk := fun b o e => Heap.get?_push_of_some _ e, turns := KTn hlen <| KTurns.ofWalks W fun i v s Q E st q => wpAny_pure q, st := h0, time := Nat.le_refl _, new := ?_, foot := ?_, ex := ?_, item := ?_, self := ?_ }
  · intro b hb; rw [List.mem_singleton.mp hb]; exact newAddr _
  · intro b hb; exact .inl hb
  · intro i h st b hb
    rw [List.mem_singleton.mp hb]; exact hst i h st
  · intro j it v h ρ' T' hj hp mv _
    obtain ⟨c, u, h1, rfl⟩ := hp
    have : it = .str ⟨#[c]⟩ := by
      unfold signs at hj
      rw [List.getElem?_map] at hj
      have h1 : y.cps.toList[j]? = some c := by simpa using h1
      rw [h1] at hj; simpa using hj.symm
    subst this
    show VR X ρ' T' h (.str ⟨#[c]⟩) _
    exact VR_str.mpr ⟨by show 1 ≤ sizeLine; rw [sizeLine_eq]; omega, u, rfl⟩
  · intro s' Q' E' st q
    exact W.self 0 s' Q' E' st q
theorem srcStr {x : Str} {p : Pos} {y : Str} : Src X n S none (.Name x p) (.str y) (signs y) := fun A ρ T s v Q E hr hR hv hQ => by
  obtain ⟨hl, t, rfl⟩ := VR_str.mp hv
  cases ha : y.cps.all (· < 128)
  · exact wpAny_pyIter_wide ha (src_strAt (ty := "") (t := t) (Walks.strWide hr.handled _ y t) (fun i h ⟨o, ho, _⟩ => ⟨o, ho⟩) ⟨_, Heap.get?_push_size _ rfl, rfl, rfl⟩ hQ)
  · exact wpAny_pyIter_ascii ha (src_strAt (ty := "") (t := t) (Walks.strAscii hr.handled _ y t) (fun i h ⟨o, ho, _⟩ => ⟨o, ho⟩) ⟨_, Heap.get?_push_size _ rfl, rfl, rfl⟩ hQ)
end
end Mine
namespace Mine

section
variable {X : Cx} {n : Nat} {ae : AEnv} {S S' : List AO} {ρ T : List Addr} {s : Shared} {target : Expr} {K : AV → List AO → Prop} {KB : Bool → List AO → Prop} {KF : AF → List AO → Prop} {KU : Unit → List AO → Prop}

/-! ## stores -/
theorem aName {x : Str} {p : Pos} {v : AV} (h : WpN X n ae S x v KU) : WpA X n ae S (.Name x p) v KU := fun A ρ T s env u hr hR hE hv =>
  wpAny_assign_Name (h A ρ T s env u hr hR hE hv)

noncomputable def WpTs (X : Cx) (n : Nat) (ae : AEnv) : List Expr → List AV → List AO → (Unit → List AO → Prop) → Prop
  | [], [], S, K => K () S
  | t :: ts, x :: xs, S, K => TOk t x ∧ WpA X n ae S t x fun _ S1 => WpTs X n ae ts xs S1 K
  | _, _, _, _ => False

noncomputable def NoStar : Expr → Bool
  | .Starred .. => false
  | _ => true

theorem assignEach_cons {t : Expr} {ts : List Expr} {env : Env} (h : NoStar t = true) : assignEach (t :: ts) env = (false, assign t env) :: assignEach ts env := by
  cases t <;> first | rfl | (simp [NoStar] at h)

theorem ord_sound : ∀ (ts : List Expr) (xs : List AV) {A : Around} {ρ T : List Addr} {s : Shared} {env : Env} {vs : List Value} {S : List AO}, ts.all NoStar = true → Room n A → Rep X S ρ T s → EnvOk ae ρ env → VRs X ρ T s.heap xs vs → WpTs X n ae ts xs S KU →
    wpAny X.M A (assignInOrder ((assignEach ts env).map (·.2)) vs) (PostU X S ρ T s KU) No s
  | [], [], A, ρ, T, s, env, vs, S, _, hr, hR, hE, hv, h => by
    exact assignInOrder_nil (PostG.mk (x := ()) (.refl hR) h trivial)
  | [], _ :: _, A, ρ, T, s, env, vs, S, _, hr, hR, hE, hv, h => by simp only [WpTs] at h
  | _ :: _, [], A, ρ, T, s, env, vs, S, _, hr, hR, hE, hv, h => by simp only [WpTs] at h
  | t :: ts, x :: xs, A, ρ, T, s, env, vs, S, hn, hr, hR, hE, hv, h => by
    simp only [List.all_cons, Bool.and_eq_true] at hn
    rw [assignEach_cons hn.1]
    obtain ⟨v, r, rfl, h1, h2⟩ := VRs_cons.mp hv
    obtain ⟨ok, h⟩ := h
    refine assignInOrder_cons (chain (h A ρ T s env v hr hR hE (VI.ok ok h1)) fun _ S1 ρ1 T1 _ s1 hK st _ => ?_)
    exact thenG hR st (ord_sound ts xs hn.2 hr st.rep (hE.step st hR) (VRs.mv (st.mv hR) _ h2) hK)

theorem assignEach_len : ∀ (ts : List Expr) (env : Env), (assignEach ts env).length = ts.length
  | [], _ => rfl
  | t :: ts, env => by cases t <;> simp [assignEach, assignEach_len ts env]
theorem assignEach_star : ∀ (ts : List Expr) (env : Env), ts.all NoStar = true → (assignEach ts env).findIdx? (·.1) = none
  | [], _, _ => rfl
  | t :: ts, env, h => by
    simp only [List.all_cons, Bool.and_eq_true] at h
    rw [assignEach_cons h.1]
    simp [List.findIdx?_cons, assignEach_star ts env h.2]

theorem Step.old (R : Rep X S ρ T s) {h' : Heap} (he : Heap.ExtBut s.heap.objs.size s.heap h') (k : Nat) (hk : s.toks ≤ k := by first | exact Nat.le_refl _ | omega) : Step X S ρ T s S ρ T { s with heap := h', toks := k } :=
  .ext R (fun b o e => he b o (Nat.ne_of_lt (Heap.lt_size e)) e) ⟨rfl, rfl, rfl⟩ hk

theorem aTup {ts : List Expr} {k : Nat} {p : Pos} {xs : List AV} (hl : ts.length = xs.length) (hn : ts.all NoStar = true) (h : WpTs X n ae ts xs S KU) : WpA X n ae S (.Tuple ts k p) (.tup xs) KU := fun A ρ T s env u hr hR hE hv => by
  obtain ⟨xs', a, vs, e, rfl, ht, hq⟩ := hv
  cases e
  refine assign_Tuple_tuple hr.handled ht (by rw [assignEach_len, hl, List.size_toArray, hq.length]) (assignEach_star _ _ hn) fun h' he => ?_
  have st : Step X S ρ T s S ρ T { s with heap := h' } := Step.old hR he s.toks
  exact thenG hR st (ord_sound ts xs hn hr st.rep (hE.step st hR) (VRs.mv (st.mv hR) _ hq) h)

/-- a, b = .. -/
theorem sAsgT {ts : List Expr} {k : Nat} {tp pos : Pos} {e : Expr} (h : WpE X n ae S e fun a S1 => ∃ xs, a = .tup xs ∧ ts.length = xs.length ∧ WpTs X n ae ts xs S1 fun _ S2 => KF .next S2) (hn : ts.all NoStar = true := by rfl)
    (hs : swapsWithSole [.Tuple ts k tp] e pos.line (dumb ae.scope) = pure false := by rfl) (hw : swappedStores [.Tuple ts k tp] e (dumb ae.scope) = pure none := by rfl) : WpS X n ae S (.Assign [.Tuple ts k tp] e pos) KF := fun A ρ T s env hr hR hE => by
  refine Assign_Tuple (chain (h A ρ T s env hr hR hE) fun a S1 ρ1 T1 v s1 hK st hv => ?_) (by rw [← hE.scope] at hs; exact hs) (by rw [← hE.scope] at hw; exact hw)
  obtain ⟨xs, rfl, hl, hK⟩ := hK
  exact chain (aTup hl hn hK A ρ1 T1 s1 env v hr st.rep (hE.step st hR) (VI.ok ⟨xs, rfl⟩ hv)) fun _ S2 ρ2 T2 _ s2 hK2 st2 _ => PostG.mk (st.trans hR st2) hK2 rfl

/-- stores from the last to the first -/
noncomputable def WpNs (X : Cx) (n : Nat) (ae : AEnv) : List Str → List AV → List AO → (Unit → List AO → Prop) → Prop
  | [], [], S, K => K () S
  | t :: ts, x :: xs, S, K => WpN X n ae S t x fun _ S1 => WpNs X n ae ts xs S1 K
  | _, _, _, _ => False
theorem ns_sound : ∀ (ts : List Str) (xs : List AV) {A : Around} {ρ T : List Addr} {s : Shared} {env : Env} {vs : List Value} {S : List AO}, Room n A → Rep X S ρ T s → EnvOk ae ρ env → VRs X ρ T s.heap xs vs → WpNs X n ae ts xs S KU →
    wpAny X.M A (assignInOrder (ts.map fun n => bindName env n) vs) (PostU X S ρ T s KU) No s
  | [], [], A, ρ, T, s, env, vs, S, hr, hR, hE, hv, h => by
    exact assignInOrder_nil (PostG.mk (x := ()) (.refl hR) h trivial)
  | [], _ :: _, A, ρ, T, s, env, vs, S, hr, hR, hE, hv, h => by simp only [WpNs] at h
  | _ :: _, [], A, ρ, T, s, env, vs, S, hr, hR, hE, hv, h => by simp only [WpNs] at h
  | t :: ts, x :: xs, A, ρ, T, s, env, vs, S, hr, hR, hE, hv, h => by
    obtain ⟨v, r, rfl, h1, h2⟩ := VRs_cons.mp hv
    refine assignInOrder_cons (bindName_ (chain (h A ρ T s env v hr hR hE h1) fun _ S1 ρ1 T1 _ s1 hK st _ => ?_))
    exact thenG hR st (ns_sound ts xs hr st.rep (hE.step st hR) (VRs.mv (st.mv hR) _ h2) hK)
theorem VRs.rev {h : Heap} : ∀ {xs : List AV} {vs : List Value}, VRs X ρ T h xs vs → VRs X ρ T h xs.reverse vs.reverse
  | [], _, q => by rw [VRs_nil.mp q]; simp
  | x :: xs, _, q => by
    obtain ⟨v, r, rfl, h1, h2⟩ := VRs_cons.mp q
    rw [List.reverse_cons, List.reverse_cons]
    exact VRs.app (VRs.rev h2) (VRs.one h1)
theorem sAsgTs {ts : List Expr} {k : Nat} {tp pos : Pos} {e : Expr} {names : List Str} (hw : swappedStores [.Tuple ts k tp] e (dumb ae.scope) = pure (some names)) (h : WpE X n ae S e fun a S1 => ∃ xs, a = .tup xs ∧ names.length = xs.length ∧ WpNs X n ae names.reverse xs.reverse S1 fun _ S2 => KF .next S2)
    (hs : swapsWithSole [.Tuple ts k tp] e pos.line (dumb ae.scope) = pure false := by rfl) : WpS X n ae S (.Assign [.Tuple ts k tp] e pos) KF := fun A ρ T s env hr hR hE => by
  refine Assign_Tuple_swapped (names := names) (chain (h A ρ T s env hr hR hE) fun a S1 ρ1 T1 v s1 hK st hv => ?_) (by rw [← hE.scope] at hs; exact hs) (by rw [← hE.scope] at hw; exact hw)
  obtain ⟨xs, rfl, hl, hK⟩ := hK
  skip
  obtain ⟨a, vs, rfl, _, ht, hq⟩ := hv
  have hz : names.length = vs.toArray.size := by rw [List.size_toArray, hq.length, hl]
  rw [hz]
  refine unpackItems_tuple hr.handled ht fun h' he => ?_
  have st2 : Step X S1 ρ1 T1 s1 S1 ρ1 T1 { s1 with heap := h' } := Step.old st.rep he s1.toks
  exact chain (ns_sound names.reverse xs.reverse hr st2.rep (hE.step (st.trans hR st2) hR) (VRs.rev (VRs.mv (st2.mv st.rep) _ hq)) hK) fun _ S3 ρ3 T3 _ s3 hK3 st3 _ => PostG.mk ((st.trans hR st2).trans hR st3) hK3 rfl

/-! ## items -/
/-- a value read at an index -/
noncomputable def WpX (X : Cx) (n : Nat) (S : List AO) (slice : Expr) (a b : AV) (K : AV → List AO → Prop) : Prop :=
  ∀ A ρ T s v u, Room n A → Rep X S ρ T s → VR X ρ T s.heap a v → VR X ρ T s.heap b u → ∃ (Ty id : String), typeLookup (.type Ty) "__getitem__" = pure (some (.builtin id)) ∧ s.TypeIs v Ty ∧ wpAny X.M A (getItem v u) (PostV X S ρ T s K) No s

noncomputable def Plain (slice : Expr) : Prop := ∀ o i, subscripted slice false o i = operate [o, i] (getItem o i)

theorem tail_item {value slice : Expr} {v u : Value} {Ty id : String} {A : Around} {Q : Value → Shared → Prop} {E : Value → Shared → Prop} (hl : typeLookup (.type Ty) "__getitem__" = pure (some (.builtin id))) (hT : s.TypeIs v Ty)
    {held : List Value} (hs : subscripted slice false v u = operate held (getItem v u)) (hg : wpAny X.M A (getItem v u) Q E s) : wpAny X.M A (subscriptTail value slice v u) Q E s := by
  have tail : wpAny X.M A (subscripted slice false v u >>= fun r => letTemporaryGo value v r >>= fun _ => pure r) Q E s := by
    rw [hs]
    exact wpAny_bind (wpAny_operating (wpAny_mono hg (fun r s3 q => wpAny_bind (wpAny_letTemporaryGo (wpAny_pure q))) fun _ _ e => e))
  refine wpAny_bind (m := getitemInPython v) ?_
  rw [getitemInPython_of_ne hT.not_modules]
  exact wpAny_bind (wpAny_specialOf hT hl (wpAny_pure tail))
theorem wSub {value slice : Expr} {pos : Pos} (h : WpE X n ae S value fun a S1 => WpE X n ae S1 slice fun b S2 => WpX X n S2 slice a b K) (hs : Plain slice := by intro _ _; with_unfolding_all rfl) : WpE X n ae S (.Subscript value slice pos) K := fun A ρ T s env hr hR hE => by
  refine Subscript_ (chain (h A ρ T s env hr hR hE) fun a S1 ρ1 T1 v s1 hK st hv => chain (hK A ρ1 T1 s1 env hr st.rep (hE.step st hR)) fun b S2 ρ2 T2 u s2 hK2 st2 hu => ?_)
  obtain ⟨Ty, id, hl, hT, hg⟩ := hK2 A ρ2 T2 s2 v u hr st2.rep (VR.mv (st2.mv st.rep) _ hv) hu
  exact tail_item hl hT (hs v u) (thenG hR (st.trans hR st2) hg)

theorem xStr {slice : Expr} {x : Str} {i : Int} (hr' : fitsSsize i = true) (hin : (Txt.charAt x i).isSome = true) (h : K (.str (Txt.item x i)) S) : WpX X n S slice (.str x) (.int i) K := fun A ρ T s v u hr hR hv hu => by
  obtain ⟨hl, t, rfl⟩ := VR_str.mp hv
  obtain ⟨t', rfl⟩ := VR_int.mp hu
  exact SB.item hr' hin (PostG.mk (.toks hR _) h (VR_str.mpr ⟨by rw [len_item, sizeLine_eq]; omega, _, rfl⟩))

theorem xTup {slice : Expr} {xs : List AV} {i : Int} {j : Nat} {y : AV} (hlo : -(2 ^ 63) ≤ i) (hhi : i < 2 ^ 63) (hj : seqIndex? i xs.length = some j) (hy : xs[j]? = some y) (h : K y S) : WpX X n S slice (.tup xs) (.int i) K := fun A ρ T s v u hr hR hv hu => by
  skip
  obtain ⟨a, vs, rfl, ha, ht, hq⟩ := hv
  obtain ⟨t', rfl⟩ := VR_int.mp hu
  obtain ⟨z, hz, hv⟩ := hq.get hy
  refine ⟨"tuple", _, slot_tuple_getitem.lookup, ht.typeIs, PyProof.Rows.getItem_tuple ht hlo hhi (by rw [List.size_toArray, hq.length]; exact hj) (by simpa using hz) (PostG.mk (.refl hR) h hv)⟩

theorem item_listAt {slice : Expr} {A : Around} {xs : List AV} {vs : List Value} {a : Addr} {i : Int} {t : Tok} {j : Nat} {y : AV} (hr : Room n A) (hR : Rep X S ρ T s) (hi : s.heap.IsList a vs.toArray) (hq : VRs X ρ T s.heap xs vs) (hlo : -(2 ^ 63) ≤ i) (hhi : i < 2 ^ 63) (hj : seqIndex? i xs.length = some j) (hy : xs[j]? = some y) (h : K y S) :
    ∃ (Ty id : String), typeLookup (.type Ty) "__getitem__" = pure (some (.builtin id)) ∧ s.TypeIs (.ref a) Ty ∧ wpAny X.M A (getItem (.ref a) (.int i t)) (PostV X S ρ T s K) No s := by
  obtain ⟨z, hz, hv⟩ := hq.get hy
  refine ⟨"list", _, slot_list_getitem.lookup, hi.typeIs, ?_⟩
  have hlen : (vs.toArray.size : Int) = xs.length := by rw [List.size_toArray, hq.length]
  unfold seqIndex? at hj
  by_cases h0 : 0 ≤ i
  · refine wpAny_getItem_list hi h0 hhi (x := z) ?_ (PostG.mk (.refl hR) h hv)
    have : i.toNat = j := by
      have hlt : ¬ i < 0 := by omega
      simp only [hlt, if_false] at hj
      split at hj <;> simp_all
    rw [this]; simpa using hz
  · refine wpAny_getItem_list_neg hi (by omega) ?_ hlo (x := z) ?_ (PostG.mk (.refl hR) h hv)
    · have hlt : i < 0 := by omega
      simp only [hlt, if_true] at hj
      split at hj <;> simp_all
      omega
    · have : (i + vs.toArray.size).toNat = j := by
        have hlt : i < 0 := by omega
        simp only [hlt, if_true] at hj
        split at hj <;> simp_all
      rw [this]; simpa using hz

theorem nat_lo (k : Nat) : -(2 ^ 63) ≤ (k : Int) := by omega
theorem xLst {slice : Expr} {xs : List AV} {i : Int} {j : Nat} {y : AV} (hj : seqIndex? i xs.length = some j) (hy : xs[j]? = some y) (h : K y S) (hlo : -(2 ^ 63) ≤ i := by first | exact nat_lo _ | decide | omega) (hhi : i < 2 ^ 63 := by first | assumption | decide | omega) : WpX X n S slice (.lst xs) (.int i) K := fun A ρ T s v u hr hR hv hu => by
  skip
  obtain ⟨a, vs, rfl, ha, hi, hq⟩ := hv
  obtain ⟨t', rfl⟩ := VR_int.mp hu
  exact item_listAt (slice := slice) hr hR hi hq hlo hhi hj hy h
theorem xObj {slice : Expr} {k : Nat} {xs : List AV} {i : Int} {j : Nat} {y : AV} (hS : S[k]? = some (.lst xs)) (hj : seqIndex? i xs.length = some j) (hy : xs[j]? = some y) (h : K y S) (hlo : -(2 ^ 63) ≤ i := by first | exact nat_lo _ | decide | omega) (hhi : i < 2 ^ 63 := by first | assumption | decide | omega) : WpX X n S slice (.obj k) (.int i) K := fun A ρ T s v u hr hR hv hu => by
  skip
  obtain ⟨a, rfl, ha⟩ := hv
  obtain ⟨vs, hi, hq⟩ := hR.obj _ _ _ hS ha
  obtain ⟨t', rfl⟩ := VR_int.mp hu
  exact item_listAt (slice := slice) hr hR hi.isList hq hlo hhi hj hy h
end
end Mine
namespace Mine

section
variable {X : Cx} {n : Nat} {ae : AEnv} {S S' : List AO} {ρ T : List Addr} {s : Shared} {K : AV → List AO → Prop} {KB : Bool → List AO → Prop} {KF : AF → List AO → Prop} {KU : Unit → List AO → Prop} {KL : List AV → List AO → Prop}

noncomputable def Callee (X : Cx) (v : Value) : Prop := ∀ h, X.K.In h → ∃ k, (k = Keeper.frame ∨ k = Keeper.machine ∨ k = Keeper.boundFrame) ∧ Looks X.M h (keeperOf v) k
theorem cBuiltin {id : String} : Callee X (.builtin id) := fun h _ => ⟨.machine, .inr (.inl rfl), Looks.of_pure rfl⟩
theorem cType {id : String} : Callee X (.type id) := fun h _ => ⟨.machine, .inr (.inl rfl), Looks.of_pure rfl⟩
theorem cFn {f : Value} (h : keepIn X.K f = true) : Callee X f := fun hp i => keeps_K h hp i

/-- arguments, one behind the other -/
noncomputable def WpArgs (X : Cx) (n : Nat) (ae : AEnv) : List Expr → List AO → (List AV → List AO → Prop) → Prop
  | [], S, K => K [] S
  | e :: r, S, K => WpE X n ae S e fun a S1 => WpArgs X n ae r S1 fun as S2 => K (a :: as) S2
noncomputable def WpKws (X : Cx) (n : Nat) (ae : AEnv) : List Keyword → List AO → (List (Str × AV) → List AO → Prop) → Prop
  | [], S, K => K [] S
  | ⟨some k, e, _⟩ :: r, S, K => WpE X n ae S e fun a S1 => WpKws X n ae r S1 fun as S2 => K ((k, a) :: as) S2
  | _, _, _ => False

theorem starEach_cons {t : Expr} {ts : List Expr} {env : Env} (h : NoStar t = true) : starEach (t :: ts) env = (false, eval t env) :: starEach ts env := by
  cases t <;> first | rfl | (simp [NoStar] at h)
theorem backTo_star : ∀ (ts : List Expr) (env : Env) (pos : Pos), ts.all NoStar = true → (backTo pos (starEach ts env)).any (·.1) = false
  | [], _, _, _ => rfl
  | t :: ts, env, pos, h => by
    simp only [List.all_cons, Bool.and_eq_true] at h
    rw [starEach_cons h.1]
    have := backTo_star ts env pos h.2
    simpa [backTo] using this

theorem args_sound : ∀ (es : List Expr) {A : Around} {ρ T : List Addr} {s : Shared} {env : Env} {S : List AO} {K : List AV → List AO → Prop} {pos : Pos}, es.all NoStar = true → Room n A → Rep X S ρ T s → EnvOk ae ρ env → WpArgs X n ae es S K →
    wpAny X.M A (spliced (backTo pos (starEach es env))) (PostL X S ρ T s K) No s
  | [], A, ρ, T, s, env, S, K, pos, _, hr, hR, hE, h => Calls.spliced_nil (PostG.mk (x := []) (.refl hR) h (by simp))
  | e :: es, A, ρ, T, s, env, S, K, pos, hn, hr, hR, hE, h => by
    simp only [List.all_cons, Bool.and_eq_true] at hn
    rw [starEach_cons hn.1]
    refine Calls.spliced_cons (chain (h A ρ T s env hr hR hE) fun a S1 ρ1 T1 v s1 hK st hv => ?_)
    refine chain (args_sound es (pos := pos) hn.2 hr st.rep (hE.step st hR) hK) fun as S2 ρ2 T2 vs s2 hK2 st2 hvs => ?_
    exact PostG.mk (x := a :: as) (st.trans hR st2) hK2 (VRs_cons.mpr ⟨v, vs, rfl, VR.mv (st2.mv st.rep) _ hv, hvs⟩)

noncomputable def Named (ks : List Keyword) : Bool := ks.all (·.arg.isSome)
theorem named_all : ∀ (ks : List Keyword) (env : Env) (pos : Pos), Named ks = true → (backToKw pos (keywordEach ks env)).all (·.1.isSome) = true ∧ (backToKw pos (keywordEach ks env)).any (·.1.isNone) = false
  | [], _, _, _ => ⟨rfl, rfl⟩
  | ⟨none, e, p⟩ :: ks, _, _, h => by simp [Named] at h
  | ⟨some k, e, p⟩ :: ks, env, pos, h => by
    have := named_all ks env pos (by simpa [Named] using h)
    simpa [backToKw, keywordEach] using this
noncomputable def KwR (X : Cx) (kws : List Keyword) (env : Env) (pos : Pos) (ρ T : List Addr) (h : Heap) (as : List (Str × AV)) (vs : List Value) : Prop := VRk X ρ T h as (((backToKw pos (keywordEach kws env)).filterMap (·.1)).zip vs)
theorem kws_sound : ∀ (ks : List Keyword) {A : Around} {ρ T : List Addr} {s : Shared} {env : Env} {S : List AO} {K : List (Str × AV) → List AO → Prop} {pos : Pos}, Room n A → Rep X S ρ T s → EnvOk ae ρ env → WpKws X n ae ks S K →
    wpAny X.M A (evalAll ((backToKw pos (keywordEach ks env)).map (·.2))) (PostG (KwR X ks env pos) X S ρ T s K) No s
  | [], A, ρ, T, s, env, S, K, pos, hr, hR, hE, h => wpAny_pure (PostG.mk (x := []) (.refl hR) h (by simp [KwR, VRk_nil, VRk_cons, backToKw, keywordEach]))
  | ⟨none, e, p⟩ :: ks, A, ρ, T, s, env, S, K, pos, hr, hR, hE, h => by simp only [WpKws] at h
  | ⟨some k, e, p⟩ :: ks, A, ρ, T, s, env, S, K, pos, hr, hR, hE, h => by
    simp only [WpKws] at h
    show wpAny X.M A (evalAll ((do let v ← eval e env; standAt pos; pure v) :: (backToKw pos (keywordEach ks env)).map (·.2))) _ _ _
    refine wpAny_bind (wpAny_bind (chain (h A ρ T s env hr hR hE) fun a S1 ρ1 T1 v s1 hK st hv => wpAny_bind (wpAny_standAt (wpAny_pure ?_))))
    refine wpAny_bind (wpAny_holding (chain (kws_sound ks (pos := pos) hr st.rep (hE.step st hR) hK) fun as S2 ρ2 T2 vs s2 hK2 st2 hvs => wpAny_pure ?_))
    refine PostG.mk (x := (k, a) :: as) (st.trans hR st2) hK2 ?_
    show VRk X ρ2 T2 s2.heap ((k, a) :: as) ((k, v) :: (((backToKw pos (keywordEach ks env)).filterMap (·.1)).zip vs))
    skip
    exact ⟨v, _, rfl, VR.mv (st2.mv st.rep) _ hv, hvs⟩

theorem evalArgs_any {M : Model} {A : Around} {E : Value → Shared → Prop} {s : Shared} {f : Value} {args : List (Bool × Sem Value)} {keywords : List (Option Str × Sem Value)} {Q : Args → Shared → Prop} (hplain : args.any (·.1) = false) (hall : keywords.all (·.1.isSome) = true)
    (h : wpAny M A (spliced args) (fun vs s₁ => wpAny M A (evalAll (keywords.map (·.2))) (fun kvs s₂ => Q ⟨vs, (keywords.filterMap (·.1)).zip kvs⟩ s₂) E s₁) E s) : wpAny M A (evalArgs f true args keywords) Q E s := by
  match args, hplain with
  | [], _ => exact wpAny_bind (wpAny_mono h (fun vs s1 q => wpAny_holding (by rw [if_pos hall]; exact wpAny_bind (wpAny_mono q (fun _ _ q2 => wpAny_bind (wpAny_pure (wpAny_pure q2))) fun _ _ e => e))) fun _ _ e => e)
  | (false, _) :: _, _ => exact evalArgs_kw hall h

theorem with_sound {args : List Expr} {kws : List Keyword} (hn : args.all NoStar = true) (hk : Named kws = true) {A : Around} {ρ T : List Addr} {s : Shared} {env : Env} {pos : Pos} (hr : Room n A) (hR : Rep X S ρ T s) (hE : EnvOk ae ρ env) {f : Value} {self : List AV} {first : List Value}
    (hs : VRs X ρ T s.heap self first) (hf : Callee X f) (h : WpArgs X n ae args S fun as S2 => WpKws X n ae kws S2 fun ks S3 => WpC X n S3 (.val f) (self ++ as) ks K) :
    wpAny X.M A (callWith pos f first (backTo pos (starEach args env)) (backToKw pos (keywordEach kws env))) (PostV X S ρ T s K) No s := by
  obtain ⟨k1, k2⟩ := named_all kws env pos hk
  refine callWith_of (P := X.K.In) (by rw [backTo_star args env pos hn, k2]; rfl) hf (evalArgs_any (backTo_star args env pos hn) k1 ?_)
  refine chain (args_sound args (pos := pos) hn hr hR hE h) fun as S1 ρ1 T1 vs s1 hK st hvs => ?_
  refine chain (kws_sound kws (pos := pos) hr st.rep (hE.step st hR) hK) fun ks S2 ρ2 T2 kvs s2 hK2 st2 hks => ?_
  refine ⟨st2.rep.kin, thenG hR (st.trans hR st2) (hK2 A ρ2 T2 s2 f _ _ hr st2.rep (by simp) (VRs.app (VRs.mv ((st.trans hR st2).mv hR) _ hs) (VRs.mv (st2.mv st.rep) _ hvs)) hks)⟩

/-- a call of a name -/
theorem wCallN {x : Str} {p pos : Pos} {args : List Expr} {kws : List Keyword} (h : WpE X n ae S (.Name x p) fun f S1 => ∃ fv, f = .val fv ∧ Callee X fv ∧ WpArgs X n ae args S1 fun as S2 => WpKws X n ae kws S2 fun ks S3 => WpC X n S3 (.val fv) as ks K)
    (hn : args.all NoStar = true := by rfl) (hk : Named kws = true := by rfl) : WpE X n ae S (.Call (.Name x p) args kws pos) K := fun A ρ T s env hr hR hE => by
  rw [arm_eval_Call_Name']
  refine wpAny_bind (chain (h A ρ T s env hr hR hE) fun f S1 ρ1 T1 v s1 hK st hv => ?_)
  obtain ⟨fv, rfl, hc, hK⟩ := hK
  cases VR_val.mp hv
  exact thenG hR st (with_sound hn hk hr st.rep (hE.step st hR) (self := []) (by simp) hc hK)

/-- a method looked up -/
noncomputable def MR (X : Cx) (ρ T : List Addr) (h : Heap) (p : Value × List AV) (q : Value × List Value) : Prop := q.1 = p.1 ∧ VRs X ρ T h p.2 q.2
noncomputable def WpM (X : Cx) (n : Nat) (S : List AO) (name : Str) (a : AV) (K : Value × List AV → List AO → Prop) : Prop :=
  ∀ A ρ T s v pl, Room n A → Rep X S ρ T s → VR X ρ T s.heap a v → wpAny X.M A (getMethod v name pl) (PostG (MR X) X S ρ T s K) No s

theorem wCallM {o : Expr} {name : Str} {apos pos : Pos} {args : List Expr} {kws : List Keyword} {pl : Env → Sem Bool}
    (h : WpE X n ae S o fun a S1 => WpM X n S1 name a fun p S2 => Callee X p.1 ∧ WpArgs X n ae args S2 fun as S3 => WpKws X n ae kws S3 fun ks S4 => WpC X n S4 (.val p.1) (p.2 ++ as) ks K)
    (he : ∀ env, eval (.Call (.Attribute o name apos) args kws pos) env = (do
      let ov ← eval o env
      standAt apos.atName
      let (f, first) ← holding [ov] (getMethod ov name (pl env))
      callWith pos f first (backTo pos (starEach args env)) (backToKw pos (keywordEach kws env))) := by intro _; rfl)
    (hn : args.all NoStar = true := by rfl) (hk : Named kws = true := by rfl) : WpE X n ae S (.Call (.Attribute o name apos) args kws pos) K := fun A ρ T s env hr hR hE => by
  refine methodCall_KW (pl := pl env) (chain (h A ρ T s env hr hR hE) fun a S1 ρ1 T1 v s1 hK st hv => chain (hK A ρ1 T1 s1 v (pl env) hr st.rep hv) fun p S2 ρ2 T2 q s2 hK2 st2 hq => ?_) (he env)
  obtain ⟨f, self⟩ := p
  obtain ⟨f', first⟩ := q
  obtain ⟨e1, e2⟩ := hq
  cases e1
  exact thenG hR (st.trans hR st2) (with_sound hn hk hr st2.rep (hE.step (st.trans hR st2) hR) e2 hK2.1 hK2.2)

/-- a method of a built-in type -/
theorem mBuiltin {ty id : String} {name : Str} {a : AV} {KM : Value × List AV → List AO → Prop} (hT : ∀ ρ T s v, Rep X S ρ T s → VR X ρ T s.heap a v → s.TypeIs v ty ∧ ∀ b, v = .ref b → ∃ o, s.heap.get? b = some o ∧ o.dict = none)
    (pa : PlainAttrs ty) (slot : Slot ty name id) (hty : typeOf (.builtin id) = pure (.type "method_descriptor")) (h : KM (.builtin id, [a]) S) : WpM X n S name a KM := fun A ρ T s v pl hr hR hv =>
  let ⟨h1, h2⟩ := hT ρ T s v hR hv
  getMethod_builtin h1 pa slot hty h2 (PostG.mk (x := (.builtin id, [a])) (.refl hR) h ⟨rfl, VRs.one hv⟩)
theorem mStr {id : String} {name : Str} {x : Str} {KM : Value × List AV → List AO → Prop} (slot : Slot "str" name id) (hty : typeOf (.builtin id) = pure (.type "method_descriptor")) (h : KM (.builtin id, [.str x]) S) : WpM X n S name (.str x) KM :=
  mBuiltin (fun ρ T s v _ hv => by
    obtain ⟨_, t, rfl⟩ := VR_str.mp hv
    exact ⟨typeIs_str _ _ _, fun _ e => nomatch e⟩) PySem.F.plainAttrs_str slot hty h
end
end Mine
namespace Mine

section
variable {X : Cx} {n : Nat} {ae : AEnv} {S S' : List AO} {ρ T : List Addr} {s : Shared} {K : AV → List AO → Prop} {KB : Bool → List AO → Prop} {KF : AF → List AO → Prop} {KU : Unit → List AO → Prop}

/-! ## displays -/
theorem Rep.fresh (R : Rep X S ρ T s) : s.heap.objs.size ∉ T := fun q => by
  obtain ⟨o, e⟩ := R.low _ q
  rw [newAddr] at e; cases e

theorem wTup {es : List Expr} {k : Nat} {pos : Pos} (h : WpArgs X n ae es S fun as S1 => as.length ≤ sizeLine ∧ K (.tup as) S1) (hn : es.all NoStar = true := by rfl) : WpE X n ae S (.Tuple es k pos) K := fun A ρ T s env hr hR hE => by
  refine wpAny_Tuple (chain (args_sound es hn hr hR hE h) fun as S1 ρ1 T1 vs s1 hK st hvs => ⟨by rw [hvs.length]; exact hK.1, ?_⟩)
  have st2 : Step X S1 ρ1 T1 s1 S1 ρ1 T1 { s1 with heap := s1.heap.push { cls := .type "tuple", data := .seq vs.toArray }, toks := s1.toks } := Step.push st.rep _ _
  refine PostG.mk (st.trans hR st2) hK.2 ?_
  skip
  exact ⟨_, vs, rfl, st.rep.fresh, ⟨_, Heap.get?_push_size _ rfl, rfl, _, rfl⟩, VRs.mv (st2.mv st.rep) _ hvs⟩
/-- a list that will not change -/
theorem wLst {es : List Expr} {pos : Pos} (h : WpArgs X n ae es S fun as S1 => as.length ≤ sizeLine ∧ K (.lst as) S1) (hn : es.all NoStar = true := by rfl) : WpE X n ae S (.List es pos) K := fun A ρ T s env hr hR hE => by
  refine wpAny_List (chain (args_sound es hn hr hR hE h) fun as S1 ρ1 T1 vs s1 hK st hvs => ⟨by rw [hvs.length]; exact hK.1, ?_⟩)
  have st2 : Step X S1 ρ1 T1 s1 S1 ρ1 T1 { s1 with heap := s1.heap.push { cls := .type "list", data := .seq vs.toArray }, toks := s1.toks } := Step.push st.rep _ _
  refine PostG.mk (st.trans hR st2) hK.2 ?_
  skip
  exact ⟨_, vs, rfl, st.rep.fresh, ⟨_, Heap.get?_push_size _ rfl, rfl, _, rfl⟩, VRs.mv (st2.mv st.rep) _ hvs⟩
theorem mvNew {a : Addr} {h' : Heap} (R : Rep X S ρ T s) (hk : ∀ b o, s.heap.get? b = some o → h'.get? b = some o) (ha : s.heap.get? a = none) : Mv ρ T s.heap (ρ ++ [a]) (T ++ [a]) h' :=
  ⟨fun b o _ e => hk b o e, fun b hb => by
    rcases List.mem_append.mp hb with q | q
    · exact .inl q
    · rw [List.mem_singleton.mp q]; exact .inr ha, fun i b e => by rw [List.getElem?_append_left (List.getElem?_eq_some_iff.mp e).1]; exact e⟩
/-- a list that may change -/
theorem wLstT {es : List Expr} {pos : Pos} (h : WpArgs X n ae es S fun as S1 => as.length ≤ sizeLine ∧ K (.obj S1.length) (S1 ++ [.lst as])) (hn : es.all NoStar = true := by rfl) : WpE X n ae S (.List es pos) K := fun A ρ T s env hr hR hE => by
  refine wpAny_List (chain (args_sound es hn hr hR hE h) fun as S1 ρ1 T1 vs s1 hK st hvs => ⟨by rw [hvs.length]; exact hK.1, ?_⟩)
  have hp : (s1.heap.push { cls := .type "list", data := .seq vs.toArray }).get? s1.heap.objs.size = some { cls := .type "list", data := .seq vs.toArray } := Heap.get?_push_size _ rfl
  have hk : ∀ b o, s1.heap.get? b = some o → (s1.heap.push { cls := .type "list", data := .seq vs.toArray }).get? b = some o := fun b o e => Heap.get?_push_of_some _ e
  refine PostG.mk (st.trans hR (Step.new (ao := .lst as) st.rep hk (newAddr _) (st.rep.nosysOf (Nat.le_refl _)) ⟨_, hp⟩ ⟨vs, ⟨_, hp⟩, VRs.mv (mvNew st.rep hk (newAddr _)) _ hvs⟩ s1.toks)) hK.2 ?_
  skip
  exact ⟨_, rfl, by rw [← st.rep.len]; simp⟩

/-! ## numbers -/
section
variable {a b : Int}
theorem oDiv (hb : (b == 0) = false) (hs : b.natAbs < 1073741824) (h : K (.int (a.fdiv b)) S) : Wp2 X n S (binaryOp .FloorDiv) (.int a) (.int b) K := op2 (fun A ρ T s v u _ _ hv hu Q E hq => by
  obtain ⟨t, rfl⟩ := VR_int.mp hv; obtain ⟨t', rfl⟩ := VR_int.mp hu
  exact AutoIntOps.floordiv_1 (by simp [hb]) (by rw [PyProof.noPylong_small hs]; decide) (hq _ _ (by simp))) h
theorem oPow2 {m : Nat} (hm : m ≤ 60) (h : K (.int (2 ^ m)) S) : Wp2 X n S (binaryOp .Pow) (.int 2) (.int m) K := op2 (fun A ρ T s v u _ _ hv hu Q E hq => by
  obtain ⟨t, rfl⟩ := VR_int.mp hv; obtain ⟨t', rfl⟩ := VR_int.mp hu
  by_cases h0 : m = 0
  · subst h0
    exact AutoIntOps.pow_0 (by decide) (by decide) (hq _ _ (by simp))
  · refine AutoIntOps.pow_4 (by omega) (by simp; omega) (by decide) (by decide) ?_ (hq _ _ (by simp))
    have : ∀ k : Fin 61, Builtin.Int.intTooBig (((Builtin.Int.intBits 2 : Nat) : Int) * ((k.val : Nat) : Int)) = false := by decide +kernel
    have := this ⟨m, by omega⟩
    simp only at this
    rw [this]; decide) h
theorem oPowC {c k : Int} {r : Int} (h1 : k ≥ 0) (h2 : ¬(k == 0) = true) (h3 : ¬(c == 0 || c == 1) = true) (h4 : ¬(c == -1) = true) (h5 : ¬Builtin.Int.intTooBig (((Builtin.Int.intBits c : Nat) : Int) * k) = true) (h : K (.int (c ^ k.toNat)) S) : Wp2 X n S (binaryOp .Pow) (.int c) (.int k) K := op2 (fun A ρ T s v u _ _ hv hu Q E hq => by
  obtain ⟨t, rfl⟩ := VR_int.mp hv; obtain ⟨t', rfl⟩ := VR_int.mp hu
  exact AutoIntOps.pow_4 h1 h2 h3 h4 h5 (hq _ _ (by simp))) h
theorem iAdd (h : K (.int (a + b)) S) : Wp2 X n S (inplaceOp .Add) (.int a) (.int b) K := op2 (fun A ρ T s v u _ _ hv hu Q E hq => by
  obtain ⟨t, rfl⟩ := VR_int.mp hv; obtain ⟨t', rfl⟩ := VR_int.mp hu
  exact AutoIntOps.iadd_0 (hq _ _ (by simp))) h
theorem iSub (h : K (.int (a - b)) S) : Wp2 X n S (inplaceOp .Sub) (.int a) (.int b) K := op2 (fun A ρ T s v u _ _ hv hu Q E hq => by
  obtain ⟨t, rfl⟩ := VR_int.mp hv; obtain ⟨t', rfl⟩ := VR_int.mp hu
  exact AutoIntOps.isub_0 (hq _ _ (by simp))) h
theorem uNeg (h : K (.int (-a)) S) : Wp1 X n S (unaryOp .USub) (.int a) K := fun A ρ T s v hr hR hv => by
  obtain ⟨t, rfl⟩ := VR_int.mp hv
  exact PySem.P.neg_int (PostG.mk (.toks hR _) h (by simp))
end

/-! ## is -/
noncomputable def Imm : AV → Option Value
  | .none => some .none
  | .bool b => some (.bool b)
  | .val v => some v
  | _ => Option.none
theorem Imm.eq {x : AV} {w : Value} (h : Imm x = some w) {ρ T : List Addr} {hp : Heap} {v : Value} (q : VR X ρ T hp x v) : v = w := by
  cases x <;> simp [Imm] at h <;> subst h
  · exact VR_none.mp q
  · exact VR_bool.mp q
  · exact VR_val.mp q
theorem oIs {x y : AV} {v w : Value} (hx : Imm x = some v) (hy : Imm y = some w) (hp : plainIs v w = true) (h : K (.bool (v == w)) S) : Wp2 X n S (compareOp .Is) x y K := fun A ρ T s a b hr hR ha hb => by
  rw [Imm.eq hx ha, Imm.eq hy hb]
  exact wpAny_is_plain hp (PostG.mk (.refl hR) h (by simp))
theorem oIsNot {x y : AV} {v w : Value} (hx : Imm x = some v) (hy : Imm y = some w) (hp : plainIs v w = true) (h : K (.bool (!(v == w))) S) : Wp2 X n S (compareOp .IsNot) x y K := fun A ρ T s a b hr hR ha hb => by
  rw [Imm.eq hx ha, Imm.eq hy hb]
  exact wpAny_isNot_plain hp (PostG.mk (.refl hR) h (by simp))
noncomputable def NotNone : AV → Prop
  | .none => False
  | .val v => v ≠ .none
  | _ => True
theorem NotNone.ne {x : AV} (h : NotNone x) {ρ T : List Addr} {hp : Heap} {v : Value} (q : VR X ρ T hp x v) : (v == Value.none) = false := by
  refine beq_eq_false_iff_ne.mpr fun e => ?_
  subst e
  cases x with
  | none => exact h.elim
  | bool b => cases VR_bool.mp q
  | int b => obtain ⟨t, e⟩ := q; cases e
  | str b => obtain ⟨_, t, e⟩ := q; cases e
  | val b => exact h (VR_val.mp q).symm
  | tup b => obtain ⟨_, _, e, _⟩ := q; cases e
  | lst b => obtain ⟨_, _, e, _⟩ := q; cases e
  | dct b => obtain ⟨_, _, e, _⟩ := q; cases e
  | obj b => obtain ⟨_, e, _⟩ := q; cases e
  | hdr b => obtain ⟨_, _, _, e, _⟩ := q; cases e
  | inst b => obtain ⟨_, _, e, _⟩ := q; cases e
theorem oIsNotNone {x : AV} (hx : NotNone x) (h : K (.bool true) S) : Wp2 X n S (compareOp .IsNot) x .none K := fun A ρ T s v u hr hR hv hu => by
  rw [VR_none.mp hu]
  exact isNot_none (by rw [hx.ne hv]; exact PostG.mk (.refl hR) h (by simp))
end
end Mine
namespace Mine

section
variable {X : Cx} {n : Nat} {ae : AEnv} {S S' : List AO} {ρ T : List Addr} {s : Shared} {K : AV → List AO → Prop} {KB : Bool → List AO → Prop} {KF : AF → List AO → Prop} {KU : Unit → List AO → Prop}

/-! ## slices -/
noncomputable def WpPart (X : Cx) (n : Nat) (ae : AEnv) : Option Expr → List AO → (Option Int → List AO → Prop) → Prop
  | none, S, K => K none S
  | some e, S, K => WpE X n ae S e fun a S1 => ∃ i, a = .int i ∧ K (some i) S1
noncomputable def PartR (i : Option Int) (v : Value) : Prop := match i with
  | none => v = .none
  | some i => ∃ t, v = .int i t
theorem part_sound (e : Option Expr) {A : Around} {ρ T : List Addr} {s : Shared} {env : Env} {S : List AO} {K : Option Int → List AO → Prop} (hr : Room n A) (hR : Rep X S ρ T s) (hE : EnvOk ae ρ env) (h : WpPart X n ae e S K) :
    wpAny X.M A (evalPart e env) (PostG (fun _ _ _ => PartR) X S ρ T s K) No s := by
  cases e with
  | none => exact wpAny_pure (PostG.mk (x := none) (.refl hR) h rfl)
  | some e =>
    refine chain (h A ρ T s env hr hR hE) fun a S1 ρ1 T1 v s1 hK st hv => ?_
    obtain ⟨i, rfl, hK⟩ := hK
    exact PostG.mk (x := some i) st hK (VR_int.mp hv)

/-- a value read by a slice -/
noncomputable def WpSl (X : Cx) (n : Nat) (S : List AO) (a : AV) (lo hi : Option Int) (K : AV → List AO → Prop) : Prop :=
  ∀ A ρ T s v vl vu, Room n A → Rep X S ρ T s → VR X ρ T s.heap a v → PartR lo vl → PartR hi vu → ∀ sl, s.heap.get? sl = some { cls := .type "slice", data := .fields #[vl, vu, .none] } →
    ∃ (Ty id : String), typeLookup (.type Ty) "__getitem__" = pure (some (.builtin id)) ∧ s.TypeIs v Ty ∧ wpAny X.M A (getItem v (.ref sl)) (PostV X S ρ T s K) No s

theorem wSlice {value : Expr} {lower upper : Option Expr} {p pos : Pos} (h : WpE X n ae S value fun a S1 => WpPart X n ae lower S1 fun lo S2 => WpPart X n ae upper S2 fun hi S3 => WpSl X n S3 a lo hi K) : WpE X n ae S (.Subscript value (.Slice lower upper none p) pos) K := fun A ρ T s env hr hR hE => by
  refine Subscript_ (chain (h A ρ T s env hr hR hE) fun a S1 ρ1 T1 v s1 hK st hv => wpAny_Slice (chain (part_sound lower hr st.rep (hE.step st hR) hK) fun lo S2 ρ2 T2 vl s2 hK2 st2 hlo =>
    chain (part_sound upper hr st2.rep (hE.step (st.trans hR st2) hR) hK2) fun hi S3 ρ3 T3 vu s3 hK3 st3 hhi => wpAny_pure ?_))
  have st4 : Step X S3 ρ3 T3 s3 S3 ρ3 T3 { s3 with heap := s3.heap.push { cls := .type "slice", data := .fields #[vl, vu, .none] }, toks := s3.toks } := Step.push st3.rep _ _
  have st03 := (st.trans hR st2).trans hR st3
  have st14 := (st2.trans st.rep st3).trans st.rep st4
  have hv3 := VR.mv (st14.mv st.rep) _ hv
  obtain ⟨Ty, id, hl, hT, hg⟩ := hK3 A ρ3 T3 _ v vl vu hr st4.rep hv3 hlo hhi s3.heap.objs.size (Heap.get?_push_size _ rfl)
  exact tail_item (held := _) hl hT (by with_unfolding_all rfl) (thenG hR (st03.trans hR st4) hg)

theorem PartR.isPart {i : Option Int} {v : Value} (h : PartR i v) : IsPart v i := by
  cases i with
  | none => cases h; exact .none
  | some i => obtain ⟨t, rfl⟩ := h; exact .int ..

noncomputable def pickL (xs : List AV) (lo hi : Option Int) : List AV := (sliceRange (sliceBounds lo hi none xs.length).1 (sliceBounds lo hi none xs.length).2.1 (sliceBounds lo hi none xs.length).2.2).filterMap (xs[·]?)
theorem VRs.pick {h : Heap} {xs : List AV} {vs : List Value} (q : VRs X ρ T h xs vs) : ∀ (ix : List Nat), VRs X ρ T h (ix.filterMap (xs[·]?)) (ix.filterMap (vs[·]?))
  | [] => by simp
  | i :: ix => by
    have ih := VRs.pick q ix
    simp only [List.filterMap_cons]
    cases hx : xs[i]? with
    | none =>
      have : vs[i]? = none := by
        rw [List.getElem?_eq_none_iff] at hx ⊢
        rw [q.length]; exact hx
      rw [this]; exact ih
    | some x =>
      obtain ⟨v, hv, hq⟩ := q.get hx
      rw [hv]
      exact VRs_cons.mpr ⟨v, _, rfl, hq, ih⟩

theorem slice_listAt {A : Around} {xs : List AV} {vs : List Value} {a : Addr} {lo hi : Option Int} {vl vu : Value} (hr : Room n A) (hR : Rep X S ρ T s) (hi' : s.heap.IsList a vs.toArray) (hq : VRs X ρ T s.heap xs vs) (hl : xs.length ≤ sizeLine) (h1 : PartR lo vl) (h2 : PartR hi vu) {sl : Addr}
    (hs : s.heap.get? sl = some { cls := .type "slice", data := .fields #[vl, vu, .none] }) (h : K (.lst (pickL xs lo hi)) S) :
    ∃ (Ty id : String), typeLookup (.type Ty) "__getitem__" = pure (some (.builtin id)) ∧ s.TypeIs (.ref a) Ty ∧ wpAny X.M A (getItem (.ref a) (.ref sl)) (PostV X S ρ T s K) No s := by
  refine ⟨"list", _, slot_list_getitem.lookup, hi'.typeIs, wpAny_getItem_list_slice hi' ⟨_, hs, rfl, rfl⟩ h1.isPart h2.isPart .none (by simp) ?_ (by rw [List.size_toArray, hq.length]; exact hl)⟩
  have st2 : Step X S ρ T s S ρ T { s with heap := s.heap.push { cls := .type "list", data := .seq (slicePick vs.toArray lo hi none) }, toks := s.toks } := Step.push hR _ _
  refine PostG.mk st2 h ?_
  skip
  refine ⟨_, (slicePick vs.toArray lo hi none).toList, rfl, hR.fresh, ⟨_, Heap.get?_push_size _ rfl, rfl, _, by simp; rfl⟩, VRs.mv (st2.mv hR) _ ?_⟩
  unfold slicePick pickL
  have : vs.toArray.size = xs.length := by rw [List.size_toArray, hq.length]
  rw [this]
  have := VRs.pick hq (sliceRange (sliceBounds lo hi none xs.length).1 (sliceBounds lo hi none xs.length).2.1 (sliceBounds lo hi none xs.length).2.2)
  simpa using this
theorem slLst {xs : List AV} {lo hi : Option Int} (hl : xs.length ≤ sizeLine) (h : K (.lst (pickL xs lo hi)) S) : WpSl X n S (.lst xs) lo hi K := fun A ρ T s v vl vu hr hR hv h1 h2 sl hs => by
  skip
  obtain ⟨a, vs, rfl, ha, hi, hq⟩ := hv
  exact slice_listAt hr hR hi hq hl h1 h2 hs h
theorem slStr {x : Str} {lo hi : Option Int} (h : K (.str (Txt.slice x lo hi)) S) : WpSl X n S (.str x) lo hi K := fun A ρ T s v vl vu hr hR hv h1 h2 sl hs => by
  obtain ⟨hl, t, rfl⟩ := VR_str.mp hv
  have key : ∀ l u : Option (Int × Tok), vl = partValue l → vu = partValue u → l.map (·.1) = lo → u.map (·.1) = hi → wpAny X.M A (getItem (.str x t) (.ref sl)) (PostV X S ρ T s K) No s := by
    rintro l u rfl rfl rfl rfl
    refine wpAny_with_toks (Nat.le_refl _) (wpAny_getItem_str_slice (l := l) (u := u) (st := none) ⟨_, hs, rfl, rfl⟩ rfl
      (post_val_or_str ⟨Nat.le_trans (Txt.slice_le x _ _) hl, fun t' k => ?_⟩))
    intro hk
    exact PostG.mk (.toks hR k hk) h (VR_str.mpr ⟨Nat.le_trans (Txt.slice_le x _ _) hl, _, rfl⟩)
  refine ⟨"str", _, PySem.F.slot_str_getitem.lookup, typeIs_str _ _ _, ?_⟩
  cases lo with
  | none =>
    cases h1
    cases hi with
    | none => cases h2; exact key none none rfl rfl rfl rfl
    | some j => obtain ⟨t2, rfl⟩ := h2; exact key none (some (j, t2)) rfl rfl rfl rfl
  | some i =>
    obtain ⟨t1, rfl⟩ := h1
    cases hi with
    | none => cases h2; exact key (some (i, t1)) none rfl rfl rfl rfl
    | some j => obtain ⟨t2, rfl⟩ := h2; exact key (some (i, t1)) (some (j, t2)) rfl rfl rfl rfl

/-! ## lists added -/
/-- a list, one way or another -/
noncomputable def IsL (S : List AO) (a : AV) (xs : List AV) : Prop := a = .lst xs ∨ ∃ i, a = .obj i ∧ S[i]? = some (.lst xs)
theorem IsL.at {a : AV} {xs : List AV} (l : IsL S a xs) (hR : Rep X S ρ T s) {v : Value} (hv : VR X ρ T s.heap a v) : ∃ b vs, v = .ref b ∧ s.heap.IsList b vs.toArray ∧ VRs X ρ T s.heap xs vs := by
  rcases l with rfl | ⟨i, rfl, hS⟩
  · skip
    obtain ⟨b, vs, rfl, _, hi, hq⟩ := hv
    exact ⟨b, vs, rfl, hi, hq⟩
  · skip
    obtain ⟨b, rfl, hb⟩ := hv
    obtain ⟨vs, hi, hq⟩ := hR.obj _ _ _ hS hb
    exact ⟨b, vs, rfl, hi.isList, hq⟩
theorem IsL.o {i : Nat} {xs : List AV} (h : S[i]? = some (.lst xs)) : IsL S (.obj i) xs := .inr ⟨i, rfl, h⟩

theorem oAddL {a b : AV} {xs ys : List AV} (ha : IsL S a xs) (hb : IsL S b ys) (hl : xs.length + ys.length ≤ sizeLine) (h : K (.lst (xs ++ ys)) S) : Wp2 X n S (binaryOp .Add) a b K := fun A ρ T s v u hr hR hv hu => by
  obtain ⟨l, vs, rfl, hi, hq⟩ := ha.at hR hv
  obtain ⟨l2, ws, rfl, hi2, hq2⟩ := hb.at hR hu
  obtain ⟨⟨cls, dd, data, sl⟩, ho, hc, n1, hd⟩ := id hi
  obtain ⟨⟨cls2, dd2, data2, sl2⟩, ho2, hc2, n2, hd2⟩ := id hi2
  simp only at hc hd hc2 hd2
  subst hc hd hc2 hd2
  have e : vs.toArray ++ ws.toArray = (vs ++ ws).toArray := by simp
  refine concat_meets ⟨_, ho, rfl⟩ ⟨_, ho2, rfl⟩ noFill_list_add seq_list_add PySem.F.slot_list_add PySem.F.entry_list_add (PySem.F.args_list_add_2 _ _) (list_addW l l2 vs.toArray ws.toArray n1 n2 dd dd2 sl sl2 (by rw [List.size_toArray, List.size_toArray, hq.length, hq2.length]; exact hl)) ⟨ho, ho2, ?_⟩
  rw [e]
  have st2 : Step X S ρ T s S ρ T { s with heap := s.heap.push { cls := .type "list", data := .seq (vs ++ ws).toArray }, toks := s.toks } := Step.push hR _ _
  refine PostG.mk st2 h ?_
  skip
  exact ⟨_, vs ++ ws, rfl, hR.fresh, ⟨_, Heap.get?_push_size _ rfl, rfl, _, rfl⟩, VRs.mv (st2.mv hR) _ (VRs.app hq hq2)⟩

/-! ## dicts -/
noncomputable def IsD (S : List AO) (a : AV) (kvs : List (Str × AV)) : Prop := a = .dct kvs ∨ ∃ i, a = .obj i ∧ S[i]? = some (.dct kvs)
theorem IsD.at {a : AV} {kvs : List (Str × AV)} (l : IsD S a kvs) (hR : Rep X S ρ T s) {v : Value} (hv : VR X ρ T s.heap a v) : ∃ b vs, v = .ref b ∧ (b == sysModules) = false ∧ s.heap.DictOf (PySem.strKind X.prog X.w) b vs ∧ VRk X ρ T s.heap kvs vs := by
  rcases l with rfl | ⟨i, rfl, hS⟩
  · skip
    obtain ⟨b, vs, rfl, _, hy, hi, hq⟩ := hv
    exact ⟨b, vs, rfl, hy, hi, hq⟩
  · skip
    obtain ⟨b, rfl, hb⟩ := hv
    obtain ⟨vs, hi, hq⟩ := hR.obj _ _ _ hS hb
    exact ⟨b, vs, rfl, hR.nosys b (List.mem_of_getElem? hb), hi, hq⟩

/-- d[k] = v -/
noncomputable def WpSet (X : Cx) (n : Nat) (S : List AO) (o i v : AV) (K : Unit → List AO → Prop) : Prop :=
  ∀ A ρ T s ov iv vv, Room n A → Rep X S ρ T s → VR X ρ T s.heap o ov → VR X ρ T s.heap i iv → VR X ρ T s.heap v vv → wpAny X.M A (setItem ov iv vv) (PostU X S ρ T s K) No s
end
end Mine
namespace Mine

section
variable {X : Cx} {n : Nat} {ae : AEnv} {S S' : List AO} {ρ T : List Addr} {s : Shared} {K : AV → List AO → Prop} {KB : Bool → List AO → Prop} {KF : AF → List AO → Prop} {KU : Unit → List AO → Prop}

theorem VRs.one_inv {h : Heap} {x : AV} {vs : List Value} (q : VRs X ρ T h [x] vs) : ∃ v, vs = [v] ∧ VR X ρ T h x v := by
  obtain ⟨v, r, rfl, h1, h2⟩ := VRs_cons.mp q
  cases VRs_nil.mp h2
  exact ⟨v, rfl, h1⟩
theorem VRs.two_inv {h : Heap} {x y : AV} {vs : List Value} (q : VRs X ρ T h [x, y] vs) : ∃ v u, vs = [v, u] ∧ VR X ρ T h x v ∧ VR X ρ T h y u := by
  obtain ⟨v, r, rfl, h1, h2⟩ := VRs_cons.mp q
  obtain ⟨u, rfl, h3⟩ := h2.one_inv
  exact ⟨v, u, rfl, h1, h3⟩
theorem VRk.nil_inv {h : Heap} {ks : List (Str × Value)} (q : VRk X ρ T h [] ks) : ks = [] := by exact q

/-- a call with one argument -/
theorem call1 {f : Value} {x : AV} (h : ∀ A ρ T s v, Room n A → Rep X S ρ T s → VR X ρ T s.heap x v → wpAny X.M A (call f [v]) (PostV X S ρ T s K) No s) : WpC X n S (.val f) [x] [] K := fun A ρ T s g vs ks hr hR hg hv hk => by
  cases VR_val.mp hg
  cases hk.nil_inv
  obtain ⟨v, rfl, hq⟩ := hv.one_inv
  exact h A ρ T s v hr hR hq
theorem call2 {f : Value} {x y : AV} (h : ∀ A ρ T s v u, Room n A → Rep X S ρ T s → VR X ρ T s.heap x v → VR X ρ T s.heap y u → wpAny X.M A (call f [v, u]) (PostV X S ρ T s K) No s) : WpC X n S (.val f) [x, y] [] K := fun A ρ T s g vs ks hr hR hg hv hk => by
  cases VR_val.mp hg
  cases hk.nil_inv
  obtain ⟨v, u, rfl, hq, hu⟩ := hv.two_inv
  exact h A ρ T s v u hr hR hq hu

/-! ## strs -/
section
variable {x y : Str}
theorem kLower (hf : Builtin.Str.tooLong (Txt.lower x).length = false) (h : K (.str (Txt.lower x)) S) : WpC X n S (.val (.builtin "str.lower")) [.str x] [] K := call1 fun A ρ T s v hr hR hv => by
  obtain ⟨_, t, rfl⟩ := VR_str.mp hv
  exact SC.lower hf (PostG.mk (.toks hR _) h (VR_str.mpr ⟨fit_le hf, _, rfl⟩))
theorem kStarts (h : K (.bool (Txt.startswith x y)) S) : WpC X n S (.val (.builtin "str.startswith")) [.str x, .str y] [] K := call2 fun A ρ T s v u hr hR hv hu => by
  obtain ⟨_, t, rfl⟩ := VR_str.mp hv
  obtain ⟨_, t', rfl⟩ := VR_str.mp hu
  exact SC.startswith (PostG.mk (.refl hR) h (by simp))
theorem kEnds (h : K (.bool (Txt.endswith x y)) S) : WpC X n S (.val (.builtin "str.endswith")) [.str x, .str y] [] K := call2 fun A ρ T s v u hr hR hv hu => by
  obtain ⟨_, t, rfl⟩ := VR_str.mp hv
  obtain ⟨_, t', rfl⟩ := VR_str.mp hu
  exact SC.endswith (PostG.mk (.refl hR) h (by simp))

theorem strs_of {h : Heap} : ∀ {ts : List Str} {vs : List Value}, VRs X ρ T h (ts.map .str) vs → ∃ l : List (Str × Tok), vs = strValues l ∧ l.map (·.1) = ts
  | [], vs, q => ⟨[], by simpa [strValues] using q, rfl⟩
  | t :: ts, vs, q => by
    rw [List.map_cons] at q
    obtain ⟨v, r, rfl, h1, h2⟩ := VRs_cons.mp q
    obtain ⟨_, u, rfl⟩ := VR_str.mp h1
    obtain ⟨l, rfl, e⟩ := strs_of h2
    exact ⟨(t, u) :: l, rfl, by simp [e]⟩
theorem VRs_strs {h : Heap} : ∀ {l : List (Str × Tok)}, (∀ p ∈ l, p.1.length ≤ sizeLine) → VRs X ρ T h ((l.map (·.1)).map .str) (strValues l)
  | [], _ => by simp [strValues]
  | p :: l, hl => VRs_cons.mpr ⟨.str p.1 p.2, strValues l, rfl, VR_str.mpr ⟨hl p (.head _), _, rfl⟩, VRs_strs fun q hq => hl q (.tail _ hq)⟩

theorem kJoin {sep : Str} {a : AV} {ts : List Str} (ha : IsL S a (ts.map .str)) (hok : JoinOk sep ts = true) (h : K (.str (Txt.join sep ts)) S) : WpC X n S (.val (.builtin "str.join")) [.str sep, a] [] K := call2 fun A ρ T s v u hr hR hv hu => by
  obtain ⟨_, t, rfl⟩ := VR_str.mp hv
  obtain ⟨b, vs, rfl, hi, hq⟩ := ha.at hR hu
  obtain ⟨l, rfl, e⟩ := strs_of hq
  exact wpAny_with_toks (Nat.le_refl _) (SC.join hi e hok fun t' k hk => PostG.mk (.toks hR k hk) h (VR_str.mpr ⟨joinOk_length hok, _, rfl⟩))

theorem kSplit (hy : (y.length == 0) = false) (hn : (Builtin.Str.partsBetween x (Builtin.Str.occurrences x y 0 x.length (x.length + 1)) y.length).length ≤ sizeLine) (hp : ∀ p ∈ Txt.split x y, p.length ≤ sizeLine) (h : K (.obj S.length) (S ++ [.lst ((Txt.split x y).map .str)])) :
    WpC X n S (.val (.builtin "str.split")) [.str x, .str y] [] K := call2 fun A ρ T s v u hr hR hv hu => by
  obtain ⟨hx, t, rfl⟩ := VR_str.mp hv
  obtain ⟨_, t', rfl⟩ := VR_str.mp hu
  have fin : ∀ (l : List (Str × Tok)) (tk : Nat), l.map (·.1) = Txt.split x y → s.toks ≤ tk → PostV X S ρ T s K (.ref s.heap.objs.size) { s with heap := s.heap.push { cls := .type "list", data := .seq (strValues l).toArray }, toks := tk } := fun l tk e hk => by
    have hpu : (s.heap.push { cls := .type "list", data := .seq (strValues l).toArray }).get? s.heap.objs.size = some { cls := .type "list", data := .seq (strValues l).toArray } := Heap.get?_push_size _ rfl
    have hkp : ∀ b o, s.heap.get? b = some o → (s.heap.push { cls := .type "list", data := .seq (strValues l).toArray }).get? b = some o := fun b o e => Heap.get?_push_of_some _ e
    refine PostG.mk (Step.new (ao := .lst ((Txt.split x y).map .str)) hR hkp (newAddr _) (hR.nosysOf (Nat.le_refl _)) ⟨_, hpu⟩ ⟨strValues l, ⟨_, hpu⟩, ?_⟩ tk hk) h ?_
    · rw [← e]
      exact VRs_strs fun p hp' => hp p.1 (by rw [← e]; exact List.mem_map_of_mem hp')
    · skip
      exact ⟨_, rfl, by rw [← hR.len]; simp⟩
  cases h1 : (decide (x.length < y.length) || decide (Builtin.Str.strKind x < Builtin.Str.strKind y))
  · cases hf : (Builtin.Str.occurrences x y 0 x.length (x.length + 1)).isEmpty
    · refine call_meets PySem.F.slot_str_split (typeIs_str _ _ _) PySem.F.entry_str_split (PySem.F.args_str_split_2 _ _) (meets_str_split_sep x y t t' h1 hy hf hx hn) ?_
      show PostV X S ρ T s K _ { s with toks := _, heap := s.heap.push { cls := .type "list", data := .seq (strsFrom s.toks (Builtin.Str.partsBetween x (Builtin.Str.occurrences x y 0 x.length (x.length + 1)) y.length)).toArray } }
      rw [strsFrom_eq]
      exact fin (numbered s.toks _) _ ((numbered_texts _ _).trans ((if_neg (ne_true_of_eq_false h1)).trans (if_neg (ne_true_of_eq_false hf))).symm) (by first | exact Nat.le_refl _ | exact Nat.le_add_right _ _)
    · exact call_meets PySem.F.slot_str_split (typeIs_str _ _ _) PySem.F.entry_str_split (PySem.F.args_str_split_2 _ _) (meets_str_split_not_found x y t t' h1 hy hf)
        (fin [(x, t)] s.toks ((if_neg (ne_true_of_eq_false h1)).trans (if_pos hf)).symm (Nat.le_refl _))
  · exact call_meets PySem.F.slot_str_split (typeIs_str _ _ _) PySem.F.entry_str_split (PySem.F.args_str_split_2 _ _) (meets_str_split_cannot_occur x y t t' h1) (fin [(x, t)] s.toks (if_pos h1).symm (Nat.le_refl _))
end
end
end Mine
namespace Mine

section
variable {X : Cx} {n : Nat} {ae : AEnv} {S S' : List AO} {ρ T : List Addr} {s : Shared} {K : AV → List AO → Prop} {KB : Bool → List AO → Prop} {KF : AF → List AO → Prop} {KU : Unit → List AO → Prop}

/-- text.replace('..', '..') -/
theorem wRepl {o : Expr} {apos pos p1 p2 : Pos} {y z : Str} {k1 k2 : Nat} {pl : Env → Sem Bool} (h : WpE X n ae S o fun a S1 => ∃ x, a = .str x ∧ x.length ≤ 65535 ∧ z.length ≤ 14 ∧ (y == z) = false ∧ (Txt.replace x y z).length ≤ sizeLine ∧ K (.str (Txt.replace x y z)) S1)
    (he : ∀ env, eval (.Call (.Attribute o "replace" apos) [.Constant (.str y) k1 p1, .Constant (.str z) k2 p2] [] pos) env = (do
      let ov ← eval o env
      standAt apos.atName
      let (f, first) ← holding [ov] (getMethod ov "replace" (pl env))
      callWith pos f first (backTo pos (starEach [.Constant (.str y) k1 p1, .Constant (.str z) k2 p2] env)) (backToKw pos (keywordEach [] env))) := by intro _; rfl) :
    WpE X n ae S (.Call (.Attribute o "replace" apos) [.Constant (.str y) k1 p1, .Constant (.str z) k2 p2] [] pos) K := fun A ρ T s env hr hR hE => by
  refine methodCall_KW (pl := pl env) (chain (h A ρ T s env hr hR hE) fun a S1 ρ1 T1 v s1 hK st hv => ?_) (he env)
  obtain ⟨x, rfl, hx, hz, hyz, hlen, hK⟩ := hK
  obtain ⟨_, t, rfl⟩ := VR_str.mp hv
  refine getMethod_builtin (typeIs_str _ _ _) PySem.F.plainAttrs_str PySem.F.slot_str_replace PySem.F.type_str_replace (fun _ e => nomatch e) ?_
  refine callWith_of (P := fun _ => True) rfl (fun _ _ => ⟨.machine, .inr (.inl rfl), Looks.of_pure rfl⟩) (evalArgs_any rfl rfl ?_)
  refine Calls.spliced_cons (Calls.Constant_str (k := k1) (pos := p1) (Calls.spliced_cons (Calls.Constant_str (k := k2) (pos := p2) (Calls.spliced_nil (wpAny_pure ⟨trivial, ?_⟩)))))
  have h1 : 1 ≤ s1.toks := st.rep.toks
  refine wpAny_with_toks (n := s1.toks) (by show s1.toks ≤ s1.toks + 1 + 1; omega) (SC.replaceW (by show s1.toks ≠ 0; omega) (by show s1.toks + 1 ≠ 0; omega) (by show s1.toks ≠ s1.toks + 1; omega) hyz (by omega) hz fun t' k hk => ?_)
  exact PostG.mk (st.trans hR (.toks st.rep k hk)) hK (VR_str.mpr ⟨hlen, _, rfl⟩)

theorem gives_find4 (x y : Str) (i j : Int) (t u v w : Tok) : Gives (Builtin.«str.find» ⟨[.str x t, .str y u, .int i v, .int j w], []⟩)
    (.int (match Builtin.Str.occurrences x y (fromIndex x.length i) (min (fromIndex x.length j) x.length) 1 with | k :: _ => (k : Int) | [] => -1)) := by
  show Gives (match Builtin.Str.occurrences x y (fromIndex x.length i) (min (fromIndex x.length j) x.length) 1 with | k :: _ => retInt k | [] => (do rule "str.find.not-found"; retInt (-1))) _
  cases Builtin.Str.occurrences x y (fromIndex x.length i) (min (fromIndex x.length j) x.length) 1 with
  | nil => exact .rule (.of_eq rfl)
  | cons k _ => exact .of_eq rfl
noncomputable def find4 (x y : Str) (i j : Int) : Int := match Builtin.Str.occurrences x y (fromIndex x.length i) (min (fromIndex x.length j) x.length) 1 with | k :: _ => (k : Int) | [] => -1
theorem kFind4 {x y : Str} {i j : Int} (h : K (.int (find4 x y i j)) S) : WpC X n S (.val (.builtin "str.find")) [.str x, .str y, .int i, .int j] [] K := fun A ρ T s g vs ks hr hR hg hv hk => by
  cases VR_val.mp hg
  cases hk.nil_inv
  obtain ⟨v1, r1, rfl, h1, hv⟩ := VRs_cons.mp hv
  obtain ⟨v2, r2, rfl, h2, hv⟩ := VRs_cons.mp hv
  obtain ⟨v3, v4, rfl, h3, h4⟩ := hv.two_inv
  obtain ⟨_, t, rfl⟩ := VR_str.mp h1
  obtain ⟨_, u, rfl⟩ := VR_str.mp h2
  obtain ⟨t3, rfl⟩ := VR_int.mp h3
  obtain ⟨t4, rfl⟩ := VR_int.mp h4
  exact call_gives PySem.F.slot_str_find (typeIs_str _ _ _) PySem.F.entry_str_find (PySem.F.args_str_find_4 _ _ _ _) (gives_find4 x y i j t u t3 t4) (PostG.mk (.toks hR _) h (VR_int.mpr ⟨_, rfl⟩))

/-! ## methods of lists and dicts -/
theorem mObjL {id : String} {name : Str} {i : Nat} {xs : List AV} {KM : Value × List AV → List AO → Prop} (hS : S[i]? = some (.lst xs)) (slot : Slot "list" name id) (hty : typeOf (.builtin id) = pure (.type "method_descriptor")) (h : KM (.builtin id, [.obj i]) S) : WpM X n S name (.obj i) KM :=
  mBuiltin (fun ρ T s v hR hv => by
    skip
    obtain ⟨a, rfl, ha⟩ := hv
    obtain ⟨vs, hi, hq⟩ := hR.obj _ _ _ hS ha
    refine ⟨hi.isList.typeIs, fun b e => ?_⟩
    cases e
    obtain ⟨m, hm⟩ := hi
    exact ⟨_, hm, rfl⟩) PySem.F.plainAttrs_list slot hty h
theorem mDct {id : String} {name : Str} {a : AV} {kvs : List (Str × AV)} {KM : Value × List AV → List AO → Prop} (hd : IsD S a kvs) (slot : Slot "dict" name id) (hty : typeOf (.builtin id) = pure (.type "method_descriptor")) (h : KM (.builtin id, [a]) S) : WpM X n S name a KM :=
  mBuiltin (fun ρ T s v hR hv => by
    obtain ⟨b, vs, rfl, _, hi, hq⟩ := hd.at hR hv
    exact ⟨hi.typeIs, hi.mapOf.noDict⟩) PySem.F.plainAttrs_dict slot hty h
theorem mAppend {i : Nat} {xs : List AV} {KM : Value × List AV → List AO → Prop} (hS : S[i]? = some (.lst xs)) (h : KM (.builtin "list.append", [.obj i]) S) : WpM X n S "append" (.obj i) KM := mObjL hS PySem.slot_list_append type_list_append h

theorem kAppend {i : Nat} {xs : List AV} {y : AV} (hS : S[i]? = some (.lst xs)) (hl : xs.length ≤ sizeLine) (h : K .none (S.set i (.lst (xs ++ [y])))) : WpC X n S (.val (.builtin "list.append")) [.obj i, y] [] K := call2 fun A ρ T s v u hr hR hv hu => by
  skip
  obtain ⟨a, rfl, ha⟩ := hv
  obtain ⟨vs, hi, hq⟩ := hR.obj _ _ _ hS ha
  refine wpAny_list_append_plain hi (fun h' hl' hs => ?_) (by rw [List.size_toArray, hq.length]; exact hl)
  have mv := hR.mvSelf (List.mem_of_getElem? ha) hs.extBut
  exact PostG.mk (.upd hR hS ha (by intro q; cases q) (by intro q; cases q) hs.extBut (ao' := .lst (xs ++ [y])) ⟨vs ++ [u], by simpa using hl', VRs.app (VRs.mv mv _ hq) (VRs.one (VR.mv mv _ hu))⟩ (by obtain ⟨_, ho⟩ := hl'; exact ⟨_, ho⟩) s.toks) h (by simp)

/-! ## functions -/
theorem kLenL {a : AV} {xs : List AV} (ha : IsL S a xs) (hl : xs.length ≤ sizeLine) (h : K (.int xs.length) S) : WpC X n S (.val (.builtin "len")) [a] [] K := call1 fun A ρ T s v hr hR hv => by
  obtain ⟨b, vs, rfl, hi, hq⟩ := ha.at hR hv
  rw [sizeLine_eq] at hl
  have e : vs.toArray.size = xs.length := by rw [List.size_toArray, hq.length]
  exact Calls.call_len_list hi (by rw [e]; omega) (PostG.mk (.toks hR _) h (VR_int.mpr ⟨_, by rw [e]⟩))
theorem kIntI {i : Int} (h : K (.int i) S) : WpC X n S (.val (.type "int")) [.int i] [] K := call1 fun A ρ T s v hr hR hv => by
  obtain ⟨t, rfl⟩ := VR_int.mp hv
  exact call_int_int (PostG.mk (.refl hR) h (VR_int.mpr ⟨_, rfl⟩))
theorem kStrI {i : Int} (hi : i.natAbs.log2 < 1920) (h : K (.str (toString i)) S) : WpC X n S (.val (.type "str")) [.int i] [] K := call1 fun A ρ T s v hr hR hv => by
  obtain ⟨t, rfl⟩ := VR_int.mp hv
  exact PySem.P.str_of_int hi (PostG.mk (.toks hR _) h (VR_str.mpr ⟨int_text_fits hi, _, rfl⟩))
theorem kTypeS {x : Str} (h : K (.val (.type "str")) S) : WpC X n S (.val (.type "type")) [.str x] [] K := call1 fun A ρ T s v hr hR hv => by
  obtain ⟨_, t, rfl⟩ := VR_str.mp hv
  exact call_type_of (typeIs_str _ _ _) (by decide) (PostG.mk (.refl hR) h (by simp))
theorem kTypeL {a : AV} {xs : List AV} (ha : IsL S a xs) (h : K (.val (.type "list")) S) : WpC X n S (.val (.type "type")) [a] [] K := call1 fun A ρ T s v hr hR hv => by
  obtain ⟨b, vs, rfl, hi, hq⟩ := ha.at hR hv
  exact call_type_of hi.typeIs (by decide) (PostG.mk (.refl hR) h (by simp))

theorem ints_of {h : Heap} : ∀ {ns : List Int} {vs : List Value}, VRs X ρ T h (ns.map AV.int) vs → ∀ (j : Nat) (v : Value), vs[j]? = some v → ∃ t, v = .int (ns.getD j 0) t
  | [], vs, q, j, v, e => by cases VRs_nil.mp q; simp at e
  | i :: ns, vs, q, j, v, e => by
    rw [List.map_cons] at q
    obtain ⟨u, r, rfl, h1, h2⟩ := VRs_cons.mp q
    obtain ⟨t, rfl⟩ := VR_int.mp h1
    cases j with
    | zero => simp at e; subst e; exact ⟨t, by simp⟩
    | succ j => simp at e; obtain ⟨t', h'⟩ := ints_of h2 j v e; exact ⟨t', by simpa using h'⟩

theorem preSum_getD (ns : List Int) : ∀ k, preSum (fun j => ns.getD j 0) k = (ns.take k).sum
  | 0 => by simp [preSum]
  | k + 1 => by
    rw [preSum, preSum_getD ns k]
    rw [List.take_add_one, List.sum_append]
    cases h : ns[k]? <;> simp [List.getD_eq_getElem?_getD, h]

theorem kSum {a : AV} {ns : List Int} (ha : IsL S a (ns.map AV.int)) (h : K (.int ns.sum) S) : WpC X n S (.val (.builtin "sum")) [a] [] K := call1 fun A ρ T s v hr hR hv => by
  obtain ⟨b, vs, rfl, hi, hq⟩ := ha.at hR hv
  have hlt : b < s.heap.objs.size := by obtain ⟨o, ho, _⟩ := hi; exact Heap.lt_size ho
  have hh : A.in1.handled = none := hr.handled
  refine wpAny_with_toks (Nat.le_refl _) (call_sum_walkG (wpAny_pyIter_list hi ⟨s.heap.objs.size, _, _, _, _, _, fun j => ns.getD j 0, rfl, Walks.list hh s.heap.objs.size b (Nat.ne_of_lt hlt) vs.toArray, ⟨⟨_, Heap.get?_push_size _ rfl, rfl, rfl⟩, hi.at fun o e => Heap.get?_push_of_some _ e⟩, ?_, ?_, ?_⟩))
  · intro c hc
    rw [Heap.size_push]
    rcases List.mem_cons.mp hc with rfl | hc
    · exact Nat.lt_succ_self _
    · rw [List.mem_singleton.mp hc]; exact Nat.lt_succ_of_lt hlt
  · intro j v hv
    exact ints_of hq j v (by simpa using hv)
  · intro h' tk t' hk hn
    refine PostG.mk (.ext hR (fun c o e => hk c o (fun q => by rw [List.mem_singleton.mp q] at e; exact absurd (Heap.lt_size e) (Nat.lt_irrefl _)) (Heap.get?_push_of_some _ e)) ⟨rfl, rfl, rfl⟩ hn) h (VR_int.mpr ⟨t', ?_⟩)
    rw [preSum_getD, List.size_toArray, hq.length, List.length_map, List.take_length]
end
end Mine
namespace Mine

/-- stores of the parameters -/
noncomputable def WpBinds (X : Cx) (n : Nat) (ae : AEnv) : List (Str × AV) → List AO → (Unit → List AO → Prop) → Prop
  | [], S, K => K () S
  | (t, x) :: r, S, K => WpN X n ae S t x fun _ S1 => WpBinds X n ae r S1 K
/-- the parameters bound -/
noncomputable def Binds (X : Cx) (n : Nat) (S : List AO) (fd : FuncData) (xs : List AV) (kw : List (Str × AV)) (K : List (Str × AV) → List AO → Prop) : Prop :=
  ∀ A ρ T s vs ks, Room n A → Rep X S ρ T s → VRs X ρ T s.heap xs vs → VRk X ρ T s.heap kw ks → wpAny X.M A (bindArgs fd ⟨vs, ks⟩) (PostG (VRk X) X S ρ T s K) No s

noncomputable def fEnv (scope : Scope) (m : Nat) : AEnv := ⟨scope, m, cellsFrom (m + 1) scope.names []⟩

section
variable {X : Cx} {n : Nat} {ae : AEnv} {S S' : List AO} {ρ T : List Addr} {s : Shared} {K : AV → List AO → Prop} {KB : Bool → List AO → Prop} {KF : AF → List AO → Prop} {KU : Unit → List AO → Prop}

theorem binds_sound {f : Str × Value → PUnit → Sem (ForInStep PUnit)} {env : Env} (hf : ∀ n v u, f (n, v) u = (do storeName env n v; pure (.yield ⟨⟩))) : ∀ (bs : List (Str × AV)) {A : Around} {ρ T : List Addr} {s : Shared} {vs : List (Str × Value)} {S : List AO}, Room n A → Rep X S ρ T s → EnvOk ae ρ env → VRk X ρ T s.heap bs vs → WpBinds X n ae bs S KU →
    wpAny X.M A (forIn vs ⟨⟩ f) (PostG (fun _ _ _ (_ : Unit) (_ : PUnit) => True) X S ρ T s KU) No s
  | [], A, ρ, T, s, vs, S, hr, hR, hE, hv, h => by
    have hv := VRk_nil.mp hv; subst hv
    rw [List.forIn_nil]; exact wpAny_pure (PostG.mk (x := ()) (.refl hR) h trivial)
  | (t, x) :: r, A, ρ, T, s, vs, S, hr, hR, hE, hv, h => by
    skip
    obtain ⟨v, vs', rfl, h1, h2⟩ := hv
    rw [List.forIn_cons, hf]
    have h : WpN X n ae S t x fun _ S1 => WpBinds X n ae r S1 KU := h
    refine wpAny_bind (wpAny_bind (chain (h A ρ T s env v hr hR hE h1) fun _ S1 ρ1 T1 _ s1 hK st _ => wpAny_pure ?_))
    exact thenG hR st (binds_sound hf r hr st.rep (hE.step st hR) (VRk.mv (st.mv hR) _ h2) hK)

/-- the frame of a function -/
theorem frame_sound {scope : Scope} {bs : List (Str × AV)} {vs : List (Str × Value)} {A : Around} {qual : Str} {func : Option Addr} {code : Value} {Q : Env → Shared → Prop} {E : Value → Shared → Prop} (hk : scope.kind = .function) (hr : Room n A) (hR : Rep X S ρ T s) (hv : VRk X ρ T s.heap bs vs)
    (h : WpBinds X n (fEnv scope S.length) bs (S ++ (.ns [] :: cellAOs scope.names)) KU)
    (hQ : ∀ env S1 ρ1 T1 s1, KU () S1 → Step X S ρ T s S1 ρ1 T1 s1 → EnvOk (fEnv scope S.length) ρ1 env → Q env s1) : wpAny X.M A (newFunctionEnv scope mainGlobals [] vs qual func code none builtinsNs) Q E s := by
  simp only [newFunctionEnv, Option.isSome_none, Bool.false_eq_true, if_false]
  refine wpAny_bind (wpAny_alloc ?_)
  refine wpAny_bind (wpAny_layCells _ (fun name kind cells => by cases hkc : kind == NameKind.cell <;> simp [hkc]) _ _ _ _ ?_)
  rw [show ({ s with heap := s.heap.push { cls := .type "frame", data := .dict #[] } } : Shared).heap.objs.size = s.heap.objs.size + 1 from Heap.size_push ..]
  have p1 := Heap.Ns.new s.heap (.type "frame")
  have st1 : Step X S ρ T s (S ++ [.ns []]) (ρ ++ [s.heap.objs.size]) (T ++ [s.heap.objs.size]) { s with heap := s.heap.push { cls := .type "frame", data := .dict #[] }, toks := s.toks } :=
    Step.new (ao := .ns []) hR (fun b o e => Heap.get?_push_of_some _ e) (newAddr s.heap) (hR.nosysOf (Nat.le_refl _)) ⟨_, Heap.get?_push_size _ rfl⟩ ⟨_, p1, fun x v e => by simp at e, fun _ _ => rfl⟩ s.toks
  obtain ⟨ρ2, T2, st2, hc2⟩ := cells_step scope.names st1.rep [] [] (fun x i e => by simp at e)
  have st12 := st1.trans hR st2
  have e1 : (ρ ++ [s.heap.objs.size])[S.length]? = some s.heap.objs.size := by
    rw [← hR.len]; simp
  have hE : EnvOk (fEnv scope S.length) ρ2 (newEnv scope s.heap.objs.size mainGlobals (cellsFrom (s.heap.objs.size + 1) scope.names []) qual func code none builtinsNs) := {
    scope := rfl
    fn := hk
    loc := (st2.mv st1.rep).ids _ _ e1
    glob := rfl
    bui := rfl
    cells := fun y j ej => by
      have hl : (S ++ [AO.ns []]).length = S.length + 1 := by simp
      have e' : (cellsFrom (S ++ [AO.ns []]).length scope.names []).lookup y = some j := by rw [hl]; exact ej
      obtain ⟨c, a, b⟩ := hc2 y j e'
      refine ⟨c, ?_, b⟩
      rw [Heap.size_push] at a
      exact a }
  have h' : WpBinds X n (fEnv scope S.length) bs ((S ++ [.ns []]) ++ cellAOs scope.names) KU := by simpa [List.append_assoc] using h
  refine wpAny_bind (chain (binds_sound (env := newEnv scope s.heap.objs.size mainGlobals (cellsFrom (s.heap.objs.size + 1) scope.names []) qual func code none builtinsNs) (fun _ _ _ => rfl) bs hr st2.rep hE (VRk.mv (st12.mv hR) _ hv) h') fun _ S3 ρ3 T3 _ s3 hK3 st3 _ => wpAny_pure ?_)
  exact hQ _ S3 ρ3 T3 s3 hK3 (st12.trans hR st3) (hE.step st3 st2.rep)

noncomputable def afv : AF → AV
  | .ret v => v
  | _ => .none

/-- a call of a function of the program, as a piece of code -/
noncomputable def CdC (X : Cx) (n : Nat) (S : List AO) (a : Addr) (xs : List AV) (kw : List (Str × AV)) (K : AV → List AO → Prop) : Prop :=
  ∀ A ρ T s vs ks, Room n A → Rep X S ρ T s → VRs X ρ T s.heap xs vs → VRk X ρ T s.heap kw ks → codeAny X.M A (.call (.ref a) ⟨vs, ks⟩) (fun r s' => ∃ v, r = .ok (.ret v) ∧ PostV X S ρ T s K v s') s
theorem CdC.call {a : Addr} {xs : List AV} {kw : List (Str × AV)} (h : CdC X n S a xs kw K) : WpC X n S (.val (.ref a)) xs kw K := fun A ρ T s g vs ks hr hR hg hv hkw => by
  cases VR_val.mp hg
  refine wpAny_call (codeAny_mono (h A ρ T s vs ks hr hR hv hkw) fun r s' hq => ?_)
  obtain ⟨v, rfl, hq⟩ := hq
  exact hq
theorem cFnC {a : Addr} {oc ct dV kV doc pm cdv : Value} {od an : Option Addr} {osl : Array (Option Value)} {name qual : Str} {params : Arguments} {body : List Stmt} {scope : Scope} {xs : List AV} {kw : List (Str × AV)}
    (ho : X.K.lookup a = some ⟨oc, od, .func (fnOf name qual params body scope dV kV doc pm an cdv ct), osl⟩) (hcd : codeIn X.K cdv qual = true)
    (hb : Binds X n S (fnOf name qual params body scope dV kV doc pm an cdv ct) xs kw fun bs S1 => WpBinds X n (fEnv scope S1.length) bs (S1 ++ (.ns [] :: cellAOs scope.names)) fun _ S2 => WpSs X n (fEnv scope S1.length) S2 body fun f S3 =>
      ∀ ρ T s ρ3 T3 s3 v, Rep X S ρ T s → Step X S ρ T s S3 ρ3 T3 s3 → VR X ρ3 T3 s3.heap (afv f) v → PostV X S ρ T s K v s3)
    (hk : scope.kind = .function := by rfl) (hco : scope.isCoroutine = false := by rfl) (hgen : scope.isGenerator = false := by rfl) : CdC X (n + 1) S a xs kw K := fun A ρ T s vs ks hr hR hv hkw => by
  have hin : Room n A.in1 := hr.in1
  refine codeAny_call_function (by have := hr.depth; omega) (hR.kin a _ ho) rfl hco hgen rfl (codeRec_of hR.kin hcd) ?_
  refine chain (hb A.in1 ρ T s vs ks hin hR hv hkw) fun bs S1 ρ1 T1 bv s1 hK st hbv => ?_
  refine frame_sound (S := S1) hk hin st.rep hbv hK fun env S2 ρ2 T2 s2 hK2 st2 hE2 => ⟨st2.rep.topR.nolimit, codeAny_func ?_⟩
  have st02 := st.trans hR st2
  refine chain (hK2 (A.deeper env) ρ2 T2 s2 env hr.deeper st2.rep hE2) fun f S3 ρ3 T3 fl s3 hK3 st3 hf => ?_
  have st03 := st02.trans hR st3
  cases f with
  | next => cases hf; exact ⟨.none, rfl, hK3 ρ T s ρ3 T3 s3 .none hR st03 (by simp [afv])⟩
  | brk => cases hf; exact ⟨.none, rfl, hK3 ρ T s ρ3 T3 s3 .none hR st03 (by simp [afv])⟩
  | cont => cases hf; exact ⟨.none, rfl, hK3 ρ T s ρ3 T3 s3 .none hR st03 (by simp [afv])⟩
  | ret x => obtain ⟨v, rfl, hx⟩ := hf; exact ⟨v, rfl, hK3 ρ T s ρ3 T3 s3 v hR st03 hx⟩
end
end Mine
namespace Mine

/-! ## a function is left -/
mutual
/-- what a value is behind the function: what is kept is at ks, m were there before -/
noncomputable def Fz (S : List AO) (m : Nat) (ks : List Nat) : AV → AV → Prop
  | .tup xs, y => ∃ ys, y = .tup ys ∧ Fzs S m ks xs ys
  | .obj j, y => m ≤ j ∧ j ∉ ks ∧ ((∃ xs, S[j]? = some (.lst xs) ∧ AV.unds m xs ∧ y = .lst xs) ∨ (∃ kvs, S[j]? = some (.dct kvs) ∧ AV.undk m kvs ∧ y = .dct kvs))
  | .hdr j, y => (∃ p, ks[p]? = some j ∧ y = .hdr (m + p)) ∨ (j < m ∧ y = .hdr j)
  | x, y => x.und m ∧ y = x
noncomputable def Fzs (S : List AO) (m : Nat) (ks : List Nat) : List AV → List AV → Prop
  | [], ys => ys = []
  | x :: xs, ys => ∃ y r, ys = y :: r ∧ Fz S m ks x y ∧ Fzs S m ks xs r
end

section
variable {X : Cx} {S1 S2 S1' : List AO} {ρ1 T1 ρ2 T2 : List Addr} {s s2 : Shared} {ks : List Nat} {aos : List AO}

structure Left (X : Cx) (S1 : List AO) (ρ1 T1 : List Addr) (s : Shared) (S2 : List AO) (ρ2 T2 : List Addr) (s2 : Shared) (S1' : List AO) (ks : List Nat) (aos : List AO) (as : List Addr) : Prop where
  st : Step X S1 ρ1 T1 s (S1' ++ aos) (ρ1 ++ as) (T1 ++ as) s2
  at_ : ∀ (p k : Nat), ks[p]? = some k → ∃ a, as[p]? = some a ∧ ρ2[k]? = some a
  mem : ∀ a ∈ as, ∃ k ∈ ks, ρ2[k]? = some a
  dr : Dr S1.length ρ2 T2 s2.heap (ρ1 ++ as) (T1 ++ as) s2.heap

theorem pick_addrs (ρ2 : List Addr) : ∀ (ks : List Nat), (∀ k ∈ ks, k < ρ2.length) → ∃ as : List Addr, as.length = ks.length ∧ (∀ (p k : Nat), ks[p]? = some k → ∃ a, as[p]? = some a ∧ ρ2[k]? = some a) ∧ ∀ (p : Nat) (a : Addr), as[p]? = some a → ∃ k, ks[p]? = some k ∧ ρ2[k]? = some a
  | [], _ => ⟨[], rfl, fun p k e => by simp at e, fun p a e => by simp at e⟩
  | k :: ks, h => by
    obtain ⟨as, hl, h1, h2⟩ := pick_addrs ρ2 ks fun k hk => h k (.tail _ hk)
    have hk := h k (.head _)
    refine ⟨ρ2[k] :: as, by simp [hl], fun p k' e => ?_, fun p a e => ?_⟩
    · cases p with
      | zero => simp at e; subst e; exact ⟨ρ2[k], by simp, List.getElem?_eq_getElem hk⟩
      | succ p => simp at e; obtain ⟨a, x, y⟩ := h1 p k' e; exact ⟨a, by simpa using x, y⟩
    · cases p with
      | zero => simp at e; subst e; exact ⟨k, by simp, List.getElem?_eq_getElem hk⟩
      | succ p => simp at e; obtain ⟨k', x, y⟩ := h2 p a e; exact ⟨k', by simpa using x, y⟩

theorem left_sound (R : Rep X S1 ρ1 T1 s) (st : Step X S1 ρ1 T1 s S2 ρ2 T2 s2) (hlen : S1'.length = S1.length)
    (h1 : ∀ (i : Nat) (ao : AO), S1'[i]? = some ao → S2[i]? = some ao ∧ ao.und S1.length) (hl : aos.length = ks.length)
    (h2 : ∀ (p k : Nat), ks[p]? = some k → S1.length ≤ k ∧ ∃ ao, S2[k]? = some ao ∧ aos[p]? = some ao ∧ ao.und S1.length) (hnd : ks.Nodup) :
    ∃ as, Left X S1 ρ1 T1 s S2 ρ2 T2 s2 S1' ks aos as := by
  have hlt : ∀ k ∈ ks, k < ρ2.length := fun k hk => by
    obtain ⟨p, hp⟩ := List.getElem?_of_mem hk
    obtain ⟨_, ao, e, _⟩ := h2 p k hp
    rw [st.rep.len]; exact (List.getElem?_eq_some_iff.mp e).1
  obtain ⟨as, ha, hat, hat'⟩ := pick_addrs ρ2 ks hlt
  obtain ⟨mm, e1, e2, hm⟩ := st.more
  have hmem : ∀ a ∈ as, ∃ k ∈ ks, ρ2[k]? = some a := fun a haa => by
    obtain ⟨p, hp⟩ := List.getElem?_of_mem haa
    obtain ⟨k, x, y⟩ := hat' p a hp
    exact ⟨k, List.mem_of_getElem? x, y⟩
  have hmm : ∀ a ∈ as, a ∈ mm := fun a haa => by
    obtain ⟨k, hk, y⟩ := hmem a haa
    obtain ⟨p, hp⟩ := List.getElem?_of_mem hk
    have hge := (h2 p k hp).1
    rw [e1, List.getElem?_append_right (by rw [R.len]; exact hge)] at y
    exact List.mem_of_getElem? y
  have hT2 : ∀ a ∈ T1 ++ as, a ∈ T2 := fun a haa => by
    rw [e2]
    rcases List.mem_append.mp haa with q | q
    · exact List.mem_append_left _ q
    · exact List.mem_append_right _ (hmm a q)
  have d : Dr S1.length ρ2 T2 s2.heap (ρ1 ++ as) (T1 ++ as) s2.heap := ⟨fun b o _ e => e, hT2, fun i a hi e => by
    rw [e1, List.getElem?_append_left (by rw [R.len]; exact hi)] at e
    rw [List.getElem?_append_left (by rw [R.len]; exact hi)]; exact e⟩
  have hnda : as.Nodup := by
    rw [List.nodup_iff_pairwise_ne, List.pairwise_iff_getElem]
    intro i j hi hj hij e
    obtain ⟨ki, x1, y1⟩ := hat' i as[i] (List.getElem?_eq_getElem hi)
    obtain ⟨kj, x2, y2⟩ := hat' j as[j] (List.getElem?_eq_getElem hj)
    rw [← e] at y2
    obtain ⟨l1, z1⟩ := List.getElem?_eq_some_iff.mp y1
    obtain ⟨l2, z2⟩ := List.getElem?_eq_some_iff.mp y2
    have hk : ki = kj := (List.getElem_inj st.rep.nodup).mp (z1.trans z2.symm)
    subst hk
    obtain ⟨l3, z3⟩ := List.getElem?_eq_some_iff.mp x1
    obtain ⟨l4, z4⟩ := List.getElem?_eq_some_iff.mp x2
    have := (List.getElem_inj hnd).mp (z3.trans z4.symm)
    omega
  have hnold : ∀ a ∈ as, a ∉ T1 := fun a haa q => by
    obtain ⟨o, e⟩ := R.low a q
    rw [hm a (hmm a haa)] at e; cases e
  refine ⟨as, ⟨⟨?_, ⟨as, rfl, rfl, fun a haa => hm a (hmm a haa)⟩, st.keep, fun i e => ?_⟩, hat, hmem, d⟩⟩
  · exact {
      keep := st.rep.keep
      len := by simp [ha, hl, hlen, R.len]
      obj := fun i ao a f1 f2 => by
        by_cases hi : i < S1.length
        · rw [List.getElem?_append_left (by rw [hlen]; exact hi)] at f1
          rw [List.getElem?_append_left (by rw [R.len]; exact hi)] at f2
          obtain ⟨g1, g2⟩ := h1 i ao f1
          exact (st.rep.obj i ao a g1 ((st.mv R).ids _ _ f2)).dr d (fun o e => e) g2
        · rw [List.getElem?_append_right (by rw [hlen]; omega), hlen] at f1
          rw [List.getElem?_append_right (by rw [R.len]; omega), R.len] at f2
          obtain ⟨k, x, y⟩ := hat' _ a f2
          obtain ⟨_, ao', g1, g2, g3⟩ := h2 _ k x
          rw [f1] at g2; cases g2
          exact (st.rep.obj k ao a g1 y).dr d (fun o e => e) g3
      nodup := List.nodup_append.mpr ⟨R.nodup, hnda, fun x hx y hy e => hnold y hy (e ▸ R.sub x hx)⟩
      nosys := fun b hb => by
        rcases List.mem_append.mp hb with q | q
        · exact R.nosys b q
        · exact st.rep.nosys b (by obtain ⟨k, _, y⟩ := hmem b q; exact List.mem_of_getElem? y)
      sub := fun b hb => by
        rcases List.mem_append.mp hb with q | q
        · exact List.mem_append_left _ (R.sub b q)
        · exact List.mem_append_right _ q
      new := fun b hb => st.rep.new b (hT2 b hb)
      low := fun b hb => st.rep.low b (hT2 b hb)
      rest := st.rep.rest
      toks := st.rep.toks }
  · have h3 := st.loans i e
    have hi : i < S1.length := (List.getElem?_eq_some_iff.mp e).1
    have hi' : i < S1'.length := by rw [hlen]; exact hi
    rw [List.getElem?_append_left hi', List.getElem?_eq_getElem hi']
    have := (h1 i _ (List.getElem?_eq_getElem hi')).1
    rw [h3] at this
    exact this.symm

mutual
theorem Fz.vr {as : List Addr} (R : Rep X S1 ρ1 T1 s) (st : Step X S1 ρ1 T1 s S2 ρ2 T2 s2) (L : Left X S1 ρ1 T1 s S2 ρ2 T2 s2 S1' ks aos as) : ∀ (x : AV) {y : AV} {v : Value}, Fz S2 S1.length ks x y → VR X ρ2 T2 s2.heap x v → VR X (ρ1 ++ as) (T1 ++ as) s2.heap y v
  | .none, _, _, f, q => by obtain ⟨b, rfl⟩ := f; exact VR.dr L.dr _ b q
  | .bool _, _, _, f, q => by obtain ⟨b, rfl⟩ := f; exact VR.dr L.dr _ b q
  | .int _, _, _, f, q => by obtain ⟨b, rfl⟩ := f; exact VR.dr L.dr _ b q
  | .str _, _, _, f, q => by obtain ⟨b, rfl⟩ := f; exact VR.dr L.dr _ b q
  | .val _, _, _, f, q => by obtain ⟨b, rfl⟩ := f; exact VR.dr L.dr _ b q
  | .lst _, _, _, f, q => by obtain ⟨b, rfl⟩ := f; exact VR.dr L.dr _ b q
  | .inst _, _, _, f, q => by obtain ⟨b, rfl⟩ := f; exact VR.dr L.dr _ b q
  | .dct _, _, _, f, q => by obtain ⟨b, rfl⟩ := f; exact VR.dr L.dr _ b q
  | .tup xs, _, _, f, q => by
    skip
    obtain ⟨ys, rfl, fs⟩ := f
    skip
    obtain ⟨a, vs, rfl, ha, ht, hv⟩ := q
    exact ⟨a, vs, rfl, fun z => ha (L.dr.trk a z), ht, Fzs.vr R st L xs fs hv⟩
  | .obj j, _, _, f, q => by
    skip
    skip
    obtain ⟨a, rfl, ha⟩ := q
    obtain ⟨hj, hjk, f⟩ := f
    obtain ⟨mm, e1, e2, hm⟩ := st.more
    have ham : a ∈ mm := by
      rw [e1, List.getElem?_append_right (by rw [R.len]; exact hj)] at ha
      exact List.mem_of_getElem? ha
    have haT : a ∉ T1 ++ as := fun z => by
      rcases List.mem_append.mp z with z | z
      · obtain ⟨o, e⟩ := R.low a z; rw [hm a ham] at e; cases e
      · obtain ⟨k, hk, y⟩ := L.mem a z
        obtain ⟨l1, z1⟩ := List.getElem?_eq_some_iff.mp ha
        obtain ⟨l2, z2⟩ := List.getElem?_eq_some_iff.mp y
        have : j = k := (List.getElem_inj st.rep.nodup).mp (z1.trans z2.symm)
        exact hjk (this ▸ hk)
    rcases f with ⟨xs, h1, h2, rfl⟩ | ⟨kvs, h1, h2, rfl⟩
    · obtain ⟨vs, hi, hq⟩ := st.rep.obj _ _ _ h1 ha
      skip
      exact ⟨a, vs, rfl, haT, hi.isList, VRs.dr L.dr xs h2 hq⟩
    · obtain ⟨vs, hi, hq⟩ := st.rep.obj _ _ _ h1 ha
      skip
      exact ⟨a, vs, rfl, haT, st.rep.nosys a (List.mem_of_getElem? ha), hi, VRk.dr L.dr kvs h2 hq⟩
  | .hdr j, _, _, f, q => by
    skip
    skip
    obtain ⟨x, dx, l, rfl, hx, hd, e, hh⟩ := q
    rcases f with ⟨p, hp, rfl⟩ | ⟨hj, rfl⟩
    · obtain ⟨a, h1, h2⟩ := L.at_ p j hp
      rw [e] at h2; cases h2
      skip
      exact ⟨x, dx, l, rfl, fun z => hx (L.dr.trk _ z), fun z => hd (L.dr.trk _ z), by rw [List.getElem?_append_right (by rw [R.len]; omega), R.len]; simpa using h1, hh⟩
    · skip
      exact ⟨x, dx, l, rfl, fun z => hx (L.dr.trk _ z), fun z => hd (L.dr.trk _ z), L.dr.ids _ _ hj e, hh⟩
theorem Fzs.vr {as : List Addr} (R : Rep X S1 ρ1 T1 s) (st : Step X S1 ρ1 T1 s S2 ρ2 T2 s2) (L : Left X S1 ρ1 T1 s S2 ρ2 T2 s2 S1' ks aos as) : ∀ (xs : List AV) {ys : List AV} {vs : List Value}, Fzs S2 S1.length ks xs ys → VRs X ρ2 T2 s2.heap xs vs → VRs X (ρ1 ++ as) (T1 ++ as) s2.heap ys vs
  | [], _, _, f, q => by simp only [Fzs] at f; subst f; simpa using q
  | x :: xs, _, _, f, q => by
    simp only [Fzs] at f
    obtain ⟨y, r, rfl, f1, f2⟩ := f
    obtain ⟨v, vr, rfl, q1, q2⟩ := VRs_cons.mp q
    exact VRs_cons.mpr ⟨v, vr, rfl, Fz.vr R st L x f1 q1, Fzs.vr R st L xs f2 q2⟩
end

/-- the end of a function: what stood stands as S1', aos are kept, x is handed out as y -/
noncomputable def Leave (S1 : List AO) (K : AV → List AO → Prop) (x : AV) (S2 : List AO) : Prop :=
  ∃ S1' ks aos y, S1'.length = S1.length ∧ (∀ (i : Nat) (ao : AO), S1'[i]? = some ao → S2[i]? = some ao ∧ ao.und S1.length) ∧ aos.length = ks.length ∧
    (∀ (p k : Nat), ks[p]? = some k → S1.length ≤ k ∧ ∃ ao, S2[k]? = some ao ∧ aos[p]? = some ao ∧ ao.und S1.length) ∧ ks.Nodup ∧ Fz S2 S1.length ks x y ∧ K y (S1' ++ aos)
theorem Leave.post {K : AV → List AO → Prop} {x : AV} {v : Value} (h : Leave S1 K x S2) (R : Rep X S1 ρ1 T1 s) (st : Step X S1 ρ1 T1 s S2 ρ2 T2 s2) (q : VR X ρ2 T2 s2.heap x v) : PostV X S1 ρ1 T1 s K v s2 := by
  obtain ⟨S1', ks, aos, y, hlen, h1, hl, h2, hnd, hf, hK⟩ := h
  obtain ⟨as, L⟩ := left_sound R st hlen h1 hl h2 hnd
  exact PostG.mk L.st hK (hf.vr R st L x q)
end
end Mine
namespace Mine

mutual
noncomputable def AV.sh (k : Nat) : AV → AV
  | .none => .none
  | .bool b => .bool b
  | .int i => .int i
  | .str x => .str x
  | .val v => .val v
  | .tup xs => .tup (AV.shs k xs)
  | .lst xs => .lst (AV.shs k xs)
  | .dct kvs => .dct (AV.shk k kvs)
  | .obj i => .obj (k + i)
  | .hdr i => .hdr (k + i)
  | .inst i => .inst (k + i)
noncomputable def AV.shs (k : Nat) : List AV → List AV
  | [] => []
  | x :: xs => AV.sh k x :: AV.shs k xs
noncomputable def AV.shk (k : Nat) : List (Str × AV) → List (Str × AV)
  | [] => []
  | (y, x) :: xs => (y, AV.sh k x) :: AV.shk k xs
end
mutual
theorem AV.sh_und (k : Nat) : ∀ (x : AV), x.und 0 → x.sh k = x
  | .none, _ => rfl
  | .bool _, _ => rfl
  | .int _, _ => rfl
  | .str _, _ => rfl
  | .val _, _ => rfl
  | .tup xs, h => by simp only [AV.und] at h; simp only [AV.sh]; rw [AV.shs_und k xs h]
  | .lst xs, h => by simp only [AV.und] at h; simp only [AV.sh]; rw [AV.shs_und k xs h]
  | .dct xs, h => by simp only [AV.und] at h; simp only [AV.sh]; rw [AV.shk_und k xs h]
  | .obj i, h => by simp [AV.und] at h
  | .hdr i, h => by simp [AV.und] at h
  | .inst i, h => by simp [AV.und] at h
theorem AV.shs_und (k : Nat) : ∀ (xs : List AV), AV.unds 0 xs → AV.shs k xs = xs
  | [], _ => by simp [AV.shs]
  | x :: xs, h => by simp only [AV.unds] at h; simp only [AV.shs]; rw [AV.sh_und k x h.1, AV.shs_und k xs h.2]
theorem AV.shk_und (k : Nat) : ∀ (xs : List (Str × AV)), AV.undk 0 xs → AV.shk k xs = xs
  | [], _ => by simp [AV.shk]
  | (y, x) :: xs, h => by simp only [AV.undk] at h; simp only [AV.shk]; rw [AV.sh_und k x h.1, AV.shk_und k xs h.2]
end

section
variable {X : Cx} {n : Nat} {S : List AO} {ρ T ρ2 : List Addr} {s : Shared} {h : Heap} {k : Nat} {K : AV → List AO → Prop}
mutual
theorem VR.sh (hρ : ∀ (i : Nat) (a : Addr), ρ[i]? = some a → ρ2[k + i]? = some a) : ∀ (x : AV) {v : Value}, VR X ρ T h x v → VR X ρ2 T h (x.sh k) v
  | .none, _, q => q
  | .bool _, _, q => q
  | .int _, _, q => q
  | .str _, _, q => q
  | .val _, _, q => q
  | .tup xs, _, q => by
    skip
    obtain ⟨a, vs, rfl, ha, ht, hv⟩ := q
    exact ⟨a, vs, rfl, ha, ht, VRs.sh hρ xs hv⟩
  | .lst xs, _, q => by
    skip
    obtain ⟨a, vs, rfl, ha, ht, hv⟩ := q
    exact ⟨a, vs, rfl, ha, ht, VRs.sh hρ xs hv⟩
  | .dct xs, _, q => by
    skip
    obtain ⟨a, vs, rfl, ha, hy, ht, hv⟩ := q
    exact ⟨a, vs, rfl, ha, hy, ht, VRk.sh hρ xs hv⟩
  | .obj i, _, q => by
    skip
    obtain ⟨a, rfl, e⟩ := q
    exact ⟨a, rfl, hρ _ _ e⟩
  | .hdr i, _, q => by
    skip
    obtain ⟨x, dx, l, rfl, hx, hd, e, r⟩ := q
    exact ⟨x, dx, l, rfl, hx, hd, hρ _ _ e, r⟩
  | .inst i, _, q => by
    skip
    obtain ⟨x, dx, rfl, hx, e, r⟩ := q
    exact ⟨x, dx, rfl, hx, hρ _ _ e, r⟩
theorem VRs.sh (hρ : ∀ (i : Nat) (a : Addr), ρ[i]? = some a → ρ2[k + i]? = some a) : ∀ (xs : List AV) {vs : List Value}, VRs X ρ T h xs vs → VRs X ρ2 T h (AV.shs k xs) vs
  | [], _, q => q
  | x :: xs, _, q => by
    skip
    obtain ⟨v, r, rfl, h1, h2⟩ := q
    exact ⟨v, r, rfl, VR.sh hρ x h1, VRs.sh hρ xs h2⟩
theorem VRk.sh (hρ : ∀ (i : Nat) (a : Addr), ρ[i]? = some a → ρ2[k + i]? = some a) : ∀ (xs : List (Str × AV)) {vs : List (Str × Value)}, VRk X ρ T h xs vs → VRk X ρ2 T h (AV.shk k xs) vs
  | [], _, q => q
  | (y, x) :: xs, _, q => by
    skip
    obtain ⟨v, r, rfl, h1, h2⟩ := q
    exact ⟨v, r, rfl, VR.sh hρ x h1, VRk.sh hρ xs h2⟩
end

theorem Dr.zero {ρ' : List Addr} : Dr 0 ρ T h ρ' T h := ⟨fun _ _ _ e => e, fun _ x => x, fun i a hi _ => absurd hi (Nat.not_lt_zero _)⟩

/-- a call that touches nothing of what is tracked -/
theorem frm0 {g : Value} {xs : List AV} {kw : List (Str × AV)} {K0 : AV → List AO → Prop} (hx : AV.unds 0 xs) (hk : AV.undk 0 kw) (h : WpC X n [] (.val g) xs kw K0) (hK : ∀ x aos, K0 x aos → (∀ ao ∈ aos, ao.und 0) ∧ K (x.sh S.length) (S ++ aos)) :
    WpC X n S (.val g) xs kw K := fun A ρ T s f vs ks hr R hf hv hks => by
  have R0 : Rep X [] [] T s := {
    keep := R.keep
    len := rfl
    obj := fun i ao a e _ => by simp at e
    nodup := .nil
    nosys := fun _ h => nomatch h
    sub := fun _ h => nomatch h
    new := R.new
    low := R.low
    rest := R.rest
    toks := R.toks }
  refine wpAny_mono (h A [] T s f vs ks hr R0 (by simpa using hf) (VRs.dr .zero xs hx hv) (VRk.dr .zero kw hk hks)) ?_ fun _ _ f => f
  rintro v s' ⟨x, aos, ρ', T', hK0, st, hv'⟩
  obtain ⟨hu, hK'⟩ := hK x aos hK0
  obtain ⟨m, e1, e2, hm⟩ := st.more
  rw [List.nil_append] at e1
  subst e1
  have hkp : ∀ b o, s.heap.get? b = some o → s'.heap.get? b = some o := fun b o e => st.keep b o (fun ⟨i, ao, f1, _⟩ => by simp at f1) e
  have hmT : ∀ a ∈ ρ', a ∉ T := fun a ha q => by obtain ⟨o, e⟩ := R.low a q; rw [hm a ha] at e; cases e
  refine PostG.mk (ρ' := ρ ++ ρ') (T' := T') ?_ hK' (VR.sh (fun i a e => ?_) x hv')
  · refine ⟨?_, ⟨ρ', rfl, e2, hm⟩, fun b o _ e => hkp b o e, fun i e => by rw [List.getElem?_append_left (List.getElem?_eq_some_iff.mp e).1]; exact e⟩
    exact {
      keep := st.rep.keep
      len := by simp [R.len, st.rep.len]
      obj := fun i ao a f1 f2 => by
        by_cases hi : i < S.length
        · rw [List.getElem?_append_left hi] at f1
          rw [List.getElem?_append_left (by rw [R.len]; exact hi)] at f2
          refine (R.obj i ao a f1 f2).mv ⟨fun b o _ e => hkp b o e, fun b hb => ?_, fun j b e => by rw [List.getElem?_append_left (List.getElem?_eq_some_iff.mp e).1]; exact e⟩ fun o e => hkp a o e
          rw [e2] at hb
          exact (List.mem_append.mp hb).imp id fun q => hm b q
        · rw [List.getElem?_append_right (by omega)] at f1
          rw [List.getElem?_append_right (by rw [R.len]; omega), R.len] at f2
          exact (st.rep.obj _ ao a f1 f2).dr .zero (fun o e => e) (hu ao (List.mem_of_getElem? f1))
      nodup := List.nodup_append.mpr ⟨R.nodup, st.rep.nodup, fun x hx y hy e => hmT y hy (e ▸ R.sub x hx)⟩
      nosys := fun b hb => by
        rcases List.mem_append.mp hb with q | q
        · exact R.nosys b q
        · exact st.rep.nosys b q
      sub := fun b hb => by
        rcases List.mem_append.mp hb with q | q
        · rw [e2]; exact List.mem_append_left _ (R.sub b q)
        · exact st.rep.sub b q
      new := st.rep.new
      low := st.rep.low
      rest := st.rep.rest
      toks := st.rep.toks }
  · rw [← R.len, List.getElem?_append_right (by omega)]
    simpa using e

/-- the arguments with the tracked object i named 0 -/
noncomputable def Sels (i : Nat) : List AV → List AV → Prop
  | [], ys => ys = []
  | x :: xs, ys => ∃ y r, ys = y :: r ∧ ((x = .hdr 0 ∧ y = .hdr i) ∨ (x.und 0 ∧ y = x)) ∧ Sels i xs r
theorem Sels.vr {i : Nat} {a : Addr} (ha : ρ[i]? = some a) : ∀ {xs ys : List AV} {vs : List Value}, Sels i xs ys → VRs X ρ T h ys vs → VRs X [a] T h xs vs
  | [], _, _, q, e => by simp only [Sels] at q; subst q; simpa using e
  | x :: xs, _, _, q, e => by
    simp only [Sels] at q
    obtain ⟨y, r, rfl, q1, q2⟩ := q
    obtain ⟨v, vr, rfl, e1, e2⟩ := VRs_cons.mp e
    refine VRs_cons.mpr ⟨v, vr, rfl, ?_, Sels.vr ha q2 e2⟩
    rcases q1 with ⟨rfl, rfl⟩ | ⟨b, rfl⟩
    · skip
      obtain ⟨z, dx, l, rfl, hx, hd, e, r⟩ := e1
      rw [ha] at e; cases e
      exact ⟨z, dx, a, rfl, hx, hd, rfl, r⟩
    · exact VR.dr .zero _ b e1

/-- a call that touches one of the tracked objects -/
theorem frm1 {g : Value} {i : Nat} {ao : AO} {xs ys : List AV} {kw : List (Str × AV)} {K0 : AV → List AO → Prop} (hS : S[i]? = some ao) (hn : ao ≠ .loan) (hao : ao.und 0) (hsel : Sels i xs ys) (hk : AV.undk 0 kw) (h : WpC X n [ao] (.val g) xs kw K0)
    (hK : ∀ x aos, K0 x aos → ∃ ao', aos = [ao'] ∧ ao' ≠ .loan ∧ ao'.und 0 ∧ x.und 0 ∧ K x (S.set i ao')) : WpC X n S (.val g) ys kw K := fun A ρ T s f vs ks hr R hf hv hks => by
  have hi : i < S.length := (List.getElem?_eq_some_iff.mp hS).1
  obtain ⟨a, ha⟩ : ∃ a, ρ[i]? = some a := ⟨_, List.getElem?_eq_getElem (by rw [R.len]; exact hi)⟩
  have haT : a ∈ T := R.sub a (List.mem_of_getElem? ha)
  have R0 : Rep X [ao] [a] T s := {
    keep := R.keep
    len := rfl
    obj := fun j oj b e1 e2 => by
      cases j with
      | zero => simp at e1 e2; subst e1; subst e2; exact (R.obj i _ _ hS ha).dr .zero (fun o e => e) hao
      | succ j => simp at e1
    nodup := by simp
    nosys := fun b hb => by rw [List.mem_singleton.mp hb]; exact R.nosys a (List.mem_of_getElem? ha)
    sub := fun b hb => by rw [List.mem_singleton.mp hb]; exact haT
    new := R.new
    low := R.low
    rest := R.rest
    toks := R.toks }
  refine wpAny_mono (h A [a] T s f vs ks hr R0 (by simpa using hf) (hsel.vr ha hv) (VRk.dr .zero kw hk hks)) ?_ fun _ _ f => f
  rintro v s' ⟨x, aos, ρ', T', hK0, st, hv'⟩
  obtain ⟨ao', rfl, hn', hao', hx, hK'⟩ := hK x aos hK0
  obtain ⟨m, e1, e2, hm⟩ := st.more
  have hm0 : m = [] := by
    have := st.rep.len
    rw [e1] at this; simpa using this
  subst hm0
  simp only [List.append_nil] at e1 e2
  subst e1 e2
  have hkp : ∀ b o, b ≠ a → s.heap.get? b = some o → s'.heap.get? b = some o := fun b o hb e => st.keep b o (fun ⟨j, oj, f1, f2, _⟩ => by
    cases j with
    | zero => simp at f1; exact hb f1.symm
    | succ j => simp at f1) e
  have mv : Mv ρ T' s.heap ρ T' s'.heap := ⟨fun b o hb e => hkp b o (fun q => hb (q ▸ haT)) e, fun b hb => .inl hb, fun _ _ e => e⟩
  refine PostG.mk (ρ' := ρ) (T' := T') ?_ hK' (VR.dr .zero x hx hv')
  refine ⟨?_, ⟨[], by simp, by simp, fun _ h => nomatch h⟩, fun b o hb e => hkp b o (fun q => hb ⟨i, ao, q ▸ ha, hS, hn⟩) e, fun j e => ?_⟩
  · exact {
      keep := st.rep.keep
      len := by simpa using R.len
      obj := fun j oj b f1 f2 => by
        by_cases hij : i = j
        · subst hij
          rw [List.getElem?_set_self hi] at f1
          rw [ha] at f2
          cases f1; cases f2
          exact (st.rep.obj 0 ao' a rfl rfl).dr .zero (fun o e => e) hao'
        · rw [List.getElem?_set_ne hij] at f1
          have hb : b ≠ a := fun q => by
            subst q
            obtain ⟨l1, z1⟩ := List.getElem?_eq_some_iff.mp ha
            obtain ⟨l2, z2⟩ := List.getElem?_eq_some_iff.mp f2
            exact hij ((List.getElem_inj R.nodup).mp (z1.trans z2.symm))
          exact (R.obj j oj b f1 f2).mv mv fun o e => hkp b o hb e
      nodup := R.nodup
      nosys := R.nosys
      sub := R.sub
      new := R.new
      low := st.rep.low
      rest := st.rep.rest
      toks := st.rep.toks }
  · by_cases hij : i = j
    · subst hij; rw [hS] at e; exact absurd (Option.some.inj e) hn
    · rw [List.getElem?_set_ne hij]; exact e
end
end Mine
namespace Mine

theorem noneAt (h : Heap) {a : Addr} (ha : h.objs.size ≤ a) : h.get? a = none := by
  cases e : h.get? a with
  | none => rfl
  | some o => exact absurd (Heap.lt_size e) (Nat.not_lt.mpr ha)

section
variable {X : Cx} {n : Nat} {ae : AEnv} {S S' : List AO} {ρ T : List Addr} {s : Shared} {target : Expr} {K : AV → List AO → Prop} {KB : Bool → List AO → Prop} {KF : AF → List AO → Prop} {KU : Unit → List AO → Prop}

/-- a call whose value is iterated at once -/
noncomputable def RawI (X : Cx) (n : Nat) (S : List AO) (target : Expr) (fv : Value) (as : List AV) (K : List AV → Option Nat → List AO → Prop) : Prop :=
  ∀ (A : Around) (ρ T : List Addr) (s : Shared) (vs : List Value) (Q E E' : Value → Shared → Prop), Room n A → Rep X S ρ T s → VRs X ρ T s.heap as vs →
    (∀ items, K items none S → ∀ (I : Addr) (fp wr : List Addr) (P Md : Nat → Value → Heap → Prop) (St : Nat → Heap → Prop) (h' : Heap) (tk : Nat), SrcAt X A S none ρ T s target items I fp wr P Md St h' tk → Q (.ref I) { s with heap := h', toks := tk }) →
    wpAny X.M A (call fv vs) (fun v s' => wpAny X.M A (pyIter v) Q E s') E' s

theorem iCallN {x : Str} {p pos : Pos} {args : List Expr} {KI : List AV → Option Nat → List AO → Prop} (h : WpE X n ae S (.Name x p) fun f S1 => ∃ fv, f = .val fv ∧ Callee X fv ∧ WpArgs X n ae args S1 fun as S2 => RawI X n S2 target fv as KI)
    (hn : args.all NoStar = true := by rfl) : WpI X n ae S target (.Call (.Name x p) args [] pos) KI := fun A ρ T s env Q E E' hr hR hE hQ => by
  rw [arm_eval_Call_Name']
  refine wpAny_bind (chain (h A ρ T s env hr hR hE) fun f S1 ρ1 T1 v s1 hK st hv => ?_)
  obtain ⟨fv, rfl, hc, hK⟩ := hK
  cases VR_val.mp hv
  refine callWith_of (P := X.K.In) (by rw [backTo_star args env pos hn]; rfl) hc (evalArgs_any (backTo_star args env pos hn) rfl ?_)
  refine chain (args_sound args (pos := pos) hn hr st.rep (hE.step st hR) hK) fun as S2 ρ2 T2 vs s2 hK2 st2 hvs => ?_
  refine wpAny_pure ⟨st2.rep.kin, ?_⟩
  have := hK2 A ρ2 T2 s2 vs Q E E' hr st2.rep hvs fun items hi I fp wr P Md St h' tk W => hQ items none S2 ρ2 T2 s2 hi (st.trans hR st2) I fp wr P Md St h' tk W
  simpa using this

theorem range_src {A : Around} {a b : Int} {x : Str} {p : Pos} (hr : Room n A) (hR : Rep X S ρ T s) {t u v : Tok} (ha : -(2 ^ 62) ≤ a) (ha' : a < 2 ^ 62) (hb : -(2 ^ 62) ≤ b) (hb' : b < 2 ^ 62) {tk : Nat} (htk : s.toks ≤ tk) {Q E : Value → Shared → Prop}
    (hQ : ∀ (I : Addr) (fp wr : List Addr) (P Md : Nat → Value → Heap → Prop) (St : Nat → Heap → Prop) (h' : Heap) (tk : Nat), SrcAt X A S none ρ T s (.Name x p) ((List.range (b - a).toNat).map fun (i : Nat) => AV.int (a + i)) I fp wr P Md St h' tk → Q (.ref I) { s with heap := h', toks := tk }) :
    wpAny X.M A (pyIter (.ref s.heap.objs.size)) Q E { s with heap := s.heap.push { cls := .type "range", data := .fields #[.int a t, .int b u, .int 1 v] }, toks := tk } := by
  refine wpAny_pyIter_range (IsRange.new s.heap a b 1 t u v) (small_one ha ha' hb hb') ?_
  have hsz : (s.heap.push { cls := .type "range", data := .fields #[.int a t, .int b u, .int 1 v] }).objs.size = s.heap.objs.size + 1 := Heap.size_push ..
  show Q (.ref (s.heap.push _).objs.size) _
  rw [hsz]
  have hrs : Builtin.Range.rangeSize a b 1 = ((b - a).toNat : Int) := by rw [rangeSize_one]; split <;> omega
  have hlen : ((List.range (b - a).toNat).map fun (i : Nat) => AV.int (a + i)).length = (b - a).toNat := by simp
  have hI : ∀ (h : Heap) (o : Obj), o.isFreed = false → (h.push o).get? h.objs.size = some o := fun h o ho => Heap.get?_push_size _ ho
  refine hQ (s.heap.objs.size + 1) _ _ _ _ _ _ tk { hk := fun b o e => Heap.get?_push_of_some _ (Heap.get?_push_of_some _ e), turns := KTn hlen <| KTurns.ofWalks (Walks.range hr.handled (s.heap.objs.size + 1) a 1 (b - a).toNat) fun i v s Q E st q => wpAny_pure q, st := ?_, time := htk, new := ?_, foot := ?_, ex := ?_, item := ?_, self := ?_ }
  · have := hI (s.heap.push { cls := .type "range", data := .fields #[.int a t, .int b u, .int 1 v] }) { cls := .type "range_iterator", data := .fields #[rawInt a, rawInt (Builtin.Range.rangeSize a b 1), rawInt 1] } rfl
    rw [hsz, hrs] at this
    show IsRangeIter _ _ (a + ((0 : Nat) : Int) * 1) (((b - a).toNat : Int) - ((0 : Nat) : Int)) 1
    rw [hrs]
    have e1 : a + ((0 : Nat) : Int) * 1 = a := by omega
    have e2 : (((b - a).toNat : Int) - ((0 : Nat) : Int)) = ((b - a).toNat : Int) := by omega
    rw [e1, e2]
    exact this
  · intro c hc; rw [List.mem_singleton.mp hc]; exact noneAt _ (Nat.le_succ _)
  · intro c hc; exact .inl hc
  · intro i h st c hc
    rw [List.mem_singleton.mp hc]; exact ⟨_, st⟩
  · intro j it v h ρ' T' hj hp mv _
    obtain ⟨t, rfl⟩ := hp
    have : it = .int (a + (j : Nat) * 1) := by
      rw [List.getElem?_map] at hj
      cases hq : (List.range (b - a).toNat)[j]? with
      | none => rw [hq] at hj; simp at hj
      | some i =>
        rw [hq] at hj
        have hi : i = j := by
          have := (List.getElem?_eq_some_iff.mp hq).2
          simpa using this.symm
        subst hi
        simp at hj; rw [← hj]; simp
    subst this
    show VR X ρ' T' h (.int _) _
    exact VR_int.mpr ⟨t, rfl⟩
  · intro s' Q' E' st q
    exact (Walks.range (prog := X.prog) (w := X.w) hr.handled (s.heap.objs.size + 1) a 1 (b - a).toNat).self 0 s' Q' E' st q

theorem rRange1 {x : Str} {p : Pos} {N : Int} {KI : List AV → Option Nat → List AO → Prop} (h0 : -(2 ^ 62) ≤ N) (h1 : N < 2 ^ 62) (h : KI ((List.range N.toNat).map fun (i : Nat) => .int i) none S) : RawI X n S (.Name x p) (.type "range") [.int N] KI := fun A ρ T s vs Q E E' hr hR hv hQ => by
  obtain ⟨v, rfl, hq⟩ := hv.one_inv
  obtain ⟨t, rfl⟩ := VR_int.mp hq
  refine call_range_1 (range_src (x := x) (p := p) hr hR (by decide) (by decide) h0 h1 (by omega) fun I fp wr P Md St h' tk W => ?_)
  have e : (N - 0).toNat = N.toNat := by omega
  rw [e] at W
  have e2 : ((List.range N.toNat).map fun (i : Nat) => AV.int (0 + i)) = (List.range N.toNat).map fun (i : Nat) => AV.int i := List.map_congr_left fun i _ => by rw [Int.zero_add]
  rw [e2] at W
  exact hQ _ h I fp wr P Md St h' tk W
theorem rRange2 {x : Str} {p : Pos} {a b : Int} {KI : List AV → Option Nat → List AO → Prop} (ha : -(2 ^ 62) ≤ a) (ha' : a < 2 ^ 62) (hb : -(2 ^ 62) ≤ b) (hb' : b < 2 ^ 62) (h : KI ((List.range (b - a).toNat).map fun (i : Nat) => .int (a + i)) none S) : RawI X n S (.Name x p) (.type "range") [.int a, .int b] KI := fun A ρ T s vs Q E E' hr hR hv hQ => by
  obtain ⟨v, u, rfl, hq, hu⟩ := hv.two_inv
  obtain ⟨t, rfl⟩ := VR_int.mp hq
  obtain ⟨t', rfl⟩ := VR_int.mp hu
  exact call_range_2 (range_src (x := x) (p := p) hr hR ha ha' hb hb' (by omega) fun I fp wr P Md St h' tk W => hQ _ h I fp wr P Md St h' tk W)

end
end Mine
namespace Mine

section
variable {X : Cx} {n : Nat} {ae : AEnv} {S S' : List AO} {ρ T : List Addr} {s : Shared} {K : AV → List AO → Prop} {KB : Bool → List AO → Prop} {KF : AF → List AO → Prop} {KU : Unit → List AO → Prop}

theorem lookIn_ns {h : Heap} {a : Addr} {m : Str → Option Value} (hn : h.Ns a m) : ∃ o, h.get? a = some o ∧ ∀ name, lookIn name o = some (m name) := by
  obtain ⟨o, es, ep, ho, hd, hk, hf⟩ := hn
  refine ⟨o, ho, fun name => ?_⟩
  unfold lookIn
  rw [hd]
  dsimp only
  have h1 := hf name
  unfold nsFind findBy at h1
  rw [← Array.find?_toList] at h1
  cases h2 : es.toList.find? (·.key.isStr name) with
  | some e => rw [h2] at h1; dsimp only; rw [← h1]; rfl
  | none =>
    rw [h2] at h1
    have h3 : es.toList.any (·.refKey) = false := by
      rw [List.any_eq_false]
      intro e he
      obtain ⟨k, t, hkk⟩ := hk e (Array.mem_toList_iff.mp he)
      unfold DictEntry.refKey
      rw [hkk]
      exact Bool.false_ne_true
    dsimp only
    rw [h3, ← h1]; rfl

/-- an object of an own class, with what stands in its dict -/
theorem inst_at {x dx : Addr} {h : Heap} {C : Addr} {m : Str → Option Value} (hx : h.get? x = some (instObj C dx)) (hn : h.Ns dx m) : ∃ od, InstAt h x (instObj C dx) C (some od) ∧ ∀ name, lookIn name od = some (m name) := by
  obtain ⟨o, ho, hl⟩ := lookIn_ns hn
  exact ⟨o, ⟨hx, rfl, rfl, ho⟩, hl⟩

noncomputable def hName : Str := Str.ofString "_headers"
theorem dict1_look {hs : Int} {t : Tok} {u : Value} {n : Nat} (name : Str) : lookIn name (dictOf [⟨hs, .str hName t, u⟩] n) = some (if name = hName then some u else none) := by
  rw [lookIn_dict]
  unfold getL
  by_cases h : name = hName
  · subst h; simp [Value.isStr]
  · have : ¬ hName = name := fun e => h e.symm
    simp [Value.isStr, h, this, DictEntry.refKey]
theorem dict1_ns {h : Heap} {dx : Addr} {hs : Int} {t : Tok} {u : Value} {n : Nat} (e : h.get? dx = some (dictOf [⟨hs, .str hName t, u⟩] n)) : h.Ns dx (fun y => if y = hName then some u else none) := by
  refine ⟨_, _, n, e, rfl, fun en he => ?_, fun name => ?_⟩
  · have : en = ⟨hs, .str hName t, u⟩ := by simpa using he
    exact ⟨hName, t, by rw [this]⟩
  · unfold nsFind findBy
    by_cases h : name = hName
    · subst h; simp [Value.isStr]
    · have : ¬ hName = name := fun e => h e.symm
      simp [Value.isStr, h, this]

/-- what such an object's dict holds under a name -/
noncomputable def Holds1 (S : List AO) (a : AV) (name : Str) (r : Option AV) : Prop :=
  (∃ i, a = .hdr i ∧ r = if name = hName then some (.obj i) else none) ∨ (∃ i r', a = .inst i ∧ S[i]? = some (.inst r') ∧ r = if name = hName then r' else none)
theorem Holds1.at {a : AV} {name : Str} {r : Option AV} (l : Holds1 S a name r) (hR : Rep X S ρ T s) {v : Value} (hv : VR X ρ T s.heap a v) :
    ∃ x dx od u, v = .ref x ∧ InstAt s.heap x (instObj X.C dx) X.C (some od) ∧ lookIn name od = some u ∧ VRo X ρ T s.heap r u := by
  rcases l with ⟨i, rfl, rfl⟩ | ⟨i, r', rfl, hS, rfl⟩
  · skip
    obtain ⟨x, dx, l', rfl, hx, hd, e, h1, m, hn, h2, h3⟩ := hv
    obtain ⟨od, I, hlk⟩ := inst_at h1 hn
    refine ⟨x, dx, od, m name, rfl, I, hlk name, ?_⟩
    by_cases h : name = hName
    · subst h
      have h2 : m hName = some (.ref l') := h2
      rw [h2, if_pos rfl]; show VR X ρ T s.heap (.obj i) _; skip; exact ⟨l', rfl, e⟩
    · rw [if_neg h, h3 _ h]; trivial
  · skip
    obtain ⟨x, dx, rfl, hx, e, h1⟩ := hv
    have ho := hR.obj _ _ _ hS e
    cases r' with
    | none =>
      have ho : s.heap.get? dx = some emptyDict := ho
      refine ⟨x, dx, emptyDict, none, rfl, ⟨h1, rfl, rfl, ho⟩, rfl, ?_⟩
      split <;> trivial
    | some y =>
      obtain ⟨hs, t, n, u, ho, hq⟩ := ho
      refine ⟨x, dx, _, _, rfl, ⟨h1, rfl, rfl, ho⟩, dict1_look name, ?_⟩
      by_cases h : name = hName
      · rw [if_pos h, if_pos h]; exact hq
      · rw [if_neg h, if_neg h]; trivial

/-- a method of the class -/
theorem mOwn {a : AV} {name : Str} {f : Addr} {KM : Value × List AV → List AO → Prop} (l : Holds1 S a name none) (hg : plainGet X.K X.C name = true) (hf : findIn X.K (.ref X.C) name = some (some (.ref f))) (ht : isFn X.K (.ref f) = true) (h : KM (.ref f, [a]) S) : WpM X n S name a KM := fun A ρ T s v pl hr hR hv => by
  obtain ⟨x, dx, od, u, rfl, I, hl, hu⟩ := l.at hR hv
  have hun : u = none := by cases u with
    | none => rfl
    | some _ => exact hu.elim
  subst hun
  refine method_fn hR.kin I (plainGet_of hg).1 (plainGet_of hg).2 hf (beq_iff_eq.mp ht) ?_ (PostG.mk (x := (.ref f, [a])) (.refl hR) h ⟨rfl, VRs.one hv⟩)
  show (lookIn name od).map _ = _
  rw [hl]; rfl

/-- o.name -/
noncomputable def WpG (X : Cx) (n : Nat) (S : List AO) (name : Str) (a : AV) (K : AV → List AO → Prop) : Prop :=
  ∀ A ρ T s v, Room n A → Rep X S ρ T s → VR X ρ T s.heap a v → wpAny X.M A (getAttr v name true) (PostV X S ρ T s K) No s
theorem wAttr {value : Expr} {name : Str} {pos : Pos} (h : WpE X n ae S value fun a S1 => WpG X n S1 name a K)
    (he : ∀ env, eval (.Attribute value name pos) env = (do
      let o ← eval value env
      standAt pos.atName
      let r ← holding [o] (getAttr o name true)
      letTemporaryGo value o r
      pure r) := by intro _; with_unfolding_all rfl) : WpE X n ae S (.Attribute value name pos) K := fun A ρ T s env hr hR hE => by
  exact Attribute_any_ (chain (h A ρ T s env hr hR hE) fun a S1 ρ1 T1 v s1 hK st hv => thenG hR st (hK A ρ1 T1 s1 v hr st.rep hv)) (he env)
theorem gOwn {a y : AV} {name : Str} {attr : Option Value} (l : Holds1 S a name (some y)) (hg : plainGet X.K X.C name = true) (hh : hasDictIn X.K X.C = true) (ha : findIn X.K (.ref X.C) name = some attr) (hn : noGet X.K attr = true)
    (hy : ∀ ρ T h v, VR X ρ T h y v → handedIn v = true) (h : K y S) : WpG X n S name a K := fun A ρ T s v hr hR hv => by
  obtain ⟨x, dx, od, u, rfl, I, hl, hu⟩ := l.at hR hv
  cases u with
  | none => exact hu.elim
  | some u => exact get_value hR.kin I (plainGet_of hg).1 (findObj_own hh ha hn hl) (hy _ _ _ _ hu) (PostG.mk (.toks hR _) h hu)
theorem obj_handed {i : Nat} {h : Heap} {v : Value} (q : VR X ρ T h (.obj i) v) : handedIn v = true := by
  skip
  obtain ⟨a, rfl, _⟩ := q
  rfl

/-- self._headers = value -/
theorem sSelf {o value : Expr} {p pos : Pos} (h : WpE X n ae S value fun v S1 => WpE X n ae S1 o fun a S2 => ∃ i, a = .inst i ∧ S2[i]? = some (.inst none) ∧ findIn X.K (.ref X.C) "__setattr__" = some (some (.builtin "object.__setattr__")) ∧ plainOver X.K X.C = true ∧
      takerIn X.K X.C hName = some none ∧ hasDictIn X.K X.C = true ∧ KF .next (S2.set i (.inst (some v))))
    (hs : swapsWith value (some (.Attribute o hName p)) pos.line (dumb ae.scope) = pure false := by rfl) : WpS X n ae S (.Assign [.Attribute o hName p] value pos) KF := fun A ρ T s env hr hR hE => by
  refine plainObj_wpAny_Assign_Attribute (chain (h A ρ T s env hr hR hE) fun y S1 ρ1 T1 v s1 hK st hv => chain (hK A ρ1 T1 s1 env hr st.rep (hE.step st hR)) fun a S2 ρ2 T2 av s2 hK2 st2 hav => ?_) (by rw [← hE.scope] at hs; exact hs)
  obtain ⟨i, rfl, hS, h1, h2, h3, h4, hKF⟩ := hK2
  skip
  obtain ⟨x, dx, rfl, hx, hdx, hxo⟩ := hav
  have D : s2.heap.get? dx = some emptyDict := st2.rep.obj _ _ _ hS hdx
  have I : InstAt s2.heap x (instObj X.C dx) X.C (some emptyDict) := ⟨hxo, rfl, rfl, D⟩
  refine set_plain st2.rep.kin I h1 (osa_open (s := { s2 with toks := s2.toks + 1 }) st2.rep.kin I h2 h3 fun b => ?_)
  obtain ⟨cd, hc, hd'⟩ := any_some h4
  refine wpAny_bind (wpAny_pure (wpAny_bind (wpAny_bind (wpAny_loadPart hxo (wpAny_bind (Looks.here (s := { s2 with toks := s2.toks + 1 }) (looks_clsIn st2.rep.kin hc) ?_))))))
  rw [hd']
  refine wpAny_pure (a := some dx) (wpAny_bind (wpAny_pure (wpAny_bind ?_)))
  unfold nsSet
  have hput : Obj.putName hName (PyData.keyHash X.w.params hName) (.str hName (s2.toks + 1)) v emptyDict = dictOf [⟨PyData.keyHash X.w.params hName, .str hName (s2.toks + 1), v⟩] 1 := putName_dict hName _ _ v [] 0
  have D' : (s2.heap.update dx (Obj.putName hName (PyData.keyHash X.w.params hName) (.str hName (s2.toks + 1)) v)).get? dx = some (dictOf [⟨PyData.keyHash X.w.params hName, .str hName (s2.toks + 1), v⟩] 1) := by
    rw [← hput]; exact Heap.get?_update_self _ D (by rw [hput]; rfl)
  refine wpAny_bind (wpAny_bind (wpAny_askSetting (wpAny_pure (wpAny_bind (wpAny_mkText (wpAny_bind (wpAny_loadPart D ?_)))))))
  rw [show emptyDict.data = Data.dict #[] 0 from rfl]
  dsimp only
  rw [aRefKeyMayBeTheName_at]
  simp only [List.any_toArray, List.any_nil, Bool.not_false, Bool.and_false, Bool.false_eq_true, if_false, Array.any_empty]
  refine wpAny_updatePart (s := { s2 with toks := s2.toks + 1 + 1 }) D ?_
  refine wpAny_bind (wpAny_lookBehind D' (pastItsLine_dict (by rw [sizeLine_eq]; show 1 ≤ _; omega)) ?_)
  have hsb : Heap.SameBut dx s2.heap (s2.heap.update dx (Obj.putName hName (PyData.keyHash X.w.params hName) (.str hName (s2.toks + 1)) v)) := Heap.SameBut.update ..
  have hmv : Mv ρ2 T2 s2.heap ρ2 T2 (s2.heap.update dx (Obj.putName hName (PyData.keyHash X.w.params hName) (.str hName (s2.toks + 1)) v)) := ⟨fun b o hb e => (hsb.2 b (fun q => hb (q ▸ st2.rep.sub _ (List.mem_of_getElem? hdx)))).trans e, fun a ha => .inl ha, fun _ _ e => e⟩
  refine wpAny_pure ?_
  exact PostG.mk ((st.trans hR st2).trans hR (.upd st2.rep hS hdx (by intro q; cases q) (by intro q; cases q) hsb.extBut (ao' := .inst (some y)) ⟨_, _, _, v, D', VR.mv hmv _ (VR.mv (st2.mv st.rep) _ hv)⟩ ⟨_, D'⟩ (s2.toks + 1 + 1))) hKF rfl
end
end Mine
namespace Mine

section
variable {X : Cx} {n : Nat} {ae : AEnv} {S S' : List AO} {ρ T : List Addr} {s : Shared} {K : AV → List AO → Prop} {KB : Bool → List AO → Prop} {KF : AF → List AO → Prop} {KU : Unit → List AO → Prop}

theorem WpBinds.mono : ∀ {bs : List (Str × AV)} {S : List AO} {K K' : Unit → List AO → Prop}, WpBinds X n ae bs S K → (∀ x S', K x S' → K' x S') → WpBinds X n ae bs S K'
  | [], S, K, K', h, hk => hk _ _ h
  | (t, x) :: r, S, K, K', h, hk => fun A ρ T s env u hr hR hE hv => wpAny_mono (h A ρ T s env u hr hR hE hv) (fun _ _ p => p.mono fun _ S1 h1 => WpBinds.mono h1 hk) fun _ _ f => f

/-- a contract of a function -/
theorem fnC {a : Addr} {oc ct dV kV doc pm cdv : Value} {od an : Option Addr} {osl : Array (Option Value)} {name qual : Str} {params : Arguments} {body : List Stmt} {scope : Scope} {xs : List AV} {kw : List (Str × AV)}
    (ho : X.K.lookup a = some ⟨oc, od, .func (fnOf name qual params body scope dV kV doc pm an cdv ct), osl⟩) (hcd : codeIn X.K cdv qual = true)
    (hb : Binds X n S (fnOf name qual params body scope dV kV doc pm an cdv ct) xs kw fun bs S1 => WpBinds X n (fEnv scope S1.length) bs (S1 ++ (.ns [] :: cellAOs scope.names)) fun _ S2 => WpSs X n (fEnv scope S1.length) S2 body fun f S3 => Leave S K (afv f) S3)
    (hk : scope.kind = .function := by rfl) (hco : scope.isCoroutine = false := by rfl) (hgen : scope.isGenerator = false := by rfl) : CdC X (n + 1) S a xs kw K :=
  cFnC ho hcd (fun A ρ T s vs ks hr hR hv hkw => wpAny_mono (hb A ρ T s vs ks hr hR hv hkw) (fun _ _ p => p.mono fun bs S1 h => WpBinds.mono h fun _ S2 h2 => WpSs.mono h2 fun f S3 h3 ρ T s ρ3 T3 s3 v R st q => h3.post R st q) fun _ _ f => f) hk hco hgen

/-- a pure binding -/
theorem bindPure {fd : FuncData} {xs : List AV} {kw : List (Str × AV)} {names : List Str} {KB' : List (Str × AV) → List AO → Prop} (hl : names.length = xs.length) (hb : ∀ vs : List Value, vs.length = xs.length → bindArgs fd ⟨vs, []⟩ = pure (names.zip vs)) (hkw : kw = []) (h : KB' (names.zip xs) S) : Binds X n S fd xs kw KB' := fun A ρ T s vs ks hr hR hv hks => by
  subst hkw
  cases hks.nil_inv
  rw [hb vs hv.length]
  refine wpAny_pure (PostG.mk (.refl hR) h ?_)
  have : ∀ (ns : List Str) (xs : List AV) (vs : List Value), VRs X ρ T s.heap xs vs → VRk X ρ T s.heap (ns.zip xs) (ns.zip vs) := by
    intro ns
    induction ns with
    | nil => intro xs vs _; simp [VRk_nil, VRk_cons]
    | cons n ns ih =>
      intro xs vs q
      cases xs with
      | nil => rw [VRs_nil.mp q]; simp [VRk_nil, VRk_cons]
      | cons x xs =>
        obtain ⟨v, r, rfl, h1, h2⟩ := VRs_cons.mp q
        simp only [List.zip_cons_cons, VRk_nil, VRk_cons]
        exact ⟨v, _, rfl, h1, ih xs r h2⟩
  exact this names xs vs hv

/-- an object of an own class made over a list -/
theorem kMake {fI : Addr} {i : Nat} {rows : List AV} (hm : makesIn X.K X.C = true) (hi : findIn X.K (.ref X.C) "__init__" = some (some (.ref fI))) (hf : typeIn X.K (.ref fI) = some (.type "function")) (hS : S[i]? = some (.lst rows)) (hu : AV.unds 0 rows)
    (hc : CdC X n [.lst rows, .inst none] fI [.inst 1, .obj 0] [] fun x S' => x = .none ∧ S' = [.lst rows, .inst (some (.obj 0))]) (h : K (.hdr i) S) : WpC X (n + 1) S (.val (.ref X.C)) [.obj i] [] K := fun A ρ T s g vs ks hr R hg hv hks => by
  cases VR_val.mp hg
  cases hks.nil_inv
  obtain ⟨v, rfl, hq⟩ := hv.one_inv
  skip
  obtain ⟨l, rfl, hl⟩ := hq
  have hil : i < S.length := (List.getElem?_eq_some_iff.mp hS).1
  have hlT : l ∈ T := R.sub l (List.mem_of_getElem? hl)
  obtain ⟨ol, hol⟩ := R.low l hlT
  have hlt : l < s.heap.objs.size := Heap.lt_size hol
  have hk : ∀ b o, s.heap.get? b = some o → ((s.heap.push emptyDict).push (instObj X.C s.heap.objs.size)).get? b = some o := fun b o e => Heap.get?_push_of_some _ (Heap.get?_push_of_some _ e)
  have hsz : (s.heap.push emptyDict).objs.size = s.heap.objs.size + 1 := Heap.size_push ..
  have hdx : ((s.heap.push emptyDict).push (instObj X.C s.heap.objs.size)).get? s.heap.objs.size = some emptyDict := Heap.get?_push_of_some _ (Heap.get?_push_size _ rfl)
  have hx : ((s.heap.push emptyDict).push (instObj X.C s.heap.objs.size)).get? (s.heap.objs.size + 1) = some (instObj X.C s.heap.objs.size) := by
    have := Heap.get?_push_size (s.heap.push emptyDict) (o := instObj X.C s.heap.objs.size) rfl
    rw [hsz] at this; exact this
  have hdT : s.heap.objs.size ∉ T := R.fresh
  have hxT : s.heap.objs.size + 1 ∉ T := fun q => by obtain ⟨o, e⟩ := R.low _ q; exact absurd (Heap.lt_size e) (Nat.not_lt.mpr (Nat.le_succ _))
  have hnone : ∀ b, s.heap.objs.size ≤ b → X.r.heap.get? b = none := fun b hb => by
    cases e : X.r.heap.get? b with
    | none => rfl
    | some o => have := R.keep b o e; exact absurd (Heap.lt_size this) (Nat.not_lt.mpr hb)
  have R0 : Rep X [.lst rows, .inst none] [l, s.heap.objs.size] (T ++ [s.heap.objs.size]) { s with heap := (s.heap.push emptyDict).push (instObj X.C s.heap.objs.size) } := {
    keep := fun b o e => hk b o (R.keep b o e)
    len := rfl
    obj := fun j oj b e1 e2 => by
      rcases j with _ | _ | j
      · simp at e1 e2; subst e1; subst e2
        have h1 := (R.obj i _ _ hS hl).mv (mvNew (a := s.heap.objs.size) R hk (newAddr _)) (fun o e => hk l o e)
        exact h1.dr .zero (fun o e => e) hu
      · simp at e1 e2; subst e1; subst e2; exact hdx
      · simp at e1
    nodup := by simpa using Nat.ne_of_lt hlt
    nosys := fun b hb => by
      rcases List.mem_cons.mp hb with rfl | hb
      · exact R.nosys _ (List.mem_of_getElem? hl)
      · rw [List.mem_singleton.mp hb]; exact R.nosysOf (Nat.le_refl _)
    sub := fun b hb => by
      rcases List.mem_cons.mp hb with rfl | hb
      · exact List.mem_append_left _ hlT
      · rw [List.mem_singleton.mp hb]; simp
    new := fun b hb => by
      rcases List.mem_append.mp hb with hb | hb
      · exact R.new b hb
      · rw [List.mem_singleton.mp hb]; exact hnone _ (Nat.le_refl _)
    low := fun b hb => by
      rcases List.mem_append.mp hb with hb | hb
      · obtain ⟨o, e⟩ := R.low b hb; exact ⟨o, hk b o e⟩
      · rw [List.mem_singleton.mp hb]; exact ⟨_, hdx⟩
    rest := R.rest
    toks := R.toks }
  have hr' : Room n (A.under (.builtin "type.__call__" ⟨.ref X.C :: [.ref l], []⟩)) := ⟨by show A.depth + 1 + n < _; have := hr.depth; omega, by show A.units + 1 + 8 * n < _; have := hr.units; omega, hr.handled⟩
  refine wpAny_call ?_
  obtain ⟨hh, gg, dd, tt, oo⟩ := s
  refine make_core (makes_of R.kin hm) (looks_findIn R.kin hi) (fun self => bind_fn R.kin self hf) (.inl rfl) ?_
  refine codeAny_mono (hc _ [l, hh.objs.size] (T ++ [hh.objs.size]) _ [.ref (hh.objs.size + 1), .ref l] [] hr' R0 ?_ (by simp [VRk_nil, VRk_cons])) fun r s' hp => ?_
  · refine VRs_cons.mpr ⟨_, _, rfl, ?_, VRs.one ?_⟩
    · skip
      exact ⟨_, _, rfl, fun q => by
        rcases List.mem_append.mp q with q | q
        · exact hxT q
        · have := List.mem_singleton.mp q; simp at this, rfl, hx⟩
    · skip; exact ⟨l, rfl, rfl⟩
  obtain ⟨v, rfl, x, S2, ρ', T', ⟨rfl, rfl⟩, st, hvn⟩ := hp
  obtain ⟨m, e1, e2, hm'⟩ := st.more
  have hm0 : m = [] := by
    have := st.rep.len
    rw [e1] at this; simpa using this
  subst hm0
  simp only [List.append_nil] at e1 e2
  subst e1 e2
  refine ⟨VR_none.mp hvn, ?_⟩
  have hkp : ∀ b o, b ≠ l → hh.get? b = some o → s'.heap.get? b = some o := fun b o hb e => st.keep b o (fun ⟨j, oj, f1, f2, _⟩ => by
    rcases j with _ | _ | j
    · simp at f1; exact hb f1.symm
    · simp at f1; subst f1; exact absurd (Heap.lt_size e) (Nat.lt_irrefl _)
    · simp at f1) (hk b o e)
  have mv : Mv ρ T hh ρ T s'.heap := ⟨fun b o hb e => hkp b o (fun q => hb (q ▸ hlT)) e, fun b hb => .inl hb, fun _ _ e => e⟩
  have d0 : Dr 0 [l, hh.objs.size] (T ++ [hh.objs.size]) s'.heap ρ T s'.heap := ⟨fun b o _ e => e, fun a ha => List.mem_append_left _ ha, fun i a hi _ => absurd hi (Nat.not_lt_zero _)⟩
  refine PostG.mk (x := .hdr i) (ρ' := ρ) (T' := T) ⟨?_, ⟨[], by simp, by simp, fun _ h => nomatch h⟩, fun b o hb e => hkp b o (fun q => hb ⟨i, _, q ▸ hl, hS, by intro q; cases q⟩) e, fun j e => e⟩ h ?_
  · exact {
      keep := st.rep.keep
      len := R.len
      obj := fun j oj b f1 f2 => by
        by_cases hij : i = j
        · subst hij
          rw [hS] at f1; rw [hl] at f2
          cases f1; cases f2
          exact (st.rep.obj 0 _ l rfl rfl).dr d0 (fun o e => e) hu
        · have hb : b ≠ l := fun q => by
            subst q
            obtain ⟨l1, z1⟩ := List.getElem?_eq_some_iff.mp hl
            obtain ⟨l2, z2⟩ := List.getElem?_eq_some_iff.mp f2
            exact hij ((List.getElem_inj R.nodup).mp (z1.trans z2.symm))
          exact (R.obj j oj b f1 f2).mv mv fun o e => hkp b o hb e
      nodup := R.nodup
      nosys := R.nosys
      sub := R.sub
      new := R.new
      low := fun b hb => st.rep.low b (List.mem_append_left _ hb)
      rest := st.rep.rest
      toks := st.rep.toks }
  · skip
    obtain ⟨hs, t, n', u, hdd, hu'⟩ := st.rep.obj 1 _ _ rfl rfl
    simp only [VR] at hu'
    obtain ⟨l2, rfl, hl2⟩ := hu'
    have : l2 = l := by simpa using hl2.symm
    subst this
    refine ⟨hh.objs.size + 1, hh.objs.size, l2, rfl, hxT, hdT, hl, st.keep _ _ (fun ⟨j, oj, f1, f2, _⟩ => ?_) hx, _, dict1_ns hdd, by rw [if_pos (show Str.ofString "_headers" = hName from rfl)], fun y hy => by rw [if_neg (show ¬ y = hName from hy)]⟩
    rcases j with _ | _ | j
    · simp at f1; exact absurd f1 (Nat.ne_of_lt (Nat.lt_succ_of_lt hlt))
    · simp at f1
    · simp at f1
end
end Mine
namespace Mine

namespace RF
theorem plainAttrs : PlainAttrs "re.Pattern" :=
  ⟨⟨"object.__getattribute__", by rw [typeLookup_type, builtinLookup_eq_fast]; kernel_rfl, by decide +kernel⟩, by rw [typeLookup_type, builtinLookup_eq_fast]; kernel_rfl⟩
theorem slot : Slot "re.Pattern" "search" "re.Pattern.search" :=
  .of (owner := "re.Pattern") (n := "search") (by rw [typeLookup_type, builtinLookup_eq_fast]; kernel_rfl) (by decide +kernel) (by decide +kernel) (by decide +kernel)
    (by first | exact .inl (by decide +kernel) | exact .inr (by decide +kernel)) (by rw [isSubtype_type]; kernel_rfl)
theorem type : typeOf (.builtin "re.Pattern.search") = pure (.type "method_descriptor") := by show builtinType _ = _; rw [builtinType_eq_fast]; kernel_rfl
theorem entry : entryFor table "re.Pattern.search" = some Builtin.«re.Pattern.search» := entryFor_of_tree (by kernel_rfl)
theorem args (a b : Value) : argsOk "re.Pattern.search" ⟨[a, b], []⟩ := by
  unfold argsOk; kernel_rfl
end RF

/-- the set of a code admits no sign of a text -/
noncomputable def NoSet (code : Array Nat) (c : Nat) : Prop := ∀ seen, ∃ seen', Sre.inSet code c code.size 5 true seen = .ok (false, seen')

theorem admitted_none (m : Sre.M) : ∀ (fuel s : Nat) (seen : Sre.Seen), (∀ i, s ≤ i → i < m.lim → NoSet m.code (m.text.getD i 0)) → ∃ seen', Sre.M.admitted m fuel s seen = .ok (none, seen')
  | 0, s, seen, _ => ⟨seen, rfl⟩
  | fuel + 1, s, seen, h => by
    unfold Sre.M.admitted
    by_cases hs : s ≥ m.lim
    · rw [if_pos hs]; exact ⟨seen, rfl⟩
    · rw [if_neg hs]
      obtain ⟨seen', e⟩ := h s (Nat.le_refl _) (by omega) seen
      rw [e]
      exact admitted_none m fuel (s + 1) seen' fun i hi => h i (by omega)

theorem search_none {code text : Array Nat} {groups lim : Nat} (h0 : Sre.ops[code.getD 0 0]? = some .INFO) (h2 : code.getD 2 0 = 4) (hn : ∀ i, i < lim → NoSet code (text.getD i 0)) :
    ∃ m : Sre.M, Sre.forSearch code text groups 0 lim false = m ∧ m.answer = some false ∧ m.frames = [] ∧ m.outcome = none := by
  unfold Sre.forSearch
  dsimp only
  split
  · exact ⟨_, rfl, rfl, rfl, rfl⟩
  · generalize hm : ({ (_ : Sre.M) with lastStart := _ } : Sre.M) = m
    have e1 : m.code = code := by rw [← hm]; rfl
    have e2 : m.text = text := by rw [← hm]; rfl
    have e3 : m.lim = lim := by rw [← hm]; rfl
    have e4 : m.frames = [] := by rw [← hm]; rfl
    have e5 : m.outcome = none := by rw [← hm]; rfl
    refine ⟨_, rfl, ?_⟩
    unfold Sre.M.attemptFrom
    have hf : m.hasFirstSet = true := by
      unfold Sre.M.hasFirstSet
      rw [e1, h0, h2]; rfl
    rw [hf]
    obtain ⟨seen', e⟩ := admitted_none m (m.lim + 1 - 0) 0 m.seen (fun i _ hi => by rw [e1, e2]; exact hn i (e3 ▸ hi))
    simp only [Bool.not_true, Bool.false_eq_true, if_false]
    rw [e]
    exact ⟨rfl, e4, e5⟩

section
variable {M : Model} {A : Around} {E : Value → Shared → Prop} {s : Shared}
theorem drive_none {m : Sre.M} {Q : Option Sre.M → Shared → Prop} (h1 : m.answer = some false) (h2 : m.frames = []) (h3 : m.outcome = none) (h : Q none s) : wpAny M A (Builtin.Re.reRunToEnd m) Q E s := by
  have hd : ∃ m' : Sre.M, Builtin.Re.reDrive (2 ^ 64) m = pure m' ∧ m'.outcome = some .failed := by
    have e : (2 ^ 64 : Nat) = (2 ^ 64 - 1) + 1 := by decide
    rw [e]
    unfold Builtin.Re.reDrive
    have hs : m.step = { m with outcome := some .failed } := by
      unfold Sre.M.step
      rw [h3, h1, h2]; rfl
    have hr : m.runFor Builtin.Re.reTurnSteps = { m with outcome := some .failed } := by
      show Sre.M.runFor 4 m = _
      unfold Sre.M.runFor
      rw [h3, if_neg (by decide), hs]
      rfl
    rw [hr]
    exact ⟨_, rfl, rfl⟩
  obtain ⟨m', hd, ho⟩ := hd
  unfold Builtin.Re.reRunToEnd
  rw [hd]
  refine wpAny_bind (wpAny_pure (wpAny_bind ?_))
  refine wpAny_forIn_list _ (fun _ _ s' => s' = s) _ (fun x rest b s' hs => ?_) (fun b s' hs => ?_) _ _ rfl
  · subst hs
    refine wpAny_ite ?_
    split
    · exact wpAny_bind (wpAny_rule (wpAny_pure rfl))
    · exact wpAny_pure rfl
  · subst hs
    rw [ho]
    exact wpAny_pure h
end

/-- the pattern object of a compiled character class -/
noncomputable def PatAt (h : Heap) (q : Addr) (code : Array Nat) : Prop := ∃ (o : Obj) (vs : Array Value) (T : Addr) (oT : Obj) (ws : Array Value) (nT : Nat), h.get? q = some o ∧ o.data = .fields vs ∧ vs.getD 5 .none = .ref T ∧ vs.getD 6 .none = .int 0 0 ∧
  h.get? T = some oT ∧ oT.data = .seq ws nT ∧ (ws.map Builtin.Re.reRawOf).map (·.toNat) = code

theorem gives_search {q : Addr} {x : Str} {t : Tok} {code : Array Nat} (h0 : Sre.ops[code.getD 0 0]? = some .INFO) (h2 : code.getD 2 0 = 4) (hn : ∀ c ∈ x.cps, NoSet code c) :
    GivesAt (fun s => PatAt s.heap q code) (Builtin.«re.Pattern.search» ⟨[.ref q, .str x t], []⟩) (.val .none) := by
  intro prog w A R s ⟨o, vs, T, oT, ws, nT, ho, hd, h5, h6, hT, hTd, hc⟩ hR
  have e1 : Builtin.Re.reNamed "re.Pattern.search" "search" ["string", "pos", "endpos"] 1 [.str x t] [] = pure [some (.str x t), none, none] := rfl
  unfold Builtin.«re.Pattern.search»
  refine wpAny_bind ?_
  unfold Builtin.Re.reTarget
  dsimp only
  rw [e1]
  refine wpAny_bind (wpAny_pure ?_)
  dsimp only
  refine wpAny_bind (wpAny_pure (wpAny_bind (wpAny_pure (wpAny_bind (wpAny_fieldsOf ho hd ?_)))))
  have e2 : Builtin.Re.reTextOf (.str x t) = pure (x.cps, 0) := rfl
  rw [e2]
  refine wpAny_bind (wpAny_pure ?_)
  rw [h5, h6]
  dsimp only
  rw [if_neg (by decide), if_neg (by decide)]
  refine wpAny_bind (wpAny_pure (wpAny_bind ?_))
  unfold Builtin.Re.reRawItems
  refine wpAny_bind (wpAny_seqItems hT hTd (wpAny_pure ?_))
  refine wpAny_pure ?_
  dsimp only [Option.getD_some]
  rw [hc]
  have hl : min (2 ^ 63 - 1 : Int).toNat x.cps.size ≤ x.cps.size := Nat.min_le_right _ _
  obtain ⟨m, em, a1, a2, a3⟩ := search_none (code := code) (text := x.cps) (groups := Builtin.Re.reRawNat (vs.getD 2 .none)) (lim := min (2 ^ 63 - 1 : Int).toNat x.cps.size) h0 h2
    (fun i hi => hn _ (by
      have : i < x.cps.size := Nat.lt_of_lt_of_le hi hl
      simp [Array.getD, this]))
  have em' : Sre.forSearch code x.cps (Builtin.Re.reRawNat (vs.getD 2 .none)) (min (Int.toNat 0) x.cps.size) (min (2 ^ 63 - 1 : Int).toNat x.cps.size) false = m := by
    rw [← em]; congr 1
  rw [em']
  unfold Builtin.Re.reAnswer
  exact wpAny_bind (drive_none a1 a2 a3 (wpAny_pure hR))

section
variable {X : Cx} {n : Nat} {S : List AO}
theorem kSearch {q : Addr} {x : Str} {code : Array Nat} {K : AV → List AO → Prop} (h0 : Sre.ops[code.getD 0 0]? = some .INFO) (h2 : code.getD 2 0 = 4) (hn : ∀ c ∈ x.cps, NoSet code c)
    (hT : ∀ ρ T s, Rep X S ρ T s → s.TypeIs (.ref q) "re.Pattern" ∧ PatAt s.heap q code)
    (h : K .none S) : WpC X n S (.val (.builtin "re.Pattern.search")) [.val (.ref q), .str x] [] K := call2 fun A ρ T s v u hr hR hv hu => by
  cases VR_val.mp hv
  obtain ⟨_, t, rfl⟩ := VR_str.mp hu
  obtain ⟨h1, h3⟩ := hT ρ T s hR
  exact call_givesAt RF.slot h1 RF.entry (RF.args _ _) (gives_search h0 h2 hn) h3 (PostG.mk (.refl hR) h (by simp))
end
end Mine
namespace Mine
section
variable {X : Cx} {n : Nat} {ae : AEnv} {S S' : List AO} {K : AV → List AO → Prop} {KB : Bool → List AO → Prop} {KF : AF → List AO → Prop} {KU : Unit → List AO → Prop}

/-- a try whose body raises nothing -/
theorem sTry {body orelse : List Stmt} {h₀ : ExceptHandler} {hs : List ExceptHandler} {pos : Pos} (h : WpSs X n ae S body (Seq X n ae orelse KF)) : WpS X n ae S (.Try body (h₀ :: hs) orelse [] pos) KF := fun A ρ T s env hr hR hE =>
  wpAny_Try_except (wpAny_mono (h A ρ T s env hr hR hE) (fun f s1 p => by
    obtain ⟨x, S1, ρ1, T1, hK, st, hv⟩ := p
    cases x with
    | next => cases hv; exact thenG hR st (hK A ρ1 T1 s1 env hr st.rep (hE.step st hR))
    | brk => cases hv; exact PostG.mk st hK rfl
    | cont => cases hv; exact PostG.mk st hK rfl
    | ret x => obtain ⟨u, rfl, hu⟩ := hv; exact PostG.mk st hK ⟨u, rfl, hu⟩) fun _ _ f => f.elim)

theorem EnvOk.nint {ρ : List Addr} {env : Env} (E : EnvOk ae ρ env) : interactive env = false := by
  unfold interactive; rw [E.fnk]; rfl

theorem sExpr {e : Expr} {pos : Pos} (h : WpE X n ae S e fun _ S1 => KF .next S1) (hs : ∀ env, swapsWith e none pos.line env = pure false := by intro _; rfl) : WpS X n ae S (.Expr e pos) KF := fun A ρ T s env hr hR hE =>
  wpAny_Expr_any (chain (h A ρ T s env hr hR hE) fun a S1 ρ1 T1 v s1 hK st hv => PostG.mk st hK rfl) hE.nint (hs env)

theorem VRs.erase {ρ T : List Addr} {h : Heap} : ∀ {xs : List AV} {vs : List Value}, VRs X ρ T h xs vs → ∀ d : Nat, VRs X ρ T h (xs.eraseIdx d) (vs.eraseIdx d)
  | [], vs, q, d => by cases VRs_nil.mp q; simp
  | x :: xs, vs, q, 0 => by
    obtain ⟨v, r, rfl, h1, h2⟩ := VRs_cons.mp q
    exact h2
  | x :: xs, vs, q, d + 1 => by
    obtain ⟨v, r, rfl, h1, h2⟩ := VRs_cons.mp q
    exact VRs_cons.mpr ⟨v, _, rfl, h1, VRs.erase h2 d⟩

/-- del xs[i] -/
theorem sDel {o i : Expr} {p pos : Pos} (h : WpE X n ae S o fun a S1 => WpE X n ae S1 i fun b S2 => ∃ k xs j d, a = .obj k ∧ S2[k]? = some (.lst xs) ∧ b = .int j ∧ Builtin.List.listFitsIndex j = true ∧ xs.length ≤ sizeLine ∧ seqIndex? j xs.length = some d ∧
    KF .next (S2.set k (.lst (xs.eraseIdx d)))) : WpS X n ae S (.Delete [.Subscript o i p] pos) KF := fun A ρ T s env hr hR hE => by
  refine wpAny_Delete (wpAny_deleteEach_cons (wpAny_delete_Subscript (chain (h A ρ T s env hr hR hE) fun a S1 ρ1 T1 v s1 hK st hv => chain (hK A ρ1 T1 s1 env hr st.rep (hE.step st hR)) fun b S2 ρ2 T2 u s2 hK2 st2 hu => ?_)))
  obtain ⟨k, xs, j, d, rfl, hS, rfl, hf, hl, hd, hK2⟩ := hK2
  have hv2 := VR.mv (st2.mv st.rep) _ hv
  skip
  obtain ⟨a, rfl, ha⟩ := hv2
  obtain ⟨t, rfl⟩ := VR_int.mp hu
  obtain ⟨vs, hi, hq⟩ := st2.rep.obj _ _ _ hS ha
  have hsz : vs.toArray.size = xs.length := by simpa using hq.length
  refine wpAny_delItem_plain hi hf (by rw [hsz]; exact hd) (fun h' hh hs => wpAny_deleteEach_nil ?_) (by rw [hsz]; exact hl)
  have mv := st2.rep.mvSelf (List.mem_of_getElem? ha) hs.extBut
  have hk3 : vs.toArray.eraseIdxIfInBounds d = (vs.eraseIdx d).toArray := by
    unfold Array.eraseIdxIfInBounds
    split
    · simp
    · rename_i hh; simp at hh; rw [List.eraseIdx_of_length_le hh]
  rw [hk3] at hh
  exact PostG.mk ((st.trans hR st2).trans hR (.upd st2.rep hS ha (by intro q; cases q) (by intro q; cases q) hs.extBut (ao' := .lst (xs.eraseIdx d)) ⟨_, hh, VRs.erase (VRs.mv mv _ hq) d⟩ (by obtain ⟨_, ho⟩ := hh; exact ⟨_, ho⟩) _)) hK2 rfl
end

set_option maxHeartbeats 2000000 in
open PySem.Builtin PySem.Builtin.Str in
theorem pct2_meets {b : Addr} {x y : Str} {t0 t u : Tok} (hx : x.length ≤ 100000) (hy : y.length ≤ 100000) : ∃ T : Str, T = x ++ (Str.ofString ": ") ++ y ∧
    Meets («str.__mod__» ⟨[.str ⟨#[37, 115, 58, 32, 37, 115]⟩ t0, .ref b], []⟩) (fun _ R s => IsTup s.heap b #[.str x t, .str y u] ∧ ∀ t' k, R (.ok (.ret (.str T t'))) { s with toks := k }) := by
  refine ⟨?_, ?_, ?_⟩
  rotate_left 2
  · kpt_run
  exact rfl

theorem pct2 {prog : Program} {w : World} {A : Around} {E : Value → Shared → Prop} {s : Shared} {t0 : Tok} {b : Addr} {x y : Str} {t u : Tok} {Q : Value → Shared → Prop} (hb : IsTup s.heap b #[.str x t, .str y u]) (hx : x.length ≤ 100000) (hy : y.length ≤ 100000)
    (h : ∀ t' k, Q (.str (x ++ (Str.ofString ": ") ++ y) t') { s with toks := k }) : wpAny (model prog w) A (binaryOp .Mod (.str ⟨#[37, 115, 58, 32, 37, 115]⟩ t0) (.ref b)) Q E s := by
  have hT : s.TypeIs (.ref b) "tuple" := by
    obtain ⟨o, ho, hc, _⟩ := hb
    exact ⟨o, ho, hc⟩
  obtain ⟨T, rfl, hm⟩ := pct2_meets (b := b) (t0 := t0) (t := t) (u := u) hx hy
  exact KPt.bin_left (T := "str") (U := "tuple") (op := .Mod) (by decide) (typeIs_str s _ _) hT F.fills_str_mod KPt.fills_tuple F.slot_str_mod
    (call_meets F.slot_str_mod (typeIs_str s _ _) F.entry_str_mod (F.args_str_mod_2 _ _) hm ⟨hb, fun t' k => ⟨(fun e => nomatch e), h t' k⟩⟩)

section
variable {X : Cx} {n : Nat} {S : List AO} {K : AV → List AO → Prop}
theorem oPct2 {x y : Str} (hx : x.length ≤ 100000) (hy : y.length ≤ 100000) (h : K (.str (x ++ (Str.ofString ": ") ++ y)) S) :
    Wp2 X n S (binaryOp .Mod) (.str (Str.ofString "%s: %s")) (.tup [.str x, .str y]) K := fun A ρ T s v u hr hR hv hu => by
  have e : Str.ofString "%s: %s" = ⟨#[37, 115, 58, 32, 37, 115]⟩ := by decide +kernel
  rw [e] at hv
  obtain ⟨_, t0, rfl⟩ := VR_str.mp hv
  skip
  obtain ⟨b, vs, rfl, _, hb, hq⟩ := hu
  obtain ⟨v1, v2, rfl, h1, h2⟩ := hq.two_inv
  obtain ⟨_, t, rfl⟩ := VR_str.mp h1
  obtain ⟨_, u, rfl⟩ := VR_str.mp h2
  have e2 : (Str.ofString ": ").length = 2 := by decide +kernel
  have hl : (x ++ (Str.ofString ": ") ++ y).length ≤ sizeLine := by rw [Str.length_append, Str.length_append, e2, sizeLine_eq]; omega
  exact wpAny_with_toks (Nat.le_refl _) (pct2 hb hx hy fun t' k hk => PostG.mk (.toks hR k hk) h (VR_str.mpr ⟨hl, _, rfl⟩))
end
end Mine
namespace Mine
section
variable {X : Cx} {n : Nat} {ae : AEnv} {S S' : List AO} {ρ T : List Addr} {h : Heap} {K : AV → List AO → Prop} {KB : Bool → List AO → Prop} {KF : AF → List AO → Prop} {KU : Unit → List AO → Prop}

/-- the end of a function; what stands unchanged asks nothing -/
noncomputable def LeaveG (S1 : List AO) (K : AV → List AO → Prop) (x : AV) (S2 : List AO) : Prop :=
  ∃ S1' ks aos y, S1'.length = S1.length ∧ (∀ (i : Nat) (ao : AO), S1'[i]? = some ao → S2[i]? = some ao ∧ (S1[i]? = some ao ∨ ao.und S1.length)) ∧ aos.length = ks.length ∧
    (∀ (p k : Nat), ks[p]? = some k → S1.length ≤ k ∧ ∃ ao, S2[k]? = some ao ∧ aos[p]? = some ao ∧ ao.und S1.length) ∧ ks.Nodup ∧ Fz S2 S1.length ks x y ∧ K y (S1' ++ aos)
theorem LeaveG.post {S1 S2 : List AO} {ρ1 T1 ρ2 T2 : List Addr} {s s2 : Shared} {x : AV} {v : Value} (h : LeaveG S1 K x S2) (R : Rep X S1 ρ1 T1 s) (st : Step X S1 ρ1 T1 s S2 ρ2 T2 s2) (q : VR X ρ2 T2 s2.heap x v) : PostV X S1 ρ1 T1 s K v s2 := by
  obtain ⟨S1', ks, aos, y, hlen, h1, hl, h2, hnd, hf, hK⟩ := h
  exact Leave.post ⟨S1', ks, aos, y, hlen, fun i ao e => ⟨(h1 i ao e).1, (h1 i ao e).2.elim (fun q => R.und _ _ q) id⟩, hl, h2, hnd, hf, hK⟩ R st q

/-- a contract of a function -/
theorem fnG {a : Addr} {oc ct dV kV doc pm cdv : Value} {od an : Option Addr} {osl : Array (Option Value)} {name qual : Str} {params : Arguments} {body : List Stmt} {scope : Scope} {xs : List AV} {kw : List (Str × AV)}
    (ho : X.K.lookup a = some ⟨oc, od, .func (fnOf name qual params body scope dV kV doc pm an cdv ct), osl⟩) (hcd : codeIn X.K cdv qual = true)
    (hb : Binds X n S (fnOf name qual params body scope dV kV doc pm an cdv ct) xs kw fun bs S1 => WpBinds X n (fEnv scope S1.length) bs (S1 ++ (.ns [] :: cellAOs scope.names)) fun _ S2 => WpSs X n (fEnv scope S1.length) S2 body fun f S3 => LeaveG S K (afv f) S3)
    (hk : scope.kind = .function := by rfl) (hco : scope.isCoroutine = false := by rfl) (hgen : scope.isGenerator = false := by rfl) : CdC X (n + 1) S a xs kw K :=
  cFnC ho hcd (fun A ρ T s vs ks hr hR hv hkw => wpAny_mono (hb A ρ T s vs ks hr hR hv hkw) (fun _ _ p => p.mono fun bs S1 h => WpBinds.mono h fun _ S2 h2 => WpSs.mono h2 fun f S3 h3 ρ T s ρ3 T3 s3 v R st q => h3.post R st q) fun _ _ f => f) hk hco hgen

theorem fzStr {m : Nat} {ks : List Nat} {x : Str} : Fz S m ks (.str x) (.str x) := by simp [Fz, AV.und]
theorem fzBool {m : Nat} {ks : List Nat} {x : Bool} : Fz S m ks (.bool x) (.bool x) := by simp [Fz, AV.und]
theorem fzNone {m : Nat} {ks : List Nat} : Fz S m ks .none .none := by simp [Fz, AV.und]
theorem fzLst {m : Nat} {ks : List Nat} {xs : List AV} (h : AV.unds m xs) : Fz S m ks (.lst xs) (.lst xs) := by simp [Fz, AV.und, h]
theorem fzHdr {m : Nat} {ks : List Nat} {j p : Nat} (h : ks[p]? = some j) : Fz S m ks (.hdr j) (.hdr (m + p)) := by
  simp only [Fz]; exact .inl ⟨p, h, rfl⟩
/-- nothing tracked is touched or handed out -/
theorem leaveU {S1 S2 : List AO} {x y : AV} (h1 : ∀ (i : Nat) (ao : AO), S1[i]? = some ao → S2[i]? = some ao) (hf : Fz S2 S1.length [] x y) (hK : K y S1) : LeaveG S1 K x S2 :=
  ⟨S1, [], [], y, rfl, fun i ao e => ⟨h1 i ao e, .inl e⟩, rfl, by simp, List.nodup_nil, hf, by simpa using hK⟩
theorem leaveE {x y : AV} {S2 : List AO} (hf : Fz S2 0 [] x y) (hK : K y []) : Leave [] K x S2 :=
  ⟨[], [], [], y, rfl, by simp, rfl, by simp, List.nodup_nil, hf, hK⟩

theorem put_same {v : Str} {a : AV} : ∀ {ns : List (Str × AV)}, ns.lookup v = some a → put v a ns = ns
  | [], h => by simp at h
  | (k, b) :: ns, h => by
    unfold put
    by_cases e : v = k
    · subst e; simp at h; subst h; simp
    · have e1 : (v == k) = false := by simpa using e
      rw [List.lookup_cons, e1] at h
      simp only at h
      rw [if_neg e, put_same h]
theorem set_same {α : Type} {a : α} : ∀ {l : List α} {i : Nat}, l[i]? = some a → l.set i a = l
  | [], i, h => by simp at h
  | x :: l, 0, h => by simp at h; subst h; rfl
  | x :: l, i + 1, h => by simp at h; rw [List.set_cons_succ, set_same h]
end
end Mine
namespace Mine
section
variable {X : Cx} {n : Nat} {ae : AEnv} {S S' : List AO} {ρ T : List Addr} {h : Heap} {K : AV → List AO → Prop} {KB : Bool → List AO → Prop} {KF : AF → List AO → Prop} {KU : Unit → List AO → Prop}

noncomputable def PatIn (K : Frag) (q : Addr) (code : Array Nat) : Prop := ∃ (o : Obj) (vs : Array Value) (T : Addr) (oT : Obj) (ws : Array Value) (nT : Nat), K.lookup q = some o ∧ o.cls = .type "re.Pattern" ∧ o.dict = none ∧ o.data = .fields vs ∧ vs.getD 5 .none = .ref T ∧ vs.getD 6 .none = .int 0 0 ∧
  K.lookup T = some oT ∧ oT.data = .seq ws nT ∧ (ws.map Builtin.Re.reRawOf).map (·.toNat) = code

theorem PatIn.at {q : Addr} {code : Array Nat} (hq : PatIn X.K q code) {s : Shared} (R : Rep X S ρ T s) : s.TypeIs (.ref q) "re.Pattern" ∧ (∃ o, s.heap.get? q = some o ∧ o.dict = none) ∧ PatAt s.heap q code := by
  obtain ⟨o, vs, T', oT, ws, nT, h1, h2, h3, h4, h5, h6, h7, h8, h9⟩ := hq
  have g1 := R.kin _ _ h1
  exact ⟨⟨o, g1, h2⟩, ⟨o, g1, h3⟩, o, vs, T', oT, ws, nT, g1, h4, h5, h6, R.kin _ _ h7, h8, h9⟩

/-- regex.search(text), nothing found -/
theorem wSearch {o e : Expr} {apos pos : Pos} {q : Addr} {code : Array Nat} {pl : Env → Sem Bool} (hq : PatIn X.K q code) (h0 : Sre.ops[code.getD 0 0]? = some .INFO) (h2 : code.getD 2 0 = 4)
    (h : WpE X n ae S o fun a S1 => a = .val (.ref q) ∧ WpE X n ae S1 e fun b S2 => ∃ x, b = .str x ∧ (∀ c ∈ x.cps, NoSet code c) ∧ K .none S2) (hn : NoStar e = true)
    (he : ∀ env, eval (.Call (.Attribute o "search" apos) [e] [] pos) env = (do
      let ov ← eval o env
      standAt apos.atName
      let (f, first) ← holding [ov] (getMethod ov "search" (pl env))
      callWith pos f first (backTo pos (starEach [e] env)) (backToKw pos (keywordEach [] env))) := by intro _; rfl) :
    WpE X n ae S (.Call (.Attribute o "search" apos) [e] [] pos) K :=
  wCallM (pl := pl) (h.mono fun a S1 ⟨ea, hb⟩ => by
    subst ea
    refine mBuiltin (ty := "re.Pattern") (fun ρ T s v R hv => ?_) RF.plainAttrs RF.slot RF.type ⟨cBuiltin, ?_⟩
    · cases VR_val.mp hv
      obtain ⟨g1, g2, _⟩ := hq.at R
      exact ⟨g1, fun b e => by cases e; exact g2⟩
    · refine hb.mono fun b S2 ⟨x, eb, hx, hK⟩ => ?_
      subst eb
      exact kSearch h0 h2 hx (fun ρ T s R => by obtain ⟨g1, _, g3⟩ := hq.at R; exact ⟨g1, g3⟩) hK) he (by simp [hn]) rfl
end
end Mine
namespace Mine
section
variable {X : Cx} {n : Nat} {ae : AEnv} {S S' : List AO} {K : AV → List AO → Prop} {KB : Bool → List AO → Prop} {KF : AF → List AO → Prop} {KU : Unit → List AO → Prop}

theorem WpA.mono {target : Expr} {it : AV} {K' : Unit → List AO → Prop} (h : WpA X n ae S target it KU) (hk : ∀ x S', KU x S' → K' x S') : WpA X n ae S target it K' :=
  fun A ρ T s env v hr hR hE hv => wpAny_mono (h A ρ T s env v hr hR hE hv) (fun _ _ p => p.mono hk) fun _ _ f => f

/-- a loop with an invariant over what is left -/
theorem loopInv {target : Expr} {body : List Stmt} (Inv : List AV → List AO → Prop) (done : ∀ S, Inv [] S → KF .next S)
    (step : ∀ it r S, Inv (it :: r) S → WpA X n ae S target it fun _ S1 => WpSs X n ae S1 body fun f S2 => match f with
      | .next => Inv r S2
      | .cont => Inv r S2
      | .brk => KF .next S2
      | .ret v => KF (.ret v) S2) : ∀ (items : List AV) (S : List AO), Inv items S → WpLoop X n ae target body items S KF
  | [], S, h => done S h
  | it :: r, S, h => (step it r S h).mono fun _ S1 h1 => WpSs.mono h1 fun f S2 h2 => by
    cases f with
    | next => exact loopInv Inv done step r S2 h2
    | cont => exact loopInv Inv done step r S2 h2
    | brk => exact h2
    | ret v => exact h2
/-- a binding that reads nothing tracked -/
theorem bindTo {fd : FuncData} {xs : List AV} {kw bs : List (Str × AV)} {KB' : List (Str × AV) → List AO → Prop}
    (hb : ∀ (s : Shared) (ρ T : List Addr) (vs : List Value) (ks : List (Str × Value)), X.K.In s.heap → VRs X ρ T s.heap xs vs → VRk X ρ T s.heap kw ks → ∃ bv, BindsTo s fd ⟨vs, ks⟩ bv ∧ VRk X ρ T s.heap bs bv)
    (h : KB' bs S) : Binds X n S fd xs kw KB' := fun A ρ T s vs ks hr hR hv hks => by
  obtain ⟨bv, h1, h2⟩ := hb s ρ T vs ks hR.kin hv hks
  exact h1 _ _ _ _ (PostG.mk (.refl hR) h h2)
end
end Mine
namespace Mine
section
variable {X : Cx} {n : Nat} {ae : AEnv} {S S' : List AO} {K : AV → List AO → Prop} {KB : Bool → List AO → Prop} {KF : AF → List AO → Prop} {KU : Unit → List AO → Prop}

theorem WpTests.mono : ∀ {fs : List Expr} {S : List AO} {KB KB' : Bool → List AO → Prop}, WpTests X n ae fs S KB → (∀ b S', KB b S' → KB' b S') → WpTests X n ae fs S KB'
  | [], S, _, _, h, hk => hk _ _ h
  | c :: r, S, _, _, h, hk => WpB.mono h fun b S1 h1 => by
    split at h1
    · rename_i e; rw [if_pos e]; exact WpTests.mono h1 hk
    · rename_i e; rw [if_neg e]; exact hk _ _ h1

/-- what one turn of a list comprehension does -/
noncomputable def Turn (X : Cx) (n : Nat) (ce : AEnv) (t : Expr) (fs : List Expr) (elt : Expr) (L : List AO) (f : AV → Option AV) (it : AV) : Prop :=
  ∀ xs vars, WpA X n ce (L ++ [.lst xs, .ns vars]) t it fun _ S2 => WpTests X n ce fs S2 fun b S3 =>
    if b = true then WpE X n ce S3 elt fun v S4 => ∃ vars', S4 = L ++ [.lst xs, .ns vars'] ∧ f it = some v else ∃ vars', S3 = L ++ [.lst xs, .ns vars'] ∧ f it = none

theorem turn0 {ce : AEnv} {t elt : Expr} {L : List AO} {f : AV → Option AV} {it : AV} (h : ∀ xs vars, WpA X n ce (L ++ [.lst xs, .ns vars]) t it fun _ S2 => WpE X n ce S2 elt fun v S4 => ∃ vars', S4 = L ++ [.lst xs, .ns vars'] ∧ f it = some v) :
    Turn X n ce t [] elt L f it := fun xs vars => (h xs vars).mono fun _ S2 h2 => by
  unfold WpTests
  dsimp only; rw [if_pos rfl]; exact h2
theorem turn1 {ce : AEnv} {t elt c : Expr} {L : List AO} {f : AV → Option AV} {it : AV} (h : ∀ xs vars, WpA X n ce (L ++ [.lst xs, .ns vars]) t it fun _ S2 => WpB X n ce S2 c fun b S3 =>
    if b = true then WpE X n ce S3 elt fun v S4 => ∃ vars', S4 = L ++ [.lst xs, .ns vars'] ∧ f it = some v else ∃ vars', S3 = L ++ [.lst xs, .ns vars'] ∧ f it = none) :
    Turn X n ce t [c] elt L f it := fun xs vars => (h xs vars).mono fun _ S2 h2 => WpB.mono h2 fun b S3 h3 => by
  cases b with
  | true => rw [if_pos rfl] at h3 ⊢; unfold WpTests; dsimp only; rw [if_pos rfl]; exact h3
  | false => rw [if_neg (by decide)] at h3 ⊢; dsimp only; rw [if_neg (by decide)]; exact h3

theorem turns_list {ce : AEnv} {t elt : Expr} {fs : List Expr} {gens : List Comprehension} {sc : Scope} {pos : Pos} {L : List AO} {f : AV → Option AV} {m : Nat} (hm : L.length = m) {K : List AO → Prop} : ∀ (items : List AV) (xs : List AV) (vars : List (Str × AV)), (xs.length + items.length ≤ sizeLine) →
    (∀ it ∈ items, Turn X n ce t fs elt L f it) → (∀ vars', K (L ++ [.lst (xs ++ items.filterMap f), .ns vars'])) →
    WpItems (WpIn X n ce t fs (WpGens X n ce (emitW X n ce m (.ListComp elt gens sc pos)) [])) items (L ++ [.lst xs, .ns vars]) K
  | [], xs, vars, _, _, h => by have := h vars; simpa [WpItems] using this
  | it :: r, xs, vars, hl, ht, h => by
    have hl : xs.length + (r.length + 1) ≤ sizeLine := hl
    refine WpA.mono (ht it (.head _) xs vars) fun _ S2 h2 => WpTests.mono h2 fun b S3 h3 => ?_
    split at h3
    · rename_i e
      rw [if_pos e]
      refine WpE.mono h3 fun v S4 ⟨vars', e4, ef⟩ => ?_
      subst e4
      have hg : (L ++ [AO.lst xs, .ns vars'])[m]? = some (.lst xs) := by rw [← hm]; simp
      refine ⟨xs, hg, by omega, ?_⟩
      have hs : (L ++ [AO.lst xs, .ns vars']).set m (.lst (xs ++ [v])) = L ++ [.lst (xs ++ [v]), .ns vars'] := by
        rw [← hm, List.set_append_right _ _ (Nat.le_refl _)]; simp
      rw [hs]
      refine turns_list hm r (xs ++ [v]) vars' (by simp; omega) (fun it' hi => ht it' (.tail _ hi)) fun vars2 => ?_
      have := h vars2
      rw [List.filterMap_cons, ef] at this
      simpa using this
    · rename_i e
      rw [if_neg e]
      obtain ⟨vars', e4, ef⟩ := h3
      subst e4
      refine turns_list hm r xs vars' (by omega) (fun it' hi => ht it' (.tail _ hi)) fun vars2 => ?_
      have := h vars2
      rw [List.filterMap_cons, ef] at this
      exact this

theorem unds_filterMap {m : Nat} {f : AV → Option AV} : ∀ (items : List AV), (∀ it ∈ items, ∀ v, f it = some v → v.und m) → AV.unds m (items.filterMap f)
  | [], _ => trivial
  | it :: r, h => by
    rw [List.filterMap_cons]
    cases e : f it with
    | none => exact unds_filterMap r fun i hi => h i (.tail _ hi)
    | some v => exact ⟨h it (.head _) v e, unds_filterMap r fun i hi => h i (.tail _ hi)⟩

/-- [elt for t in i if ..] -/
theorem wLC {elt t i : Expr} {fs : List Expr} {sc : Scope} {pos : Pos} (hc : CompIs ae [⟨t, i, fs, 0⟩] sc) (hsi : ∀ env x, foldedSetIterable i env x = pure x) (hcell : cellAOs sc.names = [])
    (h : WpI X n ae S t i fun items k S1 => ∃ f : AV → Option AV, items.length ≤ sizeLine ∧ (∀ it ∈ items, ∀ v, f it = some v → v.und S1.length) ∧ (∀ it ∈ items, Turn X n (cEnv ae sc S1.length) t fs elt (lo S1 k) f it) ∧ K (.lst (items.filterMap f)) S1) :
    WpE X n ae S (.ListComp elt [⟨t, i, fs, 0⟩] sc pos) K :=
  wComp (.list ..) hc (fun g hg => by cases List.mem_singleton.mp hg; exact hsi) (fun A ρ T s env Q E E' hr hR hE hQ => h A ρ T s env Q E E' hr hR hE fun items k S1 ρ1 T1 s1 ⟨f, hl, hu, ht, hK⟩ st => hQ items k S1 ρ1 T1 s1 (by
    unfold CompOk
    rw [hcell]
    refine turns_list (lo_length S1 k) items [] [] (by simpa using hl) ht fun vars' => ?_
    exact ⟨_, vars', [], _, rfl, .lst (by simpa using unds_filterMap items hu), by simpa using hK⟩) st)
theorem compIs0 {g : Comprehension} {sc : Scope} (h1 : sc.kind = .function) (h2 : g.is_async = 0) (h3 : ∀ x ∈ sc.names, x.2 ≠ .free) (h4 : ∀ x ∈ sc.names, x.2 = .local → sc.names.lookup x.1 = some .local) : CompIs ae [g] sc :=
  ⟨h1, fun g' hg => by cases List.mem_singleton.mp hg; exact h2, fun x hx e => absurd e (h3 x hx), h4⟩
end
end Mine
namespace Mine
section
variable {X : Cx} {n : Nat} {ae : AEnv} {S S' : List AO} {ρ T : List Addr} {s : Shared} {target : Expr} {K : AV → List AO → Prop} {KB : Bool → List AO → Prop} {KF : AF → List AO → Prop} {KU : Unit → List AO → Prop}

/-- a method call whose value is iterated at once -/
theorem iCallM {o : Expr} {name : Str} {apos pos : Pos} {args : List Expr} {pl : Env → Sem Bool} {KI : List AV → Option Nat → List AO → Prop}
    (h : WpE X n ae S o fun a S1 => WpM X n S1 name a fun p S2 => Callee X p.1 ∧ WpArgs X n ae args S2 fun as S3 => RawI X n S3 target p.1 (p.2 ++ as) KI)
    (he : ∀ env, eval (.Call (.Attribute o name apos) args [] pos) env = (do
      let ov ← eval o env
      standAt apos.atName
      let (f, first) ← holding [ov] (getMethod ov name (pl env))
      callWith pos f first (backTo pos (starEach args env)) (backToKw pos (keywordEach [] env))) := by intro _; rfl)
    (hn : args.all NoStar = true := by rfl) : WpI X n ae S target (.Call (.Attribute o name apos) args [] pos) KI := fun A ρ T s env Q E E' hr hR hE hQ => by
  refine methodCall_KW (pl := pl env) (chain (h A ρ T s env hr hR hE) fun a S1 ρ1 T1 v s1 hK st hv => chain (hK A ρ1 T1 s1 v (pl env) hr st.rep hv) fun p S2 ρ2 T2 q s2 hK2 st2 hq => ?_) (he env)
  obtain ⟨f, self⟩ := p
  obtain ⟨f', first⟩ := q
  obtain ⟨e1, e2⟩ := hq
  cases e1
  have st02 := st.trans hR st2
  refine callWith_of (P := X.K.In) (by rw [backTo_star args env pos hn]; rfl) hK2.1 (evalArgs_any (backTo_star args env pos hn) rfl ?_)
  refine chain (args_sound args (pos := pos) hn hr st2.rep (hE.step st02 hR) hK2.2) fun as S3 ρ3 T3 vs s3 hK3 st3 hvs => ?_
  refine wpAny_pure ⟨st3.rep.kin, ?_⟩
  have := hK3 A ρ3 T3 s3 (first ++ vs) Q E E' hr st3.rep (VRs.app (VRs.mv (st3.mv st2.rep) _ e2) hvs) fun items hi I fp wr P Md St h' tk W => hQ items none S3 ρ3 T3 s3 hi (st02.trans hR st3) I fp wr P Md St h' tk W
  simpa using this

theorem entry_itemiter : entryFor table "dict_itemiterator.__iter__" = some Builtin.«dict_keyiterator.__iter__» :=
  entryFor_alias (id' := "dict_keyiterator.__iter__") (by kernel_rfl) (by decide +kernel) (by decide +kernel) (by kernel_rfl)
theorem pyIter_itemiter {prog : Program} {w : World} {A : Around} {E : Value → Shared → Prop} {s : Shared} {it d : Addr} {i m ep : Nat} {ok ov : Value} {Q : Value → Shared → Prop} (hit : IsItemIter s.heap it d i m ep ok ov) (h : Q (.ref it) s) : wpAny (model prog w) A (pyIter (.ref it)) Q E s := by
  have hT : s.TypeIs (.ref it) "dict_itemiterator" := ⟨_, hit, rfl⟩
  refine wpAny_pyIter_slot hT F.slot_dict_itemiterator_iter (wpAny_call_entry F.slot_dict_itemiterator_iter hT entry_itemiter ?_ (F.args_dict_itemiterator_iter_1 _))
  show wpAny _ _ (ret (.ref it)) _ _ s
  exact wpAny_pure ⟨_, rfl, "dict_itemiterator", _, hT, F.slot_dict_itemiterator_next.lookup, h⟩

/-- d.items() of an empty dict -/
theorem rItems0 {elts : List Expr} {kk : Nat} {pos : Pos} {K : List AV → Option Nat → List AO → Prop} (h : K [] none S) : RawI X n S (.Tuple elts kk pos) (.builtin "dict.items") [.dct []] K := fun A ρ T s vs Q E E' hr hR hv hQ => by
  obtain ⟨v, rfl, hq⟩ := hv.one_inv
  skip
  obtain ⟨d, kvs, rfl, hd, hy, hi, hk⟩ := hq
  cases kvs with
  | cons _ _ => simp [VRk_nil, VRk_cons] at hk
  | nil =>
  refine PySem.call_meetsIn F.slot_dict_items hi.typeIs F.entry_dict_items (F.args_dict_items_1 _) (meets_dict_items (strKind X.prog X.w) d hy) ⟨⟨_, hi⟩, ?_⟩
  obtain ⟨ep, hat⟩ := hi.dictAt
  have hat2 : (s.heap.push { cls := .type "dict_items", data := .fields #[.ref d] }).DictAt (PySem.strKind X.prog X.w) d [] ep := hat.at' fun o e => Heap.get?_push_of_some _ e
  show wpAny X.M A (pyIter (.ref s.heap.objs.size)) Q E { s with heap := s.heap.push { cls := .type "dict_items", data := .fields #[.ref d] } }
  refine wpAny_pyIter_items (v := s.heap.objs.size) ⟨_, Heap.get?_push_size _ rfl, rfl, rfl⟩ hat2 ?_
  have hsz : (s.heap.push { cls := .type "dict_items", data := .fields #[.ref d] }).objs.size = s.heap.objs.size + 1 := Heap.size_push ..
  have hlt : d < s.heap.objs.size := hat.lt_size
  have hne : d ≠ s.heap.objs.size + 1 := Nat.ne_of_lt (Nat.lt_succ_of_lt hlt)
  have hI := Heap.get?_push_size (s.heap.push { cls := .type "dict_items", data := .fields #[.ref d] }) (o := { cls := .type "dict_itemiterator", data := .fields #[.none, .bool false, .ref d, .int 0 0, .int 0 0, .int ep 0, .none, .none] }) rfl
  rw [hsz] at hI
  show Q (.ref (s.heap.push { cls := .type "dict_items", data := .fields #[.ref d] }).objs.size) _
  rw [hsz]
  refine hQ [] h (s.heap.objs.size + 1) _ _ _ _ _ _ s.toks { hk := fun b o e => Heap.get?_push_of_some _ (Heap.get?_push_of_some _ e), turns := kti_itemsTurns (knd := PySem.strKind X.prog X.w) hr.handled (s.heap.objs.size + 1) d hne [] ep, st := ⟨⟨_, _, hI⟩, hat2.at' fun o e => Heap.get?_push_of_some _ e⟩, time := Nat.le_refl _, new := ?_, foot := ?_, ex := ?_, item := ?_, self := ?_ }
  · intro b hb; rw [List.mem_singleton.mp hb]; exact noneAt _ (Nat.le_succ _)
  · intro b hb
    rcases List.mem_cons.mp hb with rfl | hb
    · exact .inl (by simp)
    · rw [List.mem_singleton.mp hb]
      obtain ⟨o, _, ho, _⟩ := hat
      exact .inr ⟨hR.notLive (.inr hd), o, ho⟩
  · rintro i h ⟨⟨_, _, ho⟩, _⟩ b hb
    rw [List.mem_singleton.mp hb]; exact ⟨_, ho⟩
  · intro j it v h ρ' T' hj
    simp at hj
  · rintro s' Q' E' ⟨⟨_, _, ho⟩, _⟩ q
    exact pyIter_itemiter ho q
end
end Mine
namespace Mine
section
variable {X : Cx} {n : Nat} {ae : AEnv} {S S' : List AO} {ρ T : List Addr} {s : Shared} {K : AV → List AO → Prop} {KB : Bool → List AO → Prop} {KF : AF → List AO → Prop} {KU : Unit → List AO → Prop}

/-- the accumulator stays, what was made behind it is let go -/
theorem keepAcc {S1 : List AO} {ρ1 T1 ρ' T' : List Addr} {s1 s' : Shared} {acc : AO} {vars : List (Str × AV)} {r : List AO} {a C : Addr} {h' : Heap} (R1 : Rep X S1 ρ1 T1 s1)
    (st : Step X S1 ρ1 T1 s1 (S1 ++ (acc :: AO.ns vars :: r)) ρ' T' s') (ha : ρ'[S1.length]? = some a) (hC : ρ'[S1.length + 1]? = some C) (hu : acc.und S1.length) (hs : ∀ b, b ≠ C → h'.get? b = s'.heap.get? b) :
    Step X S1 ρ1 T1 s1 (S1 ++ [acc]) (ρ1 ++ [a]) (T1 ++ [a]) { s' with heap := h' } := by
  have hu2 : ∀ (i : Nat) (ao : AO), (S1 ++ [acc])[i]? = some ao → ao.und S1.length := fun i ao e => by
    by_cases hi : i < S1.length
    · rw [List.getElem?_append_left hi] at e; exact R1.und i ao e
    · rw [List.getElem?_append_right (by omega)] at e
      obtain ⟨q, e⟩ := List.getElem?_eq_some_iff.mp e
      have : i - S1.length = 0 := by simpa using q
      simp [this] at e; subst e; exact hu
  obtain ⟨as, L⟩ := left_sound (S1' := S1) (ks := [S1.length]) (aos := [acc]) R1 st rfl (fun i ao e => ⟨app_get i ao e, R1.und i ao e⟩) rfl
    (fun p k e => by
      rcases p with _ | p
      · simp at e; subst e; exact ⟨Nat.le_refl _, acc, by simp, rfl, hu⟩
      · simp at e) (by simp)
  obtain ⟨a', e1, e2⟩ := L.at_ 0 _ rfl
  have : a' = a := by rw [e2] at ha; exact Option.some.inj ha
  subst this
  have hl := L.st.rep.len
  have has : as = [a'] := by
    have h1 : as.length = 1 := by
      have h0 := R1.len
      simp at hl; omega
    match as, h1 with
    | [b], _ => simp at e1; rw [e1]
  subst has
  obtain ⟨mm, q1, q2, q3⟩ := st.more
  have hCm : C ∈ mm := by
    rw [q1, List.getElem?_append_right (by rw [R1.len]; omega)] at hC
    exact List.mem_of_getElem? hC
  have hac : a' ≠ C := fun e => by
    subst e
    obtain ⟨l1, z1⟩ := List.getElem?_eq_some_iff.mp ha
    obtain ⟨l2, z2⟩ := List.getElem?_eq_some_iff.mp hC
    have := (List.getElem_inj st.rep.nodup).mp (z1.trans z2.symm)
    omega
  have hCT : C ∉ T1 ++ [a'] := fun q => by
    rcases List.mem_append.mp q with q | q
    · obtain ⟨o, e⟩ := R1.low C q; rw [q3 C hCm] at e; cases e
    · exact hac (List.mem_singleton.mp q).symm
  have hCT' : C ∈ T' := by rw [q2]; exact List.mem_append_right _ hCm
  have d : Dr S1.length ρ' T' s'.heap (ρ1 ++ [a']) (T1 ++ [a']) h' := ⟨fun b o hb e => (hs b fun q => hb (q ▸ hCT')).trans e, L.dr.trk, L.dr.ids⟩
  have hat : ∀ (i : Nat) (b : Addr), (ρ1 ++ [a'])[i]? = some b → ρ'[i]? = some b := fun i b e => by
    by_cases hi : i < ρ1.length
    · rw [List.getElem?_append_left hi] at e
      rw [q1, List.getElem?_append_left hi]; exact e
    · have hi2 := (List.getElem?_eq_some_iff.mp e).1
      have : i = ρ1.length := by simp at hi2; omega
      subst this
      simp at e; subst e
      rw [R1.len]; exact ha
  have hg : ∀ (i : Nat) (ao : AO), (S1 ++ [acc])[i]? = some ao → (S1 ++ (acc :: AO.ns vars :: r))[i]? = some ao := fun i ao e => by
    have := app_get (r := AO.ns vars :: r) i ao e
    simpa [List.append_assoc] using this
  exact {
    rep := {
      keep := fun b o e => (hs b fun q => by subst q; have := L.st.keep b o; have := R1.keep b o e; rw [q3 b hCm] at this; cases this).trans (st.rep.keep b o e)
      len := L.st.rep.len
      obj := fun i ao b f1 f2 => (st.rep.obj i ao b (hg i ao f1) (hat i b f2)).dr d (fun o e => (hs b fun q => by
        subst q
        exact hCT (L.st.rep.sub _ (List.mem_of_getElem? f2))).trans e) (hu2 i ao f1)
      nodup := L.st.rep.nodup
      nosys := L.st.rep.nosys
      sub := L.st.rep.sub
      new := L.st.rep.new
      low := fun b hb => by
        obtain ⟨o, e⟩ := L.st.rep.low b hb
        exact ⟨o, (hs b fun q => hCT (q ▸ hb)).trans e⟩
      rest := st.rep.rest
      toks := st.rep.toks }
    more := ⟨[a'], rfl, rfl, fun b hb => by
      rw [List.mem_singleton.mp hb]
      rw [q1, List.getElem?_append_right (by rw [R1.len]; exact Nat.le_refl _)] at ha
      exact q3 _ (List.mem_of_getElem? ha)⟩
    keep := fun b o hb e => (hs b fun q => by subst q; rw [q3 b hCm] at e; cases e).trans (st.keep b o hb e)
    loans := fun i e => by rw [List.getElem?_append_left (List.getElem?_eq_some_iff.mp e).1]; exact e }

/-- a comprehension whose value stays tracked -/
theorem wCompT {e t i : Expr} {fs : List Expr} {r : List Comprehension} {sc : Scope} {pos : Pos} (c : IsComp e (⟨t, i, fs, 0⟩ :: r) sc pos) (hc : CompIs ae (⟨t, i, fs, 0⟩ :: r) sc)
    (hsi : ∀ g ∈ (⟨t, i, fs, 0⟩ :: r : List Comprehension), ∀ env x, foldedSetIterable g.iter env x = pure x)
    (h : WpI X n ae S t i fun items k S1 => CompOk X n ae e t fs r sc items k S1 fun k S' => ∃ acc vars rr, S' = lo S1 k ++ (acc :: AO.ns vars :: rr) ∧ acc.und S1.length ∧ K (.obj S1.length) (S1 ++ [acc])) : WpE X n ae S e K := fun A ρ T s env hr hR hE => by
  rw [c.eval]
  have hfree' : ∀ x ∈ sc.names, x.2 = .free → (env.cells.lookup x.1).isSome = true := fun x hx e => by
    obtain ⟨i, hi⟩ := Option.isSome_iff_exists.mp (hc.free x hx e)
    obtain ⟨c, h1, _⟩ := hE.cells _ _ hi
    rw [h1]; rfl
  refine wpAny_comprehension_free c.clauses (fun x => hsi _ (.head _) env x) (closureFor_eq hfree') hc.fn hc.names ?_
  refine h A ρ T s env _ _ _ hr hR hE fun items k S1 ρ1 T1 s1 hK st I fp wr P Md St h0 tk W0 => ?_
  refine comp_core c hc.fn hc.sync hsi hc.free hr st.rep (hE.step st hR) W0 hK fun a C s' S' ρ' T' hK' st' ha hC => ?_
  obtain ⟨acc, vars, rr, rfl, hu, hk⟩ := hK'
  have st2 := Step.un st.rep st'
  rw [un_lo_app] at st2
  have hn := st2.rep.obj (S1.length + 1) (.ns vars) C (by simp) hC
  obtain ⟨m, hm, _⟩ := hn
  refine ⟨m, hm, fun h' hs => ?_⟩
  have st3 := keepAcc st.rep st2 ha hC hu (h' := h') fun b hb => hs.2 b hb
  refine PostG.mk (st.trans hR st3) hk ?_
  skip
  refine ⟨a, rfl, ?_⟩
  rw [← st.rep.len]; simp

theorem wLCT {elt t i : Expr} {fs : List Expr} {sc : Scope} {pos : Pos} (hc : CompIs ae [⟨t, i, fs, 0⟩] sc) (hsi : ∀ env x, foldedSetIterable i env x = pure x) (hcell : cellAOs sc.names = [])
    (h : WpI X n ae S t i fun items k S1 => ∃ f : AV → Option AV, items.length ≤ sizeLine ∧ (∀ it ∈ items, ∀ v, f it = some v → v.und S1.length) ∧ (∀ it ∈ items, Turn X n (cEnv ae sc S1.length) t fs elt (lo S1 k) f it) ∧ K (.obj S1.length) (S1 ++ [.lst (items.filterMap f)])) :
    WpE X n ae S (.ListComp elt [⟨t, i, fs, 0⟩] sc pos) K :=
  wCompT (.list ..) hc (fun g hg => by cases List.mem_singleton.mp hg; exact hsi) (fun A ρ T s env Q E E' hr hR hE hQ => h A ρ T s env Q E E' hr hR hE fun items k S1 ρ1 T1 s1 ⟨f, hl, hu, ht, hK⟩ st => hQ items k S1 ρ1 T1 s1 (by
    unfold CompOk
    rw [hcell]
    refine turns_list (lo_length S1 k) items [] [] (by simpa using hl) ht fun vars' => ?_
    exact ⟨_, vars', [], rfl, show AV.unds _ _ by simpa using unds_filterMap items hu, by simpa using hK⟩) st)

/-- str(x), x of an own class -/
theorem kStrH {f : Addr} {i : Nat} {ao : AO} {y : Str} (hs : findIn X.K (.ref X.C) "__str__" = some (some (.ref f))) (hf : isFn X.K (.ref f) = true) (hS : S[i]? = some ao) (hn : ao ≠ .loan) (hao : ao.und 0)
    (hc : CdC X n [ao] f [.hdr 0] [] fun v S' => v = .str y ∧ S' = [ao]) (h : K (.str y) S) : WpC X (n + 1) S (.val (.type "str")) [.hdr i] [] K := call1 fun A ρ T s v hr hR hv => by
  have hq := hv
  skip
  obtain ⟨x, dx, l, rfl, hx, hdx, hl, hx2, m, hm, _⟩ := hq
  obtain ⟨od, I, _⟩ := inst_at hx2 hm
  have hr2 : Room n A.in1.in1 := ⟨by have := hr.depth; show A.depth + n < _; omega, by have := hr.units; show A.units + 1 + 1 + 8 * n < _; omega, hr.handled⟩
  have hcall := frm1 (K := fun v S' => v = .str y ∧ S' = S) (ys := [.hdr i]) (xs := [.hdr 0]) hS hn hao (by simp [Sels]) (by simp [AV.undk]) hc.call (fun x aos hk => ⟨ao, hk.2, hn, hao, by rw [hk.1]; trivial, hk.1, set_same hS⟩)
  refine kso_call (by have := hr2.units; omega) hR.kin I hs hf (wpAny_mono (hcall A.in1.in1 ρ T s (.ref f) [.ref x] [] hr2 hR (VR_val.mpr rfl) (VRs.one hv) (by simp [VRk_nil, VRk_cons])) (fun r s' hp => ?_) fun _ _ f => f.elim)
  obtain ⟨v, S2, ρ2, T2, ⟨rfl, rfl⟩, st, hv2⟩ := hp
  obtain ⟨hl2, t, rfl⟩ := VR_str.mp hv2
  exact PostG.mk st h hv2
end
end Mine
namespace Mine
section
variable {X : Cx} {n : Nat} {ae : AEnv} {S S' : List AO} {ρ T : List Addr} {s : Shared} {K : AV → List AO → Prop} {KB : Bool → List AO → Prop} {KF : AF → List AO → Prop} {KU : Unit → List AO → Prop}

theorem kLenS {x : Str} (h : K (.int x.length) S) : WpC X n S (.val (.builtin "len")) [.str x] [] K := call1 fun A ρ T s v hr hR hv => by
  obtain ⟨hl, t, rfl⟩ := VR_str.mp hv
  exact P.len_str (by rw [sizeLine_eq] at hl; omega) (PostG.mk (.toks hR _) h (VR_int.mpr ⟨_, rfl⟩))

/-- a function that touches nothing tracked -/
theorem frmS {g : Value} {xs : List AV} {y : Str} (hx : AV.unds 0 xs) (h : ∀ K0 : AV → List AO → Prop, K0 (.str y) [] → WpC X n [] (.val g) xs [] K0) (hK : K (.str y) S) : WpC X n S (.val g) xs [] K :=
  frm0 (K0 := fun x aos => x = .str y ∧ aos = []) hx (by simp [AV.undk]) (h _ ⟨rfl, rfl⟩) fun x aos ⟨e1, e2⟩ => by
    subst e1 e2
    exact ⟨fun _ h => (nomatch h), by rw [List.append_nil]; exact hK⟩
/-- a function of one tracked list behind a Headers -/
theorem frmH {g : Value} {i : Nat} {rows : List AV} {rows' : List AV} {y : AV} {xs ys : List AV} (hS : S[i]? = some (.lst rows)) (hr : AV.unds 0 rows) (hr' : AV.unds 0 rows') (hy : y.und 0) (hsel : Sels i xs ys)
    (h : ∀ K0 : AV → List AO → Prop, K0 y [.lst rows'] → WpC X n [.lst rows] (.val g) xs [] K0) (hK : K y (S.set i (.lst rows'))) : WpC X n S (.val g) ys [] K :=
  frm1 (K0 := fun x aos => x = y ∧ aos = [.lst rows']) hS (by intro q; cases q) hr hsel (by simp [AV.undk]) (h _ ⟨rfl, rfl⟩) fun x aos ⟨e1, e2⟩ => by
    subst e1 e2
    exact ⟨_, rfl, (by intro q; cases q), hr', hy, hK⟩
end
end Mine
namespace Mine
section
variable {X : Cx} {n : Nat} {ae : AEnv} {S S' : List AO} {ρ T : List Addr} {s : Shared} {K : AV → List AO → Prop} {KB : Bool → List AO → Prop} {KF : AF → List AO → Prop} {KU : Unit → List AO → Prop}

end
end Mine
namespace Mine
section
variable {X : Cx} {n : Nat} {ae : AEnv} {S S' : List AO} {ρ T : List Addr} {s : Shared} {K : AV → List AO → Prop} {KB : Bool → List AO → Prop} {KF : AF → List AO → Prop} {KU : Unit → List AO → Prop}

end
end Mine
namespace Mine
section
variable {X : Cx} {n : Nat} {ae : AEnv} {S S' : List AO} {ρ T : List Addr} {s : Shared} {K : AV → List AO → Prop} {KB : Bool → List AO → Prop} {KF : AF → List AO → Prop} {KU : Unit → List AO → Prop}

theorem bools_of {h : Heap} : ∀ {bs : List Bool} {vs : List Value}, VRs X ρ T h (bs.map AV.bool) vs → vs = bs.map Value.bool
  | [], _, q => VRs_nil.mp q
  | b :: bs, _, q => by
    obtain ⟨v, r, rfl, h1, h2⟩ := VRs_cons.mp q
    rw [VR_bool.mp h1, bools_of h2]; rfl

end
end Mine
namespace Mine
section
variable {X : Cx} {n : Nat} {ae : AEnv} {S S' : List AO} {ρ T : List Addr} {s : Shared} {K : AV → List AO → Prop} {KB : Bool → List AO → Prop} {KF : AF → List AO → Prop} {KU : Unit → List AO → Prop}

theorem compOkL {elt t i : Expr} {fs : List Expr} {sc : Scope} {pos : Pos} {S1 : List AO} {k : Option Nat} {items : List AV} {f : AV → Option AV} (hcell : cellAOs sc.names = []) (hl : items.length ≤ sizeLine) (hu : ∀ it ∈ items, ∀ v, f it = some v → v.und S1.length)
    (ht : ∀ it ∈ items, Turn X n (cEnv ae sc S1.length) t fs elt (lo S1 k) f it) (hK : K (.lst (items.filterMap f)) S1) :
    CompOk X n ae (.ListComp elt [⟨t, i, fs, 0⟩] sc pos) t fs [] sc items k S1 (CompEnd S1 K) := by
  unfold CompOk
  rw [hcell]
  refine turns_list (lo_length S1 k) items [] [] (by simpa using hl) ht fun vars' => ?_
  exact ⟨_, vars', [], _, rfl, .lst (by simpa using unds_filterMap items hu), by simpa using hK⟩

/-- x = [elt for t in i ..] -/
theorem sLC {x : Str} {p ps : Pos} {elt t i : Expr} {fs : List Expr} {sc : Scope} {pos : Pos} (hc : CompIs ae [⟨t, i, fs, 0⟩] sc) (hsi : ∀ env x, foldedSetIterable i env x = pure x) (hcell : cellAOs sc.names = [])
    (hs : swapsWith (.ListComp elt [⟨t, i, fs, 0⟩] sc pos) (some (.Name x p)) ps.line (dumb ae.scope) = pure true)
    (h : WpI X n ae S t i fun items k S1 => ∃ f : AV → Option AV, items.length ≤ sizeLine ∧ (∀ it ∈ items, ∀ v, f it = some v → v.und S1.length) ∧ (∀ it ∈ items, Turn X n (cEnv ae sc S1.length) t fs elt (lo S1 k) f it) ∧ WpN X n ae S1 x (.lst (items.filterMap f)) fun _ S3 => KF .next S3) :
    WpS X n ae S (.Assign [.Name x p] (.ListComp elt [⟨t, i, fs, 0⟩] sc pos) ps) KF :=
  sAsgComp (.list ..) hc (fun g hg => by cases List.mem_singleton.mp hg; exact hsi) hs (fun A ρ T s env Q E E' hr hR hE hQ => h A ρ T s env Q E E' hr hR hE fun items k S1 ρ1 T1 s1 ⟨f, hl, hu, ht, hK⟩ st => hQ items k S1 ρ1 T1 s1 (compOkL (K := fun y S2 => WpN X n ae S2 x y fun _ S3 => KF .next S3) hcell hl hu ht hK) st)

end
end Mine
namespace Mine

theorem range_pick {α : Type} (ys : List α) : ∀ m : Nat, (List.range m).filterMap (ys[·]?) = ys.take m
  | 0 => by simp
  | m + 1 => by
    rw [List.range_succ, List.filterMap_append, range_pick ys m, List.take_add_one]
    cases h : ys[m]? <;> simp [h]
theorem range_pick2 {α : Type} (xs : List α) (a b : Nat) : ((List.range (b - a)).map (a + ·)).filterMap (xs[·]?) = (xs.drop a).take (b - a) := by
  rw [List.filterMap_map, ← range_pick]
  congr 1
  funext k
  simp
theorem pickL_eq (xs : List AV) (lo hi : Option Int) (a b : Nat) (h1 : (sliceBounds lo hi none xs.length).1 = a) (h2 : (sliceBounds lo hi none xs.length).2.1 = b) (h3 : (sliceBounds lo hi none xs.length).2.2 = 1) : pickL xs lo hi = (xs.drop a).take (b - a) := by
  unfold pickL
  rw [h1, h2, h3, sliceRange_one, range_pick2]
theorem pickL_take (xs : List AV) (j : Nat) : pickL xs none (some j) = xs.take j := by
  rw [pickL_eq xs none (some j) 0 (min j xs.length)]
  · rw [List.drop_zero, Nat.sub_zero]
    by_cases h : j ≤ xs.length
    · rw [Nat.min_eq_left h]
    · rw [Nat.min_eq_right (by omega), List.take_of_length_le (Nat.le_refl _), List.take_of_length_le (by omega)]
  · simp [sliceBounds]
  · simp only [sliceBounds, Option.getD_none]
    rw [if_neg (by omega : ¬ ((j : Int) < 0)), if_pos (by decide)]; omega
  · rfl
theorem pickL_drop (xs : List AV) (i : Nat) : pickL xs (some i) none = xs.drop i := by
  rw [pickL_eq xs (some i) none (min i xs.length) xs.length]
  · by_cases h : i ≤ xs.length
    · rw [Nat.min_eq_left h, List.take_of_length_le (by simp)]
    · rw [Nat.min_eq_right (by omega), List.drop_of_length_le (Nat.le_refl _), List.drop_of_length_le (by omega)]; simp
  · simp only [sliceBounds, Option.getD_none]
    rw [if_neg (by omega : ¬ ((i : Int) < 0)), if_pos (by decide)]; omega
  · simp [sliceBounds]
  · rfl
end Mine
namespace Mine
section
variable {X : Cx} {n : Nat} {ae : AEnv} {S S' : List AO} {s : Shared} {K : AV → List AO → Prop}

/-- a state one token later -/
noncomputable def bump (s : Shared) : Shared := { s with toks := s.toks + 1 }

/-- the call of the law: the token that binds its argument is the first one that is sure -/
theorem entryC {A : Around} {a : Addr} {oc ct dV kV doc pm cdv : Value} {od an : Option Addr} {osl : Array (Option Value)} {name qual : Str} {params : Arguments} {body : List Stmt} {scope : Scope} {x : Str} {av : AV} {v : Value}
    (ho : X.K.lookup a = some ⟨oc, od, .func (fnOf name qual params body scope dV kV doc pm an cdv ct), osl⟩) (hcd : codeIn X.K cdv qual = true)
    (hbind : ∀ s, BindsTo s (fnOf name qual params body scope dV kV doc pm an cdv ct) ⟨[v], []⟩ [(x, v)]) (hx : scope.names.lookup x = some .local)
    (hR : Rep X [] [] [] (bump s)) (hv : VR X [] [] s.heap av v) (hr : Room (n + 1) A)
    (hb : WpSs X n (fEnv scope 0) (.ns (put x av []) :: cellAOs scope.names) body fun f S3 => LeaveG [] K (afv f) S3)
    (hk : scope.kind = .function := by rfl) (hco : scope.isCoroutine = false := by rfl) (hgen : scope.isGenerator = false := by rfl) :
    codeAny X.M A (.call (.ref a) ⟨[v], []⟩) (fun r s' => ∃ u, r = .ok (.ret u) ∧ PostV X [] [] [] (bump s) K u s') s := by
  have hin : Room n A.in1 := hr.in1
  refine codeAny_call_function (by have := hr.depth; omega) (hR.kin a _ ho) rfl hco hgen rfl (codeRec_of hR.kin hcd) ?_
  refine hbind s _ _ _ _ ?_
  simp only [newFunctionEnv, Option.isSome_none, Bool.false_eq_true, if_false]
  refine wpAny_bind (wpAny_alloc ?_)
  refine wpAny_bind (wpAny_layCells _ (fun name kind cells => by cases hkc : kind == NameKind.cell <;> simp [hkc]) _ _ _ _ ?_)
  rw [show ({ s with heap := s.heap.push { cls := .type "frame", data := .dict #[] } } : Shared).heap.objs.size = s.heap.objs.size + 1 from Heap.size_push ..]
  have p1 := Heap.Ns.new s.heap (.type "frame")
  have st1 : Step X [] [] [] (bump s) ([] ++ [.ns []]) ([] ++ [s.heap.objs.size]) ([] ++ [s.heap.objs.size]) { bump s with heap := s.heap.push { cls := .type "frame", data := .dict #[] }, toks := s.toks + 1 } :=
    Step.new (ao := .ns []) hR (fun b o e => Heap.get?_push_of_some _ e) (newAddr s.heap) (hR.nosysOf (Nat.le_refl _)) ⟨_, Heap.get?_push_size _ rfl⟩ ⟨_, p1, fun x v e => by simp at e, fun _ _ => rfl⟩ (s.toks + 1)
  obtain ⟨ρ2, T2, st2, hc2⟩ := cells_step scope.names st1.rep [] [] (fun x i e => by simp at e)
  have st12 := st1.trans hR st2
  have hE : ∀ env : Env, env.scope = scope → env.locals = s.heap.objs.size → env.globals = mainGlobals → env.builtins = builtinsNs → env.cells = cellsFrom (s.heap.objs.size + 1) scope.names [] → EnvOk (fEnv scope 0) ρ2 env := fun env q1 q2 q3 q4 q5 => {
    scope := q1
    fn := hk
    loc := by rw [q2]; exact (st2.mv st1.rep).ids _ _ rfl
    glob := q3
    bui := q4
    cells := fun y j ej => by
      have e' : (cellsFrom ([] ++ [AO.ns []]).length scope.names []).lookup y = some j := ej
      obtain ⟨c, a, b⟩ := hc2 y j e'
      refine ⟨c, ?_, b⟩
      rw [show ({ bump s with heap := s.heap.push { cls := .type "frame", data := .dict #[] }, toks := s.toks + 1 } : Shared).heap.objs.size = s.heap.objs.size + 1 from Heap.size_push ..] at a
      rw [q5]; exact a }
  have hloc : ρ2[0]? = some s.heap.objs.size := (st2.mv st1.rep).ids _ _ rfl
  rw [List.forIn_cons]
  obtain ⟨m, hm, hq, hq'⟩ := st2.rep.obj 0 (.ns []) _ rfl hloc
  refine wpAny_bind (wpAny_bind (wpAny_bind (wpAny_storeName_local hx hm (fun h' hn hs => ?_) (by show (scope.kind == ScopeKind.class || _) = false; rw [hk]; rfl))))
  have hmv : Mv ρ2 T2 (pushCells (s.heap.push { cls := .type "frame", data := .dict #[] }) scope.names) ρ2 T2 h' := ⟨fun b o hb e => (hs.2 b (fun q => hb (q ▸ st2.rep.sub _ (List.mem_of_getElem? hloc)))).trans e, fun a ha => .inl ha, fun _ _ e => e⟩
  have st3 := Step.upd (h' := h') (ao' := .ns (put x av [])) st2.rep (i := 0) rfl hloc (by intro q; cases q) (by intro q; cases q) hs.extBut (show OR X ρ2 T2 h' _ (.ns (put x av [])) from ⟨_, hn, fun y w e => by
      rw [put_lookup] at e
      by_cases hy : y = x
      · rw [if_pos hy] at e; cases e
        exact ⟨v, by rw [if_pos hy], VR.mv hmv _ (VR.mv (st12.mv hR) _ hv)⟩
      · rw [if_neg hy] at e; simp at e, fun y e => by
      rw [put_lookup] at e
      by_cases hy : y = x
      · rw [if_pos hy] at e; cases e
      · rw [if_neg hy]; exact hq' y rfl⟩) (by obtain ⟨o, _, _, ho, _⟩ := hn; exact ⟨o, ho⟩) (s.toks + 1) (Nat.le_refl _)
  have st13 := st12.trans hR st3
  refine wpAny_pure (wpAny_pure (wpAny_pure ⟨st3.rep.topR.nolimit, codeAny_func ?_⟩))
  refine chain (hb (A.deeper _) ρ2 T2 _ _ hr.deeper st3.rep (hE _ rfl rfl rfl rfl rfl)) fun f S3 ρ3 T3 fl s3 hK3 st4 hf => ?_
  have st14 := st13.trans hR st4
  cases f with
  | next => cases hf; exact ⟨.none, rfl, hK3.post hR st14 (by simp [afv])⟩
  | brk => cases hf; exact ⟨.none, rfl, hK3.post hR st14 (by simp [afv])⟩
  | cont => cases hf; exact ⟨.none, rfl, hK3.post hR st14 (by simp [afv])⟩
  | ret x => obtain ⟨v, rfl, hx⟩ := hf; exact ⟨v, rfl, hK3.post hR st14 hx⟩
end
end Mine
namespace Mine
section
variable {X : Cx} {n : Nat} {ae : AEnv} {S S' : List AO} {ρ T : List Addr} {s : Shared} {K : AV → List AO → Prop} {KB : Bool → List AO → Prop} {KF : AF → List AO → Prop} {KU : Unit → List AO → Prop} {a b : Int}

theorem oPow3 {m : Nat} (hm : m ≤ 20) (h : K (.int (3 ^ m)) S) : Wp2 X n S (binaryOp .Pow) (.int 3) (.int m) K := op2 (fun A ρ T s v u _ _ hv hu Q E hq => by
  obtain ⟨t, rfl⟩ := VR_int.mp hv; obtain ⟨t', rfl⟩ := VR_int.mp hu
  by_cases h0 : m = 0
  · subst h0
    exact AutoIntOps.pow_0 (by decide) (by decide) (hq _ _ (by simp))
  · refine AutoIntOps.pow_4 (by omega) (by simp; omega) (by decide) (by decide) ?_ (hq _ _ (by simp))
    have : ∀ k : Fin 21, Builtin.Int.intTooBig (((Builtin.Int.intBits 3 : Nat) : Int) * ((k.val : Nat) : Int)) = false := by decide +kernel
    have := this ⟨m, by omega⟩
    simp only at this
    rw [this]; decide) h
theorem oAnd (h : K (.int (Builtin.bitAnd a b)) S) : Wp2 X n S (binaryOp .BitAnd) (.int a) (.int b) K := op2 (fun A ρ T s v u _ _ hv hu Q E hq => by
  obtain ⟨t, rfl⟩ := VR_int.mp hv; obtain ⟨t', rfl⟩ := VR_int.mp hu
  exact and_int (hq _ _ (by simp))) h
theorem oXor (h : K (.int (Builtin.bitXor a b)) S) : Wp2 X n S (binaryOp .BitXor) (.int a) (.int b) K := op2 (fun A ρ T s v u _ _ hv hu Q E hq => by
  obtain ⟨t, rfl⟩ := VR_int.mp hv; obtain ⟨t', rfl⟩ := VR_int.mp hu
  exact xor_int (hq _ _ (by simp))) h

theorem kMin (h : K (.int (if b < a then b else a)) S) : WpC X n S (.val (.builtin "min")) [.int a, .int b] [] K := call2 fun A ρ T s v u hr hR hv hu => by
  obtain ⟨t, rfl⟩ := VR_int.mp hv; obtain ⟨t', rfl⟩ := VR_int.mp hu
  refine wpAny_mono (wpAny_toks (Q := fun w s' => ∃ (h' : Heap) (tk : Nat), s' = { s with heap := h', toks := tk } ∧ (∀ c o, s.heap.get? c = some o → h'.get? c = some o) ∧ w = if b < a then .int b t' else .int a t) ?_) (fun w s' hp => ?_) fun _ _ f => f.2
  · exact min_two_ints hr.handled fun h' tk hk => ⟨h', tk, rfl, hk, rfl⟩
  · obtain ⟨htk, h', tk, rfl, hk, rfl⟩ := hp
    refine PostG.mk (.ext hR hk ⟨rfl, rfl, rfl⟩ htk) h ?_
    by_cases hc : b < a
    · rw [if_pos hc, if_pos hc]; exact VR_int.mpr ⟨_, rfl⟩
    · rw [if_neg hc, if_neg hc]; exact VR_int.mpr ⟨_, rfl⟩

theorem kIntN {k : Int} (h0 : 0 ≤ k) (h1 : k < 10 ^ 10) (h : K (.int k) S) : WpC X n S (.val (.type "int")) [.str (Str.ofString (toString k))] [] K := call1 fun A ρ T s v hr hR hv => by
  obtain ⟨_, t, rfl⟩ := VR_str.mp hv
  exact KIN.call_num h0 h1 (PostG.mk (.toks hR _) h (VR_int.mpr ⟨_, rfl⟩))

theorem any_range (bs : List Bool) : (List.range bs.length).any (fun j => bs.getD j false) = bs.any id := by
  rw [Bool.eq_iff_iff, List.any_eq_true, List.any_eq_true]
  constructor
  · intro ⟨j, hj, h⟩
    have hj := List.mem_range.mp hj
    rw [List.getD_eq_getElem?_getD, List.getElem?_eq_getElem hj] at h
    exact ⟨_, List.getElem_mem hj, h⟩
  · intro ⟨x, hx, h⟩
    obtain ⟨j, hj⟩ := List.getElem?_of_mem hx
    refine ⟨j, List.mem_range.mpr (List.getElem?_eq_some_iff.mp hj).1, ?_⟩
    rw [List.getD_eq_getElem?_getD, hj]
    exact h
theorem kAny {x : AV} {bs : List Bool} (ha : IsL S x (bs.map AV.bool)) (h : K (.bool (bs.any id)) S) : WpC X n S (.val (.builtin "any")) [x] [] K := call1 fun A ρ T s v hr hR hv => by
  obtain ⟨b, vs, rfl, hi, hq⟩ := ha.at hR hv
  have hlt : b < s.heap.objs.size := by obtain ⟨o, ho, _⟩ := hi; exact Heap.lt_size ho
  have hh : A.in1.handled = none := hr.handled
  have hvs := bools_of hq
  subst hvs
  refine wpAny_with_toks (Nat.le_refl _) (call_any_walk (wpAny_pyIter_list hi ⟨s.heap.objs.size, _, _, _, _, _, fun j => bs.getD j false, rfl, Walks.list hh s.heap.objs.size b (Nat.ne_of_lt hlt) (bs.map Value.bool).toArray, ⟨⟨_, Heap.get?_push_size _ rfl, rfl, rfl⟩, hi.at fun o e => Heap.get?_push_of_some _ e⟩, ?_, ?_⟩))
  · intro j v s' Q E hp hq'
    have hp : (bs.map Value.bool).toArray[j]? = some v := hp
    have : v = .bool (bs.getD j false) := by
      rw [List.getElem?_toArray, List.getElem?_map] at hp
      cases e : bs[j]? with
      | none => rw [e] at hp; cases hp
      | some b => rw [e] at hp; cases hp; rw [List.getD_eq_getElem?_getD, e]; rfl
    subst this
    exact wpAny_pure hq'
  · intro h' tk hk hn
    refine PostG.mk (.ext hR (fun c o e => hk c o (fun q => by rw [List.mem_singleton.mp q] at e; exact absurd (Heap.lt_size e) (Nat.lt_irrefl _)) (Heap.get?_push_of_some _ e)) ⟨rfl, rfl, rfl⟩ hn) (x := .bool (bs.any id)) h ?_
    rw [VR_bool, List.size_toArray, List.length_map, any_range]
end
end Mine
namespace Mine

/-! ## data: what has no tracked part -/
mutual
noncomputable def avOf : PyData → AV
  | .none => .none
  | .bool b => .bool b
  | .int i => .int i
  | .str x => .str x
  | .list xs => .lst (avOfs xs)
  | .tuple xs => .tup (avOfs xs)
  | .dict _ => .none
noncomputable def avOfs : List PyData → List AV
  | [] => []
  | d :: r => avOf d :: avOfs r
end
mutual
theorem VR.reads {X : Cx} {ρ T : List Addr} {h : Heap} : ∀ (d : PyData) {v : Value}, d.canLay0 = true → VR X ρ T h (avOf d) v → ∃ as, Reads h v d as
  | .none, _, _, q => by rw [VR_none.mp q]; exact ⟨_, .none⟩
  | .bool b, _, _, q => by rw [VR_bool.mp q]; exact ⟨_, .bool b⟩
  | .int i, _, _, q => by obtain ⟨t, rfl⟩ := VR_int.mp q; exact ⟨_, .int i t⟩
  | .str x, _, _, q => by obtain ⟨_, t, rfl⟩ := VR_str.mp q; exact ⟨_, .str x t⟩
  | .list xs, _, hc, q => by
    simp only [avOf, VR] at q
    obtain ⟨a, vs, rfl, _, ⟨o, ho, h1, n, h2⟩, hq⟩ := q
    obtain ⟨as, ha⟩ := VRs.reads xs hc hq
    exact ⟨_, .list ho h1 h2 (by simpa using ha)⟩
  | .tuple xs, _, hc, q => by
    simp only [avOf, VR] at q
    obtain ⟨a, vs, rfl, _, ⟨o, ho, h1, n, h2⟩, hq⟩ := q
    obtain ⟨as, ha⟩ := VRs.reads xs hc hq
    exact ⟨_, .tuple ho h1 h2 (by simpa using ha)⟩
  | .dict _, _, hc, _ => by cases hc
theorem VRs.reads {X : Cx} {ρ T : List Addr} {h : Heap} : ∀ (ds : List PyData) {vs : List Value}, PyData.canLayAll0 ds = true → VRs X ρ T h (avOfs ds) vs → ∃ as, ReadsAll h vs ds as
  | [], _, _, q => by rw [VRs_nil.mp q]; exact ⟨_, .nil⟩
  | d :: r, _, hc, q => by
    simp only [avOfs] at q
    obtain ⟨v, vs', rfl, h1, h2⟩ := VRs_cons.mp q
    have hc' : PyData.canLay0 d = true ∧ PyData.canLayAll0 r = true := by
      have : (PyData.canLay0 d && PyData.canLayAll0 r) = true := hc
      simpa using this
    obtain ⟨as, ha⟩ := VR.reads d hc'.1 h1
    obtain ⟨bs, hb⟩ := VRs.reads r hc'.2 h2
    exact ⟨_, .cons ha hb⟩
end
section
variable {X : Cx} {n : Nat} {ae : AEnv} {S S' : List AO} {ρ T : List Addr} {s : Shared} {K : AV → List AO → Prop} {KB : Bool → List AO → Prop} {KF : AF → List AO → Prop} {KU : Unit → List AO → Prop}

theorem oEqData (d e : PyData) (hd : d.canLay0 = true) (he : e.canLay0 = true) (hm : min d.depth e.depth ≤ 8 * n) (h : K (.bool (PyData.eqv d e)) S) : Wp2 X n S (compareOp .Eq) (avOf d) (avOf e) K := fun A ρ T s v u hr hR hv hu => by
  obtain ⟨as, ra⟩ := VR.reads d hd hv
  obtain ⟨bs, rb⟩ := VR.reads e he hu
  exact SeqAt.compareEq_reads ra rb hd he (by have := hr.units; omega) (PostG.mk (x := .bool (PyData.eqv d e)) (.refl hR) h rfl)
theorem oNeData (d e : PyData) (hd : d.canLay0 = true) (he : e.canLay0 = true) (hm : min d.depth e.depth ≤ 8 * n) (h : K (.bool (!PyData.eqv d e)) S) : Wp2 X n S (compareOp .NotEq) (avOf d) (avOf e) K := fun A ρ T s v u hr hR hv hu => by
  obtain ⟨as, ra⟩ := VR.reads d hd hv
  obtain ⟨bs, rb⟩ := VR.reads e he hu
  exact SeqAt.compareNe_reads ra rb hd he (by have := hr.units; omega) (PostG.mk (x := .bool (!PyData.eqv d e)) (.refl hR) h rfl)

/-! ## xs[i] = y -/
theorem setItem_plain {A : Around} {l : Addr} {items : Array Value} {k : Int} {t : Tok} {v : Value} {Q : Unit → Shared → Prop} {E : Value → Shared → Prop} (hl : s.heap.PlainList l items) (h0 : 0 ≤ k) (hfit : k < 2 ^ 63) (hn : k < items.size)
    (hQ : ∀ h', h'.PlainList l (items.setIfInBounds k.toNat v) → Heap.SameBut l s.heap h' → Q () { s with heap := h' }) : wpAny X.M A (setItem (.ref l) (.int k t) v) Q E s := by
  obtain ⟨n0, ho⟩ := id hl
  exact ki_setAt (n := n0) ho h0 hfit hn (hQ _ ⟨_, get?_update_seq ho (·.setIfInBounds k.toNat v)⟩ (Heap.SameBut.update ..))

theorem VRs.set {h : Heap} {y : AV} {u : Value} (hy : VR X ρ T h y u) : ∀ {xs : List AV} {vs : List Value}, VRs X ρ T h xs vs → ∀ i : Nat, VRs X ρ T h (xs.set i y) (vs.set i u)
  | [], _, q, i => by rw [VRs_nil.mp q]; exact VRs_nil.mpr rfl
  | x :: xs, _, q, i => by
    obtain ⟨v, r, rfl, h1, h2⟩ := VRs_cons.mp q
    cases i with
    | zero => exact VRs_cons.mpr ⟨u, r, rfl, hy, h2⟩
    | succ i => exact VRs_cons.mpr ⟨v, r.set i u, rfl, h1, VRs.set hy h2 i⟩
theorem setL {i : Nat} {xs : List AV} {k : Int} {j : Nat} {y : AV} (hS : S[i]? = some (.lst xs)) (hk : k = j) (hj : j < xs.length) (hl : xs.length ≤ sizeLine) (h : KU () (S.set i (.lst (xs.set j y)))) : WpSet X n S (.obj i) (.int k) y KU := fun A ρ T s ov iv vv hr hR ho hi hv => by
  subst hk
  skip
  obtain ⟨a, rfl, ha⟩ := ho
  obtain ⟨t, rfl⟩ := VR_int.mp hi
  obtain ⟨vs, hd, hq⟩ := hR.obj _ _ _ hS ha
  have hlen := hq.length
  rw [sizeLine_eq] at hl
  refine setItem_plain hd (by omega) (by omega) (by rw [List.size_toArray, hlen]; omega) fun h' hd' hs => ?_
  have mv := hR.mvSelf (List.mem_of_getElem? ha) hs.extBut
  have e : vs.toArray.setIfInBounds ((j : Int)).toNat vv = (vs.set j vv).toArray := by simp
  rw [e] at hd'
  exact PostG.mk (x := ()) (.upd hR hS ha (by intro q; cases q) (by intro q; cases q) hs.extBut (ao' := .lst (xs.set j y)) ⟨_, hd', VRs.set (VR.mv mv _ hv) (VRs.mv mv _ hq) j⟩ (by obtain ⟨c, e⟩ := hd'; exact ⟨_, e⟩) _) h trivial

/-- o[i] op= v -/
theorem sAugSub {o i value : Expr} {tpos pos : Pos} {op : Operator} (h : WpE X n ae S o fun a S1 => WpE X n ae S1 i fun b S2 => WpX X n S2 i a b fun x S3 => WpE X n ae S3 value fun y S4 => Wp2 X n S4 (inplaceOp op) x y fun z S5 => WpSet X n S5 a b z fun _ S6 => KF .next S6)
    (hi : ∀ ov iv new, augStore i ov iv new = (do holding [new, ov, iv] (setItem ov iv new); release [new, ov, iv] []; pure .next) := by intros; rfl) : WpS X n ae S (.AugAssign (.Subscript o i tpos) op value pos) KF := fun A ρ T s env hr hR hE =>
  wpAny_AugAssign_SubscriptAny (chain (h A ρ T s env hr hR hE) fun a S1 ρ1 T1 av s1 hK st hv => chain (hK A ρ1 T1 s1 env hr st.rep (hE.step st hR)) fun b S2 ρ2 T2 bv s2 hK2 st2 hb => by
    have st02 := st.trans hR st2
    have hv2 := VR.mv (st2.mv st.rep) _ hv
    obtain ⟨Ty, id, _, _, hg⟩ := hK2 A ρ2 T2 s2 av bv hr st2.rep hv2 hb
    refine chain hg fun x S3 ρ3 T3 xv s3 hK3 st3 hx => ?_
    have st03 := st02.trans hR st3
    refine chain (hK3 A ρ3 T3 s3 env hr st3.rep (hE.step st03 hR)) fun y S4 ρ4 T4 yv s4 hK4 st4 hy => ?_
    have st04 := st03.trans hR st4
    refine chain (hK4 A ρ4 T4 s4 xv yv hr st4.rep (VR.mv (st4.mv st3.rep) _ hx) hy) fun z S5 ρ5 T5 zv s5 hK5 st5 hz => ?_
    have st05 := st04.trans hR st5
    have st25 := (st3.trans st2.rep st4).trans st2.rep st5
    exact chain (hK5 A ρ5 T5 s5 av bv zv hr st5.rep (VR.mv (st25.mv st2.rep) _ hv2) (VR.mv (st25.mv st2.rep) _ hb) hz) fun _ S6 ρ6 T6 _ s6 hK6 st6 _ => PostG.mk (st05.trans hR st6) hK6 rfl) hi
end
end Mine
namespace Mine
section
variable {X : Cx} {n : Nat} {ae : AEnv} {S S' : List AO} {ρ T : List Addr} {s : Shared} {K : AV → List AO → Prop} {KB : Bool → List AO → Prop} {KF : AF → List AO → Prop} {KU : Unit → List AO → Prop}

theorem VRs.replicate {h : Heap} {x : AV} {v : Value} (hv : VR X ρ T h x v) : ∀ k : Nat, VRs X ρ T h (List.replicate k x) (List.replicate k v)
  | 0 => VRs_nil.mpr rfl
  | k + 1 => VRs_cons.mpr ⟨v, _, rfl, hv, VRs.replicate hv k⟩
theorem fold_one (v : Value) : ∀ (k : Nat) (acc : Array Value), List.foldl (fun x1 x2 => x1 ++ x2) acc (List.replicate k #[v]) = acc ++ (List.replicate k v).toArray
  | 0, acc => by simp
  | k + 1, acc => by
    rw [List.replicate_succ, List.foldl_cons, fold_one v k, List.replicate_succ]
    apply Array.toList_inj.mp
    simp
/-- a list times a number -/
theorem oMulLT {x : AV} {k : Nat} (hk : k ≤ 1000) (h : K (.obj S.length) (S ++ [.lst (List.replicate k x)])) : Wp2 X n S (binaryOp .Mult) (.lst [x]) (.int k) K := fun A ρ T s v u hr hR hv hu => by
  skip
  obtain ⟨a, vs, rfl, _, hi, hq⟩ := hv
  obtain ⟨w, rfl, hw⟩ := hq.one_inv
  obtain ⟨t, rfl⟩ := VR_int.mp hu
  have hx0 : ∃ x : Int, x = ((k : Nat) : Int) := ⟨_, rfl⟩
  obtain ⟨x', hx'⟩ := hx0
  rw [← hx']
  have hxn : x'.toNat = k := by omega
  obtain ⟨⟨cls, d, data, sl⟩, ho, hcl, c, hd⟩ := id hi
  simp only at hcl hd
  subst hcl hd
  refine wpAny_binaryOp_repeat_ref (T := "list") (U := "int") (by decide) ⟨_, ho, rfl⟩ (fun s' => typeIs_int s' _ t) noFill_list_mul F.fills_int_mul F.slot_int_rmul repeat_list F.slot_int_index.lookup
    (call_meets F.slot_int_rmul (typeIs_int s _ t) F.entry_int_rmul (F.args_int_rmul_2 _ _) (lm_int_rmul_list_any x' t a [w].toArray c d sl)
      ⟨ho, rfl, ⟨_, ho, rfl⟩, call_meets F.slot_list_mul ⟨_, ho, rfl⟩ F.entry_list_mul (F.args_list_mul_2 _ _)
        (lm_list_mul_any a [w].toArray c d sl x' t (by simp [Builtin.List.listFitsIndex]; omega) (by simp; omega) (by simp [Builtin.List.listTooLong, sizeLine]; omega))
        ⟨ho, ?_⟩⟩)
  have e : List.foldl (fun x1 x2 => x1 ++ x2) #[] (List.replicate (if ([w] : List Value).toArray.isEmpty = true then 0 else x'.toNat) ([w] : List Value).toArray) = (List.replicate k w).toArray := by
    rw [hxn]
    have := fold_one w k #[]
    simpa using this
  rw [e]
  have hp : (s.heap.push { cls := .type "list", data := .seq (List.replicate k w).toArray }).get? s.heap.objs.size = some { cls := .type "list", data := .seq (List.replicate k w).toArray } := Heap.get?_push_size _ rfl
  have hkp : ∀ b o, s.heap.get? b = some o → (s.heap.push { cls := .type "list", data := .seq (List.replicate k w).toArray }).get? b = some o := fun b o e => Heap.get?_push_of_some _ e
  refine PostG.mk (Step.new (ao := .lst (List.replicate k x)) hR hkp (newAddr _) (hR.nosysOf (Nat.le_refl _)) ⟨_, hp⟩ ⟨List.replicate k w, ⟨_, hp⟩, VRs.mv (mvNew hR hkp (newAddr _)) _ (VRs.replicate hw k)⟩ s.toks) h ?_
  skip
  exact ⟨_, rfl, by rw [← hR.len]; simp⟩
end
end Mine
namespace Mine
section
variable {X : Cx} {n : Nat} {ae : AEnv} {S S' : List AO} {K : AV → List AO → Prop} {KB : Bool → List AO → Prop} {KF : AF → List AO → Prop} {KU : Unit → List AO → Prop}

/-- a turn of a comprehension whose frame has one cell of its own -/
noncomputable def TurnC (X : Cx) (n : Nat) (ce : AEnv) (t : Expr) (fs : List Expr) (elt : Expr) (L : List AO) (f : AV → Option AV) (it : AV) : Prop :=
  ∀ xs vars c, WpA X n ce (L ++ [.lst xs, .ns vars, .cell c]) t it fun _ S2 => WpTests X n ce fs S2 fun b S3 =>
    if b = true then WpE X n ce S3 elt fun v S4 => ∃ vars' c', S4 = L ++ [.lst xs, .ns vars', .cell c'] ∧ f it = some v else ∃ vars' c', S3 = L ++ [.lst xs, .ns vars', .cell c'] ∧ f it = none
theorem turnC0 {ce : AEnv} {t elt : Expr} {L : List AO} {f : AV → Option AV} {it : AV} (h : ∀ xs vars c, WpA X n ce (L ++ [.lst xs, .ns vars, .cell c]) t it fun _ S2 => WpE X n ce S2 elt fun v S4 => ∃ vars' c', S4 = L ++ [.lst xs, .ns vars', .cell c'] ∧ f it = some v) :
    TurnC X n ce t [] elt L f it := fun xs vars c => (h xs vars c).mono fun _ S2 h2 => by
  unfold WpTests
  dsimp only; rw [if_pos rfl]; exact h2

theorem turnsC {ce : AEnv} {t elt : Expr} {fs : List Expr} {gens : List Comprehension} {sc : Scope} {pos : Pos} {L : List AO} {f : AV → Option AV} {m : Nat} (hm : L.length = m) {K : List AO → Prop} : ∀ (items : List AV) (xs : List AV) (vars : List (Str × AV)) (c : Option AV), (xs.length + items.length ≤ sizeLine) →
    (∀ it ∈ items, TurnC X n ce t fs elt L f it) → (∀ vars' c', K (L ++ [.lst (xs ++ items.filterMap f), .ns vars', .cell c'])) →
    WpItems (WpIn X n ce t fs (WpGens X n ce (emitW X n ce m (.ListComp elt gens sc pos)) [])) items (L ++ [.lst xs, .ns vars, .cell c]) K
  | [], xs, vars, c, _, _, h => by have := h vars c; simpa [WpItems] using this
  | it :: r, xs, vars, c, hl, ht, h => by
    have hl : xs.length + (r.length + 1) ≤ sizeLine := hl
    refine WpA.mono (ht it (.head _) xs vars c) fun _ S2 h2 => WpTests.mono h2 fun b S3 h3 => ?_
    split at h3
    · rename_i e
      rw [if_pos e]
      refine WpE.mono h3 fun v S4 ⟨vars', c', e4, ef⟩ => ?_
      subst e4
      have hg : (L ++ [AO.lst xs, .ns vars', .cell c'])[m]? = some (.lst xs) := by rw [← hm]; simp
      refine ⟨xs, hg, by omega, ?_⟩
      have hs : (L ++ [AO.lst xs, .ns vars', .cell c']).set m (.lst (xs ++ [v])) = L ++ [.lst (xs ++ [v]), .ns vars', .cell c'] := by
        rw [← hm, List.set_append_right _ _ (Nat.le_refl _)]; simp
      rw [hs]
      refine turnsC hm r (xs ++ [v]) vars' c' (by simp; omega) (fun it' hi => ht it' (.tail _ hi)) fun vars2 c2 => ?_
      have := h vars2 c2
      rw [List.filterMap_cons, ef] at this
      simpa using this
    · rename_i e
      rw [if_neg e]
      obtain ⟨vars', c', e4, ef⟩ := h3
      subst e4
      refine turnsC hm r xs vars' c' (by omega) (fun it' hi => ht it' (.tail _ hi)) fun vars2 c2 => ?_
      have := h vars2 c2
      rw [List.filterMap_cons, ef] at this
      exact this

theorem compOkC {elt t i : Expr} {fs : List Expr} {sc : Scope} {pos : Pos} {S1 : List AO} {k : Option Nat} {items : List AV} {f : AV → Option AV} (hcell : cellAOs sc.names = [.cell none]) (hl : items.length ≤ sizeLine) (hu : ∀ it ∈ items, ∀ v, f it = some v → v.und S1.length)
    (ht : ∀ it ∈ items, TurnC X n (cEnv ae sc S1.length) t fs elt (lo S1 k) f it) (hK : K (.lst (items.filterMap f)) S1) :
    CompOk X n ae (.ListComp elt [⟨t, i, fs, 0⟩] sc pos) t fs [] sc items k S1 (CompEnd S1 K) := by
  unfold CompOk
  rw [hcell]
  refine turnsC (lo_length S1 k) items [] [] none (by simpa using hl) ht fun vars' c' => ?_
  exact ⟨_, vars', [.cell c'], _, rfl, .lst (by simpa using unds_filterMap items hu), by simpa using hK⟩

theorem wLCc {elt t i : Expr} {fs : List Expr} {sc : Scope} {pos : Pos} (hc : CompIs ae [⟨t, i, fs, 0⟩] sc) (hsi : ∀ env x, foldedSetIterable i env x = pure x) (hcell : cellAOs sc.names = [.cell none])
    (h : WpI X n ae S t i fun items k S1 => ∃ f : AV → Option AV, items.length ≤ sizeLine ∧ (∀ it ∈ items, ∀ v, f it = some v → v.und S1.length) ∧ (∀ it ∈ items, TurnC X n (cEnv ae sc S1.length) t fs elt (lo S1 k) f it) ∧ K (.lst (items.filterMap f)) S1) :
    WpE X n ae S (.ListComp elt [⟨t, i, fs, 0⟩] sc pos) K :=
  wComp (.list ..) hc (fun g hg => by cases List.mem_singleton.mp hg; exact hsi) (fun A ρ T s env Q E E' hr hR hE hQ => h A ρ T s env Q E E' hr hR hE fun items k S1 ρ1 T1 s1 ⟨f, hl, hu, ht, hK⟩ st => hQ items k S1 ρ1 T1 s1 (compOkC hcell hl hu ht hK) st)
theorem sLCc {x : Str} {p ps : Pos} {elt t i : Expr} {fs : List Expr} {sc : Scope} {pos : Pos} (hc : CompIs ae [⟨t, i, fs, 0⟩] sc) (hsi : ∀ env x, foldedSetIterable i env x = pure x) (hcell : cellAOs sc.names = [.cell none])
    (hs : swapsWith (.ListComp elt [⟨t, i, fs, 0⟩] sc pos) (some (.Name x p)) ps.line (dumb ae.scope) = pure true)
    (h : WpI X n ae S t i fun items k S1 => ∃ f : AV → Option AV, items.length ≤ sizeLine ∧ (∀ it ∈ items, ∀ v, f it = some v → v.und S1.length) ∧ (∀ it ∈ items, TurnC X n (cEnv ae sc S1.length) t fs elt (lo S1 k) f it) ∧ WpN X n ae S1 x (.lst (items.filterMap f)) fun _ S3 => KF .next S3) :
    WpS X n ae S (.Assign [.Name x p] (.ListComp elt [⟨t, i, fs, 0⟩] sc pos) ps) KF :=
  sAsgComp (.list ..) hc (fun g hg => by cases List.mem_singleton.mp hg; exact hsi) hs (fun A ρ T s env Q E E' hr hR hE hQ => h A ρ T s env Q E E' hr hR hE fun items k S1 ρ1 T1 s1 ⟨f, hl, hu, ht, hK⟩ st => hQ items k S1 ρ1 T1 s1 (compOkC (K := fun y S2 => WpN X n ae S2 x y fun _ S3 => KF .next S3) hcell hl hu ht hK) st)
end
end Mine
namespace Mine
section
variable {X : Cx} {n : Nat} {ae : AEnv} {S S' : List AO} {K : AV → List AO → Prop}

/-- an expression whose helpers are forgotten behind it -/
theorem wDrop {e : Expr} (h : WpE X n ae S e fun x S2 => LeaveG S K x S2) : WpE X n ae S e K := fun A ρ T s env hr hR hE =>
  chain (h A ρ T s env hr hR hE) fun x S1 ρ1 T1 v s1 hK st hv => hK.post hR st hv
end
end Mine
set_option maxHeartbeats 4000000
namespace Mine
section
variable {X : Cx} {P : Params} {n : Nat} {ae : AEnv} {S : List AO} {K : AV → List AO → Prop} {KF : AF → List AO → Prop} {KU : Unit → List AO → Prop}
theorem filterMap_map {α : Type} {f : AV → Option AV} {e : α → AV} {g : α → AV} : ∀ (l : List α), (∀ p ∈ l, f (e p) = some (g p)) → (l.map e).filterMap f = l.map g
  | [], _ => rfl
  | p :: r, h => by
    rw [List.map_cons, List.filterMap_cons, h p (.head _), filterMap_map r fun q hq => h q (.tail _ hq)]; rfl
noncomputable def bit (k m : Nat) : Bool := (k / 2 ^ m) % 2 != 0
theorem fdm (k m : Nat) : (((k : Int).fdiv ((2 : Int) ^ m)).fmod 2) = ((k / 2 ^ m % 2 : Nat) : Int) := by
  have e : ((2 : Int) ^ m) = ((2 ^ m : Nat) : Int) := by simp
  rw [e, ← Int.ofNat_fdiv]
  rw [Int.fmod_eq_emod_of_nonneg _ (by decide)]; rfl
theorem filterMap_mapIf {α : Type} {f : AV → Option AV} {e : α → AV} {g : α → AV} {c : α → Bool} : ∀ (l : List α), (∀ p ∈ l, f (e p) = if c p = true then some (g p) else none) → (l.map e).filterMap f = (l.filter c).map g
  | [], _ => rfl
  | p :: r, h => by
    rw [List.map_cons, List.filterMap_cons, h p (.head _), filterMap_mapIf r fun q hq => h q (.tail _ hq)]
    cases e : c p <;> simp [List.filter_cons, e]
noncomputable def numStr (k : Nat) : Str := Str.ofString (toString (k : Int))
theorem unds_map {α : Type} {m : Nat} {g : α → AV} (h : ∀ p, (g p).und m) : ∀ (rows : List α), AV.unds m (rows.map g)
  | [] => trivial
  | p :: r => ⟨h p, unds_map h r⟩
noncomputable def sameS (x y : Str) : Bool := x.cps.toList == y.cps.toList
theorem frmV {g : Value} {xs : List AV} {y : AV} (hx : AV.unds 0 xs) (hy : y.und 0) (h : ∀ K0 : AV → List AO → Prop, K0 y [] → WpC X n [] (.val g) xs [] K0) (hK : K y S) : WpC X n S (.val g) xs [] K :=
  frm0 (K0 := fun x aos => x = y ∧ aos = []) hx (by simp [AV.undk]) (h _ ⟨rfl, rfl⟩) fun x aos ⟨e1, e2⟩ => by
    subst e1 e2
    exact ⟨fun _ h => (nomatch h), by rw [List.append_nil, AV.sh_und _ _ hy]; exact hK⟩
theorem pNone {K : Option Int → List AO → Prop} (h : K none S) : WpPart X n ae none S K := h
theorem pSome {e : Expr} {K : Option Int → List AO → Prop} (h : WpE X n ae S e fun a S1 => ∃ i, a = .int i ∧ K (some i) S1) : WpPart X n ae (some e) S K := h
theorem arg0 {K : List AV → List AO → Prop} (h : K [] S) : WpArgs X n ae [] S K := h
theorem arg {e : Expr} {r : List Expr} {K : List AV → List AO → Prop} (h : WpE X n ae S e fun a S1 => WpArgs X n ae r S1 fun as S2 => K (a :: as) S2) : WpArgs X n ae (e :: r) S K := h
theorem kw0 {K : List (Str × AV) → List AO → Prop} (h : K [] S) : WpKws X n ae [] S K := h
theorem pick5 (xs : List AV) : pickL xs none (some 5) = xs.take 5 := pickL_take xs 5
theorem charAt_in {x : Str} {i : Int} (h0 : 0 ≤ i) (h1 : i < x.length) : (Txt.charAt x i).isSome = true := by
  unfold Txt.charAt
  rw [seqIndex_of h0 h1]
  show (x.cps[i.toNat]?).isSome = true
  have : i.toNat < x.cps.size := by
    have : (x.length : Int) = x.cps.size := rfl
    omega
  rw [Array.getElem?_eq_getElem this]; rfl
theorem fits_small {i : Int} (h0 : 0 ≤ i) (h1 : i < 100) : fitsSsize i = true := by
  unfold fitsSsize
  simp
  omega
theorem fmod_in (k : Int) {m : Int} (hm : 0 < m) : 0 ≤ k.fmod m ∧ k.fmod m < m := ⟨Int.fmod_nonneg_of_pos _ hm, Int.fmod_lt_of_pos _ hm⟩
theorem filterMap_ints {f : AV → Option AV} {g : Int → AV} (ns : List Int) (h : ∀ k ∈ ns, f (.int k) = some (g k)) : (ns.map AV.int).filterMap f = ns.map g := filterMap_map (e := AV.int) ns h
end
theorem six {j n : Nat} (h : j < n) : seqIndex? (j : Int) n = some j := seqIndex_of (Int.natCast_nonneg j) (Int.ofNat_lt.mpr h)
theorem nhi {j : Nat} (h : j < 100) : (j : Int) < 2 ^ 63 := by omega
theorem fits_nat {j : Nat} (h : j < 100) : fitsSsize (j : Int) = true := fits_small (Int.natCast_nonneg j) (by omega)
theorem charAt_nat {x : Str} {j : Nat} (h : j < x.length) : (Txt.charAt x (j : Int)).isSome = true := charAt_in (Int.natCast_nonneg j) (Int.ofNat_lt.mpr h)
theorem slm {α : Type} (f : α → AV) {l : List α} (h : l.length ≤ 1000) : (l.map f).length ≤ sizeLine := by rw [List.length_map, sizeLine_eq]; omega
theorem len1 {α : Type} : ∀ {l : List α}, l.length = 1 → ∃ v, l = [v]
  | [v], _ => ⟨v, rfl⟩
theorem len3 {α : Type} : ∀ {l : List α}, l.length = 3 → ∃ a b c, l = [a, b, c]
  | [a, b, c], _ => ⟨a, b, c, rfl⟩
theorem two_units (n : Nat) : 3 ≤ 8 * (n + 7) := by omega
theorem lt5 : ∀ {c : Nat}, c < 5 → c = 0 ∨ c = 1 ∨ c = 2 ∨ c = 3 ∨ c = 4
  | 0, _ => .inl rfl
  | 1, _ => .inr (.inl rfl)
  | 2, _ => .inr (.inr (.inl rfl))
  | 3, _ => .inr (.inr (.inr (.inl rfl)))
  | 4, _ => .inr (.inr (.inr (.inr rfl)))
  | n + 5, h => absurd h (Nat.not_lt.mpr (Nat.le_add_left 5 n))
theorem mid4 {c : Nat} (h : c ≤ 5) (h1 : 1 < c) : c = 2 ∨ c = 3 ∨ c = 4 ∨ c = 5 := by
  rcases lt5 (Nat.sub_lt_left_of_lt_add h1 (Nat.lt_of_le_of_lt h (by decide) : c < 2 + 5)) with e | e | e | e | e <;> omega
end Mine
set_option maxHeartbeats 8000000
namespace Mine
open_top hd for PySem.Challenge.rw_tc0046_02
end Mine
set_option maxHeartbeats 4000000
namespace Mine
section
variable {X : Cx} {P : Params} {n : Nat} {ae : AEnv} {S : List AO} {K : AV → List AO → Prop} {KF : AF → List AO → Prop} {KU : Unit → List AO → Prop}

noncomputable def escOne (y z : Str) (x : Str) : Str := if Txt.contains x y = true then Txt.replace x y z else x

/-- if y in text: text = text.replace(y, z) -/
theorem escStep {v y z x : Str} {k1 k2 k3 : Nat} {p1 p2 p3 p4 p5 p6 p7 p8 p9 p10 p11 : Pos} {pl : Env → Sem Bool} {ns : List (Str × AV)} (hk : ae.scope.names.lookup v = some .local) (hS : S[ae.loc]? = some (.ns ns)) (hv : ns.lookup v = some (.str x))
    (hx : x.length ≤ 65535) (hz : z.length ≤ 14) (hyz : (y == z) = false) (hl : (escOne y z x).length ≤ 65535) (hd : (v == ("__debug__" : Str)) = false)
    (hs : swapsWith (.Call (.Attribute (.Name v p5) "replace" p6) [.Constant (.str y) k2 p7, .Constant (.str z) k3 p8] [] p9) (some (.Name v p4)) p10.line (dumb ae.scope) = pure false)
    (he : ∀ env, eval (.Call (.Attribute (.Name v p5) "replace" p6) [.Constant (.str y) k2 p7, .Constant (.str z) k3 p8] [] p9) env = (do
      let ov ← eval (.Name v p5) env
      standAt p6.atName
      let (f, first) ← holding [ov] (getMethod ov "replace" (pl env))
      callWith p9 f first (backTo p9 (starEach [.Constant (.str y) k2 p7, .Constant (.str z) k3 p8] env)) (backToKw p9 (keywordEach [] env))))
    (hy : y.length ≤ sizeLine) (h : KF .next (S.set ae.loc (.ns (put v (.str (escOne y z x)) ns)))) :
    WpS X n ae S (.If (.Compare (.Constant (.str y) k1 p1) [.In] [.Name v p2] p3) [.Assign [.Name v p4] (.Call (.Attribute (.Name v p5) "replace" p6) [.Constant (.str y) k2 p7, .Constant (.str z) k3 p8] [] p9) p10] [] p11) KF := by
  refine sIf (bCmp (wStr (wName hk hS hv (oInS (tBool ?_)) hd) hy))
  unfold escOne at hl h
  split
  · rename_i e
    rw [if_pos e] at hl h
    exact sCons (sAsg (wRepl (wName hk hS hv ⟨x, rfl, hx, hz, hyz, by rw [sizeLine_eq]; omega, nLoc hk hS (sNil h)⟩ hd) he) hs)
  · rename_i e
    rw [if_neg e] at hl h
    refine sNil ?_
    have e2 : S.set ae.loc (.ns (put v (.str x) ns)) = S := by
      have : put v (.str x) ns = ns := put_same hv
      rw [this]
      exact set_same hS
    rw [← e2]; exact h

noncomputable def escs : List (Str × Str) := [("&", "&amp;"), ("<", "&lt;"), (">", "&gt;"), ("\"", "&quot;"), ("\r", "&#13;"), ("\n", "&#10;"), ("\t", "&#09;")]
noncomputable def escUpto (k : Nat) (x : Str) : Str := (escs.take k).foldl (fun x p => escOne p.1 p.2 x) x

theorem escape_contract (hK : X.K = hd.heap_39 P) {x : Str} (hx : ∀ k, k ≤ 7 → (escUpto k x).length ≤ 65535) (h : K (.str (escUpto 7 x)) []) : CdC X (n + 1) [] 207 [.str x] [] K := by
  refine fnC (by rw [hK]; rfl) (by rw [hK]; rfl) (bindPure (names := ["text"]) rfl (fun vs hv => ?_) rfl ?_)
  · obtain ⟨v, rfl⟩ := len1 hv
    rfl
  · refine nLoc (by rfl) (by rfl) ?_
    refine sCons (sTry (sCons ?_))
    refine escStep (by rfl) (by rfl) (by rfl) (hx 0 (by decide)) (by decide +kernel) (by decide +kernel) (hx 1 (by decide)) (by decide +kernel) (by rfl) (by intro _; rfl) (by decide +kernel) ?_
    refine sCons ?_
    refine escStep (by rfl) (by rfl) (by rw [put_lookup, if_pos rfl]; rfl) (hx 1 (by decide)) (by decide +kernel) (by decide +kernel) (hx 2 (by decide)) (by decide +kernel) (by rfl) (by intro _; rfl) (by decide +kernel) ?_
    refine sCons ?_
    refine escStep (by rfl) (by rfl) (by rw [put_lookup, if_pos rfl]; rfl) (hx 2 (by decide)) (by decide +kernel) (by decide +kernel) (hx 3 (by decide)) (by decide +kernel) (by rfl) (by intro _; rfl) (by decide +kernel) ?_
    refine sCons ?_
    refine escStep (by rfl) (by rfl) (by rw [put_lookup, if_pos rfl]; rfl) (hx 3 (by decide)) (by decide +kernel) (by decide +kernel) (hx 4 (by decide)) (by decide +kernel) (by rfl) (by intro _; rfl) (by decide +kernel) ?_
    refine sCons ?_
    refine escStep (by rfl) (by rfl) (by rw [put_lookup, if_pos rfl]; rfl) (hx 4 (by decide)) (by decide +kernel) (by decide +kernel) (hx 5 (by decide)) (by decide +kernel) (by rfl) (by intro _; rfl) (by decide +kernel) ?_
    refine sCons ?_
    refine escStep (by rfl) (by rfl) (by rw [put_lookup, if_pos rfl]; rfl) (hx 5 (by decide)) (by decide +kernel) (by decide +kernel) (hx 6 (by decide)) (by decide +kernel) (by rfl) (by intro _; rfl) (by decide +kernel) ?_
    refine sCons ?_
    refine escStep (by rfl) (by rfl) (by rw [put_lookup, if_pos rfl]; rfl) (hx 6 (by decide)) (by decide +kernel) (by decide +kernel) (hx 7 (by decide)) (by decide +kernel) (by rfl) (by intro _; rfl) (by decide +kernel) ?_
    exact sCons (sRet (wName (by rfl) (by rfl) (by rw [put_lookup, if_pos rfl]; rfl) (leaveE fzStr h)))

noncomputable def c14s : List (Str × Str) := [("&", "&amp;"), ("<", "&lt;"), ("\"", "&quot;"), ("\t", "&#x9;"), ("\n", "&#xA;"), ("\r", "&#xD;")]
noncomputable def c14Upto (k : Nat) (x : Str) : Str := (c14s.take k).foldl (fun x p => escOne p.1 p.2 x) x

theorem c14_contract (hK : X.K = hd.heap_39 P) {x : Str} (hx : ∀ k, k ≤ 6 → (c14Upto k x).length ≤ 65535) (h : K (.str (c14Upto 6 x)) []) : CdC X (n + 1) [] 214 [.str x] [] K := by
  refine fnC (by rw [hK]; rfl) (by rw [hK]; rfl) (bindPure (names := ["text"]) rfl (fun vs hv => ?_) rfl ?_)
  · obtain ⟨v, rfl⟩ := len1 hv
    rfl
  · refine nLoc (by rfl) (by rfl) ?_
    refine sCons (sTry (sCons ?_))
    refine escStep (by rfl) (by rfl) (by rfl) (hx 0 (by decide)) (by decide +kernel) (by decide +kernel) (hx 1 (by decide)) (by decide +kernel) (by rfl) (by intro _; rfl) (by decide +kernel) ?_
    refine sCons ?_
    refine escStep (by rfl) (by rfl) (by rw [put_lookup, if_pos rfl]; rfl) (hx 1 (by decide)) (by decide +kernel) (by decide +kernel) (hx 2 (by decide)) (by decide +kernel) (by rfl) (by intro _; rfl) (by decide +kernel) ?_
    refine sCons ?_
    refine escStep (by rfl) (by rfl) (by rw [put_lookup, if_pos rfl]; rfl) (hx 2 (by decide)) (by decide +kernel) (by decide +kernel) (hx 3 (by decide)) (by decide +kernel) (by rfl) (by intro _; rfl) (by decide +kernel) ?_
    refine sCons ?_
    refine escStep (by rfl) (by rfl) (by rw [put_lookup, if_pos rfl]; rfl) (hx 3 (by decide)) (by decide +kernel) (by decide +kernel) (hx 4 (by decide)) (by decide +kernel) (by rfl) (by intro _; rfl) (by decide +kernel) ?_
    refine sCons ?_
    refine escStep (by rfl) (by rfl) (by rw [put_lookup, if_pos rfl]; rfl) (hx 4 (by decide)) (by decide +kernel) (by decide +kernel) (hx 5 (by decide)) (by decide +kernel) (by rfl) (by intro _; rfl) (by decide +kernel) ?_
    refine sCons ?_
    refine escStep (by rfl) (by rfl) (by rw [put_lookup, if_pos rfl]; rfl) (hx 5 (by decide)) (by decide +kernel) (by decide +kernel) (hx 6 (by decide)) (by decide +kernel) (by rfl) (by intro _; rfl) (by decide +kernel) ?_
    exact sCons (sRet (wName (by rfl) (by rfl) (by rw [put_lookup, if_pos rfl]; rfl) (leaveE fzStr h)))
end
end Mine
set_option maxHeartbeats 4000000
namespace Mine
section
variable {X : Cx} {P : Params} {n : Nat} {ae : AEnv} {S : List AO} {K : AV → List AO → Prop} {KF : AF → List AO → Prop} {KU : Unit → List AO → Prop}

noncomputable def nameCode : Array Nat := #[14, 10, 4, 1, 1, 22, 0, 31, 16, 127, 0, 13, 7, 22, 0, 31, 16, 127, 0, 1]
noncomputable def valueCode : Array Nat := #[14, 14, 4, 1, 1, 9, 4294966783, 0, 0, 2147483648, 0, 0, 0, 0, 0, 13, 11, 9, 4294966783, 0, 0, 2147483648, 0, 0, 0, 0, 0, 1]

theorem name_pat (hK : X.K = hd.heap_39 P) : PatIn X.K 48 nameCode := by
  rw [hK]; exact ⟨_, _, 47, _, _, _, rfl, rfl, rfl, rfl, rfl, rfl, rfl, rfl, by decide +kernel⟩
theorem value_pat (hK : X.K = hd.heap_39 P) : PatIn X.K 53 valueCode := by
  rw [hK]; exact ⟨_, _, 52, _, _, _, rfl, rfl, rfl, rfl, rfl, rfl, rfl, rfl, by decide +kernel⟩

theorem app_at {r : List AO} : ∀ (i : Nat) (ao : AO), S[i]? = some ao → (S ++ r)[i]? = some ao := fun i ao e => by
  rw [List.getElem?_append_left (List.getElem?_eq_some_iff.mp e).1]; exact e
theorem at_end {x : AO} : (S ++ [x])[S.length]? = some x := by simp
theorem set_end {x y : AO} : (S ++ [x]).set S.length y = S ++ [y] := by
  rw [List.set_append_right _ _ (Nat.le_refl _)]; simp

theorem convert_contract (hK : X.K = hd.heap_39 P) {a : AV} {v : Str} {b : Bool} (hn : ∀ c ∈ v.cps, NoSet (if b = true then nameCode else valueCode) c) (h : K (.str v) S) : CdC X (n + 1) S 83 [a, .str v] [("name", .bool b)] K := by
  refine fnG (by rw [hK]; rfl) (by rw [hK]; rfl) (fun A ρ T s vs ks hr hR hv hks => ?_)
  · obtain ⟨v1, v2, rfl, h1, h2⟩ := hv.two_inv
    obtain ⟨v3, rfl, h3⟩ : ∃ v3, ks = [(Str.ofString "name", v3)] ∧ VR X ρ T s.heap (.bool b) v3 := by
      skip
      obtain ⟨v3, r, rfl, h3, h4⟩ := hks
      subst h4
      exact ⟨v3, rfl, h3⟩
    refine wpAny_of_eq (a := [(Str.ofString "self", v1), (Str.ofString "value", v2), (Str.ofString "name", v3)]) (by kernel_rfl) (PostG.mk (x := [(Str.ofString "self", a), (Str.ofString "value", .str v), (Str.ofString "name", .bool b)]) (.refl hR) ?_ ?_)
    rotate_left 1
    · skip
      exact ⟨_, _, rfl, h1, _, _, rfl, h2, _, _, rfl, h3, rfl⟩
    show WpBinds X n _ _ (S ++ [.ns []]) _
    refine nLoc (by rfl) at_end ?_
    rw [show (fEnv _ S.length).loc = S.length from rfl, set_end]
    refine nLoc (by rfl) at_end ?_
    rw [show (fEnv _ S.length).loc = S.length from rfl, set_end]
    refine nLoc (by rfl) at_end ?_
    rw [show (fEnv _ S.length).loc = S.length from rfl, set_end]
    refine sCons (sIf (bCmp (wCallN (wBoot (by rfl) (by rw [hK]; rfl) rfl ⟨_, rfl, cType, ?_⟩) (by rfl) (by rfl))))
    refine wName (v := .str v) (by rfl) at_end (by kernel_rfl) ?_
    refine kTypeS (wBoot (by rfl) (by rw [hK]; rfl) rfl (oIs rfl rfl (by rfl) (tBool ?_)))
    rw [if_pos (by decide +kernel)]
    refine sCons (sAsg (wIf (bVal (wName (v := .bool b) (by rfl) at_end (by kernel_rfl) (tBool ?_)))) (by rfl))
    cases b
    · rw [if_neg (by decide)] at hn ⊢
      refine wGlob (v := .ref 53) (av := .val (.ref 53)) (by rfl) (by rw [hK]; rfl) (fun _ _ _ => by simp) ?_
      refine nLoc (by rfl) at_end ?_
      rw [show (fEnv _ S.length).loc = S.length from rfl, set_end]
      refine sCons (sIf (bVal (wSearch (value_pat hK) (by rfl) (by decide +kernel) (wName (v := .val (.ref 53)) (by rfl) at_end (by kernel_rfl) ⟨rfl, wName (v := .str v) (by rfl) at_end (by kernel_rfl) ⟨v, rfl, hn, tNone ?_⟩⟩) rfl)))
      rw [if_neg (by decide)]
      exact sNil (sCons (sRet (wName (v := .str v) (by rfl) at_end (by kernel_rfl) (leaveU app_at fzStr h))))
    · rw [if_pos rfl] at hn ⊢
      refine wGlob (v := .ref 48) (av := .val (.ref 48)) (by rfl) (by rw [hK]; rfl) (fun _ _ _ => by simp) ?_
      refine nLoc (by rfl) at_end ?_
      rw [show (fEnv _ S.length).loc = S.length from rfl, set_end]
      refine sCons (sIf (bVal (wSearch (name_pat hK) (by rfl) (by decide +kernel) (wName (v := .val (.ref 48)) (by rfl) at_end (by kernel_rfl) ⟨rfl, wName (v := .str v) (by rfl) at_end (by kernel_rfl) ⟨v, rfl, hn, tNone ?_⟩⟩) rfl)))
      rw [if_neg (by decide)]
      exact sNil (sCons (sRet (wName (v := .str v) (by rfl) at_end (by kernel_rfl) (leaveU app_at fzStr h))))
end
end Mine
set_option maxHeartbeats 4000000
namespace Mine
section
variable {X : Cx} {P : Params} {n : Nat} {ae : AEnv} {S : List AO} {K : AV → List AO → Prop} {KF : AF → List AO → Prop} {KU : Unit → List AO → Prop}

/-- a row of a Headers object: a name and a value that both may stand there -/
noncomputable def okName (k : Str) : Prop := ∀ c ∈ k.cps, NoSet nameCode c
noncomputable def okVal (v : Str) : Prop := ∀ c ∈ v.cps, NoSet valueCode c
noncomputable def rowAV (p : Str × Str) : AV := .tup [.str p.1, .str p.2]

theorem init_contract (hK : X.K = hd.heap_39 P) (hC : X.C = 182) {rows : List (Str × Str)} (hr : ∀ p ∈ rows, okName p.1 ∧ okVal p.2) (hl : rows.length ≤ 65535) :
    CdC X (n + 2) [.lst (rows.map rowAV), .inst none] 76 [.inst 1, .obj 0] [] fun x S' => x = .none ∧ S' = [.lst (rows.map rowAV), .inst (some (.obj 0))] := by
  refine fnG (by rw [hK]; rfl) (by rw [hK]; rfl) (bindTo (bs := [(Str.ofString "self", .inst 1), (Str.ofString "headers", .obj 0)]) (fun s ρ T vs ks hin hv hks => ?_) ?_)
  · obtain ⟨v1, v2, rfl, h1, h2⟩ := hv.two_inv
    cases hks.nil_inv
    refine ⟨[(Str.ofString "self", v1), (Str.ofString "headers", v2)], binds_K hin rfl (by rw [hK]; rfl) rfl rfl rfl, ?_⟩
    skip
    exact ⟨_, _, rfl, h1, _, _, rfl, h2, rfl⟩
  · refine nLoc (by rfl) (by rfl) ?_
    refine nLoc (by rfl) (by rfl) ?_
    refine sCons (sAsg (wIf (bCmp (wName (v := .obj 0) (by rfl) (by rfl) (by kernel_rfl) (wNone (oIsNotNone trivial (tBool ?_)))))) (by rfl))
    rw [if_pos rfl]
    refine wName (v := .obj 0) (by rfl) (by rfl) (by kernel_rfl) (nLoc (by rfl) (by rfl) ?_)
    refine sCons (sIf (bCmp (wCallN (wBoot (by rfl) (by rw [hK]; rfl) rfl ⟨_, rfl, cType, ?_⟩) (by rfl) (by rfl))))
    refine wName (v := .obj 0) (by rfl) (by rfl) (by kernel_rfl) ?_
    refine kTypeL (.inr ⟨0, rfl, rfl⟩) (wBoot (by rfl) (by rw [hK]; rfl) rfl (oIsNot rfl rfl (by rfl) (tBool ?_)))
    rw [if_neg (by decide +kernel)]
    refine sNil (sCons (sSelf (wName (v := .obj 0) (by rfl) (by rfl) (by kernel_rfl) (wName (v := .inst 1) (by rfl) (by rfl) (by kernel_rfl) ⟨1, rfl, rfl, by rw [hK, hC]; rfl, by rw [hK, hC]; rfl, by rw [hK, hC]; rfl, by rw [hK, hC]; rfl, ?_⟩)) (by rfl)))
    refine sCons (sIf (bVal (wBool (tBool ?_))))
    rw [if_pos rfl]
    refine sCons (sFor (iE (wName (v := .obj 0) (by rfl) (by rfl) (by kernel_rfl) ⟨rows.map rowAV, some 0, srcObj rfl ?_, ?_⟩)))
    · intro it hit
      obtain ⟨p, _, rfl⟩ := List.mem_map.mp hit
      exact ⟨_, rfl⟩
    refine loopInv (fun items S => ∃ (vars : List (Str × AV)) (rest : List (Str × Str)), S = [.loan, .inst (some (.obj 0)), .ns vars] ∧ vars.lookup (Str.ofString "self") = some (.inst 1) ∧ items = rest.map rowAV ∧ ∀ p ∈ rest, okName p.1 ∧ okVal p.2)
      ?_ ?_ _ _ ⟨_, rows, rfl, by kernel_rfl, rfl, hr⟩
    · rintro S ⟨vars, rest, hS, _⟩
      subst hS
      refine sNil (sNil ?_)
      refine ⟨[.lst (rows.map rowAV), .inst (some (.obj 0))], [], [], .none, rfl, fun i ao e => ?_, rfl, by simp, List.nodup_nil, fzNone, rfl, rfl⟩
      match i with
      | 0 => exact ⟨e, .inl e⟩
      | 1 => cases e; exact ⟨rfl, .inr (by simp [AO.und, AV.und])⟩
      | _ + 2 => cases e
    · rintro it r S ⟨vars, rest, hS, hself, hit, hok⟩
      subst hS
      cases rest with
      | nil => simp at hit
      | cons p rest =>
        cases hit
        have hp := hok p (by simp)
        have hok' : ∀ q ∈ rest, okName q.1 ∧ okVal q.2 := fun q hq => hok q (by simp [hq])
        refine aTup rfl rfl ⟨trivial, aName (nLoc (by rfl) (by rfl) ⟨trivial, aName (nLoc (by rfl) (by rfl) ?_)⟩)⟩
        have e1 : (put (Str.ofString "v") (AV.str p.2) (put (Str.ofString "k") (AV.str p.1) vars)).lookup (Str.ofString "self") = some (.inst 1) := by
          rw [put_lookup, if_neg (by decide +kernel), put_lookup, if_neg (by decide +kernel)]; exact hself
        have e2 : (put (Str.ofString "v") (AV.str p.2) (put (Str.ofString "k") (AV.str p.1) vars)).lookup (Str.ofString "k") = some (.str p.1) := by
          rw [put_lookup, if_neg (by decide +kernel), put_lookup, if_pos rfl]
        have e3 : (put (Str.ofString "v") (AV.str p.2) (put (Str.ofString "k") (AV.str p.1) vars)).lookup (Str.ofString "v") = some (.str p.2) := by
          rw [put_lookup, if_pos rfl]
        refine sCons (sExpr (wCallM (wName (v := .inst 1) (by rfl) (by rfl) e1 (mOwn (f := 83) (.inr ⟨1, _, rfl, rfl, by rw [if_neg (by decide +kernel)]⟩) (by rw [hK, hC]; rfl) (by rw [hK, hC]; rfl) (by rw [hK]; rfl)
          ⟨cFn (by rw [hK]; rfl), wName (by rfl) (by rfl) e2 (wBool (convert_contract hK (b := true) (v := p.1) hp.1 ?_).call)⟩))) )
        refine sCons (sExpr (wCallM (wName (v := .inst 1) (by rfl) (by rfl) e1 (mOwn (f := 83) (.inr ⟨1, _, rfl, rfl, by rw [if_neg (by decide +kernel)]⟩) (by rw [hK, hC]; rfl) (by rw [hK, hC]; rfl) (by rw [hK]; rfl)
          ⟨cFn (by rw [hK]; rfl), wName (by rfl) (by rfl) e3 (wBool (convert_contract hK (b := false) (v := p.2) hp.2 ?_).call)⟩))) )
        exact sNil ⟨_, rest, rfl, e1, rfl, hok'⟩
end
end Mine
set_option maxHeartbeats 4000000
namespace Mine
section
variable {X : Cx} {P : Params} {n : Nat} {ae : AEnv} {S : List AO} {K : AV → List AO → Prop} {KF : AF → List AO → Prop} {KU : Unit → List AO → Prop}

/-- self._headers of an object of the class -/
theorem gHdr (hK : X.K = hd.heap_39 P) (hC : X.C = 182) {i : Nat} (h : K (.obj i) S) : WpG X n S (Str.ofString "_headers") (.hdr i) K := by
  refine gOwn (.inl ⟨i, rfl, by rw [if_pos (by rfl)]⟩) (by rw [hK, hC]; rfl) (by rw [hK, hC]; rfl) (by rw [hK, hC]; rfl) (by rw [hK]; rfl) (fun _ _ _ _ q => obj_handed q) h

theorem filterMap_rows {f : AV → Option AV} {g : Str × Str → AV} : ∀ (rows : List (Str × Str)), (∀ p ∈ rows, f (rowAV p) = some (g p)) → (rows.map rowAV).filterMap f = rows.map g
  | [], _ => rfl
  | p :: r, h => by
    rw [List.map_cons, List.filterMap_cons, h p (.head _), filterMap_rows r fun q hq => h q (.tail _ hq)]; rfl
end
end Mine
set_option maxHeartbeats 4000000
namespace Mine
section
variable {X : Cx} {P : Params} {n : Nat} {ae : AEnv} {S : List AO} {K : AV → List AO → Prop} {KF : AF → List AO → Prop} {KU : Unit → List AO → Prop}

noncomputable def lineOf (p : Str × Str) : Str := p.1 ++ Str.ofString ": " ++ p.2
noncomputable def linesOf (rows : List (Str × Str)) : List Str := rows.map lineOf ++ [Str.ofString "", Str.ofString ""]
noncomputable def pageOf (rows : List (Str × Str)) : Str := Txt.join (Str.ofString "\r\n") (linesOf rows)

theorem str_contract (hK : X.K = hd.heap_39 P) (hC : X.C = 182) {rows : List (Str × Str)} (hl : rows.length ≤ 65535) (hw : ∀ p ∈ rows, p.1.length ≤ 100000 ∧ p.2.length ≤ 100000) (hj : JoinOk (Str.ofString "\r\n") (linesOf rows) = true) (h : K (.str (pageOf rows)) [.lst (rows.map rowAV)]) :
    CdC X (n + 1) [.lst (rows.map rowAV)] 158 [.hdr 0] [] K := by
  refine fnG (by rw [hK]; rfl) (by rw [hK]; rfl) (bindTo (bs := [(Str.ofString "self", .hdr 0)]) (fun s ρ T vs ks hin hv hks => ?_) ?_)
  · obtain ⟨v1, rfl, h1⟩ := hv.one_inv
    cases hks.nil_inv
    exact ⟨[(Str.ofString "self", v1)], .of_eq rfl, ⟨_, _, rfl, h1, rfl⟩⟩
  · refine nLoc (by rfl) (by rfl) ?_
    refine sCons (sRet (wCallM (wStr (mStr F.slot_str_join F.type_str_join ⟨cBuiltin, ?_⟩)) (by intro _; rfl)))
    refine wBin (wLC (compIs0 rfl rfl (by decide +kernel) (by decide +kernel)) (by intro _ _; rfl) (by rfl) ?_)
    refine iE (wAttr (wName (v := .hdr 0) (by rfl) (by rfl) (by kernel_rfl) (gHdr hK hC ⟨rows.map rowAV, some 0, srcObj rfl ?_, ?_⟩)))
    · intro it hit
      exact trivial
    refine ⟨fun it => match it with | .tup [.str a, .str b] => some (.str (lineOf (a, b))) | _ => none, by rw [sizeLine_eq]; simp; omega, ?_, ?_, ?_⟩
    · intro it hit v e
      obtain ⟨p, _, rfl⟩ := List.mem_map.mp hit
      cases e; trivial
    · intro it hit
      obtain ⟨p, hp, rfl⟩ := List.mem_map.mp hit
      refine turn0 fun xs vars => ?_
      refine aName (nLoc (by rfl) (by rfl) ?_)
      exact wBin (wStr (wName (v := rowAV p) (by rfl) (by rfl) (by rw [put_lookup, if_pos rfl]) (oPct2 (hw p hp).1 (hw p hp).2 ⟨_, rfl, rfl⟩)))
    · rw [filterMap_rows (g := fun p => .str (lineOf p)) rows fun p _ => rfl]
      refine wLst (wStr (wStr ⟨by decide +kernel, oAddL (.inl rfl) (.inl rfl) (by rw [sizeLine_eq]; simp; omega) ?_⟩))
      have e : (rows.map fun p => AV.str (lineOf p)) ++ [AV.str (Str.ofString ""), AV.str (Str.ofString "")] = (linesOf rows).map .str := by
        simp [linesOf, Function.comp_def]
      rw [e]
      exact kJoin (.inl rfl) hj (leaveU app_at fzStr h)
end
end Mine
set_option maxHeartbeats 4000000
namespace Mine
section
variable {X : Cx} {P : Params} {n : Nat} {ae : AEnv} {S : List AO} {K : AV → List AO → Prop} {KF : AF → List AO → Prop} {KU : Unit → List AO → Prop}

theorem bindKw0 {fd : FuncData} {xs : List AV} {names : List Str} {last : Str} {KB' : List (Str × AV) → List AO → Prop} (hl : names.length = xs.length)
    (hb : ∀ vs : List Value, vs.length = xs.length → bindArgs fd ⟨vs, []⟩ = (do let d ← alloc { cls := .type "dict", data := .dict #[] }; pure (names.zip vs ++ [(last, .ref d)])))
    (h : KB' (names.zip xs ++ [(last, .dct [])]) S) : Binds X n S fd xs [] KB' := fun A ρ T s vs ks hr hR hv hks => by
  cases hks.nil_inv
  rw [hb vs hv.length]
  refine wpAny_bind (wpAny_alloc (wpAny_pure ?_))
  have st : Step X S ρ T s S ρ T { s with heap := s.heap.push { cls := .type "dict", data := .dict #[] }, toks := s.toks } := Step.push hR _ _
  refine PostG.mk st h ?_
  have hv2 := VRs.mv (st.mv hR) _ hv
  have hd : VR X ρ T (s.heap.push { cls := .type "dict", data := .dict #[] }) (.dct []) (.ref s.heap.objs.size) := by
    simp only [VR]
    refine ⟨_, [], rfl, hR.fresh, hR.nosysOf (Nat.le_refl _), ⟨_, #[], 0, Heap.get?_push_size _ rfl, ⟨rfl, rfl, rfl⟩, rfl, fun _ he => by simp at he, .nil, by simp⟩, VRk_nil.mpr rfl⟩
  have go : ∀ (ns : List Str) (xs : List AV) (vs : List Value) (h : Heap), VRs X ρ T h xs vs → VR X ρ T h (.dct []) (.ref s.heap.objs.size) → VRk X ρ T h (ns.zip xs ++ [(last, .dct [])]) (ns.zip vs ++ [(last, .ref s.heap.objs.size)]) := by
    intro ns
    induction ns with
    | nil => intro xs vs h _ q; simp only [List.zip_nil_left, List.nil_append, VRk_nil, VRk_cons]; exact ⟨_, _, rfl, q, rfl⟩
    | cons n ns ih =>
      intro xs vs h q q2
      cases xs with
      | nil => rw [VRs_nil.mp q]; simp only [List.zip_nil_right, List.nil_append, VRk_nil, VRk_cons]; exact ⟨_, _, rfl, q2, rfl⟩
      | cons x xs =>
        obtain ⟨v, r, rfl, h1, h2⟩ := VRs_cons.mp q
        simp only [List.zip_cons_cons, List.cons_append, VRk_nil, VRk_cons]
        exact ⟨v, _, rfl, h1, ih xs r h h2 q2⟩
  exact go names xs vs _ hv2 hd

theorem addheader_contract (hK : X.K = hd.heap_39 P) (hC : X.C = 182) {rows : List (Str × Str)} {x y : Str} (hl : rows.length ≤ 65535) (hx : okName x) (hy : okVal y) (hyl : y.length ≤ 65535)
    (h : K .none [.lst ((rows ++ [(x, y)]).map rowAV)]) :
    CdC X (n + 2) [.lst (rows.map rowAV)] 179 [.hdr 0, .str x, .str y] [] K := by
  refine fnG (by rw [hK]; rfl) (by rw [hK]; rfl) (bindKw0 (names := [Str.ofString "self", Str.ofString "_name", Str.ofString "_value"]) (last := Str.ofString "_params") rfl (fun vs hv => ?_) ?_)
  · obtain ⟨a, b, c, rfl⟩ := len3 hv
    kernel_rfl
  · refine nLoc (by rfl) (by rfl) ?_
    refine nLoc (by rfl) (by rfl) ?_
    refine nLoc (by rfl) (by rfl) ?_
    refine nLoc (by rfl) (by rfl) ?_
    refine sCons (sAsg (wLstT ?_) (by rfl))
    refine ⟨by decide +kernel, nLoc (by rfl) (by rfl) ?_⟩
    refine sCons (sIf (bCmp (wName (v := .str y) (by rfl) (by rfl) (by kernel_rfl) (wNone (oIsNotNone trivial (tBool ?_))))))
    rw [if_pos rfl]
    refine sCons (sAsg (wCallM (wName (v := .hdr 0) (by rfl) (by rfl) (by kernel_rfl) (mOwn (f := 83) (.inl ⟨0, rfl, by rw [if_neg (by decide +kernel)]⟩) (by rw [hK, hC]; rfl) (by rw [hK, hC]; rfl) (by rw [hK]; rfl)
          ⟨cFn (by rw [hK]; rfl), wName (v := .str y) (by rfl) (by rfl) (by kernel_rfl) (wBool (convert_contract hK (b := false) (v := y) hy ?_).call)⟩))) (by rfl))
    refine nLoc (by rfl) (by rfl) ?_
    refine sCons (sExpr (wCallM (wName (v := .obj 2) (by rfl) (by rfl) (by kernel_rfl) (mAppend (xs := []) (by rfl) ⟨cBuiltin, wName (v := .str y) (by rfl) (by rfl) (by kernel_rfl) (kAppend (xs := []) (by rfl) (by decide +kernel) ?_)⟩))) )
    refine sNil ?_
    refine sCons (sFor (iCallM (wName (v := .dct []) (by rfl) (by rfl) (by kernel_rfl) (mDct (kvs := []) (.inl rfl) F.slot_dict_items F.type_dict_items ⟨cBuiltin, ?_⟩))))
    unfold WpArgs
    refine rItems0 ?_
    refine sCons (sExpr (wCallM (wAttr (wName (v := .hdr 0) (by rfl) (by rfl) (by kernel_rfl) (gHdr hK hC (mAppend (xs := rows.map rowAV) (by rfl) ⟨cBuiltin, ?_⟩))))))
    refine wTup ?_
    unfold WpArgs
    refine wCallM (wName (v := .hdr 0) (by rfl) (by rfl) (by kernel_rfl) (mOwn (f := 83) (.inl ⟨0, rfl, by rw [if_neg (by decide +kernel)]⟩) (by rw [hK, hC]; rfl) (by rw [hK, hC]; rfl) (by rw [hK]; rfl)
          ⟨cFn (by rw [hK]; rfl), ?_⟩))
    refine wName (v := .str x) (by rfl) (by rfl) (by kernel_rfl) (wBool (convert_contract hK (b := true) (v := x) hx ?_).call)
    unfold WpArgs
    refine wCallM (wStr (mStr F.slot_str_join F.type_str_join ⟨cBuiltin, ?_⟩)) (by intro _; rfl)
    refine wName (v := .obj 2) (by rfl) (by rfl) (by kernel_rfl) ?_
    unfold WpArgs
    unfold WpKws
    refine kJoin (ts := [y]) (.inr ⟨2, rfl, rfl⟩) ?_ ?_
    · refine joinOk_of ?_
      have : (Str.ofString "; ").length = 2 := by decide +kernel
      simp [this]; omega
    unfold WpArgs
    refine ⟨by rw [sizeLine_eq]; simp, ?_⟩
    unfold WpArgs
    unfold WpKws
    refine kAppend (xs := rows.map rowAV) (by rfl) (by rw [sizeLine_eq]; simp; omega) ?_
    refine sNil ?_
    have e : rows.map rowAV ++ [AV.tup [.str x, .str (Txt.join (Str.ofString "; ") [y])]] = (rows ++ [(x, y)]).map rowAV := by
      have : Txt.join (Str.ofString "; ") [y] = y := PyProof.Rows.join_one (Str.ofString "; ") y
      rw [this]; simp [rowAV]
    rw [e]
    refine ⟨[.lst ((rows ++ [(x, y)]).map rowAV)], [], [], .none, rfl, fun i ao ei => ?_, rfl, by simp, List.nodup_nil, fzNone, h⟩
    match i with
    | 0 =>
      cases ei
      exact ⟨by rfl, .inr (show AV.unds _ _ from unds_map (g := rowAV) (fun _ => ⟨trivial, trivial, trivial⟩) _)⟩
    | _ + 1 => cases ei
end
end Mine
set_option maxHeartbeats 4000000
namespace Mine
section
variable {X : Cx} {P : Params} {n : Nat} {ae : AEnv} {S : List AO} {K : AV → List AO → Prop} {KF : AF → List AO → Prop} {KU : Unit → List AO → Prop}

noncomputable def dots : Str := Str.ofString "..."
noncomputable def ellRun (got : Str) (b : Int) : List Str → Int → Bool
  | [], _ => true
  | w :: r, a => if decide (find4 got w a b < 0) = true then false else ellRun got b r (find4 got w a b + w.length)
noncomputable def ell3 (ws : List Str) (got : Str) (a b : Int) : Bool := if decide (a > b) = true then false else ellRun got b ws a
noncomputable def lastD (ws : List Str) : Str := ws[ws.length - 1]?.getD (Str.ofString "")
noncomputable def ell2 (ws : List Str) (got : Str) (a : Int) : Bool :=
  if ((lastD ws).length != 0) = true then (if Txt.endswith got (lastD ws) = true then ell3 (ws.eraseIdx (ws.length - 1)) got a ((got.length : Int) - (lastD ws).length) else false) else ell3 ws got a got.length
noncomputable def ell1 : List Str → Str → Bool
  | [], _ => false
  | w :: r, got => if (w.length != 0) = true then (if Txt.startswith got w = true then ell2 r got w.length else false) else ell2 (w :: r) got 0
noncomputable def ellOf (want got : Str) : Bool := if (!Txt.contains want dots) = true then sameS want got else ell1 (Txt.split want dots) got

structure ElOk (want : Str) : Prop where
  two : 2 ≤ (Txt.split want dots).length
  many : (Txt.split want dots).length ≤ 65535
  parts : (Builtin.Str.partsBetween want (Builtin.Str.occurrences want dots 0 want.length (want.length + 1)) dots.length).length ≤ sizeLine
  each : ∀ p ∈ Txt.split want dots, p.length ≤ 65535

theorem ell1_cons (w : Str) (r : List Str) (got : Str) : ell1 (w :: r) got = if (w.length != 0) = true then (if Txt.startswith got w = true then ell2 r got w.length else false) else ell2 (w :: r) got 0 := rfl
theorem erase_map {α β : Type} (f : α → β) : ∀ (l : List α) (i : Nat), (l.eraseIdx i).map f = (l.map f).eraseIdx i
  | [], _ => rfl
  | _ :: _, 0 => rfl
  | a :: l, i + 1 => by simp [erase_map f l i]
theorem map_getLast {ws : List Str} (h : ws ≠ []) : (ws.map AV.str)[ws.length - 1]? = some (.str (lastD ws)) := by
  have : ws.length - 1 < ws.length := by have := List.length_pos_iff.mpr h; omega
  rw [List.getElem?_map]
  unfold lastD
  rw [List.getElem?_eq_getElem this]; rfl
theorem seq_last {xs : List AV} (h : 0 < xs.length) : seqIndex? (-1) xs.length = some (xs.length - 1) := by
  rw [seqIndex_neg (by decide) (by omega)]
  congr 1
  omega

inductive InvE (got : Str) (b3 : Int) (r : Bool) (items : List AV) (S : List AO) : Prop
  | mk (vars : List (Str × AV)) (ws : List Str) (a : Int) (hS : S = [.ns vars, .loan]) (hi : items = ws.map AV.str) (j1 : vars.lookup (Str.ofString "got") = some (.str got)) (j3 : vars.lookup (Str.ofString "startpos") = some (.int a)) (j4 : vars.lookup (Str.ofString "endpos") = some (.int b3)) (hRR : ellRun got b3 ws a = r) : InvE got b3 r items S
theorem ellipsis_contract (hK : X.K = hd.heap_39 P) {want got : Str} (hw : Txt.contains want dots = true → ElOk want) (h : K (.bool (ellOf want got)) []) :
    CdC X (n + 3) [] 193 [.str want, .str got] [] K := by
  refine fnG (by rw [hK]; rfl) (by rw [hK]; rfl) (bindTo (bs := [(Str.ofString "want", .str want), (Str.ofString "got", .str got)]) (fun s ρ T vs ks hin hv hks => ?_) ?_)
  · obtain ⟨v1, v2, rfl, h1, h2⟩ := hv.two_inv
    cases hks.nil_inv
    exact ⟨[(Str.ofString "want", v1), (Str.ofString "got", v2)], .of_eq rfl, ⟨_, _, rfl, h1, _, _, rfl, h2, rfl⟩⟩
  · have hend : ∀ S2 : List AO, LeaveG [] K (.bool (ellOf want got)) S2 := fun S2 => leaveU (fun i ao e => by cases i <;> cases e) fzBool h
    refine nLoc (by rfl) (by rfl) ?_
    refine nLoc (by rfl) (by rfl) ?_
    refine sCons (sIf (bCmp (wGlob (v := .str (Str.ofString "...") 554) (av := .str (Str.ofString "...")) (by rfl) (by rw [hK]; rfl) (fun _ _ _ => VR_str.mpr ⟨by decide +kernel, _, rfl⟩) ?_)))
    refine wName (v := .str want) (by rfl) (by rfl) (by kernel_rfl) (oNotInS (tBool ?_))
    show if (!Txt.contains want dots) = true then _ else _
    cases hc : Txt.contains want dots with
    | false =>
      rw [show (!false) = true from rfl, if_pos rfl]
      refine sCons (sRet (wCmp (wName (v := .str want) (by rfl) (by rfl) (by kernel_rfl) (wName (v := .str got) (by rfl) (by rfl) (by kernel_rfl) (oEqS ?_)))))
      have e : (want.cps.toList == got.cps.toList) = ellOf want got := by
        unfold ellOf; rw [hc]; rfl
      rw [e]
      exact hend _
    | true =>
      rw [show (!true) = false from rfl, if_neg (by decide)]
      have hO := hw hc
      have hR : ellOf want got = ell1 (Txt.split want dots) got := by unfold ellOf; rw [hc]; rfl
      refine sNil (sCons (sAsg (wCallM (wName (v := .str want) (by rfl) (by rfl) (by kernel_rfl) (mStr F.slot_str_split F.type_str_split ⟨cBuiltin, ?_⟩)) (by intro _; rfl)) (by rfl)))
      unfold WpArgs
      refine wGlob (v := .str (Str.ofString "...") 554) (av := .str (Str.ofString "...")) (by rfl) (by rw [hK]; rfl) (fun _ _ _ => VR_str.mpr ⟨by decide +kernel, _, rfl⟩) ?_
      unfold WpArgs WpKws
      refine kSplit (y := dots) (by decide +kernel) hO.parts (fun p hp => by have := hO.each p hp; rw [sizeLine_eq]; omega) ?_
      refine nLoc (by rfl) (by rfl) ?_
      generalize hws : Txt.split want dots = ws at hO hR
      have hml := hO.many
      rw [hws] at hml
      have h2 := hO.two
      rw [hws] at h2
      have hel := hO.each
      rw [hws] at hel
      match ws, h2 with
      | w0 :: w1 :: r, _ =>
      have hfit : (w0 :: w1 :: r).length ≤ 65535 := hml
      have hll : ((w0 :: w1 :: r).map AV.str).length ≤ sizeLine := by rw [List.length_map, sizeLine_eq]; omega
      refine sCons (sAssert (bCmp (wCallN (wBoot (by rfl) (by rw [hK]; rfl) rfl ⟨_, rfl, cBuiltin, ?_⟩) (by rfl) (by rfl))))
      refine wName (v := .obj 1) (by rfl) (by rfl) (by kernel_rfl) ?_
      unfold WpArgs WpKws
      refine kLenL (.inr ⟨1, rfl, rfl⟩) hll (wInt (oGeI (tBool ⟨?_, ?_⟩)))
      · simp; omega
      refine sCons (sAsgTs (names := [Str.ofString "startpos", Str.ofString "endpos"]) (by rfl) (wTup ?_))
      unfold WpArgs
      refine wInt ?_
      unfold WpArgs
      refine wCallN (wBoot (by rfl) (by rw [hK]; rfl) rfl ⟨_, rfl, cBuiltin, ?_⟩) (by rfl) (by rfl)
      refine wName (v := .str got) (by rfl) (by rfl) (by kernel_rfl) ?_
      unfold WpArgs WpKws
      refine kLenS ?_
      unfold WpArgs
      refine ⟨by rw [sizeLine_eq]; simp, _, rfl, rfl, ?_⟩
      unfold WpNs
      refine nLoc (by rfl) (by rfl) ?_
      unfold WpNs
      refine nLoc (by rfl) (by rfl) ?_
      unfold WpNs
      refine sCons (sAsg (wSub (wName (v := .obj 1) (by rfl) (by rfl) (by kernel_rfl) (wInt (xObj (j := 0) (y := .str w0) (xs := (w0 :: w1 :: r).map .str) (by rfl) (seqIndex_of (by decide) (by simp only [List.map_cons, List.length_cons]; omega)) (by rfl) ?_)))) (by rfl))
      refine nLoc (by rfl) (by rfl) ?_
      refine sCons (WpS.mono (K := fun g S3 => (g = .ret (.bool (ellOf want got))) ∨ (g = .next ∧ ∃ (vars : List (Str × AV)) (ws : List Str) (a : Int), S3 = [.ns vars, .lst (ws.map .str)] ∧ ws ≠ [] ∧ ws.length ≤ 65535 ∧ (∀ w ∈ ws, w.length ≤ 65535) ∧ vars.lookup (Str.ofString "got") = some (.str got) ∧ vars.lookup (Str.ofString "ws") = some (.obj 1) ∧ vars.lookup (Str.ofString "startpos") = some (.int a)
        ∧ vars.lookup (Str.ofString "endpos") = some (.int got.length) ∧ ell2 ws got a = ellOf want got)) (sIf (bVal (wName (v := .str w0) (by rfl) (by rfl) (by kernel_rfl) (tStr ?_)))) fun g S3 hg => ?_)
      · cases he : (w0.length != 0) with
        | false =>
          rw [if_neg (by decide)]
          refine sNil (.inr ⟨rfl, _, w0 :: w1 :: r, 0, rfl, by simp, hfit, hel, by kernel_rfl, by kernel_rfl, by kernel_rfl, by kernel_rfl, ?_⟩)
          rw [hR, ell1_cons, he]; rfl
        | true =>
          rw [if_pos rfl]
          refine sCons (sIf (bVal (wCallM (wName (v := .str got) (by rfl) (by rfl) (by kernel_rfl) (mStr F.slot_str_startswith F.type_str_startswith ⟨cBuiltin, ?_⟩)) (by intro _; rfl))))
          refine wName (v := .str w0) (by rfl) (by rfl) (by kernel_rfl) ?_
          unfold WpArgs WpKws
          refine kStarts (tBool ?_)
          cases hs : Txt.startswith got w0 with
          | false =>
            rw [if_neg (by decide)]
            refine sCons (sRet (wBool (.inl ?_)))
            rw [hR, ell1_cons, he, hs]; rfl
          | true =>
            rw [if_pos rfl]
            refine sCons (sAsg (wCallN (wBoot (by rfl) (by rw [hK]; rfl) rfl ⟨_, rfl, cBuiltin, ?_⟩) (by rfl) (by rfl)) (by rfl))
            refine wName (v := .str w0) (by rfl) (by rfl) (by kernel_rfl) ?_
            unfold WpArgs WpKws
            refine kLenS ?_
            refine nLoc (by rfl) (by rfl) ?_
            refine sCons (sDel (wName (v := .obj 1) (by rfl) (by rfl) (by kernel_rfl) (wInt ⟨1, (w0 :: w1 :: r).map .str, 0, 0, rfl, by rfl, rfl, by decide +kernel, hll, seqIndex_of (by decide) (by simp only [List.map_cons, List.length_cons]; omega), ?_⟩)))
            refine sNil (sNil (.inr ⟨rfl, _, w1 :: r, w0.length, rfl, by simp, by simp at hfit ⊢; omega, fun w hw => hel w (.tail _ hw), by kernel_rfl, by kernel_rfl, by kernel_rfl, by kernel_rfl, ?_⟩))
            rw [hR, ell1_cons, he, hs]; rfl
      rcases hg with rfl | ⟨rfl, vars, ws2, a, rfl, hne, hfit2, hel2, g1, g2, g3, g4, hR2⟩
      · exact hend _
      clear hR hel hfit hll hws h2 hml
      have hpos := List.length_pos_iff.mpr hne
      have hll2 : (ws2.map AV.str).length ≤ sizeLine := by rw [List.length_map, sizeLine_eq]; omega
      have hseq : seqIndex? (-1) (ws2.map AV.str).length = some (ws2.length - 1) := by rw [seq_last (by rw [List.length_map]; exact hpos), List.length_map]
      refine sCons (sAsg (wSub (wName (v := .obj 1) (by rfl) (by rfl) g2 (wOp1 (wInt (uNeg (xObj (j := ws2.length - 1) (y := .str (lastD ws2)) (xs := ws2.map .str) (by rfl) hseq (map_getLast hne) ?_)))))) (by rfl))
      refine nLoc (by rfl) (by rfl) ?_
      have e0 : ∀ x : Str, (x == Str.ofString "w") = false → (put (Str.ofString "w") (.str (lastD ws2)) vars).lookup x = vars.lookup x := fun x hx => by
        rw [put_lookup, if_neg (by intro q; subst q; simp at hx)]
      have eW : (put (Str.ofString "w") (.str (lastD ws2)) vars).lookup (Str.ofString "w") = some (.str (lastD ws2)) := by rw [put_lookup, if_pos rfl]
      refine sCons (WpS.mono (K := fun g S3 => (g = .ret (.bool (ellOf want got))) ∨ (g = .next ∧ ∃ (vars : List (Str × AV)) (ws : List Str) (a b : Int), S3 = [.ns vars, .lst (ws.map .str)] ∧ ws.length ≤ 65535 ∧ (∀ w ∈ ws, w.length ≤ 65535) ∧ vars.lookup (Str.ofString "got") = some (.str got) ∧ vars.lookup (Str.ofString "ws") = some (.obj 1) ∧ vars.lookup (Str.ofString "startpos") = some (.int a)
        ∧ vars.lookup (Str.ofString "endpos") = some (.int b) ∧ ell3 ws got a b = ellOf want got)) (sIf (bVal (wName (v := .str (lastD ws2)) (by rfl) (by rfl) eW (tStr ?_)))) fun g S3 hg => ?_)
      · cases he : ((lastD ws2).length != 0) with
        | false =>
          rw [if_neg (by decide)]
          refine sNil (.inr ⟨rfl, _, ws2, a, got.length, rfl, hfit2, hel2, (e0 _ (by decide +kernel)).trans g1, (e0 _ (by decide +kernel)).trans g2, (e0 _ (by decide +kernel)).trans g3, (e0 _ (by decide +kernel)).trans g4, ?_⟩)
          rw [← hR2]; unfold ell2; rw [he]; rfl
        | true =>
          rw [if_pos rfl]
          refine sCons (sIf (bVal (wCallM (wName (v := .str got) (by rfl) (by rfl) ((e0 _ (by decide +kernel)).trans g1) (mStr F.slot_str_endswith F.type_str_endswith ⟨cBuiltin, ?_⟩)) (by intro _; rfl))))
          refine wName (v := .str (lastD ws2)) (by rfl) (by rfl) eW ?_
          unfold WpArgs WpKws
          refine kEnds (tBool ?_)
          cases hs : Txt.endswith got (lastD ws2) with
          | false =>
            rw [if_neg (by decide)]
            refine sCons (sRet (wBool (.inl ?_)))
            rw [← hR2]; unfold ell2; rw [he, hs]; rfl
          | true =>
            rw [if_pos rfl]
            refine sCons (sAug (lLoc (v := .int got.length) (by rfl) (by rfl) ((e0 _ (by decide +kernel)).trans g4) (wCallN (wBoot (by rfl) (by rw [hK]; rfl) rfl ⟨_, rfl, cBuiltin, ?_⟩) (by rfl) (by rfl))))
            refine wName (v := .str (lastD ws2)) (by rfl) (by rfl) eW ?_
            unfold WpArgs WpKws
            refine kLenS (iSub (nLoc (by rfl) (by rfl) ?_))
            have e1 : ∀ x : Str, (x == Str.ofString "endpos") = false → (put (Str.ofString "endpos") (.int ((got.length : Int) - (lastD ws2).length)) (put (Str.ofString "w") (.str (lastD ws2)) vars)).lookup x = (put (Str.ofString "w") (.str (lastD ws2)) vars).lookup x := fun x hx => by
              rw [put_lookup, if_neg (by intro q; subst q; simp at hx)]
            refine sCons (sDel (wName (v := .obj 1) (by rfl) (by rfl) ((e1 _ (by decide +kernel)).trans ((e0 _ (by decide +kernel)).trans g2)) (wOp1 (wInt (uNeg ⟨1, ws2.map .str, -1, ws2.length - 1, rfl, by rfl, rfl, by decide +kernel, hll2, hseq, ?_⟩)))))
            refine sNil (sNil (.inr ⟨rfl, _, ws2.eraseIdx (ws2.length - 1), a, (got.length : Int) - (lastD ws2).length, ?_, ?_, ?_, (e1 _ (by decide +kernel)).trans ((e0 _ (by decide +kernel)).trans g1), (e1 _ (by decide +kernel)).trans ((e0 _ (by decide +kernel)).trans g2), (e1 _ (by decide +kernel)).trans ((e0 _ (by decide +kernel)).trans g3), by rw [put_lookup, if_pos rfl], ?_⟩))
            · rw [show (ws2.eraseIdx (ws2.length - 1)).map AV.str = (ws2.map AV.str).eraseIdx (ws2.length - 1) from erase_map ..]; rfl
            · rw [List.length_eraseIdx]; split <;> omega
            · exact fun w hw => hel2 w (List.mem_of_mem_eraseIdx hw)
            · rw [← hR2]; unfold ell2; rw [he, hs]; rfl
      rcases hg with rfl | ⟨rfl, vars3, ws3, a3, b3, rfl, hfit3, hel3, k1, k2, k3, k4, hR3⟩
      · exact hend _
      clear hR2
      refine sCons (sIf (bCmp (wName (v := .int a3) (by rfl) (by rfl) k3 (wName (v := .int b3) (by rfl) (by rfl) k4 (oGtI (tBool ?_))))))
      cases hgt : decide (a3 > b3) with
      | true =>
        rw [if_pos rfl]
        refine sCons (sRet (wBool ?_))
        have : ellOf want got = false := by rw [← hR3]; unfold ell3; rw [hgt]; rfl
        rw [← this]; exact hend _
      | false =>
      rw [if_neg (by decide)]
      have hR4 : ellRun got b3 ws3 a3 = ellOf want got := by rw [← hR3]; unfold ell3; rw [hgt]; rfl
      refine sNil (sCons (sFor (iE (wName (v := .obj 1) (by rfl) (by rfl) k2 ⟨ws3.map .str, some 1, srcObj rfl ?_, ?_⟩))))
      · intro it hit; trivial
      refine loopInv (InvE got b3 (ellOf want got)) ?_ ?_ _ _ ⟨_, ws3, a3, rfl, rfl, k1, k3, k4, hR4⟩
      · rintro S ⟨vars, ws, a, hS, hi, j1, j3, j4, hRR⟩
        cases ws with
        | cons a b => simp at hi
        | nil =>
        refine sCons (sRet (wBool ?_))
        have : ellOf want got = true := by rw [← hRR]; rfl
        rw [← this]; exact hend _
      · rintro it rr S ⟨vars, ws, a, hS, hi, j1, j3, j4, hRR⟩
        subst hS
        cases ws with
        | nil => simp at hi
        | cons w ws =>
        cases hi
        have e0 : ∀ x : Str, (x == Str.ofString "w") = false → (put (Str.ofString "w") (.str w) vars).lookup x = vars.lookup x := fun x hx => by
          rw [put_lookup, if_neg (by intro q; subst q; simp at hx)]
        have eW : (put (Str.ofString "w") (.str w) vars).lookup (Str.ofString "w") = some (.str w) := by rw [put_lookup, if_pos rfl]
        refine aName (nLoc (by rfl) (by rfl) ?_)
        refine sCons (sAsg (wCallM (wName (v := .str got) (by rfl) (by rfl) ((e0 _ (by decide +kernel)).trans j1) (mStr F.slot_str_find F.type_str_find ⟨cBuiltin, ?_⟩)) (by intro _; rfl)) (by rfl))
        refine wName (v := .str w) (by rfl) (by rfl) eW ?_
        unfold WpArgs
        refine wName (v := .int a) (by rfl) (by rfl) ((e0 _ (by decide +kernel)).trans j3) ?_
        unfold WpArgs
        refine wName (v := .int b3) (by rfl) (by rfl) ((e0 _ (by decide +kernel)).trans j4) ?_
        unfold WpArgs WpKws
        refine kFind4 (nLoc (by rfl) (by rfl) ?_)
        have e1 : ∀ x : Str, (x == Str.ofString "startpos") = false → (put (Str.ofString "startpos") (.int (find4 got w a b3)) (put (Str.ofString "w") (.str w) vars)).lookup x = (put (Str.ofString "w") (.str w) vars).lookup x := fun x hx => by
          rw [put_lookup, if_neg (by intro q; subst q; simp at hx)]
        have eS : (put (Str.ofString "startpos") (.int (find4 got w a b3)) (put (Str.ofString "w") (.str w) vars)).lookup (Str.ofString "startpos") = some (.int (find4 got w a b3)) := by rw [put_lookup, if_pos rfl]
        refine sCons (sIf (bCmp (wName (v := .int (find4 got w a b3)) (by rfl) (by rfl) eS (wInt (oLtI (tBool ?_))))))
        unfold ellRun at hRR
        cases hlt : decide (find4 got w a b3 < 0) with
        | true =>
          rw [if_pos rfl]
          rw [hlt, if_pos rfl] at hRR
          refine sCons (sRet (wBool ?_))
          rw [hRR]; exact hend _
        | false =>
          rw [if_neg (by decide)]
          rw [hlt, if_neg (by decide)] at hRR
          refine sNil (sCons (sAug (lLoc (v := .int (find4 got w a b3)) (by rfl) (by rfl) eS (wCallN (wBoot (by rfl) (by rw [hK]; rfl) rfl ⟨_, rfl, cBuiltin, ?_⟩) (by rfl) (by rfl)))))
          refine wName (v := .str w) (by rfl) (by rfl) ((e1 _ (by decide +kernel)).trans eW) ?_
          unfold WpArgs WpKws
          refine kLenS (iAdd (nLoc (by rfl) (by rfl) ?_))
          refine sNil ⟨_, ws, _, rfl, rfl, ?_, by rw [put_lookup, if_pos rfl], ?_, hRR⟩
          · rw [put_lookup, if_neg (by decide +kernel)]; exact (e1 _ (by decide +kernel)).trans ((e0 _ (by decide +kernel)).trans j1)
          · rw [put_lookup, if_neg (by decide +kernel)]; exact (e1 _ (by decide +kernel)).trans ((e0 _ (by decide +kernel)).trans j4)
end
end Mine
set_option maxHeartbeats 4000000
namespace Mine
section
variable {X : Cx} {P : Params} {n : Nat} {ae : AEnv} {S : List AO} {K : AV → List AO → Prop} {KF : AF → List AO → Prop} {KU : Unit → List AO → Prop}

theorem filterMap_rowsIf {f : AV → Option AV} {g : Str × Str → AV} {c : Str × Str → Bool} : ∀ (rows : List (Str × Str)), (∀ p ∈ rows, f (rowAV p) = if c p = true then some (g p) else none) → (rows.map rowAV).filterMap f = (rows.filter c).map g
  | [], _ => rfl
  | p :: r, h => by
    rw [List.map_cons, List.filterMap_cons, h p (.head _), filterMap_rowsIf r fun q hq => h q (.tail _ hq)]
    cases e : c p <;> simp [List.filter_cons, e]

theorem getall_contract (hK : X.K = hd.heap_39 P) (hC : X.C = 182) {rows : List (Str × Str)} {x : Str} (hl : rows.length ≤ 65535) (hx : okName (Txt.lower x)) (hf : Builtin.Str.tooLong (Txt.lower x).length = false) (hfr : ∀ p ∈ rows, Builtin.Str.tooLong (Txt.lower p.1).length = false)
    (h : K (.lst ((rows.filter fun p => (Txt.lower p.1).cps.toList == (Txt.lower x).cps.toList).map fun p => .str p.2)) [.lst (rows.map rowAV)]) :
    CdC X (n + 2) [.lst (rows.map rowAV)] 121 [.hdr 0, .str x] [] K := by
  refine fnG (by rw [hK]; rfl) (by rw [hK]; rfl) (bindTo (bs := [(Str.ofString "self", .hdr 0), (Str.ofString "name", .str x)]) (fun s ρ T vs ks hin hv hks => ?_) ?_)
  · obtain ⟨v1, v2, rfl, h1, h2⟩ := hv.two_inv
    cases hks.nil_inv
    exact ⟨[(Str.ofString "self", v1), (Str.ofString "name", v2)], .of_eq rfl, ⟨_, _, rfl, h1, _, _, rfl, h2, rfl⟩⟩
  · refine nLoc (by rfl) (by rfl) ?_
    refine nCell (i := 2) (v0 := none) (by rfl) (by rfl) (by rfl) ?_
    refine sCons (sAsg (wCallM (wName (v := .hdr 0) (by rfl) (by rfl) (by kernel_rfl) (mOwn (f := 83) (.inl ⟨0, rfl, by rw [if_neg (by decide +kernel)]⟩) (by rw [hK, hC]; rfl) (by rw [hK, hC]; rfl) (by rw [hK]; rfl)
          ⟨cFn (by rw [hK]; rfl), ?_⟩))) (by rfl))
    refine wCallM (wCell (i := 2) (v := .str x) (.inl (by rfl)) (by rfl) (by rfl) (mStr F.slot_str_lower F.type_str_lower ⟨cBuiltin, ?_⟩)) (by intro _; rfl)
    refine kLower hf (wBool (convert_contract hK (b := true) (v := Txt.lower x) hx ?_).call)
    refine nCell (i := 2) (v0 := some (.str x)) (by rfl) (by rfl) (by rfl) ?_
    refine sCons (sRet (wLC ⟨rfl, (fun g hg => by cases List.mem_singleton.mp hg; rfl), ?_, by decide +kernel⟩ (by intro _ _; rfl) (by rfl) ?_))
    · intro y hy e
      simp at hy
      rcases hy with rfl | rfl | rfl
      · cases e
      · cases e
      · rfl
    refine iE (wAttr (wName (v := .hdr 0) (by rfl) (by rfl) (by kernel_rfl) (gHdr hK hC ⟨rows.map rowAV, some 0, srcObj rfl ?_, ?_⟩)))
    · intro it hit
      exact trivial
    refine ⟨fun it => match it with | .tup [.str a, .str b] => if (Txt.lower a).cps.toList == (Txt.lower x).cps.toList then some (.str b) else none | _ => none, by rw [sizeLine_eq]; simp; omega, ?_, ?_, ?_⟩
    · intro it hit v e
      obtain ⟨p, _, rfl⟩ := List.mem_map.mp hit
      simp only [rowAV] at e
      split at e
      · cases e; trivial
      · cases e
    · intro it hit
      obtain ⟨p, hp, rfl⟩ := List.mem_map.mp hit
      refine turn1 fun xs vars => ?_
      refine aName (nLoc (by rfl) (by rfl) ?_)
      refine bCmp (wCallM (wSub (wName (v := rowAV p) (by rfl) (by rfl) (by rw [put_lookup, if_pos rfl]) (wInt (xTup (j := 0) (by decide) (by decide) (by rfl) rfl (mStr F.slot_str_lower F.type_str_lower ⟨cBuiltin, kLower (hfr p hp) ?_⟩))))) (by intro _; rfl))
      refine wCell (i := 2) (v := .str (Txt.lower x)) (by first | exact .inl (by rfl) | exact .inr (by kernel_rfl) | exact .inl (by kernel_rfl)) (by first | rfl | kernel_rfl) (by rfl) (oEqS (tBool ?_))
      split
      · rename_i e
        refine wSub (wName (v := rowAV p) (by rfl) (by rfl) (by rw [put_lookup, if_pos rfl]) (wInt (xTup (j := 1) (by decide) (by decide) (by rfl) rfl ⟨_, rfl, ?_⟩)))
        simp only [rowAV]; rw [if_pos e]
      · rename_i e
        refine ⟨_, rfl, ?_⟩
        simp only [rowAV]; rw [if_neg e]
    · rw [filterMap_rowsIf (c := fun p => (Txt.lower p.1).cps.toList == (Txt.lower x).cps.toList) (g := fun p => .str p.2) rows fun p _ => rfl]
      refine leaveU (fun i ao e => ?_) (fzLst (unds_map (g := fun p : Str × Str => AV.str p.2) (fun _ => trivial) _)) h
      match i with
      | 0 => exact e
      | _ + 1 => cases e
end
end Mine
set_option maxHeartbeats 4000000
namespace Mine
section
variable {X : Cx} {P : Params} {n : Nat} {ae : AEnv} {S : List AO} {K : AV → List AO → Prop} {KF : AF → List AO → Prop} {KU : Unit → List AO → Prop}

noncomputable def writtenOf (text : Str) (total : Int) : Str := if (total.fmod 2 != 0) = true then escUpto 7 text else c14Upto 6 text

theorem written_contract (hK : X.K = hd.heap_39 P) {text : Str} {total : Int} (h7 : ∀ k, k ≤ 7 → (escUpto k text).length ≤ 65535) (h6 : ∀ k, k ≤ 6 → (c14Upto k text).length ≤ 65535) (h : K (.str (writtenOf text total)) []) :
    CdC X (n + 2) [] 221 [.str text, .int total] [] K := by
  refine fnG (by rw [hK]; rfl) (by rw [hK]; rfl) (bindTo (bs := [(Str.ofString "text", .str text), (Str.ofString "total", .int total)]) (fun s ρ T vs ks hin hv hks => ?_) ?_)
  · obtain ⟨v1, v2, rfl, h1, h2⟩ := hv.two_inv
    cases hks.nil_inv
    exact ⟨[(Str.ofString "text", v1), (Str.ofString "total", v2)], .of_eq rfl, ⟨_, _, rfl, h1, _, _, rfl, h2, rfl⟩⟩
  · refine nLoc (by rfl) (by rfl) ?_
    refine nLoc (by rfl) (by rfl) ?_
    refine sCons (sIf (bVal (wBin (wName (v := .int total) (by rfl) (by rfl) (by kernel_rfl) (wInt (oMod (by decide) (tInt ?_)))))))
    cases hb : (total.fmod 2 != 0) with
    | true =>
      rw [if_pos rfl]
      refine sCons (sRet (wCallN (wGlob (v := .ref 207) (av := .val (.ref 207)) (by rfl) (by rw [hK]; rfl) (fun _ _ _ => by simp) ⟨_, rfl, cFn (by rw [hK]; rfl), arg (wName (v := .str text) (by rfl) (by rfl) (by kernel_rfl) (arg0 (kw0 ?_)))⟩) (by rfl) (by rfl)))
      refine frmS (y := escUpto 7 text) (by repeat' (first | exact trivial | refine ⟨trivial, ?_⟩)) (fun K0 h0 => (escape_contract hK h7 h0).call) ?_
      have e : writtenOf text total = escUpto 7 text := by unfold writtenOf; rw [if_pos hb]
      rw [e] at h
      exact leaveU (fun i ao e => by cases i <;> cases e) fzStr h
    | false =>
      rw [if_neg (by decide)]
      refine sNil (sCons (sRet (wCallN (wGlob (v := .ref 214) (av := .val (.ref 214)) (by rfl) (by rw [hK]; rfl) (fun _ _ _ => by simp) ⟨_, rfl, cFn (by rw [hK]; rfl), arg (wName (v := .str text) (by rfl) (by rfl) (by kernel_rfl) (arg0 (kw0 ?_)))⟩) (by rfl) (by rfl))))
      refine frmS (y := c14Upto 6 text) (by repeat' (first | exact trivial | refine ⟨trivial, ?_⟩)) (fun K0 h0 => (c14_contract hK h6 h0).call) ?_
      have e : writtenOf text total = c14Upto 6 text := by unfold writtenOf; rw [if_neg (by rw [hb]; decide)]
      rw [e] at h
      exact leaveU (fun i ao e => by cases i <;> cases e) fzStr h

noncomputable def stock : Str := Str.ofString "&<>\"\n\t\x0d;a"
noncomputable def signAt (i : Int) : Str := Txt.item stock (i.fmod 9)
noncomputable def oneOf (total : Int) : Str := writtenOf (signAt total) total
noncomputable def otherOf (total : Int) : Str := writtenOf (signAt (total + 1 + (total.fdiv 9).fmod 8)) total
noncomputable def rowsL (total : Int) : List (Str × Str) := [(Str.ofString "a", oneOf total), (Str.ofString "A", oneOf total), (Str.ofString "a", otherOf total)]

theorem rows_contract (hK : X.K = hd.heap_39 P) {total : Int} (h7 : ∀ i k, k ≤ 7 → (escUpto k (signAt i)).length ≤ 65535) (h6 : ∀ i k, k ≤ 6 → (c14Upto k (signAt i)).length ≤ 65535) (h : K (.lst ((rowsL total).map rowAV)) []) :
    CdC X (n + 3) [] 228 [.int total] [] K := by
  refine fnG (by rw [hK]; rfl) (by rw [hK]; rfl) (bindTo (bs := [(Str.ofString "total", .int total)]) (fun s ρ T vs ks hin hv hks => ?_) ?_)
  · obtain ⟨v1, rfl, h1⟩ := hv.one_inv
    cases hks.nil_inv
    exact ⟨[(Str.ofString "total", v1)], .of_eq rfl, ⟨_, _, rfl, h1, rfl⟩⟩
  · refine nLoc (by rfl) (by rfl) ?_
    refine sCons (sAsg (wStr ?_) (by rfl))
    refine nLoc (by rfl) (by rfl) ?_
    have ht : ∀ i : Int, 0 ≤ i.fmod 9 ∧ i.fmod 9 < 9 := fun i => fmod_in i (by decide)
    have hx : ∀ i : Int, (Txt.charAt stock (i.fmod 9)).isSome = true := fun i => charAt_in (ht i).1 (by rw [show stock.length = 9 by decide +kernel]; exact (ht i).2)
    refine sCons (sAsg (wCallN (wGlob (v := .ref 221) (av := .val (.ref 221)) (by rfl) (by rw [hK]; rfl) (fun _ _ _ => by simp) ⟨_, rfl, cFn (by rw [hK]; rfl), arg ?_⟩) (by rfl) (by rfl)) (by rfl))
    refine wSub (wName (v := .str stock) (by rfl) (by rfl) (by kernel_rfl) (wBin (wName (v := .int total) (by rfl) (by rfl) (by kernel_rfl) (wInt (oMod (by decide) (xStr (fits_small (ht total).1 (by have := (ht total).2; omega)) (hx total) ?_))))))
    refine arg (wName (v := .int total) (by rfl) (by rfl) (by kernel_rfl) (arg0 (kw0 ?_)))
    refine frmS (y := oneOf total) (by repeat' (first | exact trivial | refine ⟨trivial, ?_⟩)) (fun K0 h0 => (written_contract hK (h7 total) (h6 total) h0).call) ?_
    refine nLoc (by rfl) (by rfl) ?_
    refine sCons (sAsg (wCallN (wGlob (v := .ref 221) (av := .val (.ref 221)) (by rfl) (by rw [hK]; rfl) (fun _ _ _ => by simp) ⟨_, rfl, cFn (by rw [hK]; rfl), arg ?_⟩) (by rfl) (by rfl)) (by rfl))
    refine wSub (wName (v := .str stock) (by rfl) (by rfl) (by kernel_rfl) (wBin (wBin (wBin (wName (v := .int total) (by rfl) (by rfl) (by kernel_rfl) (wInt (oAdd ?_)))))))
    refine wBin (wBin (wName (v := .int total) (by rfl) (by rfl) (by kernel_rfl) (wInt (oDiv (by decide) (by decide) (wInt (oMod (by decide) (oAdd ?_)))))))
    refine wInt (oMod (by decide) (xStr (fits_small (ht _).1 (by have := (ht (total + 1 + (total.fdiv 9).fmod 8)).2; omega)) (hx _) ?_))
    refine arg (wName (v := .int total) (by rfl) (by rfl) (by kernel_rfl) (arg0 (kw0 ?_)))
    refine frmS (y := otherOf total) (by repeat' (first | exact trivial | refine ⟨trivial, ?_⟩)) (fun K0 h0 => (written_contract hK (h7 _) (h6 _) h0).call) ?_
    refine nLoc (by rfl) (by rfl) ?_
    refine sCons (sRet (wLst (arg (wTup (arg (wStr (arg (wName (v := .str (oneOf total)) (by rfl) (by rfl) (by kernel_rfl) (arg0 ⟨by rw [sizeLine_eq]; simp, ?_⟩)))))))))
    refine arg (wTup (arg (wStr (arg (wName (v := .str (oneOf total)) (by rfl) (by rfl) (by kernel_rfl) (arg0 ⟨by rw [sizeLine_eq]; simp, ?_⟩))))))
    refine arg (wTup (arg (wStr (arg (wName (v := .str (otherOf total)) (by rfl) (by rfl) (by kernel_rfl) (arg0 ⟨by rw [sizeLine_eq]; simp, ?_⟩))))))
    refine arg0 ⟨by rw [sizeLine_eq]; simp, ?_⟩
    exact leaveU (y := .lst ((rowsL total).map rowAV)) (fun i ao e => by cases i <;> cases e) (fzLst (unds_map (g := rowAV) (fun _ => ⟨trivial, trivial, trivial⟩) (rowsL total))) h
end
end Mine
set_option maxHeartbeats 4000000
namespace Mine
section
variable {X : Cx} {P : Params} {n : Nat} {ae : AEnv} {S : List AO} {K : AV → List AO → Prop} {KF : AF → List AO → Prop} {KU : Unit → List AO → Prop}

noncomputable def pageFig (number : Int) : List Int := (List.range 4).map fun p => (number.fdiv (3 ^ p)).fmod 3
noncomputable def wantFig (number : Int) : List Int := [(number.fdiv 81).fmod 3, (number.fdiv 243).fmod 3]
noncomputable def wordAV (p : List Int × List Int) : AV := .tup [.lst (p.1.map .int), .lst (p.2.map .int)]
theorem ints_und (l : List Int) (m : Nat) : AV.unds m (l.map AV.int) := unds_map (g := AV.int) (fun _ => trivial) l

theorem words_contract (hK : X.K = hd.heap_39 P) {number : Int} (h : K (wordAV (pageFig number, wantFig number)) []) :
    CdC X (n + 2) [] 233 [.int number] [] K := by
  refine fnG (by rw [hK]; rfl) (by rw [hK]; rfl) (bindTo (bs := [(Str.ofString "number", .int number)]) (fun s ρ T vs ks hin hv hks => ?_) ?_)
  · obtain ⟨v1, rfl, h1⟩ := hv.one_inv
    cases hks.nil_inv
    exact ⟨[(Str.ofString "number", v1)], .of_eq rfl, ⟨_, _, rfl, h1, rfl⟩⟩
  · refine nCell (i := 1) (v0 := none) (by rfl) (by rfl) (by rfl) ?_
    refine sCons (sLC ⟨rfl, (fun g hg => by cases List.mem_singleton.mp hg; rfl), ?_, by decide +kernel⟩ (by intro _ _; rfl) (by rfl) (by rfl) ?_)
    · intro y hy e
      simp at hy
      rcases hy with rfl | rfl | rfl
      · cases e
      · cases e
      · rfl
    refine iCallN (wBoot (by rfl) (by rw [hK]; rfl) rfl ⟨_, rfl, cType, arg (wInt (arg0 ?_))⟩)
    refine rRange1 (by decide) (by decide) ?_
    refine ⟨fun it => match it with | .int i => some (.int ((number.fdiv (3 ^ i.toNat)).fmod 3)) | _ => none, by rw [sizeLine_eq]; decide, ?_, ?_, ?_⟩
    · intro it hit v e
      obtain ⟨p, _, rfl⟩ := List.mem_map.mp hit
      cases e; trivial
    · intro it hit
      obtain ⟨p, hp, rfl⟩ := List.mem_map.mp hit
      have hp4 : p < 4 := by simpa using hp
      refine turn0 fun xs vars => ?_
      refine aName (nLoc (by rfl) (by rfl) ?_)
      refine wBin (wBin (wCell (i := 1) (v := .int number) (by first | exact .inl (by rfl) | exact .inr (by kernel_rfl) | exact .inl (by kernel_rfl)) (by first | rfl | kernel_rfl) (by rfl) (wBin (wInt (wName (v := .int p) (by rfl) (by rfl) (by rw [put_lookup, if_pos rfl]) (oPow3 (by omega) ?_))))))
      have h3 : (0 : Int) < 3 ^ p := Int.pow_pos (by decide)
      have h81 : (3 : Int) ^ p ≤ 81 := by
        have : p = 0 ∨ p = 1 ∨ p = 2 ∨ p = 3 := by omega
        rcases this with rfl | rfl | rfl | rfl <;> decide
      refine oDiv (by have : (3 : Int) ^ p ≠ 0 := by omega
                      simpa using this) (by omega) (wInt (oMod (by decide) ⟨_, rfl, ?_⟩))
      rfl
    have e : ((List.range (Int.toNat 4)).map fun (i : Nat) => AV.int i).filterMap (fun it => match it with | .int i => some (.int ((number.fdiv (3 ^ i.toNat)).fmod 3)) | _ => none) = (pageFig number).map AV.int := by
      refine (filterMap_map (e := fun (i : Nat) => AV.int i) (g := fun p => AV.int ((number.fdiv (3 ^ p)).fmod 3)) _ fun p _ => rfl).trans ?_
      unfold pageFig
      rw [List.map_map]; rfl
    rw [e]
    refine nLoc (by rfl) (by rfl) ?_
    refine sCons (sRet (wTup (arg (wName (v := .lst ((pageFig number).map .int)) (by rfl) (by rfl) (by kernel_rfl) (arg ?_)))))
    refine wLst (arg (wBin (wBin (wCell (i := 1) (v := .int number) (.inl (by rfl)) (by rfl) (by rfl) (wInt (oDiv (by decide) (by decide) (wInt (oMod (by decide) ?_))))))))
    refine arg (wBin (wBin (wCell (i := 1) (v := .int number) (.inl (by rfl)) (by rfl) (by rfl) (wInt (oDiv (by decide) (by decide) (wInt (oMod (by decide) ?_)))))))
    refine arg0 ⟨by rw [sizeLine_eq]; simp, arg0 ⟨by rw [sizeLine_eq]; simp, ?_⟩⟩
    refine leaveU (y := wordAV (pageFig number, wantFig number)) (fun i ao e => by cases i <;> cases e) ?_ h
    simp only [Fz]
    refine ⟨_, rfl, ?_⟩
    simp only [Fzs]
    exact ⟨_, _, rfl, fzLst (ints_und _ _), _, _, rfl, fzLst (ints_und (wantFig number) _), rfl⟩

/-- the walk through the greater word -/
noncomputable def withinAt (part : List Int) : List Int → Nat → Nat
  | [], at' => at'
  | f :: r, at' => withinAt part r (if part[at']? = some f then at' + 1 else at')
noncomputable def within (part whole : List Int) : Bool := withinAt part whole 0 == part.length
inductive InvW (part whole : List Int) (items : List AV) (S : List AO) : Prop
  | mk (vars : List (Str × AV)) (w : List Int) (a : Nat) (hS : S = [.ns vars]) (hi : items = w.map AV.int) (h1 : vars.lookup (Str.ofString "part") = some (.lst (part.map .int))) (h2 : vars.lookup (Str.ofString "at") = some (.int a)) (hF : withinAt part w a = withinAt part whole 0) (ha : a ≤ part.length) : InvW part whole items S
theorem within_contract (hK : X.K = hd.heap_39 P) {part whole : List Int} (hl : part.length ≤ 1000) (hw : whole.length ≤ 1000) (h : K (.bool (within part whole)) []) :
    CdC X (n + 2) [] 250 [.lst (part.map .int), .lst (whole.map .int)] [] K := by
  refine fnG (by rw [hK]; rfl) (by rw [hK]; rfl) (bindTo (bs := [(Str.ofString "part", .lst (part.map .int)), (Str.ofString "whole", .lst (whole.map .int))]) (fun s ρ T vs ks hin hv hks => ?_) ?_)
  · obtain ⟨v1, v2, rfl, h1, h2⟩ := hv.two_inv
    cases hks.nil_inv
    exact ⟨[(Str.ofString "part", v1), (Str.ofString "whole", v2)], .of_eq rfl, ⟨_, _, rfl, h1, _, _, rfl, h2, rfl⟩⟩
  · have hsl : (part.map AV.int).length ≤ sizeLine := slm _ hl
    refine nLoc (by rfl) (by rfl) ?_
    refine nLoc (by rfl) (by rfl) ?_
    refine sCons (sAsg (wInt ?_) (by rfl))
    refine nLoc (by rfl) (by rfl) ?_
    refine sCons (sFor (iE (wName (v := .lst (whole.map .int)) (by rfl) (by rfl) (by kernel_rfl) ⟨_, none, srcLst (fun it hit => trivial), ?_⟩)))
    refine loopInv (InvW part whole) ?_ ?_ _ _
      ⟨_, whole, 0, rfl, rfl, by kernel_rfl, by kernel_rfl, rfl, Nat.zero_le _⟩
    · rintro S ⟨vars, w, a, hS, hi, h1, h2, hF, ha⟩
      subst hS
      cases w with
      | cons a b => simp at hi
      | nil =>
      refine sCons (sRet (wCmp (wName (v := .int a) (by rfl) (by rfl) h2 (wCallN (wBoot (by rfl) (by rw [hK]; rfl) rfl ⟨_, rfl, cBuiltin, arg (wName (v := .lst (part.map .int)) (by rfl) (by rfl) h1 (arg0 (kw0 ?_)))⟩) (by rfl) (by rfl)))))
      refine kLenL (.inl rfl) hsl (oEqI ?_)
      have e : ((a : Int) == ((part.map AV.int).length : Int)) = within part whole := by
        unfold within
        rw [← hF, List.length_map]
        show ((a : Int) == (part.length : Int)) = (a == part.length)
        rw [Bool.eq_iff_iff, beq_iff_eq, beq_iff_eq]; omega
      rw [e]
      exact leaveU (fun i ao e => by cases i <;> cases e) fzBool h
    · rintro it rr S ⟨vars, w, a, hS, hi, h1, h2, hF, ha⟩
      subst hS
      cases w with
      | nil => simp at hi
      | cons f w =>
      cases hi
      have e0 : ∀ x : Str, (x == Str.ofString "figure") = false → (put (Str.ofString "figure") (.int f) vars).lookup x = vars.lookup x := fun x hx => by
        rw [put_lookup, if_neg (by intro q; subst q; simp at hx)]
      have k1 := (e0 _ (by decide +kernel)).trans h1
      have k2 := (e0 _ (by decide +kernel)).trans h2
      refine aName (nLoc (by rfl) (by rfl) ?_)
      refine sCons (WpS.mono (K := fun g S3 => g = .next ∧ ∃ (vars' : List (Str × AV)) (a' : Nat), S3 = [.ns vars'] ∧ vars'.lookup (Str.ofString "part") = some (.lst (part.map .int)) ∧ vars'.lookup (Str.ofString "at") = some (.int a') ∧ a' = (if part[a]? = some f then a + 1 else a)) (sIf ?_) fun g S3 ⟨hg, vars', a', hS3, m1, m2, m3⟩ => ?_)
      · refine bAnd (bCmp (wName (v := .int a) (by rfl) (by rfl) k2 (wCallN (wBoot (by rfl) (by rw [hK]; rfl) rfl ⟨_, rfl, cBuiltin, arg (wName (v := .lst (part.map .int)) (by rfl) (by rfl) k1 (arg0 (kw0 ?_)))⟩) (by rfl) (by rfl))))
        refine kLenL (.inl rfl) hsl (oLtI (tBool ?_))
        rw [List.length_map]
        by_cases hlt : a < part.length
        · rw [if_pos (by simpa using hlt)]
          have hg : (part.map AV.int)[a]? = some (.int (part[a]'hlt)) := by rw [List.getElem?_map, List.getElem?_eq_getElem hlt]; rfl
          refine bAnd (bCmp (wSub (wName (v := .lst (part.map .int)) (by rfl) (by rfl) k1 (wName (v := .int a) (by rfl) (by rfl) k2 (xLst (j := a) (six (by rw [List.length_map]; exact hlt)) hg ?_)))))
          refine wName (v := .int f) (by rfl) (by rfl) (by rw [put_lookup, if_pos rfl]) (oEqI (tBool ?_))
          by_cases he : part[a]'hlt = f
          · rw [if_pos (by simpa using he)]
            refine bAnd0 ?_
            rw [if_pos rfl]
            refine sCons (sAug (lLoc (v := .int a) (by rfl) (by rfl) k2 (wInt (iAdd (nLoc (by rfl) (by rfl) ?_)))))
            refine sNil ⟨rfl, _, a + 1, rfl, ?_, by rw [put_lookup, if_pos rfl]; rfl, ?_⟩
            · rw [put_lookup, if_neg (by decide +kernel)]; exact k1
            · rw [if_pos (by rw [List.getElem?_eq_getElem hlt, he])]
          · rw [if_neg (by simpa using he)]
            rw [if_neg (by decide)]
            exact sNil ⟨rfl, _, a, rfl, k1, k2, by rw [if_neg (by rw [List.getElem?_eq_getElem hlt]; simpa using he)]⟩
        · rw [if_neg (by simpa using hlt), if_neg (by decide)]
          exact sNil ⟨rfl, _, a, rfl, k1, k2, by rw [if_neg (by rw [List.getElem?_eq_none_iff.mpr (by omega)]; simp)]⟩
      · subst hg hS3
        refine sNil ⟨vars', w, a', rfl, rfl, m1, m2, ?_, ?_⟩
        · rw [m3]; exact hF
        · rw [m3]
          split
          · rename_i e; have := (List.getElem?_eq_some_iff.mp e).1; omega
          · exact ha
end
end Mine
set_option maxHeartbeats 4000000
namespace Mine
section
variable {X : Cx} {P : Params} {n : Nat} {ae : AEnv} {S : List AO} {K : AV → List AO → Prop} {KF : AF → List AO → Prop} {KU : Unit → List AO → Prop}

theorem rows_und (l : List (Str × Str)) (m : Nat) : AV.unds m (l.map rowAV) := unds_map (g := rowAV) (fun _ => ⟨trivial, trivial, trivial⟩) l
/-- rows whose values are numbers -/
noncomputable def numRow (p : Str × Nat) : Str × Str := (p.1, numStr p.2)
noncomputable def pick (rows : List (Str × Nat)) (x : Str) : List Nat := (rows.filter fun p => (Txt.lower p.1).cps.toList == (Txt.lower x).cps.toList).map (·.2)
noncomputable def sideOf (rows : List (Str × Nat)) (x : Str) : Int := ((pick rows x).map fun k => (2 : Int) ^ k).sum
structure SdOk (rows : List (Str × Nat)) (names : Str) : Prop where
  rl : rows.length ≤ 60
  num : ∀ p ∈ rows, p.2 < 5
  fr : ∀ p ∈ rows, Builtin.Str.tooLong (Txt.lower p.1).length = false
  nl : names.length ≤ 10
  nm : ∀ c ∈ names.cps.toList, okName (Txt.lower ⟨#[c]⟩) ∧ Builtin.Str.tooLong (Txt.lower ⟨#[c]⟩).length = false

theorem sides_contract (hK : X.K = hd.heap_39 P) (hC : X.C = 182) {rows : List (Str × Nat)} {names : Str} (hp : SdOk rows names) (h : K (.lst ((names.cps.toList.map fun c => sideOf rows ⟨#[c]⟩).map .int)) [.lst ((rows.map numRow).map rowAV)]) :
    CdC X (n + 4) [.lst ((rows.map numRow).map rowAV)] 243 [.hdr 0, .str names] [] K := by
  refine fnG (by rw [hK]; rfl) (by rw [hK]; rfl) (bindTo (bs := [(Str.ofString "told", .hdr 0), (Str.ofString "names", .str names)]) (fun s ρ T vs ks hin hv hks => ?_) ?_)
  · obtain ⟨v1, v2, rfl, h1, h2⟩ := hv.two_inv
    cases hks.nil_inv
    exact ⟨[(Str.ofString "told", v1), (Str.ofString "names", v2)], .of_eq rfl, ⟨_, _, rfl, h1, _, _, rfl, h2, rfl⟩⟩
  · refine nCell (i := 2) (v0 := none) (by rfl) (by rfl) (by rfl) ?_
    refine nLoc (by rfl) (by rfl) ?_
    refine sCons (sRet (wLC ⟨rfl, (fun g hg => by cases List.mem_singleton.mp hg; rfl), ?_, by decide +kernel⟩ (by intro _ _; rfl) (by rfl) ?_))
    · intro y hy e
      simp at hy
      rcases hy with rfl | rfl | rfl | rfl
      · cases e
      · cases e
      · cases e
      · rfl
    refine iE (wName (v := .str names) (by rfl) (by rfl) (by kernel_rfl) ⟨signs names, none, srcStr, ?_⟩)
    have hnl : names.cps.toList.length ≤ 10 := hp.nl
    refine ⟨fun it => match it with | .str a => some (.int (sideOf rows a)) | _ => none, by rw [sizeLine_eq]; simp only [signs, List.length_map]; omega, ?_, ?_, ?_⟩
    · intro it hit v e
      obtain ⟨c, _, rfl⟩ := List.mem_map.mp hit
      cases e; trivial
    · intro it hit
      obtain ⟨c, hc, rfl⟩ := List.mem_map.mp hit
      have hnm := hp.nm c hc
      refine turn0 fun xs vars => ?_
      refine aName (nLoc (by rfl) (by rfl) ?_)
      refine wCallN (wBoot (by rfl) (by rw [hK]; rfl) rfl ⟨_, rfl, cBuiltin, arg ?_⟩) (by rfl) (by rfl)
      refine wLC (compIs0 rfl rfl (by decide +kernel) (by decide +kernel)) (by intro _ _; rfl) (by rfl) ?_
      refine iE (wCallM (wCell (i := 2) (v := .hdr 0) (by first | exact .inl (by rfl) | exact .inr (by kernel_rfl) | exact .inl (by kernel_rfl)) (by first | rfl | kernel_rfl) (by rfl) (mOwn (f := 121) (.inl ⟨0, rfl, by rw [if_neg (by decide +kernel)]⟩) (by rw [hK, hC]; rfl) (by rw [hK, hC]; rfl) (by rw [hK]; rfl)
          ⟨cFn (by rw [hK]; rfl), arg (wName (v := .str ⟨#[c]⟩) (by rfl) (by rfl) (by rw [put_lookup, if_pos rfl]) (arg0 (kw0 ?_)))⟩)))
      refine frmH (i := 0) (rows := (rows.map numRow).map rowAV) (rows' := (rows.map numRow).map rowAV) (xs := [.hdr 0, .str ⟨#[c]⟩]) (y := .lst ((pick rows ⟨#[c]⟩).map fun k => .str (numStr k))) (by rfl) (rows_und _ _) (rows_und _ _)
        (show AV.unds _ _ from unds_map (g := fun k => AV.str (numStr k)) (fun _ => trivial) _) ⟨_, _, rfl, .inl ⟨rfl, rfl⟩, _, _, rfl, .inr ⟨trivial, rfl⟩, rfl⟩ (fun K0 h0 => (getall_contract hK hC (by rw [List.length_map]; have := hp.rl; omega) hnm.1 hnm.2 (fun p hq => by
          obtain ⟨q, hq2, rfl⟩ := List.mem_map.mp hq
          exact hp.fr q hq2) (by
          have e : (((rows.map numRow).filter fun p => (Txt.lower p.1).cps.toList == (Txt.lower (⟨#[c]⟩ : Str)).cps.toList).map fun p => AV.str p.2) = (pick rows ⟨#[c]⟩).map fun k => .str (numStr k) := by
            unfold pick
            rw [List.filter_map, List.map_map, List.map_map]
            rfl
          rw [e]; exact h0)).call) ?_
      refine ⟨_, none, srcLst (fun it hit => trivial), ?_⟩
      have hpk : (pick rows ⟨#[c]⟩).length ≤ 60 := by
        unfold pick
        rw [List.length_map]
        exact Nat.le_trans (List.length_filter_le _ _) hp.rl
      have hpm : ∀ k ∈ pick rows ⟨#[c]⟩, k < 5 := fun k hk => by
        obtain ⟨p, hq, rfl⟩ := List.mem_map.mp hk
        exact hp.num p (List.mem_filter.mp hq).1
      refine ⟨fun it => match it with | .str a => some (.int (2 ^ (if a = numStr 0 then 0 else if a = numStr 1 then 1 else if a = numStr 2 then 2 else if a = numStr 3 then 3 else 4))) | _ => none, by rw [sizeLine_eq]; simp only [List.length_map]; omega, ?_, ?_, ?_⟩
      · intro it hit v e
        obtain ⟨k, _, rfl⟩ := List.mem_map.mp hit
        cases e; trivial
      · intro it hit
        obtain ⟨k, hk, rfl⟩ := List.mem_map.mp hit
        have hk5 := hpm k hk
        have hnum : (if numStr k = numStr 0 then 0 else if numStr k = numStr 1 then 1 else if numStr k = numStr 2 then 2 else if numStr k = numStr 3 then 3 else 4) = k := by
          have : ∀ k, k < 5 → (if numStr k = numStr 0 then 0 else if numStr k = numStr 1 then 1 else if numStr k = numStr 2 then 2 else if numStr k = numStr 3 then 3 else 4) = k := by decide +kernel
          exact this k hk5
        refine turn0 fun xs2 vars2 => ?_
        refine aName (nLoc (by rfl) (by rfl) ?_)
        refine wBin (wInt (wCallN (wBoot (by rfl) (by rw [hK]; rfl) rfl ⟨_, rfl, cType, arg (wName (v := .str (numStr k)) (by rfl) (by rfl) (by rw [put_lookup, if_pos rfl]) (arg0 (kw0 ?_)))⟩) (by rfl) (by rfl)))
        refine kIntN (k := (k : Int)) (by omega) (by omega) (oPow2 (by omega) ⟨_, rfl, ?_⟩)
        show some (AV.int (2 ^ (if numStr k = numStr 0 then 0 else if numStr k = numStr 1 then 1 else if numStr k = numStr 2 then 2 else if numStr k = numStr 3 then 3 else 4))) = _
        rw [hnum]
      have e2 : ((pick rows ⟨#[c]⟩).map fun k => AV.str (numStr k)).filterMap (fun it => match it with | .str a => some (.int (2 ^ (if a = numStr 0 then 0 else if a = numStr 1 then 1 else if a = numStr 2 then 2 else if a = numStr 3 then 3 else 4))) | _ => none) = ((pick rows ⟨#[c]⟩).map fun k => (2 : Int) ^ k).map AV.int := by
        refine (filterMap_map (e := fun k => AV.str (numStr k)) (g := fun k => AV.int (2 ^ k)) _ fun k hk => ?_).trans ?_
        · have : ∀ k, k < 5 → (if numStr k = numStr 0 then 0 else if numStr k = numStr 1 then 1 else if numStr k = numStr 2 then 2 else if numStr k = numStr 3 then 3 else 4) = k := by decide +kernel
          show some (AV.int (2 ^ _)) = _
          rw [this k (hpm k hk)]
        · rw [List.map_map]; rfl
      rw [e2]
      refine arg0 (kw0 (kSum (.inl rfl) ?_))
      exact ⟨_, rfl, rfl⟩
    · have e : (signs names).filterMap (fun it => match it with | .str a => some (.int (sideOf rows a)) | _ => none) = (names.cps.toList.map fun c => sideOf rows ⟨#[c]⟩).map AV.int := by
        unfold signs
        refine (filterMap_map (e := fun c => AV.str ⟨#[c]⟩) (g := fun c => AV.int (sideOf rows ⟨#[c]⟩)) _ fun p _ => rfl).trans ?_
        rw [List.map_map]; rfl
      rw [e]
      refine leaveU (fun i ao e => ?_) (fzLst (ints_und _ _)) h
      match i with
      | 0 => exact e
      | _ + 1 => cases e
end
end Mine
set_option maxHeartbeats 4000000
namespace Mine
section
variable {X : Cx} {P : Params} {n : Nat} {ae : AEnv} {S : List AO} {K : AV → List AO → Prop} {KF : AF → List AO → Prop} {KU : Unit → List AO → Prop}

noncomputable def fitRow (words : List (List Int × List Int)) (p : List Int × List Int) : List Bool := words.map fun q => within p.2 q.1
noncomputable def fit (words : List (List Int × List Int)) (i j : Nat) : Bool := ((words.map (fitRow words))[i]?.getD [])[j]?.getD false
noncomputable def hereOf (words : List (List Int × List Int)) : List Int := (List.range 5).map fun i => (((List.range 5).filter fun j => fit words i j).map fun j => (2 : Int) ^ j).sum
noncomputable def thereOf (words : List (List Int × List Int)) : List Int := (List.range 5).map fun j => (((List.range 5).filter fun i => fit words i j).map fun i => (2 : Int) ^ i).sum
noncomputable def boolsAV (l : List Bool) : AV := .lst (l.map .bool)
theorem bools_und (l : List Bool) (m : Nat) : AV.unds m (l.map AV.bool) := unds_map (g := AV.bool) (fun _ => trivial) l

theorem fit_get {words : List (List Int × List Int)} (hw : words.length = 5) {i j : Nat} (hi : i < 5) (hj : j < 5) : ∃ l, ((words.map (fitRow words)).map boolsAV)[i]? = some (boolsAV l) ∧ l.length = 5 ∧ (l.map AV.bool)[j]? = some (.bool (fit words i j)) := by
  have h1 : i < words.length := by omega
  refine ⟨fitRow words (words[i]'h1), ?_, by simp [fitRow, hw], ?_⟩
  · rw [List.getElem?_map, List.getElem?_map, List.getElem?_eq_getElem h1]; rfl
  · have h2 : (fitRow words (words[i]'h1))[j]? = some ((fitRow words (words[i]'h1))[j]'(by simp [fitRow]; omega)) := List.getElem?_eq_getElem _
    rw [List.getElem?_map, h2]
    unfold fit
    rw [List.getElem?_map, List.getElem?_eq_getElem h1]
    simp only [Option.map_some, Option.getD_some]
    rw [h2]; rfl

theorem due_contract (hK : X.K = hd.heap_39 P) {words : List (List Int × List Int)} (hw : words.length = 5) (hs : ∀ p ∈ words, p.1.length ≤ 1000 ∧ p.2.length ≤ 1000) (h : K (.tup [.lst ((hereOf words).map .int), .lst ((thereOf words).map .int)]) []) :
    CdC X (n + 4) [] 255 [.lst (words.map wordAV)] [] K := by
  refine fnG (by rw [hK]; rfl) (by rw [hK]; rfl) (bindTo (bs := [(Str.ofString "words", .lst (words.map wordAV))]) (fun s ρ T vs ks hin hv hks => ?_) ?_)
  · obtain ⟨v1, rfl, h1⟩ := hv.one_inv
    cases hks.nil_inv
    exact ⟨[(Str.ofString "words", v1)], .of_eq rfl, ⟨_, _, rfl, h1, rfl⟩⟩
  · refine nCell (i := 1) (v0 := none) (by rfl) (by rfl) (by rfl) ?_
    -- fits
    refine sCons (sAsg (wLCc ⟨rfl, (fun g hg => by cases List.mem_singleton.mp hg; rfl), ?_, by decide +kernel⟩ (by intro _ _; rfl) (by rfl) ?_) (by rfl))
    · intro y hy e
      simp at hy
      rcases hy with rfl | rfl | rfl | rfl
      · cases e
      · cases e
      · cases e
      · rfl
    refine iE (wCell (i := 1) (v := .lst (words.map wordAV)) (.inl (by rfl)) (by rfl) (by rfl) ⟨_, none, srcLst ?_, ?_⟩)
    · intro it hit
      obtain ⟨p, _, rfl⟩ := List.mem_map.mp hit
      exact ⟨_, rfl⟩
    refine ⟨fun it => match it with | .tup [_, .lst w] => some (boolsAV (words.map fun q => within (w.map fun x => match x with | .int k => k | _ => 0) q.1)) | _ => none, slm _ (by rw [hw]; decide), ?_, ?_, ?_⟩
    · intro it hit v e
      obtain ⟨p, _, rfl⟩ := List.mem_map.mp hit
      cases e
      exact bools_und _ _
    · intro it hit
      obtain ⟨p, hp, rfl⟩ := List.mem_map.mp hit
      have hback : ∀ l : List Int, (l.map AV.int).map (fun x => match x with | .int k => k | _ => 0) = l := fun l => by
        rw [List.map_map]
        exact List.map_id l
      refine turnC0 fun xs vars c => ?_
      refine aTup rfl rfl ⟨trivial, aName (nLoc (by rfl) (by rfl) ⟨trivial, aName (nCell (i := 5) (v0 := c) (by rfl) (by rfl) (by rfl) ?_)⟩)⟩
      refine wLC ⟨rfl, (fun g hg => by cases List.mem_singleton.mp hg; rfl), ?_, by decide +kernel⟩ (by intro _ _; rfl) (by rfl) ?_
      · intro y hy e
        simp at hy
        rcases hy with rfl | rfl | rfl | rfl | rfl
        · cases e
        · cases e
        · cases e
        · cases e
        · rfl
      refine iE (wCell (i := 1) (v := .lst (words.map wordAV)) (by first | exact .inl (by rfl) | exact .inr (by kernel_rfl) | exact .inl (by kernel_rfl)) (by first | rfl | kernel_rfl) (by rfl) ⟨_, none, srcLst ?_, ?_⟩)
      · intro it hit
        obtain ⟨p, _, rfl⟩ := List.mem_map.mp hit
        exact ⟨_, rfl⟩
      refine ⟨fun it => match it with | .tup [.lst w, _] => some (.bool (within p.2 (w.map fun x => match x with | .int k => k | _ => 0))) | _ => none, slm _ (by rw [hw]; decide), ?_, ?_, ?_⟩
      · intro it hit v e
        obtain ⟨q, _, rfl⟩ := List.mem_map.mp hit
        cases e; trivial
      · intro it hit
        obtain ⟨q, hq, rfl⟩ := List.mem_map.mp hit
        refine turn0 fun xs2 vars2 => ?_
        refine aTup rfl rfl ⟨trivial, aName (nLoc (by rfl) (by rfl) ⟨trivial, aName (nLoc (by rfl) (by rfl) ?_)⟩)⟩
        refine wCallN (wGlob (v := .ref 250) (av := .val (.ref 250)) (by kernel_rfl) (by rw [hK]; rfl) (fun _ _ _ => by simp) ⟨_, rfl, cFn (by rw [hK]; rfl), arg ?_⟩) (by rfl) (by rfl)
        refine wCell (i := 5) (v := .lst (p.2.map .int)) (by first | exact .inl (by rfl) | exact .inr (by kernel_rfl) | exact .inl (by kernel_rfl)) (by first | rfl | kernel_rfl) (by rfl) (arg ?_)
        refine wName (v := .lst (q.1.map .int)) (by rfl) (by rfl) (by rw [put_lookup, if_neg (by decide +kernel), put_lookup, if_pos rfl]) (arg0 (kw0 ?_))
        refine frmV (y := .bool (within p.2 q.1)) ⟨ints_und _ _, ints_und _ _, trivial⟩ trivial (fun K0 h0 => (within_contract hK (hs p hp).2 (hs q hq).1 h0).call) ⟨_, rfl, ?_⟩
        simp only [wordAV, hback]
      have e : (words.map wordAV).filterMap (fun it => match it with | .tup [.lst w, _] => some (.bool (within p.2 (w.map fun x => match x with | .int k => k | _ => 0))) | _ => none) = (words.map fun q => within p.2 q.1).map AV.bool := by
        refine (filterMap_map (e := wordAV) (g := fun q => AV.bool (within p.2 q.1)) _ fun q _ => ?_).trans ?_
        · simp only [wordAV, hback]
        · rw [List.map_map]; rfl
      rw [e]
      refine ⟨_, _, rfl, ?_⟩
      simp only [wordAV, hback, boolsAV]
    have eF : (words.map wordAV).filterMap (fun it => match it with | .tup [_, .lst w] => some (boolsAV (words.map fun q => within (w.map fun x => match x with | .int k => k | _ => 0) q.1)) | _ => none) = (words.map (fitRow words)).map boolsAV := by
      have hback : ∀ l : List Int, (l.map AV.int).map (fun x => match x with | .int k => k | _ => 0) = l := fun l => by
        rw [List.map_map]
        exact List.map_id l
      refine (filterMap_map (e := wordAV) (g := fun p => boolsAV (fitRow words p)) _ fun q _ => ?_).trans ?_
      · simp only [wordAV, hback, fitRow]
      · rw [List.map_map]; rfl
    rw [eF]
    refine nCell (i := 2) (v0 := none) (by rfl) (by rfl) (by rfl) ?_
    -- here
    refine sCons (sLCc ⟨rfl, (fun g hg => by cases List.mem_singleton.mp hg; rfl), ?_, by decide +kernel⟩ (by intro _ _; rfl) (by rfl) (by rfl) ?_)
    · intro y hy e
      simp at hy
      rcases hy with rfl | rfl | rfl | rfl | rfl
      · cases e
      · cases e
      · cases e
      · cases e
      · rfl
    refine iCallN (wBoot (by rfl) (by rw [hK]; rfl) rfl ⟨_, rfl, cType, arg (wInt (arg0 ?_))⟩)
    refine rRange1 (by decide) (by decide) ?_
    refine ⟨fun it => match it with | .int i => some (.int (((((List.range 5).filter fun j => fit words i.toNat j).map fun j => (2 : Int) ^ j).sum))) | _ => none, by rw [sizeLine_eq]; decide, ?_, ?_, ?_⟩
    · intro it hit v e
      obtain ⟨p, _, rfl⟩ := List.mem_map.mp hit
      cases e; trivial
    · intro it hit
      obtain ⟨i, hi, rfl⟩ := List.mem_map.mp hit
      have hi5 : i < 5 := by simpa using hi
      refine turnC0 fun xs vars c => ?_
      refine aName (nCell (i := 5) (v0 := c) (by rfl) (by rfl) (by rfl) ?_)
      refine wCallN (wBoot (by kernel_rfl) (by rw [hK]; rfl) rfl ⟨_, rfl, cBuiltin, arg ?_⟩) (by rfl) (by rfl)
      refine wLC ⟨rfl, (fun g hg => by cases List.mem_singleton.mp hg; rfl), ?_, by decide +kernel⟩ (by intro _ _; rfl) (by rfl) ?_
      · intro y hy e
        simp at hy
        rcases hy with rfl | rfl | rfl | rfl
        · cases e
        · cases e
        · rfl
        · rfl
      refine iCallN (wBoot (by kernel_rfl) (by rw [hK]; rfl) rfl ⟨_, rfl, cType, arg (wInt (arg0 ?_))⟩)
      refine rRange1 (by decide) (by decide) ?_
      refine ⟨fun it => match it with | .int j => if fit words i j.toNat = true then some (.int (2 ^ j.toNat)) else none | _ => none, by rw [sizeLine_eq]; decide, ?_, ?_, ?_⟩
      · intro it hit v e
        obtain ⟨j, _, rfl⟩ := List.mem_map.mp hit
        simp only at e
        split at e
        · cases e; trivial
        · cases e
      · intro it hit
        obtain ⟨j, hj, rfl⟩ := List.mem_map.mp hit
        have hj5 : j < 5 := by simpa using hj
        have hjH : (j : Int) < 2 ^ 63 := nhi (Nat.lt_trans hj5 (by decide))
        have hiH : (i : Int) < 2 ^ 63 := nhi (Nat.lt_trans hi5 (by decide))
        refine turn1 fun xs2 vars2 => ?_
        refine aName (nLoc (by rfl) (by rfl) ?_)
        obtain ⟨l, hg1, hll, hg2⟩ := fit_get hw hi5 hj5
        refine bVal (wSub (wSub (wCell (i := 2) (v := .lst ((words.map (fitRow words)).map boolsAV)) (by first | exact .inl (by rfl) | exact .inr (by kernel_rfl) | exact .inl (by kernel_rfl)) (by first | rfl | kernel_rfl) (by rfl) ?_)))
        have hseq : ∀ k : Nat, k < 5 → seqIndex? (k : Int) ((words.map (fitRow words)).map boolsAV).length = some k := fun k hk => by
          rw [List.length_map, List.length_map, hw]
          exact six hk
        have hseq2 : ∀ k : Nat, k < 5 → seqIndex? (k : Int) (l.map AV.bool).length = some k := fun k hk => by
          rw [List.length_map, hll]
          exact six hk
        refine wCell (i := 5) (v := .int i) (by first | exact .inl (by rfl) | exact .inr (by kernel_rfl) | exact .inl (by kernel_rfl)) (by first | rfl | kernel_rfl) (by rfl) (xLst (hseq i hi5) hg1 ?_)
        refine wName (v := .int j) (by rfl) (by rfl) (by rw [put_lookup, if_pos rfl]) (xLst (hseq2 j hj5) hg2 (tBool ?_) (nat_lo _) hjH)
        cases hb : fit words i j with
        | true =>
          rw [if_pos rfl]
          refine wBin (wInt (wName (v := .int j) (by rfl) (by rfl) (by rw [put_lookup, if_pos rfl]) (oPow2 (Nat.le_trans (Nat.le_of_lt hj5) (by decide)) ⟨_, rfl, ?_⟩)))
          show (if fit words i j = true then _ else _) = _
          rw [if_pos hb]; rfl
        | false =>
          rw [if_neg (by decide)]
          refine ⟨_, rfl, ?_⟩
          show (if fit words i j = true then _ else _) = _
          rw [if_neg (by rw [hb]; decide)]
      have e : ((List.range (Int.toNat 5)).map fun (j : Nat) => AV.int j).filterMap (fun it => match it with | .int j => if fit words i j.toNat = true then some (.int (2 ^ j.toNat)) else none | _ => none) = ((((List.range 5).filter fun j => fit words i j).map fun j => (2 : Int) ^ j)).map AV.int := by
        refine (filterMap_mapIf (e := fun (j : Nat) => AV.int j) (c := fun j => fit words i j) (g := fun j => AV.int (2 ^ j)) _ fun p _ => rfl).trans ?_
        rw [List.map_map]; rfl
      rw [e]
      refine arg0 (kw0 (kSum (.inl rfl) ⟨_, _, rfl, ?_⟩))
      rfl
    have ehere : ((List.range (Int.toNat 5)).map fun (i : Nat) => AV.int i).filterMap (fun it => match it with | .int i => some (.int (((((List.range 5).filter fun j => fit words i.toNat j).map fun j => (2 : Int) ^ j).sum))) | _ => none) = (hereOf words).map AV.int := by
      refine (filterMap_map (e := fun (i : Nat) => AV.int i) (g := fun i => AV.int ((((List.range 5).filter fun j => fit words i j).map fun j => (2 : Int) ^ j).sum)) _ fun p _ => rfl).trans ?_
      unfold hereOf
      rw [List.map_map]; rfl
    rw [ehere]
    refine nLoc (by rfl) (by rfl) ?_
    -- there
    refine sCons (sLCc ⟨rfl, (fun g hg => by cases List.mem_singleton.mp hg; rfl), ?_, by decide +kernel⟩ (by intro _ _; rfl) (by rfl) (by rfl) ?_)
    · intro y hy e
      simp at hy
      rcases hy with rfl | rfl | rfl | rfl | rfl
      · cases e
      · cases e
      · cases e
      · cases e
      · rfl
    refine iCallN (wBoot (by rfl) (by rw [hK]; rfl) rfl ⟨_, rfl, cType, arg (wInt (arg0 ?_))⟩)
    refine rRange1 (by decide) (by decide) ?_
    refine ⟨fun it => match it with | .int i => some (.int (((((List.range 5).filter fun j => fit words j i.toNat).map fun j => (2 : Int) ^ j).sum))) | _ => none, by rw [sizeLine_eq]; decide, ?_, ?_, ?_⟩
    · intro it hit v e
      obtain ⟨p, _, rfl⟩ := List.mem_map.mp hit
      cases e; trivial
    · intro it hit
      obtain ⟨i, hi, rfl⟩ := List.mem_map.mp hit
      have hi5 : i < 5 := by simpa using hi
      refine turnC0 fun xs vars c => ?_
      refine aName (nCell (i := 5) (v0 := c) (by rfl) (by rfl) (by rfl) ?_)
      refine wCallN (wBoot (by kernel_rfl) (by rw [hK]; rfl) rfl ⟨_, rfl, cBuiltin, arg ?_⟩) (by rfl) (by rfl)
      refine wLC ⟨rfl, (fun g hg => by cases List.mem_singleton.mp hg; rfl), ?_, by decide +kernel⟩ (by intro _ _; rfl) (by rfl) ?_
      · intro y hy e
        simp at hy
        rcases hy with rfl | rfl | rfl | rfl
        · cases e
        · cases e
        · rfl
        · rfl
      refine iCallN (wBoot (by kernel_rfl) (by rw [hK]; rfl) rfl ⟨_, rfl, cType, arg (wInt (arg0 ?_))⟩)
      refine rRange1 (by decide) (by decide) ?_
      refine ⟨fun it => match it with | .int j => if fit words j.toNat i = true then some (.int (2 ^ j.toNat)) else none | _ => none, by rw [sizeLine_eq]; decide, ?_, ?_, ?_⟩
      · intro it hit v e
        obtain ⟨j, _, rfl⟩ := List.mem_map.mp hit
        simp only at e
        split at e
        · cases e; trivial
        · cases e
      · intro it hit
        obtain ⟨j, hj, rfl⟩ := List.mem_map.mp hit
        have hj5 : j < 5 := by simpa using hj
        have hjH : (j : Int) < 2 ^ 63 := nhi (Nat.lt_trans hj5 (by decide))
        have hiH : (i : Int) < 2 ^ 63 := nhi (Nat.lt_trans hi5 (by decide))
        refine turn1 fun xs2 vars2 => ?_
        refine aName (nLoc (by rfl) (by rfl) ?_)
        obtain ⟨l, hg1, hll, hg2⟩ := fit_get hw hj5 hi5
        refine bVal (wSub (wSub (wCell (i := 2) (v := .lst ((words.map (fitRow words)).map boolsAV)) (by first | exact .inl (by rfl) | exact .inr (by kernel_rfl) | exact .inl (by kernel_rfl)) (by first | rfl | kernel_rfl) (by rfl) ?_)))
        have hseq : ∀ k : Nat, k < 5 → seqIndex? (k : Int) ((words.map (fitRow words)).map boolsAV).length = some k := fun k hk => by
          rw [List.length_map, List.length_map, hw]
          exact six hk
        have hseq2 : ∀ k : Nat, k < 5 → seqIndex? (k : Int) (l.map AV.bool).length = some k := fun k hk => by
          rw [List.length_map, hll]
          exact six hk
        refine wName (v := .int j) (by rfl) (by rfl) (by rw [put_lookup, if_pos rfl]) (xLst (hseq j hj5) hg1 ?_ (nat_lo _) hjH)
        refine wCell (i := 5) (v := .int i) (by first | exact .inl (by rfl) | exact .inr (by kernel_rfl) | exact .inl (by kernel_rfl)) (by first | rfl | kernel_rfl) (by rfl) (xLst (hseq2 i hi5) hg2 (tBool ?_) (nat_lo _) hiH)
        cases hb : fit words j i with
        | true =>
          rw [if_pos rfl]
          refine wBin (wInt (wName (v := .int j) (by rfl) (by rfl) (by rw [put_lookup, if_pos rfl]) (oPow2 (Nat.le_trans (Nat.le_of_lt hj5) (by decide)) ⟨_, rfl, ?_⟩)))
          show (if fit words j i = true then _ else _) = _
          rw [if_pos hb]; rfl
        | false =>
          rw [if_neg (by decide)]
          refine ⟨_, rfl, ?_⟩
          show (if fit words j i = true then _ else _) = _
          rw [if_neg (by rw [hb]; decide)]
      have e : ((List.range (Int.toNat 5)).map fun (j : Nat) => AV.int j).filterMap (fun it => match it with | .int j => if fit words j.toNat i = true then some (.int (2 ^ j.toNat)) else none | _ => none) = ((((List.range 5).filter fun j => fit words j i).map fun j => (2 : Int) ^ j)).map AV.int := by
        refine (filterMap_mapIf (e := fun (j : Nat) => AV.int j) (c := fun j => fit words j i) (g := fun j => AV.int (2 ^ j)) _ fun p _ => rfl).trans ?_
        rw [List.map_map]; rfl
      rw [e]
      refine arg0 (kw0 (kSum (.inl rfl) ⟨_, _, rfl, ?_⟩))
      rfl
    have ethere : ((List.range (Int.toNat 5)).map fun (i : Nat) => AV.int i).filterMap (fun it => match it with | .int i => some (.int (((((List.range 5).filter fun j => fit words j i.toNat).map fun j => (2 : Int) ^ j).sum))) | _ => none) = (thereOf words).map AV.int := by
      refine (filterMap_map (e := fun (i : Nat) => AV.int i) (g := fun i => AV.int ((((List.range 5).filter fun j => fit words j i).map fun j => (2 : Int) ^ j).sum)) _ fun p _ => rfl).trans ?_
      unfold thereOf
      rw [List.map_map]; rfl
    rw [ethere]
    refine nLoc (by rfl) (by rfl) ?_
    refine sCons (sRet (wTup (arg (wName (v := .lst ((hereOf words).map .int)) (by rfl) (by rfl) (by kernel_rfl) (arg (wName (v := .lst ((thereOf words).map .int)) (by rfl) (by rfl) (by kernel_rfl) (arg0 ⟨by rw [sizeLine_eq]; simp, ?_⟩)))))))
    refine leaveU (y := .tup [.lst ((hereOf words).map .int), .lst ((thereOf words).map .int)]) (fun i ao e => by cases i <;> cases e) ?_ h
    simp only [Fz]
    refine ⟨_, rfl, ?_⟩
    simp only [Fzs]
    exact ⟨_, _, rfl, fzLst (ints_und _ _), _, _, rfl, fzLst (ints_und _ _), rfl⟩
end
end Mine
set_option maxHeartbeats 4000000
namespace Mine
section
variable {X : Cx} {P : Params} {n : Nat} {ae : AEnv} {S : List AO} {K : AV → List AO → Prop} {KF : AF → List AO → Prop} {KU : Unit → List AO → Prop}

/-! ## the plain count of holes -/
noncomputable def cornersOf (face : Nat) : List Nat := (List.range 5).filter fun c => bit face c
noncomputable def inSome (sides : List Int) (face : Nat) : Bool := (sides.map fun s => Builtin.bitAnd (face : Int) s == (face : Int)).any id
noncomputable def rimOf (face : Nat) : Int := ((cornersOf face).map fun c => (2 : Int) ^ (face - 2 ^ c)).sum
noncomputable def reduce (rim : Int) (known : List Int) : Int := known.foldl (fun r k => if Builtin.bitXor r k < r then Builtin.bitXor r k else r) rim
structure Tab where
  counts : List Int
  rims : List (List Int)
noncomputable def turnF (sides : List Int) (t : Tab) (face : Nat) : Tab :=
  if inSome sides face = true then
    let size := (cornersOf face).length
    let counts := t.counts.set size (t.counts.getD size 0 + 1)
    if 1 < size then
      let rim := reduce (rimOf face) (t.rims.getD size [])
      if (rim != 0) = true then ⟨counts, t.rims.set size (t.rims.getD size [] ++ [rim])⟩ else ⟨counts, t.rims⟩
    else ⟨counts, t.rims⟩
  else t
noncomputable def tab0 : Tab := ⟨List.replicate 7 0, List.replicate 7 []⟩
noncomputable def tabOf (sides : List Int) : Tab := ((List.range 31).map (· + 1)).foldl (turnF sides) tab0
noncomputable def holesOf (sides : List Int) : List Int := ((List.range 5).map (· + 1)).map fun size => (tabOf sides).counts.getD size 0 - ((tabOf sides).rims.getD size []).length - ((tabOf sides).rims.getD (size + 1) []).length

/-! ## the state of the walk -/
noncomputable def intsAO (l : List Int) : AO := .lst (l.map .int)
noncomputable def tailAO : AO := .lst ((List.range 7).map fun k => AV.obj (5 + k))
noncomputable def stH (vars : List (Str × AV)) (f : Option AV) (t : Tab) : List AO := [.ns vars, .cell (some (.obj 4)), .cell (some (.obj 12)), .cell f, intsAO t.counts] ++ (t.rims.map intsAO ++ [tailAO])
end
end Mine
set_option maxHeartbeats 4000000
namespace Mine
section
variable {X : Cx} {P : Params} {n : Nat} {ae : AEnv} {S : List AO} {K : AV → List AO → Prop} {KF : AF → List AO → Prop} {KU : Unit → List AO → Prop}

noncomputable def stE (vars : List (Str × AV)) (f : Option AV) (cs r0 r1 r2 r3 r4 r5 r6 : List Int) : List AO := [.ns vars, .cell (some (.obj 4)), .cell (some (.obj 12)), .cell f, .lst (cs.map .int), .lst (r0.map .int), .lst (r1.map .int), .lst (r2.map .int), .lst (r3.map .int), .lst (r4.map .int), .lst (r5.map .int), .lst (r6.map .int), .lst [.obj 5, .obj 6, .obj 7, .obj 8, .obj 9, .obj 10, .obj 11]]
/-- the lists of rims, one of them on loan -/
theorem stE_facts {f : Option AV} {cs r0 r1 r2 r3 r4 r5 r6 RS : List Int} {k : Nat} (hRS : RS = [r0, r1, r2, r3, r4, r5, r6].getD k []) (hk : k = 2 ∨ k = 3 ∨ k = 4 ∨ k = 5) :
    ([.obj 5, .obj 6, .obj 7, .obj 8, .obj 9, .obj 10, .obj 11] : List AV)[k]? = some (.obj (5 + k)) ∧
    (∀ v, (stE v f cs r0 r1 r2 r3 r4 r5 r6)[5 + k]? = some (.lst (RS.map .int))) ∧
    (∀ v, ((stE v f cs r0 r1 r2 r3 r4 r5 r6).set (5 + k) .loan)[0]? = some (.ns v)) ∧
    (∀ v w, ((stE v f cs r0 r1 r2 r3 r4 r5 r6).set (5 + k) .loan).set 0 (.ns w) = (stE w f cs r0 r1 r2 r3 r4 r5 r6).set (5 + k) .loan) ∧
    (∀ v w, un (stE v f cs r0 r1 r2 r3 r4 r5 r6) ((stE w f cs r0 r1 r2 r3 r4 r5 r6).set (5 + k) .loan) (some (5 + k)) = stE w f cs r0 r1 r2 r3 r4 r5 r6) ∧
    ∀ v x, (stE v f cs r0 r1 r2 r3 r4 r5 r6).set (5 + k) (.lst ((RS ++ [x]).map .int)) = stH v f ⟨cs, [r0, r1, r2, r3, r4, r5, r6].set k (RS ++ [x])⟩ := by
  rcases hk with rfl | rfl | rfl | rfl <;> subst hRS <;> exact ⟨rfl, fun _ => rfl, fun _ => rfl, fun _ _ => rfl, fun _ _ => rfl, fun _ _ => rfl⟩
theorem seven {α : Type} : ∀ {l : List α}, l.length = 7 → ∃ a b c d e f g, l = [a, b, c, d, e, f, g]
  | [a, b, c, d, e, f, g], _ => ⟨a, b, c, d, e, f, g, rfl⟩
/-- what the walk through the faces keeps -/
inductive InvO (sides : List Int) (items : List AV) (S : List AO) : Prop
  | mk (vars : List (Str × AV)) (f : Option AV) (t : Tab) (L : List Nat) (hS : S = stH vars f t) (h1 : vars.lookup (Str.ofString "sides") = some (.lst (sides.map .int))) (hr7 : t.rims.length = 7) (hc7 : t.counts.length = 7)
      (hi : items = L.map (fun (i : Nat) => AV.int (1 + i))) (hF : (L.map (· + 1)).foldl (turnF sides) t = tabOf sides) (hb : ∀ i ∈ L, i < 31) (hB : ∀ r ∈ t.rims, r.length + L.length ≤ 31) : InvO sides items S
/-- what the walk through the known rims keeps -/
inductive InvI (sides : List Int) (st : List (Str × AV) → List AO) (k : Int) (red : Int) (items : List AV) (S : List AO) : Prop
  | mk (vars' : List (Str × AV)) (r : Int) (ks : List Int) (hS : S = st vars') (hi : items = ks.map AV.int) (j1 : vars'.lookup (Str.ofString "sides") = some (.lst (sides.map .int))) (j2 : vars'.lookup (Str.ofString "size") = some (.int k))
      (j3 : vars'.lookup (Str.ofString "rim") = some (.int r)) (hR : reduce r ks = red) : InvI sides st k red items S
theorem holes_contract (hK : X.K = hd.heap_39 P) {sides : List Int} (hl : sides.length ≤ 1000) (h : K (.lst ((holesOf sides).map .int)) []) :
    CdC X (n + 3) [] 260 [.lst (sides.map .int)] [] K := by
  refine fnG (by rw [hK]; rfl) (by rw [hK]; rfl) (bindTo (bs := [(Str.ofString "sides", .lst (sides.map .int))]) (fun s ρ T vs ks hin hv hks => ?_) ?_)
  · obtain ⟨v1, rfl, h1⟩ := hv.one_inv
    cases hks.nil_inv
    exact ⟨[(Str.ofString "sides", v1)], .of_eq rfl, ⟨_, _, rfl, h1, rfl⟩⟩
  · refine nLoc (by rfl) (by rfl) ?_
    refine sCons (sAsgT (wTup (arg ?_)))
    refine wBin (wLst (arg (wInt (arg0 ⟨by rw [sizeLine_eq]; decide, ?_⟩))))
    refine wInt (oMulLT (k := 7) (by decide) (arg ?_))
    refine wLstT ?_
    refine arg (wLstT (arg0 ⟨by rw [sizeLine_eq]; decide, ?_⟩))
    refine arg (wLstT (arg0 ⟨by rw [sizeLine_eq]; decide, ?_⟩))
    refine arg (wLstT (arg0 ⟨by rw [sizeLine_eq]; decide, ?_⟩))
    refine arg (wLstT (arg0 ⟨by rw [sizeLine_eq]; decide, ?_⟩))
    refine arg (wLstT (arg0 ⟨by rw [sizeLine_eq]; decide, ?_⟩))
    refine arg (wLstT (arg0 ⟨by rw [sizeLine_eq]; decide, ?_⟩))
    refine arg (wLstT (arg0 ⟨by rw [sizeLine_eq]; decide, ?_⟩))
    refine arg0 ⟨by rw [sizeLine_eq]; simp, arg0 ⟨by rw [sizeLine_eq]; simp, _, rfl, rfl, trivial, aName (nCell (i := 1) (v0 := none) (by rfl) (by rfl) (by rfl) ⟨trivial, aName (nCell (i := 2) (v0 := none) (by rfl) (by rfl) (by rfl) ?_)⟩)⟩⟩
    show WpSs X (n + 2) _ (stH (put (Str.ofString "sides") (.lst (sides.map .int)) []) none tab0) _ _
    refine sCons (sFor (iCallN (wBoot (by rfl) (by rw [hK]; rfl) rfl ⟨_, rfl, cType, arg (wInt (arg (wInt (arg0 ?_))))⟩)))
    refine rRange2 (by decide) (by decide) (by decide) (by decide) ?_
    refine loopInv (InvO sides) ?_ ?_ _ _ ⟨_, none, tab0, List.range 31, rfl, by kernel_rfl, rfl, rfl, rfl, rfl, fun i hi => by simpa using hi, fun r hr => by
        have : r = [] := by simpa [tab0] using hr
        rw [this]; simp⟩
    · rintro S ⟨vars, f, t, L, hS, h1, hr7, hc7, hi, hF, hb, hB⟩
      subst hS
      cases L with
      | cons a b => simp at hi
      | nil =>
      have hF' : t = tabOf sides := hF
      obtain ⟨cs, rims⟩ := t
      obtain ⟨r0, r1, r2, r3, r4, r5, r6, rfl⟩ := seven hr7
      have hc7 : cs.length = 7 := hc7
      show WpSs X (n + 2) _ [.ns vars, .cell (some (.obj 4)), .cell (some (.obj 12)), .cell f, .lst (cs.map .int), .lst (r0.map .int), .lst (r1.map .int), .lst (r2.map .int), .lst (r3.map .int), .lst (r4.map .int), .lst (r5.map .int), .lst (r6.map .int), .lst [.obj 5, .obj 6, .obj 7, .obj 8, .obj 9, .obj 10, .obj 11]] _ _
      refine sCons (sRet (wLC ⟨rfl, (fun g hg => by cases List.mem_singleton.mp hg; rfl), ?_, by decide +kernel⟩ (by intro _ _; rfl) (by rfl) ?_))
      · intro y hy e
        simp at hy
        rcases hy with rfl | rfl | rfl | rfl | rfl
        · cases e
        · cases e
        · cases e
        · rfl
        · rfl
      refine iCallN (wBoot (by rfl) (by rw [hK]; rfl) rfl ⟨_, rfl, cType, arg (wInt (arg (wInt (arg0 ?_))))⟩)
      refine rRange2 (by decide) (by decide) (by decide) (by decide) ?_
      refine ⟨fun it => match it with | .int i => some (.int (cs.getD i.toNat 0 - ([r0, r1, r2, r3, r4, r5, r6].getD i.toNat []).length - ([r0, r1, r2, r3, r4, r5, r6].getD (i.toNat + 1) []).length)) | _ => none, by rw [sizeLine_eq]; decide, ?_, ?_, ?_⟩
      · intro it hit v e
        obtain ⟨p, _, rfl⟩ := List.mem_map.mp hit
        cases e; trivial
      · intro it hit
        obtain ⟨i, hi, rfl⟩ := List.mem_map.mp hit
        have hi5 : i < 5 := by simpa using hi
        refine turn0 fun xs vars2 => ?_
        refine aName (nLoc (by rfl) (by rfl) ?_)
        have hci : 1 + i < cs.length := by omega
        have hgc : (cs.map AV.int)[1 + i]? = some (.int (cs.getD (1 + i) 0)) := by
          rw [List.getElem?_map, List.getElem?_eq_getElem hci, List.getD_eq_getElem?_getD, List.getElem?_eq_getElem hci]; rfl
        have hi' : (1 : Int) + (i : Int) = ((1 + i : Nat) : Int) := by omega
        have hs7 : seqIndex? ((1 : Int) + (i : Int)) (cs.map AV.int).length = some (1 + i) := by rw [hi', List.length_map]; exact six hci
        have hc := lt5 hi5
        refine wBin (wBin (wSub (wCell (i := 1) (v := .obj 4) (.inl (by kernel_rfl)) (by kernel_rfl) (by rfl) (wName (v := .int (1 + i)) (by rfl) (by rfl) (by rw [put_lookup, if_pos rfl]) (xObj (k := 4) (xs := cs.map .int) (by rfl) hs7 hgc ?_)))))
        have hB : ∀ r ∈ [r0, r1, r2, r3, r4, r5, r6], r.length ≤ 31 := fun r hr => by have := hB r hr; simpa using this
        have hsz : ∀ r ∈ [r0, r1, r2, r3, r4, r5, r6], (r.map AV.int).length ≤ sizeLine := fun r hr => slm _ (Nat.le_trans (hB r hr) (by decide))
        rcases hc with rfl | rfl | rfl | rfl | rfl
        all_goals
          refine wCallN (wBoot (by kernel_rfl) (by rw [hK]; rfl) rfl ⟨_, rfl, cBuiltin, arg (wSub (wCell (i := 2) (v := .obj 12) (.inl (by kernel_rfl)) (by kernel_rfl) (by rfl) (wName (by rfl) (by rfl) (by rw [put_lookup, if_pos rfl]) (xObj (k := 12) (by rfl) (by rfl) (by rfl) (arg0 (kw0 ?_))))))⟩) (by rfl) (by rfl)
          refine kLenL (IsL.o (by rfl)) (hsz _ (by simp)) (oSub ?_)
          refine wCallN (wBoot (by kernel_rfl) (by rw [hK]; rfl) rfl ⟨_, rfl, cBuiltin, arg (wSub (wCell (i := 2) (v := .obj 12) (.inl (by kernel_rfl)) (by kernel_rfl) (by rfl) (wBin (wName (by rfl) (by rfl) (by rw [put_lookup, if_pos rfl]) (wInt (oAdd (xObj (k := 12) (by rfl) (by rfl) (by rfl) (arg0 (kw0 ?_)))))))))⟩) (by rfl) (by rfl)
          refine kLenL (IsL.o (by rfl)) (hsz _ (by simp)) (oSub ⟨_, rfl, ?_⟩)
          rw [List.length_map, List.length_map]; rfl
      have e : ((List.range (Int.toNat (6 - 1))).map fun (i : Nat) => AV.int (1 + i)).filterMap (fun it => match it with | .int i => some (.int (cs.getD i.toNat 0 - ([r0, r1, r2, r3, r4, r5, r6].getD i.toNat []).length - ([r0, r1, r2, r3, r4, r5, r6].getD (i.toNat + 1) []).length)) | _ => none) = (holesOf sides).map AV.int := by
        unfold holesOf
        rw [← hF']
        rfl
      rw [e]
      exact leaveU (fun i ao e => by cases i <;> cases e) (fzLst (ints_und _ _)) h
    · rintro it rr S ⟨vars, f, t, L, hS, h1, hr7, hc7, hi, hF, hb, hB⟩
      subst hS
      cases L with
      | nil => simp at hi
      | cons i L =>
      cases hi
      have hi31 : i < 31 := hb i (.head _)
      have hi' : (fun (i : Nat) => AV.int (1 + (i : Int))) i = AV.int ((i + 1 : Nat) : Int) := by
        show AV.int _ = AV.int _
        have : (1 : Int) + (i : Int) = ((i + 1 : Nat) : Int) := by omega
        rw [this]
      rw [hi']
      rw [List.map_cons, List.foldl_cons] at hF
      obtain ⟨face, hface⟩ : ∃ face, face = i + 1 := ⟨_, rfl⟩
      rw [← hface] at hF ⊢
      have hf32 : face < 32 := by omega
      have hf0 : 0 < face := by omega
      obtain ⟨cs, rims⟩ := t
      obtain ⟨r0, r1, r2, r3, r4, r5, r6, rfl⟩ := seven hr7
      have hc7 : cs.length = 7 := hc7
      show WpA X (n + 2) _ [.ns vars, .cell (some (.obj 4)), .cell (some (.obj 12)), .cell f, .lst (cs.map .int), .lst (r0.map .int), .lst (r1.map .int), .lst (r2.map .int), .lst (r3.map .int), .lst (r4.map .int), .lst (r5.map .int), .lst (r6.map .int), .lst [.obj 5, .obj 6, .obj 7, .obj 8, .obj 9, .obj 10, .obj 11]] _ _ _
      refine aName (nCell (i := 3) (v0 := f) (by rfl) (by rfl) (by rfl) ?_)
      show WpSs X (n + 2) _ [.ns vars, .cell (some (.obj 4)), .cell (some (.obj 12)), .cell (some (.int face)), .lst (cs.map .int), .lst (r0.map .int), .lst (r1.map .int), .lst (r2.map .int), .lst (r3.map .int), .lst (r4.map .int), .lst (r5.map .int), .lst (r6.map .int), .lst [.obj 5, .obj 6, .obj 7, .obj 8, .obj 9, .obj 10, .obj 11]] _ _
      refine sCons (sIf (bVal (wCallN (wBoot (by rfl) (by rw [hK]; rfl) rfl ⟨_, rfl, cBuiltin, arg ?_⟩) (by rfl) (by rfl))))
      refine wLC ⟨rfl, (fun g hg => by cases List.mem_singleton.mp hg; rfl), ?_, by decide +kernel⟩ (by intro _ _; rfl) (by rfl) ?_
      · intro y hy e
        simp at hy
        rcases hy with rfl | rfl | rfl
        · cases e
        · cases e
        · rfl
      refine iE (wName (v := .lst (sides.map .int)) (by rfl) (by rfl) h1 ⟨_, none, srcLst (fun it hit => trivial), ?_⟩)
      refine ⟨fun it => match it with | .int s => some (.bool (Builtin.bitAnd (face : Int) s == (face : Int))) | _ => none, slm _ hl, ?_, ?_, ?_⟩
      · intro it hit v e
        obtain ⟨p, _, rfl⟩ := List.mem_map.mp hit
        cases e; trivial
      · intro it hit
        obtain ⟨s, hs, rfl⟩ := List.mem_map.mp hit
        refine turn0 fun xs vars2 => ?_
        refine aName (nLoc (by rfl) (by rfl) ?_)
        refine wCmp (wBin (wCell (i := 3) (v := .int face) (.inl (by kernel_rfl)) (by kernel_rfl) (by rfl) (wName (v := .int s) (by rfl) (by rfl) (by rw [put_lookup, if_pos rfl]) (oAnd ?_))))
        exact wCell (i := 3) (v := .int face) (.inl (by kernel_rfl)) (by kernel_rfl) (by rfl) (oEqI ⟨_, rfl, rfl⟩)
      have eA : (sides.map AV.int).filterMap (fun it => match it with | .int s => some (.bool (Builtin.bitAnd (face : Int) s == (face : Int))) | _ => none) = (sides.map fun s => Builtin.bitAnd (face : Int) s == (face : Int)).map AV.bool := by
        refine (filterMap_map (e := fun (s : Int) => AV.int s) (g := fun s => AV.bool (Builtin.bitAnd (face : Int) s == (face : Int))) _ fun p _ => rfl).trans ?_
        rw [List.map_map]; rfl
      rw [eA]
      refine arg0 (kw0 (kAny (.inl rfl) (tBool ?_)))
      have hin : (sides.map fun s => Builtin.bitAnd (face : Int) s == (face : Int)).any id = inSome sides face := rfl
      rw [hin]
      cases hins : inSome sides face with
      | false =>
        rw [if_neg (by decide)]
        refine sNil (sNil ⟨vars, some (.int face), ⟨cs, [r0, r1, r2, r3, r4, r5, r6]⟩, L, rfl, h1, rfl, hc7, rfl, ?_, fun j hj => hb j (.tail _ hj), fun r hr => Nat.le_of_succ_le (hB r hr)⟩)
        have e : turnF sides ⟨cs, [r0, r1, r2, r3, r4, r5, r6]⟩ face = ⟨cs, [r0, r1, r2, r3, r4, r5, r6]⟩ := by unfold turnF; rw [if_neg (by rw [hins]; decide)]
        rw [← hF, e]
      | true =>
      rw [if_pos rfl]
      have hE : ∀ c : Nat, c < 5 → ((2 : Int) ^ c == 0) = false ∧ ((2 : Int) ^ c).natAbs < 1073741824 := fun c hc => by
        have := lt5 hc
        rcases this with rfl | rfl | rfl | rfl | rfl <;> decide
      -- corners
      refine sCons (sLC ⟨rfl, (fun g hg => by cases List.mem_singleton.mp hg; rfl), ?_, by decide +kernel⟩ (by intro _ _; rfl) (by rfl) (by rfl) ?_)
      · intro y hy e
        simp at hy
        rcases hy with rfl | rfl | rfl
        · cases e
        · cases e
        · rfl
      refine iCallN (wBoot (by rfl) (by rw [hK]; rfl) rfl ⟨_, rfl, cType, arg (wInt (arg0 ?_))⟩)
      refine rRange1 (by decide) (by decide) ?_
      refine ⟨fun it => match it with | .int c => if bit face c.toNat = true then some (.int c) else none | _ => none, by rw [sizeLine_eq]; decide, ?_, ?_, ?_⟩
      · intro it hit v e
        obtain ⟨j, _, rfl⟩ := List.mem_map.mp hit
        simp only at e
        split at e
        · cases e; trivial
        · cases e
      · intro it hit
        obtain ⟨c, hc, rfl⟩ := List.mem_map.mp hit
        have hc5 : c < 5 := by simpa using hc
        refine turn1 fun xs2 vars2 => ?_
        refine aName (nLoc (by rfl) (by rfl) ?_)
        refine bVal (wBin (wBin (wCell (i := 3) (v := .int face) (.inl (by kernel_rfl)) (by kernel_rfl) (by rfl) (wBin (wInt (wName (v := .int c) (by rfl) (by rfl) (by rw [put_lookup, if_pos rfl]) (oPow2 (Nat.le_trans (Nat.le_of_lt hc5) (by decide)) ?_)))))))
        refine oDiv (hE c hc5).1 (hE c hc5).2 (wInt (oMod (by decide) (tInt ?_)))
        rw [fdm]
        have e : ((((face / 2 ^ c % 2 : Nat) : Int) != 0) = bit face c) := by
          unfold bit
          cases h2 : face / 2 ^ c % 2 with
          | zero => rfl
          | succ j => rfl
        rw [e]
        cases hbit : bit face c with
        | true =>
          rw [if_pos rfl]
          refine wName (v := .int c) (by rfl) (by rfl) (by rw [put_lookup, if_pos rfl]) ⟨_, rfl, ?_⟩
          show (if bit face c = true then _ else _) = _
          rw [if_pos hbit]
        | false =>
          rw [if_neg (by decide)]
          refine ⟨_, rfl, ?_⟩
          show (if bit face c = true then _ else _) = _
          rw [if_neg (by rw [hbit]; decide)]
      have eC : ((List.range (Int.toNat 5)).map fun (c : Nat) => AV.int c).filterMap (fun it => match it with | .int c => if bit face c.toNat = true then some (.int c) else none | _ => none) = (cornersOf face).map fun (c : Nat) => AV.int c :=
        filterMap_mapIf (e := fun (c : Nat) => AV.int c) (c := fun c => bit face c) (g := fun (c : Nat) => AV.int c) _ fun p _ => rfl
      rw [eC]
      refine nLoc (by rfl) (by rfl) ?_
      -- size
      have hco5 : ∀ c ∈ cornersOf face, c < 5 := fun c hc => by
        have := (List.mem_filter.mp hc).1
        simpa using this
      have hlen : 1 ≤ (cornersOf face).length ∧ (cornersOf face).length ≤ 5 := by
        have : ∀ k : Fin 32, 0 < k.val → 1 ≤ (cornersOf k.val).length ∧ (cornersOf k.val).length ≤ 5 := by decide +kernel
        exact this ⟨face, hf32⟩ hf0
      have eK : ∀ x : Str, (x == Str.ofString "corners") = false → (put (Str.ofString "corners") (.lst ((cornersOf face).map fun (c : Nat) => AV.int c)) vars).lookup x = vars.lookup x := fun x hx => by
        rw [put_lookup, if_neg (by intro q; subst q; simp at hx)]
      refine sCons (sAsg (wCallN (wBoot (by rfl) (by rw [hK]; rfl) rfl ⟨_, rfl, cBuiltin, arg (wName (v := .lst ((cornersOf face).map fun (c : Nat) => AV.int c)) (by rfl) (by rfl) (by rw [put_lookup, if_pos rfl]) (arg0 (kw0 ?_)))⟩) (by rfl) (by rfl)) (by rfl))
      refine kLenL (.inl rfl) (slm _ (Nat.le_trans hlen.2 (by decide))) ?_
      rw [List.length_map]
      refine nLoc (by rfl) (by rfl) ?_
      obtain ⟨size, hsize⟩ : ∃ size, size = (cornersOf face).length := ⟨_, rfl⟩
      rw [← hsize] at hlen ⊢
      obtain ⟨vars2, hv2⟩ : ∃ v, v = put (Str.ofString "size") (.int (size : Int)) (put (Str.ofString "corners") (.lst ((cornersOf face).map fun (c : Nat) => AV.int c)) vars) := ⟨_, rfl⟩
      have v2s : vars2.lookup (Str.ofString "sides") = some (.lst (sides.map .int)) := by
        rw [hv2, put_lookup, if_neg (by decide +kernel), put_lookup, if_neg (by decide +kernel)]; exact h1
      have v2z : vars2.lookup (Str.ofString "size") = some (.int (size : Int)) := by rw [hv2, put_lookup, if_pos rfl]
      have v2c : vars2.lookup (Str.ofString "corners") = some (.lst ((cornersOf face).map fun (c : Nat) => AV.int c)) := by
        rw [hv2, put_lookup, if_neg (by decide +kernel), put_lookup, if_pos rfl]
      show WpSs X (n + 2) _ [.ns (put (Str.ofString "size") (.int (size : Int)) (put (Str.ofString "corners") (.lst ((cornersOf face).map fun (c : Nat) => AV.int c)) vars)), .cell (some (.obj 4)), .cell (some (.obj 12)), .cell (some (.int face)), .lst (cs.map .int), .lst (r0.map .int), .lst (r1.map .int), .lst (r2.map .int), .lst (r3.map .int), .lst (r4.map .int), .lst (r5.map .int), .lst (r6.map .int), .lst [.obj 5, .obj 6, .obj 7, .obj 8, .obj 9, .obj 10, .obj 11]] _ _
      rw [← hv2]
      -- counts
      have hsc : size < cs.length := by omega
      have hsH : (size : Int) < 2 ^ 63 := nhi (Nat.lt_of_le_of_lt hlen.2 (by decide))
      have hgc : (cs.map AV.int)[size]? = some (.int (cs.getD size 0)) := by
        rw [List.getElem?_map, List.getElem?_eq_getElem hsc, List.getD_eq_getElem?_getD, List.getElem?_eq_getElem hsc]; rfl
      refine sCons (sAugSub (wCell (i := 1) (v := .obj 4) (.inl (by rfl)) (by rfl) (by rfl) (wName (v := .int (size : Int)) (by rfl) (by rfl) v2z (xObj (k := 4) (xs := cs.map .int) (by rfl) (six (by rw [List.length_map]; exact hsc)) hgc ?_))))
      refine wInt (iAdd ?_)
      refine setL (j := size) (by rfl) rfl (by rw [List.length_map]; exact hsc) (slm _ (by rw [hc7]; decide)) ?_
      have hcs : (cs.map AV.int).set size (.int (cs.getD size 0 + 1)) = (cs.set size (cs.getD size 0 + 1)).map AV.int := by rw [List.map_set]
      rw [hcs]
      obtain ⟨cs2, hcs2⟩ : ∃ c, c = cs.set size (cs.getD size 0 + 1) := ⟨_, rfl⟩
      rw [← hcs2]
      have hc27 : cs2.length = 7 := by rw [hcs2, List.length_set]; exact hc7
      show WpSs X (n + 2) _ [.ns vars2, .cell (some (.obj 4)), .cell (some (.obj 12)), .cell (some (.int face)), .lst (cs2.map .int), .lst (r0.map .int), .lst (r1.map .int), .lst (r2.map .int), .lst (r3.map .int), .lst (r4.map .int), .lst (r5.map .int), .lst (r6.map .int), .lst [.obj 5, .obj 6, .obj 7, .obj 8, .obj 9, .obj 10, .obj 11]] _ _
      have hBt : ∀ r ∈ [r0, r1, r2, r3, r4, r5, r6], r.length + L.length ≤ 31 := fun r hr => Nat.le_of_succ_le (hB r hr)
      refine sCons (sIf (bCmp (wName (v := .int (size : Int)) (by rfl) (by rfl) v2z (wInt (oGtI (tBool ?_))))))
      by_cases hgt : 1 < size
      · rw [if_pos (show decide ((size : Int) > 1) = true from decide_eq_true (Int.ofNat_lt.mpr hgt))]
        have h2c : ∀ c ∈ cornersOf face, 2 ^ c ≤ face := fun c hc => by
          have h1 := hco5 c hc
          have h2 : bit face c = true := (List.mem_filter.mp hc).2
          have : ∀ (k : Fin 32) (c : Fin 5), bit k.val c.val = true → 2 ^ c.val ≤ k.val := by decide +kernel
          exact this ⟨face, hf32⟩ ⟨c, h1⟩ h2
        -- rim
        refine sCons (sAsg (wCallN (wBoot (by rfl) (by rw [hK]; rfl) rfl ⟨_, rfl, cBuiltin, arg ?_⟩) (by rfl) (by rfl)) (by rfl))
        refine wLC ⟨rfl, (fun g hg => by cases List.mem_singleton.mp hg; rfl), ?_, by decide +kernel⟩ (by intro _ _; rfl) (by rfl) ?_
        · intro y hy e
          simp at hy
          rcases hy with rfl | rfl | rfl
          · cases e
          · cases e
          · rfl
        refine iE (wName (v := .lst ((cornersOf face).map fun (c : Nat) => AV.int c)) (by rfl) (by rfl) v2c ⟨_, none, srcLst ?_, ?_⟩)
        · intro it hit; trivial
        refine ⟨fun it => match it with | .int c => some (.int ((2 : Int) ^ (face - 2 ^ c.toNat))) | _ => none, slm _ (by rw [← hsize]; exact Nat.le_trans hlen.2 (by decide)), ?_, ?_, ?_⟩
        · intro it hit v e
          obtain ⟨p, _, rfl⟩ := List.mem_map.mp hit
          cases e; trivial
        · intro it hit
          obtain ⟨c, hc, rfl⟩ := List.mem_map.mp hit
          refine turn0 fun xs vars3 => ?_
          refine aName (nLoc (by rfl) (by rfl) ?_)
          have hc5 := hco5 c hc
          have h2f := h2c c hc
          have hsub : (face : Int) - (2 : Int) ^ c = ((face - 2 ^ c : Nat) : Int) := by
            have : ((2 ^ c : Nat) : Int) = (2 : Int) ^ c := by simp
            rw [← this]; omega
          refine wBin (wInt (wBin (wCell (i := 3) (v := .int face) (.inl (by kernel_rfl)) (by kernel_rfl) (by rfl) (wBin (wInt (wName (v := .int c) (by rfl) (by rfl) (by rw [put_lookup, if_pos rfl]) (oPow2 (Nat.le_trans (Nat.le_of_lt hc5) (by decide)) (oSub ?_))))))))
          rw [hsub]
          exact oPow2 (Nat.le_trans (Nat.sub_le _ _) (Nat.le_trans (Nat.le_of_lt hf32) (by decide))) ⟨_, rfl, rfl⟩
        have eR : ((cornersOf face).map fun (c : Nat) => AV.int c).filterMap (fun it => match it with | .int c => some (.int ((2 : Int) ^ (face - 2 ^ c.toNat))) | _ => none) = ((cornersOf face).map fun c => (2 : Int) ^ (face - 2 ^ c)).map AV.int := by
          refine (filterMap_map (e := fun (c : Nat) => AV.int c) (g := fun c => AV.int ((2 : Int) ^ (face - 2 ^ c))) _ fun p _ => rfl).trans ?_
          rw [List.map_map]; rfl
        rw [eR]
        refine arg0 (kw0 (kSum (.inl rfl) ?_))
        have hrm : ((cornersOf face).map fun c => (2 : Int) ^ (face - 2 ^ c)).sum = rimOf face := rfl
        rw [hrm]
        refine nLoc (by rfl) (by rfl) ?_
        obtain ⟨vars3, hv3⟩ : ∃ v, v = put (Str.ofString "rim") (.int (rimOf face)) vars2 := ⟨_, rfl⟩
        have e3 : ∀ x : Str, (x == Str.ofString "rim") = false → vars3.lookup x = vars2.lookup x := fun x hx => by
          rw [hv3, put_lookup, if_neg (by intro q; subst q; simp at hx)]
        have v3s := (e3 _ (by decide +kernel)).trans v2s
        have v3z := (e3 _ (by decide +kernel)).trans v2z
        have v3r : vars3.lookup (Str.ofString "rim") = some (.int (rimOf face)) := by rw [hv3, put_lookup, if_pos rfl]
        show WpSs X (n + 2) _ (stE (put (Str.ofString "rim") (.int (rimOf face)) vars2) (some (.int face)) cs2 r0 r1 r2 r3 r4 r5 r6) _ _
        rw [← hv3]
        have eT : turnF sides ⟨cs, [r0, r1, r2, r3, r4, r5, r6]⟩ face = (if (reduce (rimOf face) ([r0, r1, r2, r3, r4, r5, r6].getD size []) != 0) = true then ⟨cs2, [r0, r1, r2, r3, r4, r5, r6].set size ([r0, r1, r2, r3, r4, r5, r6].getD size [] ++ [reduce (rimOf face) ([r0, r1, r2, r3, r4, r5, r6].getD size [])])⟩ else ⟨cs2, [r0, r1, r2, r3, r4, r5, r6]⟩) := by
          unfold turnF
          rw [if_pos hins]
          show (if 1 < (cornersOf face).length then _ else _) = _
          rw [← hsize, if_pos hgt, ← hcs2]
        rw [eT] at hF
        clear eT hv3 e3 v2s v2z v2c hv2 hcs hcs2 hgc eR eC eA hrm
        have hm : ∀ (r : List Int) (k : Int), r.map AV.int ++ [AV.int k] = (r ++ [k]).map AV.int := fun r k => by simp
        have hBs : ∀ (x : List Int), x.length + (L.length + 1) ≤ 31 → ∀ k, ∀ r ∈ [r0, r1, r2, r3, r4, r5, r6].set k (x ++ [reduce (rimOf face) x]), r.length + L.length ≤ 31 := fun x hx k r hr => by
          rcases List.mem_or_eq_of_mem_set hr with h | h
          · exact hBt r h
          · rw [h, List.length_append]; simp only [List.length_cons, List.length_nil]; omega
        have hcases := mid4 hlen.2 hgt
        obtain ⟨RS, hRS⟩ : ∃ l, l = [r0, r1, r2, r3, r4, r5, r6].getD size [] := ⟨_, rfl⟩
        obtain ⟨fB, fC, fD, fE, fF, fG⟩ := stE_facts (f := some (.int face)) (cs := cs2) hRS hcases
        rw [← hRS] at hF
        have hRB : RS.length + (L.length + 1) ≤ 31 := by
          have : RS ∈ [r0, r1, r2, r3, r4, r5, r6] := by
            rw [hRS]
            rcases hcases with rfl | rfl | rfl | rfl <;> simp
          exact hB RS this
        have hRsz : (RS.map AV.int).length ≤ sizeLine := slm _ (Nat.le_trans (Nat.le_trans (Nat.le_add_right _ _) hRB) (by decide))
        have hs7' : seqIndex? (size : Int) 7 = some size := six (Nat.lt_of_le_of_lt hlen.2 (by decide))
        refine sCons (sFor (iE (wSub (wCell (i := 2) (v := .obj 12) (.inl (by rfl)) (by rfl) (by rfl) (wName (v := .int (size : Int)) (by rfl) (by rfl) v3z (xObj (k := 12) (xs := [.obj 5, .obj 6, .obj 7, .obj 8, .obj 9, .obj 10, .obj 11]) (by rfl) hs7' fB ⟨RS.map .int, some (5 + size), srcObj (fC _) (fun it hit => by obtain ⟨p, _, rfl⟩ := List.mem_map.mp hit; trivial), ?_⟩))))))
        refine loopInv (InvI sides (fun v => (stE v (some (.int face)) cs2 r0 r1 r2 r3 r4 r5 r6).set (5 + size) .loan) size (reduce (rimOf face) RS)) ?_ ?_ _ _ ⟨vars3, rimOf face, RS, by rfl, rfl, v3s, v3z, v3r, rfl⟩
        · rintro S ⟨vars', r, ks, hS, hi, j1, j2, j3, hR⟩
          subst hS
          cases ks with
          | cons a b => simp at hi
          | nil =>
          have hR' : r = reduce (rimOf face) RS := hR
          rw [hR'] at j3
          rw [fF]
          show WpSs X (n + 2) _ (stE vars' (some (.int face)) cs2 r0 r1 r2 r3 r4 r5 r6) _ _
          refine sCons (sIf (bVal (wName (v := .int (reduce (rimOf face) RS)) (by rfl) (by rfl) j3 (tInt ?_))))
          cases hz : (reduce (rimOf face) RS != 0) with
          | false =>
            rw [hz, if_neg (by decide)] at hF
            rw [if_neg (by decide)]
            exact sNil (sNil (sNil (sNil ⟨vars', some (.int face), ⟨cs2, [r0, r1, r2, r3, r4, r5, r6]⟩, L, rfl, j1, rfl, hc27, rfl, hF, fun j hj => hb j (.tail _ hj), hBt⟩)))
          | true =>
            rw [hz, if_pos rfl] at hF
            rw [if_pos rfl]
            refine sCons (sExpr (wCallM (wSub (wCell (i := 2) (v := .obj 12) (.inl (by rfl)) (by rfl) (by rfl) (wName (v := .int (size : Int)) (by rfl) (by rfl) j2 (xObj (k := 12) (xs := [.obj 5, .obj 6, .obj 7, .obj 8, .obj 9, .obj 10, .obj 11]) (by rfl) hs7' fB (mAppend (xs := RS.map .int) (fC _) ⟨cBuiltin, arg ?_⟩)))))))
            refine wName (v := .int (reduce (rimOf face) RS)) (by rfl) (by rfl) j3 (arg0 (kw0 ?_))
            refine kAppend (xs := RS.map .int) (fC _) hRsz ?_
            rw [hm, fG]
            exact sNil (sNil (sNil (sNil ⟨vars', some (.int face), ⟨cs2, [r0, r1, r2, r3, r4, r5, r6].set size (RS ++ [reduce (rimOf face) RS])⟩, L, rfl, j1, by rw [List.length_set]; rfl, hc27, rfl, hF, fun j hj => hb j (.tail _ hj), hBs RS hRB size⟩)))
        · rintro it rr S ⟨vars', r, ks, hS, hi, j1, j2, j3, hR⟩
          subst hS
          cases ks with
          | nil => simp at hi
          | cons k ks =>
          cases hi
          refine aName (nLoc (by rfl) (fD _) ?_)
          rw [show (fEnv _ [].length).loc = 0 from rfl, fE]
          have e0 : ∀ x : Str, (x == Str.ofString "known") = false → (put (Str.ofString "known") (.int k) vars').lookup x = vars'.lookup x := fun x hx => by
            rw [put_lookup, if_neg (by intro q; subst q; simp at hx)]
          refine sCons (sAsg (wCallN (wBoot (by rfl) (by rw [hK]; rfl) rfl ⟨_, rfl, cBuiltin, arg (wName (v := .int r) (by rfl) (fD _) ((e0 _ (by decide +kernel)).trans j3) (arg ?_))⟩) (by rfl) (by rfl)) (by rfl))
          refine wBin (wName (v := .int r) (by rfl) (fD _) ((e0 _ (by decide +kernel)).trans j3) (wName (v := .int k) (by rfl) (fD _) (by rw [put_lookup, if_pos rfl]) (oXor (arg0 (kw0 (kMin ?_))))))
          refine nLoc (by rfl) (fD _) ?_
          rw [show (fEnv _ [].length).loc = 0 from rfl, fE]
          refine sNil ⟨_, (if Builtin.bitXor r k < r then Builtin.bitXor r k else r), ks, rfl, rfl, ?_, ?_, ?_, ?_⟩
          · rw [put_lookup, if_neg (by decide +kernel)]; exact (e0 _ (by decide +kernel)).trans j1
          · rw [put_lookup, if_neg (by decide +kernel)]; exact (e0 _ (by decide +kernel)).trans j2
          · rw [put_lookup, if_pos rfl]
          · exact hR
      · rw [if_neg (show ¬ decide ((size : Int) > 1) = true from fun q => hgt (Int.ofNat_lt.mp (of_decide_eq_true q)))]
        refine sNil (sNil (sNil ⟨vars2, some (.int face), ⟨cs2, [r0, r1, r2, r3, r4, r5, r6]⟩, L, rfl, v2s, rfl, hc27, rfl, ?_, fun j hj => hb j (.tail _ hj), hBt⟩))
        have e : turnF sides ⟨cs, [r0, r1, r2, r3, r4, r5, r6]⟩ face = ⟨cs2, [r0, r1, r2, r3, r4, r5, r6]⟩ := by
          unfold turnF
          rw [if_pos hins]
          show (if 1 < (cornersOf face).length then _ else _) = _
          rw [← hsize, if_neg hgt, ← hcs2]
        rw [← hF, e]
end
end Mine
set_option maxHeartbeats 4000000
namespace Mine
section
variable {X : Cx} {P : Params} {n : Nat} {ae : AEnv} {S : List AO} {K : AV → List AO → Prop} {KF : AF → List AO → Prop} {KU : Unit → List AO → Prop}

/-- small good rows -/
structure RwOk (rows : List (Str × Str)) : Prop where
  len : rows.length ≤ 16
  wid : ∀ p ∈ rows, p.1.length ≤ 100 ∧ p.2.length ≤ 100
  ok : ∀ p ∈ rows, okName p.1 ∧ okVal p.2

theorem lineOf_len (p : Str × Str) : (lineOf p).length = p.1.length + 2 + p.2.length := by
  unfold lineOf
  have e2 : (Str.ofString ": ").length = 2 := by decide +kernel
  simp only [Str.length_append, e2]
theorem RwOk.join {rows : List (Str × Str)} (h : RwOk rows) : JoinOk (Str.ofString "\r\n") (linesOf rows) = true := by
  refine joinOk_of ?_
  have e : (Str.ofString "\r\n").length = 2 := by decide +kernel
  have e3 : (Str.ofString "").length = 0 := by decide +kernel
  have : ∀ l : List (Str × Str), (∀ p ∈ l, p.1.length ≤ 100 ∧ p.2.length ≤ 100) → ((l.map lineOf).map (·.length)).sum ≤ l.length * 202 := by
    intro l
    induction l with
    | nil => simp
    | cons c l ih =>
      intro hw
      have h1 := ih fun p hp => hw p (.tail _ hp)
      have h2 := hw c (.head _)
      simp only [List.map_cons, List.sum_cons, List.length_cons, lineOf_len]
      omega
  have h1 := this rows h.wid
  have h2 := h.len
  unfold linesOf
  rw [List.map_append, List.sum_append]
  simp only [List.map_cons, List.map_nil, List.sum_cons, List.sum_nil, e, e3, List.length_append, List.length_map, List.length_cons, List.length_nil]
  omega

/-- str(Headers(le)) -/
theorem wPage (hK : X.K = hd.heap_39 P) (hC : X.C = 182) {le : Expr} {p1 p2 p3 p4 : Pos} {rows : List (Str × Str)} (hr : RwOk rows) (h1 : ae.scope.names.lookup (Str.ofString "str") = some .globalImplicit) (h2 : ae.scope.names.lookup (Str.ofString "Headers") = some .globalImplicit)
    (h : WpE X (n + 3) ae S le fun a S1 => ∃ i, a = .obj i ∧ S1[i]? = some (.lst (rows.map rowAV)) ∧ K (.str (pageOf rows)) S1) (hn : NoStar le = true := by rfl) :
    WpE X (n + 3) ae S (.Call (.Name (Str.ofString "str") p1) [.Call (.Name (Str.ofString "Headers") p2) [le] [] p3] [] p4) K := by
  have hrl : rows.length ≤ 65535 := by have := hr.len; omega
  refine wCallN (wBoot h1 (by rw [hK]; rfl) rfl ⟨_, rfl, cType, arg ?_⟩) (by rfl) (by rfl)
  refine wCallN (wGlob (v := .ref 182) (av := .val (.ref 182)) h2 (by rw [hK]; rfl) (fun _ _ _ => by simp) ⟨_, rfl, cFn (by rw [hK]; rfl), arg ?_⟩) (by simp [hn]) (by rfl)
  refine WpE.mono h fun a S1 ⟨i, ha, hS, hk⟩ => ?_
  subst ha
  refine arg0 (kw0 ?_)
  show WpC X (n + 3) S1 (.val (.ref 182)) [.obj i] [] _
  rw [← hC]
  refine kMake (rows := rows.map rowAV) (fI := 76) (by rw [hK, hC]; rfl) (by rw [hK, hC]; rfl) (by rw [hK]; rfl) hS (rows_und _ _) (init_contract hK hC hr.ok hrl) ?_
  refine arg0 (kw0 ?_)
  refine kStrH (f := 158) (y := pageOf rows) (by rw [hK, hC]; rfl) (by rw [hK]; rfl) hS (by intro q; cases q) (rows_und _ _) (str_contract hK hC hrl (fun p hp => ?_) hr.join ⟨rfl, rfl⟩) hk
  have := hr.wid p hp
  exact ⟨by omega, by omega⟩
end
end Mine
set_option maxHeartbeats 4000000
namespace Mine
section
variable {X : Cx} {P : Params} {n : Nat} {ae : AEnv} {S : List AO} {K : AV → List AO → Prop} {KF : AF → List AO → Prop} {KU : Unit → List AO → Prop}

noncomputable def rowAt (rows : List (Str × Str)) (k : Int) : Str × Str := rows.getD k.toNat (Str.ofString "", Str.ofString "")
noncomputable def lineSl (p : Str × Str) : Str := Txt.slice (pageOf [p]) none (some (-2))
noncomputable def pageFor (rows : List (Str × Str)) (w : List Int × List Int) : Str := pageOf (w.1.map (rowAt rows))
noncomputable def joinFor (rows : List (Str × Str)) (w : List Int × List Int) : Str := Txt.join dots (w.2.map fun k => lineSl (rowAt rows k))
noncomputable def wantFor (rows : List (Str × Str)) (w : List Int × List Int) : Str := dots ++ joinFor rows w ++ dots
noncomputable def nmT (i j : Nat) : Str := Txt.item (if j % 2 = 0 then Str.ofString "pqrst" else Str.ofString "PQRST") i
noncomputable def nmU (i j : Nat) : Str := Txt.item (if i % 2 = 0 then Str.ofString "uvwxy" else Str.ofString "UVWXY") j
noncomputable def ellT (rows : List (Str × Str)) (words : List (List Int × List Int)) (i j : Nat) : Bool := ellOf ((words.map (wantFor rows)).getD i (Str.ofString "")) ((words.map (pageFor rows)).getD j (Str.ofString ""))
abbrev Two := List (Str × Nat) × List (Str × Nat)
noncomputable def turnTb (el : Nat → Nat → Bool) (i : Nat) (acc : Two) (j : Nat) : Two := if el i j = true then (acc.1 ++ [(nmT i j, j)], acc.2 ++ [(nmU i j, i)]) else acc
noncomputable def rowTb (el : Nat → Nat → Bool) (acc : Two) (i : Nat) : Two := (List.range 5).foldl (turnTb el i) acc
noncomputable def tabTb (el : Nat → Nat → Bool) : Two := (List.range 5).foldl (rowTb el) ([], [])

structure TbOk (rows : List (Str × Str)) (words : List (List Int × List Int)) : Prop where
  len : rows.length = 3
  wid : ∀ p ∈ rows, p.1.length ≤ 100 ∧ p.2.length ≤ 100
  ok : ∀ p ∈ rows, okName p.1 ∧ okVal p.2
  wl : words.length = 5
  wp : ∀ w ∈ words, w.1.length ≤ 16 ∧ w.2.length ≤ 16
  w1 : ∀ w ∈ words, ∀ k ∈ w.1, 0 ≤ k ∧ k < 3
  w2 : ∀ w ∈ words, ∀ k ∈ w.2, 0 ≤ k ∧ k < 3
  jo : ∀ w ∈ words, JoinOk dots (w.2.map fun k => lineSl (rowAt rows k)) = true
  jl : ∀ w ∈ words, (joinFor rows w).length ≤ 60000
  el : ∀ w ∈ words, ElOk (wantFor rows w)
  nt : ∀ i j, i < 5 → j < 5 → okName (nmT i j)
  nu : ∀ i j, i < 5 → j < 5 → okName (nmU i j)
  num : ∀ k, k < 5 → okVal (numStr k) ∧ (numStr k).length ≤ 65535

theorem rowAt_mem {rows : List (Str × Str)} (h : rows.length = 3) {k : Int} (hk : 0 ≤ k ∧ k < 3) : rowAt rows k ∈ rows ∧ (rows.map rowAV)[k.toNat]? = some (rowAV (rowAt rows k)) := by
  have hn : k.toNat < rows.length := by omega
  have e : rowAt rows k = rows[k.toNat] := by
    unfold rowAt
    rw [List.getD_eq_getElem?_getD, List.getElem?_eq_getElem hn]; rfl
  rw [e]
  exact ⟨List.getElem_mem hn, by rw [List.getElem?_map, List.getElem?_eq_getElem hn]; rfl⟩
theorem TbOk.rw {rows : List (Str × Str)} {words : List (List Int × List Int)} (h : TbOk rows words) {w : List Int × List Int} (hw : w ∈ words) : RwOk (w.1.map (rowAt rows)) where
  len := by rw [List.length_map]; exact (h.wp w hw).1
  wid := fun p hp => by
    obtain ⟨k, hk, rfl⟩ := List.mem_map.mp hp
    exact h.wid _ (rowAt_mem h.len (h.w1 w hw k hk)).1
  ok := fun p hp => by
    obtain ⟨k, hk, rfl⟩ := List.mem_map.mp hp
    exact h.ok _ (rowAt_mem h.len (h.w1 w hw k hk)).1
theorem TbOk.rw1 {rows : List (Str × Str)} {words : List (List Int × List Int)} (h : TbOk rows words) {p : Str × Str} (hp : p ∈ rows) : RwOk [p] where
  len := by simp
  wid := fun q hq => by rw [List.mem_singleton.mp hq]; exact h.wid p hp
  ok := fun q hq => by rw [List.mem_singleton.mp hq]; exact h.ok p hp

noncomputable def intsOf (l : List AV) : List Int := l.map fun x => match x with | .int k => k | _ => 0
theorem intsOf_map (l : List Int) : intsOf (l.map AV.int) = l := by
  unfold intsOf
  rw [List.map_map]
  exact List.map_id l

noncomputable def stT (rows : List (Str × Str)) (vars : List (Str × AV)) (acc : Two) : List AO := [.ns vars, .cell (some (.lst (rows.map rowAV))), .cell (some (.lst ((rows.map lineSl).map .str))), .lst ((acc.1.map numRow).map rowAV), .lst ((acc.2.map numRow).map rowAV)]
theorem getD_strs {l : List Str} {i : Nat} (hi : i < l.length) : (l.map AV.str)[i]? = some (.str (l.getD i (Str.ofString ""))) := by
  rw [List.getElem?_map, List.getElem?_eq_getElem hi, List.getD_eq_getElem?_getD, List.getElem?_eq_getElem hi]; rfl
theorem fmod2 (j : Nat) : ((j : Int).fmod 2) = ((j % 2 : Nat) : Int) := by
  rw [Int.fmod_eq_emod_of_nonneg _ (by decide)]; rfl
theorem two_at (a b : Str) (j : Nat) : [AV.str a, AV.str b][j % 2]? = some (.str (if j % 2 = 0 then a else b)) := by
  rcases Nat.mod_two_eq_zero_or_one j with h | h <;> rw [h] <;> rfl
theorem log_small {k : Nat} (hk : k < 5) : ((k : Int)).natAbs.log2 < 1920 := by
  by_cases hz : k = 0
  · subst hz; decide
  · exact (Nat.log2_lt (by simpa using hz)).mpr (by
      have : (5 : Nat) ≤ 2 ^ 1920 := by decide +kernel
      simp only [Int.natAbs_natCast]; omega)

inductive InvT (rows : List (Str × Str)) (words : List (List Int × List Int)) (el : Nat → Nat → Bool) (items : List AV) (S : List AO) : Prop
  | mk (vars : List (Str × AV)) (acc : Two) (L : List Nat) (hS : S = stT rows vars acc) (h1 : vars.lookup (Str.ofString "takers") = some (.hdr 3)) (h2 : vars.lookup (Str.ofString "taken") = some (.hdr 4)) (h3 : vars.lookup (Str.ofString "pages") = some (.lst ((words.map (pageFor rows)).map .str))) (h4 : vars.lookup (Str.ofString "wants") = some (.lst ((words.map (wantFor rows)).map .str)))
      (hi : items = L.map (fun (i : Nat) => AV.int i)) (hF : L.foldl (rowTb el) acc = tabTb el) (hb1 : acc.1.length + 5 * L.length ≤ 25) (hb2 : acc.2.length + 5 * L.length ≤ 25) (hb : ∀ i ∈ L, i < 5) : InvT rows words el items S
inductive InvJ (rows : List (Str × Str)) (words : List (List Int × List Int)) (el : Nat → Nat → Bool) (i : Nat) (goal : Two) (l : Nat) (items : List AV) (S : List AO) : Prop
  | mk (vars : List (Str × AV)) (ac : Two) (J : List Nat) (hS : S = stT rows vars ac) (h1 : vars.lookup (Str.ofString "takers") = some (.hdr 3)) (h2 : vars.lookup (Str.ofString "taken") = some (.hdr 4)) (h3 : vars.lookup (Str.ofString "pages") = some (.lst ((words.map (pageFor rows)).map .str))) (h4 : vars.lookup (Str.ofString "wants") = some (.lst ((words.map (wantFor rows)).map .str)))
      (h5 : vars.lookup (Str.ofString "i") = some (.int (i : Int))) (hj : items = J.map (fun (j : Nat) => AV.int j)) (hG : J.foldl (turnTb el i) ac = goal) (hc1 : ac.1.length + (J.length + 5 * l) ≤ 25) (hc2 : ac.2.length + (J.length + 5 * l) ≤ 25) (hc : ∀ j ∈ J, j < 5) : InvJ rows words el i goal l items S
theorem tables_contract (hK : X.K = hd.heap_39 P) (hC : X.C = 182) {rows : List (Str × Str)} {words : List (List Int × List Int)} (hp : TbOk rows words)
    (h : K (.tup [.hdr 0, .hdr 1]) [.lst (((tabTb (ellT rows words)).1.map numRow).map rowAV), .lst (((tabTb (ellT rows words)).2.map numRow).map rowAV)]) :
    CdC X (n + 6) [] 238 [.lst (words.map wordAV), .lst (rows.map rowAV)] [] K := by
  have hwd : (words.map wordAV).length ≤ sizeLine := by rw [List.length_map, sizeLine_eq, hp.wl]; decide
  refine fnG (by rw [hK]; rfl) (by rw [hK]; rfl) (bindTo (bs := [(Str.ofString "words", .lst (words.map wordAV)), (Str.ofString "rows", .lst (rows.map rowAV))]) (fun s ρ T vs ks hin hv hks => ?_) ?_)
  · obtain ⟨v1, v2, rfl, h1, h2⟩ := hv.two_inv
    cases hks.nil_inv
    exact ⟨[(Str.ofString "words", v1), (Str.ofString "rows", v2)], .of_eq rfl, ⟨_, _, rfl, h1, _, _, rfl, h2, rfl⟩⟩
  · refine nLoc (by rfl) (by rfl) ?_
    refine nCell (i := 1) (v0 := none) (by rfl) (by rfl) (by rfl) ?_
    -- lines
    refine sCons (sAsg (wLC (compIs0 rfl rfl (by decide +kernel) (by decide +kernel)) (by intro _ _; rfl) (by rfl) ?_) (by rfl))
    refine iE (wCell (i := 1) (v := .lst (rows.map rowAV)) (.inl (by rfl)) (by rfl) (by rfl) ⟨_, none, srcLst ?_, ?_⟩)
    · intro it hit; trivial
    refine ⟨fun it => match it with | .tup [.str a, .str b] => some (.str (lineSl (a, b))) | _ => none, by rw [sizeLine_eq, List.length_map, hp.len]; decide, ?_, ?_, ?_⟩
    · intro it hit v e
      obtain ⟨p, _, rfl⟩ := List.mem_map.mp hit
      cases e; trivial
    · intro it hit
      obtain ⟨p, hp1, rfl⟩ := List.mem_map.mp hit
      refine turn0 fun xs vars => ?_
      refine aName (nLoc (by rfl) (by rfl) ?_)
      refine wDrop (wSlice (wPage (n := n + 2) hK hC (rows := [p]) (hp.rw1 hp1) (by kernel_rfl) (by kernel_rfl) ?_))
      refine wLstT ?_
      refine arg (wName (v := rowAV p) (by rfl) (by rfl) (by rw [put_lookup, if_pos rfl]) (arg0 ⟨by rw [sizeLine_eq]; simp, _, rfl, by rfl, ?_⟩))
      refine pNone (pSome (wOp1 (wInt (uNeg ⟨_, rfl, slStr ?_⟩))))
      refine leaveU (y := .str (lineSl p)) (fun i ao e => app_at i ao e) fzStr ⟨_, rfl, rfl⟩
    have eL : (rows.map rowAV).filterMap (fun it => match it with | .tup [.str a, .str b] => some (.str (lineSl (a, b))) | _ => none) = (rows.map lineSl).map AV.str := by
      refine (filterMap_rows (g := fun p => AV.str (lineSl p)) _ fun p _ => rfl).trans ?_
      rw [List.map_map]; rfl
    rw [eL]
    refine nCell (i := 2) (v0 := none) (by rfl) (by rfl) (by rfl) ?_
    -- pages
    refine sCons (sLC ⟨rfl, (fun g hg => by cases List.mem_singleton.mp hg; rfl), ?_, by decide +kernel⟩ (by intro _ _; rfl) (by rfl) (by rfl) ?_)
    · intro y hy e
      simp at hy
      rcases hy with rfl | rfl | rfl | rfl | rfl | rfl
      · cases e
      · cases e
      · cases e
      · cases e
      · cases e
      · rfl
    refine iE (wName (v := .lst (words.map wordAV)) (by rfl) (by rfl) (by kernel_rfl) ⟨_, none, srcLst ?_, ?_⟩)
    · intro it hit
      obtain ⟨p, _, rfl⟩ := List.mem_map.mp hit
      exact ⟨_, rfl⟩
    refine ⟨fun it => match it with | .tup [.lst a, _] => some (.str (pageFor rows (intsOf a, []))) | _ => none, hwd, ?_, ?_, ?_⟩
    · intro it hit v e
      obtain ⟨p, _, rfl⟩ := List.mem_map.mp hit
      cases e; trivial
    · intro it hit
      obtain ⟨w, hw, rfl⟩ := List.mem_map.mp hit
      refine turn0 fun xs vars => ?_
      refine aTup rfl rfl ⟨trivial, aName (nLoc (by rfl) (by rfl) ⟨trivial, aName (nLoc (by rfl) (by rfl) ?_)⟩)⟩
      refine wDrop (wPage (n := n + 2) hK hC (rows := w.1.map (rowAt rows)) (hp.rw hw) (by kernel_rfl) (by kernel_rfl) ?_)
      refine wLCT ⟨rfl, (fun g hg => by cases List.mem_singleton.mp hg; rfl), ?_, by decide +kernel⟩ (by intro _ _; rfl) (by rfl) ?_
      · intro y hy e
        simp at hy
        rcases hy with rfl | rfl | rfl
        · cases e
        · cases e
        · rfl
      refine iE (wName (v := .lst (w.1.map .int)) (by rfl) (by rfl) (by rw [put_lookup, if_neg (by decide +kernel), put_lookup, if_pos rfl]) ⟨_, none, srcLst ?_, ?_⟩)
      · intro it hit; trivial
      refine ⟨fun it => match it with | .int k => some (rowAV (rowAt rows k)) | _ => none, slm _ (Nat.le_trans (hp.wp w hw).1 (by decide)), ?_, ?_, ?_⟩
      · intro it hit v e
        obtain ⟨p, _, rfl⟩ := List.mem_map.mp hit
        cases e; exact ⟨trivial, trivial, trivial⟩
      · intro it hit
        obtain ⟨k, hk, rfl⟩ := List.mem_map.mp hit
        have hk3 := hp.w1 w hw k hk
        have hg := (rowAt_mem hp.len hk3).2
        refine turn0 fun xs2 vars2 => ?_
        refine aName (nLoc (by rfl) (by rfl) ?_)
        refine wSub (wCell (i := 1) (v := .lst (rows.map rowAV)) (by first | exact .inl (by rfl) | exact .inr (by kernel_rfl) | exact .inl (by kernel_rfl)) (by first | rfl | kernel_rfl) (by rfl) (wName (v := .int k) (by rfl) (by rfl) (by rw [put_lookup, if_pos rfl]) (xLst (j := k.toNat) ?_ hg ⟨_, rfl, rfl⟩)))
        rw [List.length_map, hp.len]
        exact seqIndex_of hk3.1 hk3.2
      rw [filterMap_ints (g := fun k => rowAV (rowAt rows k)) _ fun k _ => rfl]
      have e1 : (w.1.map fun k => rowAV (rowAt rows k)) = (w.1.map (rowAt rows)).map rowAV := by rw [List.map_map]; rfl
      rw [e1]
      refine ⟨_, rfl, at_end, ?_⟩
      refine leaveU (y := .str (pageFor rows w)) (fun i ao e => app_at i ao e) fzStr ⟨_, rfl, ?_⟩
      simp only [wordAV, intsOf_map]; rfl
    have eP : (words.map wordAV).filterMap (fun it => match it with | .tup [.lst a, _] => some (.str (pageFor rows (intsOf a, []))) | _ => none) = (words.map (pageFor rows)).map AV.str := by
      refine (filterMap_map (e := wordAV) (g := fun w => AV.str (pageFor rows w)) _ fun q _ => ?_).trans ?_
      · simp only [wordAV, intsOf_map]; rfl
      · rw [List.map_map]; rfl
    rw [eP]
    refine nLoc (by rfl) (by rfl) ?_
    -- wants
    refine sCons (sLC ⟨rfl, (fun g hg => by cases List.mem_singleton.mp hg; rfl), ?_, by decide +kernel⟩ (by intro _ _; rfl) (by rfl) (by rfl) ?_)
    · intro y hy e
      simp at hy
      rcases hy with rfl | rfl | rfl | rfl
      · cases e
      · cases e
      · cases e
      · rfl
    refine iE (wName (v := .lst (words.map wordAV)) (by rfl) (by rfl) (by kernel_rfl) ⟨_, none, srcLst ?_, ?_⟩)
    · intro it hit
      obtain ⟨p, _, rfl⟩ := List.mem_map.mp hit
      exact ⟨_, rfl⟩
    refine ⟨fun it => match it with | .tup [_, .lst a] => some (.str (wantFor rows ([], intsOf a))) | _ => none, hwd, ?_, ?_, ?_⟩
    · intro it hit v e
      obtain ⟨p, _, rfl⟩ := List.mem_map.mp hit
      cases e; trivial
    · intro it hit
      obtain ⟨w, hw, rfl⟩ := List.mem_map.mp hit
      refine turn0 fun xs vars => ?_
      refine aTup rfl rfl ⟨trivial, aName (nLoc (by rfl) (by rfl) ⟨trivial, aName (nLoc (by rfl) (by rfl) ?_)⟩)⟩
      refine wBin (wBin (wStr (wCallM (wStr (mStr F.slot_str_join F.type_str_join ⟨cBuiltin, arg ?_⟩)) (by intro _; rfl))))
      refine wLC ⟨rfl, (fun g hg => by cases List.mem_singleton.mp hg; rfl), ?_, by decide +kernel⟩ (by intro _ _; rfl) (by rfl) ?_
      · intro y hy e
        simp at hy
        rcases hy with rfl | rfl | rfl
        · cases e
        · cases e
        · rfl
      refine iE (wName (v := .lst (w.2.map .int)) (by rfl) (by rfl) (by rw [put_lookup, if_pos rfl]) ⟨_, none, srcLst ?_, ?_⟩)
      · intro it hit; trivial
      refine ⟨fun it => match it with | .int k => some (.str (lineSl (rowAt rows k))) | _ => none, slm _ (Nat.le_trans (hp.wp w hw).2 (by decide)), ?_, ?_, ?_⟩
      · intro it hit v e
        obtain ⟨p, _, rfl⟩ := List.mem_map.mp hit
        cases e; trivial
      · intro it hit
        obtain ⟨k, hk, rfl⟩ := List.mem_map.mp hit
        have hk3 := hp.w2 w hw k hk
        have hn : k.toNat < rows.length := by rw [hp.len]; omega
        have hg : ((rows.map lineSl).map AV.str)[k.toNat]? = some (.str (lineSl (rowAt rows k))) := by
          have e : rowAt rows k = rows[k.toNat] := by
            unfold rowAt
            rw [List.getD_eq_getElem?_getD, List.getElem?_eq_getElem hn]; rfl
          rw [e, List.getElem?_map, List.getElem?_map, List.getElem?_eq_getElem hn]; rfl
        refine turn0 fun xs2 vars2 => ?_
        refine aName (nLoc (by rfl) (by rfl) ?_)
        refine wSub (wCell (i := 2) (v := .lst ((rows.map lineSl).map .str)) (by first | exact .inl (by rfl) | exact .inr (by kernel_rfl) | exact .inl (by kernel_rfl)) (by first | rfl | kernel_rfl) (by rfl) (wName (v := .int k) (by rfl) (by rfl) (by rw [put_lookup, if_pos rfl]) (xLst (j := k.toNat) ?_ hg ⟨_, rfl, rfl⟩)))
        rw [List.length_map, List.length_map, hp.len]
        exact seqIndex_of hk3.1 hk3.2
      rw [filterMap_ints (g := fun k => .str (lineSl (rowAt rows k))) _ fun k _ => rfl]
      have e1 : (w.2.map fun k => AV.str (lineSl (rowAt rows k))) = (w.2.map fun k => lineSl (rowAt rows k)).map AV.str := by rw [List.map_map]; rfl
      rw [e1]
      have hd3 : dots.length = 3 := by decide +kernel
      have hjl := hp.jl w hw
      refine arg0 (kw0 (kJoin (.inl rfl) (hp.jo w hw) (oAddS ?_ (wStr (oAddS ?_ ⟨_, rfl, ?_⟩)))))
      · show dots.length + (joinFor rows w).length ≤ _
        rw [sizeLine_eq, hd3]; omega
      · show (dots ++ joinFor rows w).length + dots.length ≤ _
        rw [sizeLine_eq, Str.length_append, hd3]; omega
      · simp only [wordAV, intsOf_map]; rfl
    have eW : (words.map wordAV).filterMap (fun it => match it with | .tup [_, .lst a] => some (.str (wantFor rows ([], intsOf a))) | _ => none) = (words.map (wantFor rows)).map AV.str := by
      refine (filterMap_map (e := wordAV) (g := fun w => AV.str (wantFor rows w)) _ fun q _ => ?_).trans ?_
      · simp only [wordAV, intsOf_map]; rfl
      · rw [List.map_map]; rfl
    rw [eW]
    refine nLoc (by rfl) (by rfl) ?_
    -- takers, taken
    refine sCons (sAsgTs (names := [Str.ofString "takers", Str.ofString "taken"]) (by rfl) (wTup (arg ?_)))
    refine wCallN (wGlob (v := .ref 182) (av := .val (.ref 182)) (by rfl) (by rw [hK]; rfl) (fun _ _ _ => by simp) ⟨_, rfl, cFn (by rw [hK]; rfl), arg ?_⟩) (by rfl) (by rfl)
    refine wLstT (arg0 ⟨by rw [sizeLine_eq]; decide, arg0 (kw0 ?_)⟩)
    show WpC X (n + 5) _ (.val (.ref 182)) _ _ _
    rw [← hC]
    refine kMake (rows := []) (fI := 76) (by rw [hK, hC]; rfl) (by rw [hK, hC]; rfl) (by rw [hK]; rfl) (by rfl) trivial (init_contract (rows := []) hK hC (by simp) (by decide)) (arg ?_)
    refine wCallN (wGlob (v := .ref 182) (av := .val (.ref 182)) (by rfl) (by rw [hK]; rfl) (fun _ _ _ => by simp) ⟨_, rfl, cFn (by rw [hK]; rfl), arg ?_⟩) (by rfl) (by rfl)
    refine wLstT (arg0 ⟨by rw [sizeLine_eq]; decide, arg0 (kw0 ?_)⟩)
    show WpC X (n + 5) _ (.val (.ref 182)) _ _ _
    rw [← hC]
    refine kMake (rows := []) (fI := 76) (by rw [hK, hC]; rfl) (by rw [hK, hC]; rfl) (by rw [hK]; rfl) (by rfl) trivial (init_contract (rows := []) hK hC (by simp) (by decide)) (arg0 ⟨by rw [sizeLine_eq]; simp, _, rfl, rfl, ?_⟩)
    unfold WpNs
    refine nLoc (by rfl) (by rfl) ?_
    unfold WpNs
    refine nLoc (by rfl) (by rfl) ?_
    unfold WpNs
    obtain ⟨el, hel⟩ : ∃ el, el = ellT rows words := ⟨_, rfl⟩
    rw [← hel] at h
    refine sCons (sFor (iCallN (wBoot (by rfl) (by rw [hK]; rfl) rfl ⟨_, rfl, cType, arg (wInt (arg0 ?_))⟩)))
    refine rRange1 (by decide) (by decide) ?_
    refine loopInv (InvT rows words el) ?_ ?_ _ _
      ⟨_, ([], []), List.range 5, by rfl, by kernel_rfl, by kernel_rfl, by kernel_rfl, by kernel_rfl, rfl, rfl, by decide, by decide, fun i hi => by simpa using hi⟩
    · rintro S ⟨vars, acc, L, hS, h1, h2, h3, h4, hi, hF, hb1, hb2, hb⟩
      subst hS
      cases L with
      | cons a b => simp at hi
      | nil =>
      have hF : acc = tabTb el := hF
      subst hF
      refine sCons (sRet (wTup (arg (wName (v := .hdr 3) (by rfl) (by rfl) h1 (arg (wName (v := .hdr 4) (by rfl) (by rfl) h2 (arg0 ⟨by rw [sizeLine_eq]; simp, ?_⟩)))))))
      refine ⟨[], [3, 4], [.lst (((tabTb el).1.map numRow).map rowAV), .lst (((tabTb el).2.map numRow).map rowAV)], .tup [.hdr 0, .hdr 1], rfl, by simp, rfl, fun p k e => ?_, by simp, ?_, h⟩
      · match p with
        | 0 => simp at e; subst e; exact ⟨by decide, _, rfl, rfl, rows_und _ _⟩
        | 1 => simp at e; subst e; exact ⟨by decide, _, rfl, rfl, rows_und _ _⟩
        | p + 2 => simp at e
      · show Fz _ _ _ (.tup [.hdr 3, .hdr 4]) _
        simp only [Fz]
        refine ⟨_, rfl, ?_⟩
        simp only [Fzs]
        exact ⟨_, _, rfl, fzHdr (p := 0) rfl, _, _, rfl, fzHdr (p := 1) rfl, rfl⟩
    · rintro it r S ⟨vars, acc, L, hS, h1, h2, h3, h4, hi, hF, hb1, hb2, hb⟩
      subst hS
      cases L with
      | nil => simp at hi
      | cons i L =>
      cases hi
      have hi5 : i < 5 := hb i (.head _)
      have hiH : (i : Int) < 2 ^ 63 := nhi (Nat.lt_trans hi5 (by decide))
      have e0 : ∀ x : Str, (x == Str.ofString "i") = false → (put (Str.ofString "i") (.int (i : Int)) vars).lookup x = vars.lookup x := fun x hx => by
        rw [put_lookup, if_neg (by intro q; subst q; simp at hx)]
      refine aName (nLoc (by rfl) (by rfl) ?_)
      simp only [List.length_cons] at hb1 hb2
      rw [List.foldl_cons] at hF
      refine sCons (sFor (iCallN (wBoot (by rfl) (by rw [hK]; rfl) rfl ⟨_, rfl, cType, arg (wInt (arg0 ?_))⟩)))
      refine rRange1 (by decide) (by decide) ?_
      refine loopInv (InvJ rows words el i (rowTb el acc i) L.length) ?_ ?_ _ _
        ⟨_, acc, List.range 5, by rfl, (e0 _ (by decide +kernel)).trans h1, (e0 _ (by decide +kernel)).trans h2, (e0 _ (by decide +kernel)).trans h3, (e0 _ (by decide +kernel)).trans h4, by rw [put_lookup, if_pos rfl], rfl, rfl, by simp only [List.length_range]; omega, by simp only [List.length_range]; omega, fun i hi => by simpa using hi⟩
      · rintro S ⟨vars2, ac, J, hS, j1, j2, j3, j4, j5, hj, hG, hc1, hc2, hc⟩
        subst hS
        cases J with
        | cons a b => simp at hj
        | nil =>
        have hG : ac = rowTb el acc i := hG
        subst hG
        simp only [List.length_nil] at hc1 hc2
        exact sNil ⟨vars2, _, L, rfl, j1, j2, j3, j4, rfl, hF, by omega, by omega, fun k hk => hb k (.tail _ hk)⟩
      · rintro it2 r2 S ⟨vars2, ac, J, hS, j1, j2, j3, j4, j5, hj, hG, hc1, hc2, hc⟩
        subst hS
        cases J with
        | nil => simp at hj
        | cons j J =>
        cases hj
        have hj5 : j < 5 := hc j (.head _)
        have hjH : (j : Int) < 2 ^ 63 := nhi (Nat.lt_trans hj5 (by decide))
        rw [List.foldl_cons] at hG
        simp only [List.length_cons] at hc1 hc2
        have e1 : ∀ x : Str, (x == Str.ofString "j") = false → (put (Str.ofString "j") (.int (j : Int)) vars2).lookup x = vars2.lookup x := fun x hx => by
          rw [put_lookup, if_neg (by intro q; subst q; simp at hx)]
        have k1 := (e1 _ (by decide +kernel)).trans j1
        have k2 := (e1 _ (by decide +kernel)).trans j2
        have k3 := (e1 _ (by decide +kernel)).trans j3
        have k4 := (e1 _ (by decide +kernel)).trans j4
        have k5 := (e1 _ (by decide +kernel)).trans j5
        have k6 : (put (Str.ofString "j") (.int (j : Int)) vars2).lookup (Str.ofString "j") = some (.int (j : Int)) := by rw [put_lookup, if_pos rfl]
        refine aName (nLoc (by rfl) (by rfl) ?_)
        show WpSs X (n + 5) _ (stT rows (put (Str.ofString "j") (.int (j : Int)) vars2) ac) _ _
        obtain ⟨vars3, hv3⟩ : ∃ v, v = put (Str.ofString "j") (.int (j : Int)) vars2 := ⟨_, rfl⟩
        rw [← hv3] at k1 k2 k3 k4 k5 k6 ⊢
        clear hv3 e1 j1 j2 j3 j4 j5 e0 h1 h2 h3 h4
        have hwi : i < (words.map (wantFor rows)).length := by rw [List.length_map, hp.wl]; exact hi5
        have hwj : j < (words.map (pageFor rows)).length := by rw [List.length_map, hp.wl]; exact hj5
        refine sCons (sIf (bVal (wCallN (wGlob (v := .ref 193) (av := .val (.ref 193)) (by rfl) (by rw [hK]; rfl) (fun _ _ _ => by simp) ⟨_, rfl, cFn (by rw [hK]; rfl), arg ?_⟩) (by rfl) (by rfl))))
        refine wSub (wName (v := .lst ((words.map (wantFor rows)).map .str)) (by rfl) (by rfl) k4 (wName (v := .int (i : Int)) (by rfl) (by rfl) k5 (xLst (j := i) (six (by rw [List.length_map]; exact hwi)) (getD_strs hwi) (arg ?_) (nat_lo _) hiH)))
        refine wSub (wName (v := .lst ((words.map (pageFor rows)).map .str)) (by rfl) (by rfl) k3 (wName (v := .int (j : Int)) (by rfl) (by rfl) k6 (xLst (j := j) (six (by rw [List.length_map]; exact hwj)) (getD_strs hwj) (arg0 (kw0 ?_)) (nat_lo _) hjH)))
        refine frmV (y := .bool (el i j)) (by repeat' (first | exact trivial | refine ⟨trivial, ?_⟩)) trivial (fun K0 h0 => (ellipsis_contract hK (fun _ => ?_) (by rw [hel] at h0; exact h0)).call) (tBool ?_)
        · have : (words.map (wantFor rows)).getD i (Str.ofString "") ∈ words.map (wantFor rows) := by
            rw [List.getD_eq_getElem?_getD, List.getElem?_eq_getElem hwi]; exact List.getElem_mem hwi
          obtain ⟨w, hw, e⟩ := List.mem_map.mp this
          rw [← e]
          exact hp.el w hw
        cases hb0 : el i j with
        | false =>
          rw [if_neg (by decide)]
          refine sNil (sNil ⟨vars3, ac, J, rfl, k1, k2, k3, k4, k5, rfl, ?_, by omega, by omega, fun k hk => hc k (.tail _ hk)⟩)
          rw [← hG]
          unfold turnTb
          rw [if_neg (by rw [hb0]; decide)]
        | true =>
          rw [if_pos rfl]
          have hm2 : j % 2 < 2 := Nat.mod_lt _ (by decide)
          have hn2 : i % 2 < 2 := Nat.mod_lt _ (by decide)
          have hsT : (if j % 2 = 0 then Str.ofString "pqrst" else Str.ofString "PQRST").length = 5 := by split <;> decide +kernel
          have hsU : (if i % 2 = 0 then Str.ofString "uvwxy" else Str.ofString "UVWXY").length = 5 := by split <;> decide +kernel
          -- takers
          refine sCons (sExpr (wCallM (wName (v := .hdr 3) (by rfl) (by rfl) k1 (mOwn (f := 179) (.inl ⟨3, rfl, by rw [if_neg (by decide +kernel)]⟩) (by rw [hK, hC]; rfl) (by rw [hK, hC]; rfl) (by rw [hK]; rfl) ⟨cFn (by rw [hK]; rfl), arg ?_⟩))))
          refine wSub (wSub (wTup (arg (wStr (arg (wStr (arg0 ⟨by rw [sizeLine_eq]; decide, ?_⟩)))))))
          refine wBin (wName (v := .int (j : Int)) (by rfl) (by rfl) k6 (wInt (oMod (by decide) ?_)))
          rw [fmod2]
          refine xTup (j := j % 2) (nat_lo _) (nhi (Nat.lt_trans hm2 (by decide))) (six hm2) (two_at _ _ _) ?_
          refine wName (v := .int (i : Int)) (by rfl) (by rfl) k5 (xStr (fits_nat (Nat.lt_trans hi5 (by decide))) (charAt_nat (by rw [hsT]; exact hi5)) (arg ?_))
          refine wCallN (wBoot (by rfl) (by rw [hK]; rfl) rfl ⟨_, rfl, cType, arg (wName (v := .int (j : Int)) (by rfl) (by rfl) k6 (arg0 (kw0 ?_)))⟩) (by rfl) (by rfl)
          refine kStrI (log_small hj5) (arg0 (kw0 ?_))
          have eR : ac.1.map numRow ++ [(nmT i j, numStr j)] = (ac.1 ++ [(nmT i j, j)]).map numRow := by simp [numRow]
          refine frmH (i := 3) (rows := (ac.1.map numRow).map rowAV) (xs := [.hdr 0, .str (nmT i j), .str (numStr j)]) (rows' := ((ac.1 ++ [(nmT i j, j)]).map numRow).map rowAV) (y := .none) (by rfl) (rows_und _ _) (rows_und _ _) trivial
            ⟨_, _, rfl, .inl ⟨rfl, rfl⟩, _, _, rfl, .inr ⟨trivial, rfl⟩, _, _, rfl, .inr ⟨trivial, rfl⟩, rfl⟩ (fun K0 h0 => (addheader_contract hK hC (by rw [List.length_map]; omega) (hp.nt i j hi5 hj5) (hp.num j hj5).1 (hp.num j hj5).2 (by rw [eR]; exact h0)).call) ?_
          -- taken
          refine sCons (sExpr (wCallM (wName (v := .hdr 4) (by rfl) (by rfl) k2 (mOwn (f := 179) (.inl ⟨4, rfl, by rw [if_neg (by decide +kernel)]⟩) (by rw [hK, hC]; rfl) (by rw [hK, hC]; rfl) (by rw [hK]; rfl) ⟨cFn (by rw [hK]; rfl), arg ?_⟩))))
          refine wSub (wSub (wTup (arg (wStr (arg (wStr (arg0 ⟨by rw [sizeLine_eq]; decide, ?_⟩)))))))
          refine wBin (wName (v := .int (i : Int)) (by rfl) (by rfl) k5 (wInt (oMod (by decide) ?_)))
          rw [fmod2]
          refine xTup (j := i % 2) (nat_lo _) (nhi (Nat.lt_trans hn2 (by decide))) (six hn2) (two_at _ _ _) ?_
          refine wName (v := .int (j : Int)) (by rfl) (by rfl) k6 (xStr (fits_nat (Nat.lt_trans hj5 (by decide))) (charAt_nat (by rw [hsU]; exact hj5)) (arg ?_))
          refine wCallN (wBoot (by rfl) (by rw [hK]; rfl) rfl ⟨_, rfl, cType, arg (wName (v := .int (i : Int)) (by rfl) (by rfl) k5 (arg0 (kw0 ?_)))⟩) (by rfl) (by rfl)
          refine kStrI (log_small hi5) (arg0 (kw0 ?_))
          have eR2 : ac.2.map numRow ++ [(nmU i j, numStr i)] = (ac.2 ++ [(nmU i j, i)]).map numRow := by simp [numRow]
          refine frmH (i := 4) (rows := (ac.2.map numRow).map rowAV) (xs := [.hdr 0, .str (nmU i j), .str (numStr i)]) (rows' := ((ac.2 ++ [(nmU i j, i)]).map numRow).map rowAV) (y := .none) (by rfl) (rows_und _ _) (rows_und _ _) trivial
            ⟨_, _, rfl, .inl ⟨rfl, rfl⟩, _, _, rfl, .inr ⟨trivial, rfl⟩, _, _, rfl, .inr ⟨trivial, rfl⟩, rfl⟩ (fun K0 h0 => (addheader_contract hK hC (by rw [List.length_map]; omega) (hp.nu i j hi5 hj5) (hp.num i hi5).1 (hp.num i hi5).2 (by rw [eR2]; exact h0)).call) ?_
          refine sNil (sNil ⟨vars3, (ac.1 ++ [(nmT i j, j)], ac.2 ++ [(nmU i j, i)]), J, by rfl, k1, k2, k3, k4, k5, rfl, ?_, ?_, ?_, fun k hk => hc k (.tail _ hk)⟩)
          · rw [← hG]
            unfold turnTb
            rw [if_pos hb0]
          · simp only [List.length_append, List.length_cons, List.length_nil]; omega
          · simp only [List.length_append, List.length_cons, List.length_nil]; omega
end
end Mine
set_option maxHeartbeats 4000000
namespace Mine
section
variable {X : Cx} {P : Params} {n : Nat} {ae : AEnv} {S : List AO} {K : AV → List AO → Prop} {KF : AF → List AO → Prop} {KU : Unit → List AO → Prop}

noncomputable def drawnOf (ns : List Int) : List Int := (ns.take 5).map (fun i => i.fmod 1000000)
noncomputable def numsOf (ns : List Int) : List Int := drawnOf ns ++ [309, 574, 191, 728, 324].drop (drawnOf ns).length
noncomputable def totalOf (ns : List Int) : Int := (numsOf ns).sum
noncomputable def wordsOf (ns : List Int) : List (List Int × List Int) := (numsOf ns).map fun k => (pageFig k, wantFig k)
noncomputable def sidesL (rows : List (Str × Nat)) (names : Str) : List Int := names.cps.toList.map fun c => sideOf rows ⟨#[c]⟩

/-- what the plain law has to show -/
structure Law2Ok (total : Int) (words : List (List Int × List Int)) : Prop where
  h7 : ∀ i k, k ≤ 7 → (escUpto k (signAt i)).length ≤ 65535
  h6 : ∀ i k, k ≤ 6 → (c14Upto k (signAt i)).length ≤ 65535
  tb : TbOk (rowsL total) words
  s1 : SdOk (tabTb (ellT (rowsL total) words)).1 (Str.ofString "pqrst")
  s2 : SdOk (tabTb (ellT (rowsL total) words)).2 (Str.ofString "uvwxy")
  e1 : sidesL (tabTb (ellT (rowsL total) words)).1 (Str.ofString "pqrst") = hereOf words
  e2 : sidesL (tabTb (ellT (rowsL total) words)).2 (Str.ofString "uvwxy") = thereOf words
  ho : holesOf (hereOf words) = holesOf (thereOf words)

theorem frmNN {g : Value} {xs : List AV} {ao bo : AO} (hx : AV.unds 0 xs) (hao : ao.und 0) (hbo : bo.und 0) (h : ∀ K0 : AV → List AO → Prop, K0 (.tup [.hdr 0, .hdr 1]) [ao, bo] → WpC X n [] (.val g) xs [] K0) (hK : K (.tup [.hdr S.length, .hdr (S.length + 1)]) (S ++ [ao, bo])) : WpC X n S (.val g) xs [] K :=
  frm0 (K0 := fun x aos => x = .tup [.hdr 0, .hdr 1] ∧ aos = [ao, bo]) hx (by simp [AV.undk]) (h _ ⟨rfl, rfl⟩) fun x aos ⟨e1, e2⟩ => by
    subst e1 e2
    refine ⟨fun b hb => ?_, ?_⟩
    · rcases List.mem_cons.mp hb with rfl | hb
      · exact hao
      · rw [List.mem_singleton.mp hb]; exact hbo
    · simpa [AV.sh, AV.shs] using hK

theorem avOfs_ints : ∀ l : List Int, avOfs (l.map PyData.int) = l.map AV.int
  | [] => rfl
  | i :: r => by rw [List.map_cons, List.map_cons, avOfs, avOfs_ints r]; rfl
theorem lay_ints : ∀ l : List Int, PyData.canLayAll0 (l.map PyData.int) = true
  | [] => rfl
  | i :: r => by show (PyData.canLay0 (.int i) && PyData.canLayAll0 (r.map PyData.int)) = true; rw [lay_ints r]; rfl
theorem depth_ints : ∀ l : List Int, PyData.depthAll (l.map PyData.int) ≤ 1
  | [] => by simp [PyData.depthAll]
  | i :: r => by have := depth_ints r; simp [PyData.depthAll, PyData.depth]; omega
noncomputable def intsD (l : List Int) : PyData := .list (l.map .int)
theorem intsD_av (l : List Int) : avOf (intsD l) = .lst (l.map .int) := by unfold intsD; rw [avOf, avOfs_ints]
theorem intsD_lay (l : List Int) : (intsD l).canLay0 = true := lay_ints l
theorem intsD_depth (l : List Int) : (intsD l).depth ≤ 2 := by have := depth_ints l; simp [intsD, PyData.depth]; omega

theorem law_walk (hK : X.K = hd.heap_39 P) (hC : X.C = 182) {ns : List Int} (hl : ns.length ≤ 63) (hO : Law2Ok (totalOf ns) (wordsOf ns)) (h : K (.bool true) [])
    {A : Around} {s : Shared} {v : Value} (hR : Rep X [] [] [] (bump s)) (hv : VR X [] [] s.heap (.lst (ns.map .int)) v) (hr : Room (n + 8) A) :
    codeAny X.M A (.call (.ref 265) ⟨[v], []⟩) (fun r s' => ∃ u, r = .ok (.ret u) ∧ PostV X [] [] [] (bump s) K u s') s := by
  have hdl : (drawnOf ns).length ≤ 5 := by simp [drawnOf]; omega
  have hnl : (numsOf ns).length ≤ 10 := by simp only [numsOf, List.length_append, List.length_drop, List.length_cons, List.length_nil]; omega
  refine entryC (x := Str.ofString "script") (av := .lst (ns.map .int)) (by rw [hK]; rfl) (by rw [hK]; rfl) (fun s => .of_eq rfl) (by rfl) hR hv hr ?_
  · clear hR hv hr
    -- drawn
    refine sCons (sLC (compIs0 rfl rfl (by decide +kernel) (by decide +kernel)) (by intro _ _; rfl) (by rfl) (by rfl) ?_)
    refine iE (wSlice (wName (v := .lst (ns.map .int)) (by rfl) (by rfl) (by kernel_rfl) (pNone (pSome (wInt ⟨_, rfl, slLst (slm _ (Nat.le_trans hl (by decide))) ⟨_, none, srcLst (fun it hit => trivial), ?_⟩⟩)))))
    rw [pick5, ← List.map_take]
    refine ⟨fun it => match it with | .int k => some (.int (k.fmod 1000000)) | _ => none, slm _ (Nat.le_trans (by rw [List.length_take]; exact Nat.min_le_left 5 _) (by decide)), ?_, ?_, ?_⟩
    · intro it hit v e
      obtain ⟨k, _, rfl⟩ := List.mem_map.mp hit
      cases e; trivial
    · intro it hit
      obtain ⟨k, _, rfl⟩ := List.mem_map.mp hit
      refine turn0 fun xs vars => ?_
      refine aName (nLoc (by rfl) (by rfl) ?_)
      refine wBin (wCallN (wBoot (by rfl) (by rw [hK]; rfl) rfl ⟨_, rfl, cType, arg (wName (v := .int k) (by rfl) (by rfl) (by rw [put_lookup, if_pos rfl]) (arg0 (kw0 ?_)))⟩) (by rfl) (by rfl))
      refine kIntI (wBin (wInt (wInt (oPowC (r := 0) (by decide) (by decide) (by decide) (by decide) (by decide +kernel) ?_))))
      exact oMod (by decide) ⟨_, rfl, rfl⟩
    rw [filterMap_ints (g := fun k => .int (k.fmod 1000000)) _ fun k _ => rfl]
    have e1 : (ns.take 5).map (fun k => AV.int (k.fmod 1000000)) = (drawnOf ns).map AV.int := by simp [drawnOf, Function.comp_def]
    rw [e1]
    refine nLoc (by rfl) (by rfl) ?_
    -- numbers
    have hsl : ∀ (l : List Int), l.length ≤ 63 → (l.map AV.int).length ≤ sizeLine := fun l h => slm _ (Nat.le_trans h (by decide))
    refine sCons (sAsg (wBin (wName (v := .lst ((drawnOf ns).map .int)) (by rfl) (by rfl) (by kernel_rfl) (wSlice (wLst (arg (wInt (arg (wInt (arg (wInt (arg (wInt (arg (wInt (arg0 ⟨by rw [sizeLine_eq]; decide, ?_⟩)))))))))))))) ) (by rfl))
    refine pSome (wCallN (wBoot (by rfl) (by rw [hK]; rfl) rfl ⟨_, rfl, cBuiltin, arg (wName (v := .lst ((drawnOf ns).map .int)) (by rfl) (by rfl) (by kernel_rfl) (arg0 (kw0 ?_)))⟩) (by rfl) (by rfl))
    refine kLenL (.inl rfl) (hsl _ (Nat.le_trans hdl (by decide))) ⟨_, rfl, pNone (slLst (by rw [sizeLine_eq]; decide) ?_)⟩
    rw [pickL_drop, List.length_map]
    refine oAddL (.inl rfl) (.inl rfl) (by rw [sizeLine_eq]; simp; omega) ?_
    have e2 : (drawnOf ns).map AV.int ++ [AV.int 309, .int 574, .int 191, .int 728, .int 324].drop (drawnOf ns).length = (numsOf ns).map AV.int := by
      simp [numsOf, List.map_append, List.map_drop]
    rw [e2]
    refine nLoc (by rfl) (by rfl) ?_
    -- words
    refine sCons (sLC (compIs0 rfl rfl (by decide +kernel) (by decide +kernel)) (by intro _ _; rfl) (by rfl) (by rfl) ?_)
    refine iE (wName (v := .lst ((numsOf ns).map .int)) (by rfl) (by rfl) (by kernel_rfl) ⟨_, none, srcLst (fun it hit => trivial), ?_⟩)
    refine ⟨fun it => match it with | .int k => some (wordAV (pageFig k, wantFig k)) | _ => none, hsl _ (Nat.le_trans hnl (by decide)), ?_, ?_, ?_⟩
    · intro it hit v e
      obtain ⟨k, _, rfl⟩ := List.mem_map.mp hit
      cases e; exact ⟨ints_und _ _, ints_und (wantFig k) _, trivial⟩
    · intro it hit
      obtain ⟨k, _, rfl⟩ := List.mem_map.mp hit
      refine turn0 fun xs vars => ?_
      refine aName (nLoc (by rfl) (by rfl) ?_)
      refine wCallN (wGlob (v := .ref 233) (av := .val (.ref 233)) (by rfl) (by rw [hK]; rfl) (fun _ _ _ => by simp) ⟨_, rfl, cFn (by rw [hK]; rfl), arg (wName (v := .int k) (by rfl) (by rfl) (by rw [put_lookup, if_pos rfl]) (arg0 (kw0 ?_)))⟩) (by rfl) (by rfl)
      exact frmV (y := wordAV (pageFig k, wantFig k)) (by repeat' (first | exact trivial | refine ⟨trivial, ?_⟩)) ⟨ints_und _ _, ints_und (wantFig k) _, trivial⟩ (fun K0 h0 => (words_contract hK h0).call) ⟨_, rfl, rfl⟩
    rw [filterMap_ints (g := fun k => wordAV (pageFig k, wantFig k)) _ fun k _ => rfl]
    have e3 : (numsOf ns).map (fun k => wordAV (pageFig k, wantFig k)) = (wordsOf ns).map wordAV := by unfold wordsOf; rw [List.map_map]; rfl
    rw [e3]
    refine nLoc (by rfl) (by rfl) ?_
    -- tables
    have hwu : AV.unds 0 ((wordsOf ns).map wordAV) := unds_map (g := wordAV) (fun p => ⟨ints_und _ _, ints_und _ _, trivial⟩) _
    refine sCons (sAsgT (wCallN (wGlob (v := .ref 238) (av := .val (.ref 238)) (by rfl) (by rw [hK]; rfl) (fun _ _ _ => by simp) ⟨_, rfl, cFn (by rw [hK]; rfl), arg (wName (v := .lst ((wordsOf ns).map wordAV)) (by rfl) (by rfl) (by kernel_rfl) (arg ?_))⟩) (by rfl) (by rfl)))
    refine wCallN (wGlob (v := .ref 228) (av := .val (.ref 228)) (by rfl) (by rw [hK]; rfl) (fun _ _ _ => by simp) ⟨_, rfl, cFn (by rw [hK]; rfl), arg ?_⟩) (by rfl) (by rfl)
    refine wCallN (wBoot (by rfl) (by rw [hK]; rfl) rfl ⟨_, rfl, cBuiltin, arg (wName (v := .lst ((numsOf ns).map .int)) (by rfl) (by rfl) (by kernel_rfl) (arg0 (kw0 (kSum (.inl rfl) (arg0 (kw0 ?_))))))⟩) (by rfl) (by rfl)
    show WpC X (n + 7) _ _ [.int (totalOf ns)] _ _
    refine frmV (y := .lst ((rowsL (totalOf ns)).map rowAV)) (by repeat' (first | exact trivial | refine ⟨trivial, ?_⟩)) (rows_und _ _) (fun K0 h0 => (rows_contract hK hO.h7 hO.h6 h0).call) (arg0 (kw0 ?_))
    obtain ⟨W, hW⟩ : ∃ W, W = wordsOf ns := ⟨_, rfl⟩
    obtain ⟨Tt, hT⟩ : ∃ t, t = tabTb (ellT (rowsL (totalOf ns)) (wordsOf ns)) := ⟨_, rfl⟩
    refine frmNN (ao := .lst ((Tt.1.map numRow).map rowAV)) (bo := .lst ((Tt.2.map numRow).map rowAV)) ⟨hwu, rows_und _ _, trivial⟩ (rows_und _ _) (rows_und _ _) (fun K0 h0 => (tables_contract (n := n + 1) hK hC hO.tb (by rw [← hT]; exact h0)).call) ⟨_, rfl, rfl, ?_⟩
    refine ⟨trivial, aName (nLoc (by rfl) (by rfl) ⟨trivial, aName (nLoc (by rfl) (by rfl) ?_)⟩)⟩
    -- here, there
    refine sCons (sAsgTs (names := [Str.ofString "here", Str.ofString "there"]) (by rfl) (wTup (arg ?_)))
    refine wCallN (wGlob (v := .ref 243) (av := .val (.ref 243)) (by rfl) (by rw [hK]; rfl) (fun _ _ _ => by simp) ⟨_, rfl, cFn (by rw [hK]; rfl), arg (wName (v := .hdr 1) (by rfl) (by rfl) (by kernel_rfl) (arg (wStr (arg0 (kw0 ?_)))))⟩) (by rfl) (by rfl)
    refine frmH (i := 1) (rows := (Tt.1.map numRow).map rowAV) (rows' := (Tt.1.map numRow).map rowAV) (xs := [.hdr 0, .str (Str.ofString "pqrst")]) (y := .lst ((hereOf (wordsOf ns)).map .int)) (by rfl) (rows_und _ _) (rows_und _ _) (ints_und _ _)
      ⟨_, _, rfl, .inl ⟨rfl, rfl⟩, _, _, rfl, .inr ⟨trivial, rfl⟩, rfl⟩ (fun K0 h0 => (sides_contract (n := n + 3) hK hC (by rw [hT]; exact hO.s1) (by
        have := hO.e1
        rw [← hT] at this
        unfold sidesL at this
        rw [this]; exact h0)).call) (arg ?_)
    refine wCallN (wGlob (v := .ref 243) (av := .val (.ref 243)) (by rfl) (by rw [hK]; rfl) (fun _ _ _ => by simp) ⟨_, rfl, cFn (by rw [hK]; rfl), arg (wName (v := .hdr 2) (by rfl) (by rfl) (by kernel_rfl) (arg (wStr (arg0 (kw0 ?_)))))⟩) (by rfl) (by rfl)
    refine frmH (i := 2) (rows := (Tt.2.map numRow).map rowAV) (rows' := (Tt.2.map numRow).map rowAV) (xs := [.hdr 0, .str (Str.ofString "uvwxy")]) (y := .lst ((thereOf (wordsOf ns)).map .int)) (by rfl) (rows_und _ _) (rows_und _ _) (ints_und _ _)
      ⟨_, _, rfl, .inl ⟨rfl, rfl⟩, _, _, rfl, .inr ⟨trivial, rfl⟩, rfl⟩ (fun K0 h0 => (sides_contract (n := n + 3) hK hC (by rw [hT]; exact hO.s2) (by
        have := hO.e2
        rw [← hT] at this
        unfold sidesL at this
        rw [this]; exact h0)).call) (arg0 ⟨by rw [sizeLine_eq]; simp, _, rfl, rfl, ?_⟩)
    unfold WpNs
    refine nLoc (by rfl) (by rfl) ?_
    unfold WpNs
    refine nLoc (by rfl) (by rfl) ?_
    unfold WpNs
    -- holes
    have hH : (hereOf (wordsOf ns)).length ≤ 1000 := by unfold hereOf; rw [List.length_map, List.length_range]; decide
    have hTh : (thereOf (wordsOf ns)).length ≤ 1000 := by unfold thereOf; rw [List.length_map, List.length_range]; decide
    refine sCons (sIf (bCmp (wCallN (wGlob (v := .ref 260) (av := .val (.ref 260)) (by rfl) (by rw [hK]; rfl) (fun _ _ _ => by simp) ⟨_, rfl, cFn (by rw [hK]; rfl), arg (wName (v := .lst ((hereOf (wordsOf ns)).map .int)) (by rfl) (by rfl) (by kernel_rfl) (arg0 (kw0 ?_)))⟩) (by rfl) (by rfl))))
    refine frmV (y := .lst ((holesOf (hereOf (wordsOf ns))).map .int)) ⟨ints_und _ _, trivial⟩ (ints_und _ _) (fun K0 h0 => (holes_contract (n := n + 4) hK hH h0).call) ?_
    refine wCallN (wGlob (v := .ref 260) (av := .val (.ref 260)) (by rfl) (by rw [hK]; rfl) (fun _ _ _ => by simp) ⟨_, rfl, cFn (by rw [hK]; rfl), arg (wName (v := .lst ((thereOf (wordsOf ns)).map .int)) (by rfl) (by rfl) (by kernel_rfl) (arg0 (kw0 ?_)))⟩) (by rfl) (by rfl)
    refine frmV (y := .lst ((holesOf (thereOf (wordsOf ns))).map .int)) ⟨ints_und _ _, trivial⟩ (ints_und _ _) (fun K0 h0 => (holes_contract (n := n + 4) hK hTh h0).call) ?_
    rw [hO.ho, ← intsD_av]
    have hde := intsD_depth (holesOf (thereOf (wordsOf ns)))
    refine oNeData (n := n + 7) (intsD (holesOf (thereOf (wordsOf ns)))) (intsD (holesOf (thereOf (wordsOf ns)))) (intsD_lay _) (intsD_lay _) (Nat.le_trans (Nat.min_le_left _ _) (Nat.le_trans hde (Nat.le_of_succ_le (two_units n)))) (tBool ?_)
    rw [SeqAt.eqv_refl _ (intsD_lay _), if_neg (by decide)]
    refine sNil (sCons (sRet (wCmp (wTup (arg (wName (v := .lst ((hereOf (wordsOf ns)).map .int)) (by rfl) (by rfl) (by kernel_rfl) (arg (wName (v := .lst ((thereOf (wordsOf ns)).map .int)) (by rfl) (by rfl) (by kernel_rfl) (arg0 ⟨by rw [sizeLine_eq]; simp, ?_⟩)))))))))
    refine wCallN (wGlob (v := .ref 255) (av := .val (.ref 255)) (by rfl) (by rw [hK]; rfl) (fun _ _ _ => by simp) ⟨_, rfl, cFn (by rw [hK]; rfl), arg (wName (v := .lst ((wordsOf ns).map wordAV)) (by rfl) (by rfl) (by kernel_rfl) (arg0 (kw0 ?_)))⟩) (by rfl) (by rfl)
    refine frmV (y := .tup [.lst ((hereOf (wordsOf ns)).map .int), .lst ((thereOf (wordsOf ns)).map .int)]) ⟨hwu, trivial⟩ ⟨ints_und _ _, ints_und _ _, trivial⟩ (fun K0 h0 => (due_contract (n := n + 3) hK hO.tb.wl (fun p hp => ?_) h0).call) ?_
    · have := hO.tb.wp p hp
      exact ⟨Nat.le_trans this.1 (by decide), Nat.le_trans this.2 (by decide)⟩
    have eD : AV.tup [.lst ((hereOf (wordsOf ns)).map .int), .lst ((thereOf (wordsOf ns)).map .int)] = avOf (.tuple [intsD (hereOf (wordsOf ns)), intsD (thereOf (wordsOf ns))]) := by
      simp only [avOf, avOfs, intsD_av]
    have hlay : (PyData.tuple [intsD (hereOf (wordsOf ns)), intsD (thereOf (wordsOf ns))]).canLay0 = true := by
      show ((intsD (hereOf (wordsOf ns))).canLay0 && ((intsD (thereOf (wordsOf ns))).canLay0 && true)) = true
      rw [intsD_lay, intsD_lay]; rfl
    have hdep : (PyData.tuple [intsD (hereOf (wordsOf ns)), intsD (thereOf (wordsOf ns))]).depth ≤ 3 := by
      have h1 := intsD_depth (hereOf (wordsOf ns))
      have h2 := intsD_depth (thereOf (wordsOf ns))
      simp only [PyData.depth, PyData.depthAll]
      omega
    rw [eD]
    refine oEqData (n := n + 7) (.tuple [intsD (hereOf (wordsOf ns)), intsD (thereOf (wordsOf ns))]) (.tuple [intsD (hereOf (wordsOf ns)), intsD (thereOf (wordsOf ns))]) hlay hlay (Nat.le_trans (Nat.min_le_left _ _) (Nat.le_trans hdep (two_units n))) ?_
    rw [SeqAt.eqv_refl _ hlay]
    exact leaveU (fun i ao e => by simp at e) fzBool h
end
end Mine
set_option maxHeartbeats 8000000
namespace Mine
theorem post_true (a : List WData) : PySem.Challenge.rw_tc0046_02.row.claim.post a (.bool true) a = true := by kernel_rfl
theorem ints_VRs {X : Cx} {ρ T : List Addr} {h : Heap} : ∀ {vs : List Value} {ns : List Int}, IntsAre vs ns → VRs X ρ T h (ns.map .int) vs
  | _, _, .nil => VRs_nil.mpr rfl
  | _, _, .cons n t r => VRs_cons.mpr ⟨_, _, rfl, VR_int.mpr ⟨t, rfl⟩, ints_VRs r⟩
theorem law2_of (H : ∀ ns : List Int, ns.length ≤ 63 → Law2Ok (totalOf ns) (wordsOf ns)) : PySem.Challenge.rw_tc0046_02.Holds := hd (by
  intro w s₀ s₁ mg mb G Y fa o pm cd doc dV kV ho hd' hcd hD hmg hg args vals as hpre hlay hrd hwl hlo
  have KX := kIn_of Y
  refine Ground.open G ?_
  intro T B D TE TW
  wrow_args hpre hlay hrd hwl hlo
  have hfa : some (Value.ref fa) = some (Value.ref 265) := hmg.symm.trans (mg_of KX T.g (n := Str.ofString "law") (v := .ref 265) rfl)
  cases hfa
  clear hmg hcd hD hd' D ho B G Y TE TW
  rename_i ns _ _ _ _ _ _ _ l vs _ hL _ _ _ hI _ hlen _
  have hl63 : ns.length ≤ 63 := by simp at hlen; omega
  have hO := H ns hl63
  let X : Cx := { prog := PySem.Challenge.rw_tc0046_02.row.prog, w := w, K := hd.heap_39 w.params, p := hd.view_39, loose := _, mg := mg, mb := mb, C := 182, r := s₁, kin := KX, top := topRead_of T }
  have hR : Rep X [] [] [] (bump s₁) := {
    keep := fun b o e => e
    len := rfl
    obj := fun i ao a e _ => by simp at e
    nodup := List.nodup_nil
    nosys := fun a h => by cases h
    sub := fun a h => by cases h
    new := fun a h => by cases h
    low := fun a h => by cases h
    rest := ⟨rfl, rfl, rfl⟩
    toks := Nat.succ_le_succ (Nat.zero_le _) }
  have hv : VR X [] [] s₁.heap (.lst (ns.map .int)) (.ref l) := by
    simp only [VR]
    refine ⟨l, vs, rfl, by simp, hL, ?_⟩
    exact ints_VRs hI
  have hr : Room (0 + 8) callerA := ⟨by decide, by decide, rfl⟩
  have key := law_walk (n := 0) (X := X) (P := w.params) rfl rfl hl63 hO (K := fun v S' => v = .bool true) rfl hR hv hr
  refine wpAny_call (codeAny_mono key fun r s' hq => ?_)
  obtain ⟨u, rfl, x, S2, ρ2, T2, hx, st, hu⟩ := hq
  subst hx
  cases VR_bool.mp hu
  show GoodWG _ _ _ _ _ _ _
  refine ⟨.inl ⟨.bool true, .bool true, [], rfl, ?_, ?_, ?_, ?_⟩, .of_keep fun b o e => ?_, ?_, .of_eq ?_⟩
  · intro cls; rfl
  · exact .bool true
  · exact post_true _
  · exact fun _ => ⟨List.nodup_nil, fun a h => by cases h⟩
  · exact st.rep.keep b o e
  · exact st.rep.rest.2.1
  · exact st.rep.rest.1.trans hg)
end Mine
set_option maxHeartbeats 8000000
namespace Mine
open PySem.StrLaws

noncomputable def toS (l : List Nat) : Str := ⟨l.toArray⟩
theorem len_list (x : Str) : x.cps.toList.length = x.length := by rw [Array.length_toList]; rfl
theorem at_iff {x y : Str} (hy : 1 ≤ y.length) (i : Nat) : At x y x.length i ↔ y.cps.toList <+: x.cps.toList.drop i := by
  unfold At
  rw [subAt_eq]
  constructor
  · intro ⟨h1, h2⟩
    have e := eq_of_beq h2
    exact ⟨(x.cps.toList.drop i).drop y.length, by rw [← e]; exact List.take_append_drop _ _⟩
  · intro ⟨t, ht⟩
    have hl := congrArg List.length ht
    rw [List.length_append, List.length_drop, len_list, len_list] at hl
    refine ⟨by omega, ?_⟩
    rw [← ht, List.take_left' (len_list y)]
    simp

/-! ## splitting -/
noncomputable def glue (y : List Nat) : List (List Nat) → List Nat
  | [] => []
  | [p] => p
  | p :: q :: r => p ++ (y ++ glue y (q :: r))
theorem strSub_drop {x : Str} {a : Nat} {p rest : List Nat} (h : x.cps.toList.drop a = p ++ rest) : Builtin.Str.strSub x a (a + p.length) = toS p := by
  apply Str.ext'
  apply Array.toList_inj.mp
  rw [strSub_toList, h]
  simp [toS]
theorem cuts_glue {x : Str} : ∀ (qs : List (List Nat)) (a f : Nat) (cuts : List Nat), qs ≠ [] → (∀ q ∈ qs, 46 ∉ q) → a ≤ x.length → x.cps.toList.drop a = glue [46, 46, 46] qs → ChainG x dots x.length a cuts f → (∀ k, f ≤ k → ¬ At x dots x.length k) →
    partsFrom x 3 a cuts = qs.map toS
  | [], _, _, _, h, _, _, _, _, _ => absurd rfl h
  | [p], a, f, cuts, _, hp, ha, hd, hc, hf => by
    have hp0 := hp p (.head _)
    have hd' : x.cps.toList.drop a = p := hd
    cases cuts with
    | nil =>
      have e : a + p.length = x.length := by
        have := congrArg List.length hd'
        rw [List.length_drop, len_list] at this; omega
      show [Builtin.Str.strSub x a x.length] = _
      rw [← e, strSub_drop (rest := []) (by rw [hd']; simp)]; rfl
    | cons c r =>
      exfalso
      have h1 := (at_iff (by decide +kernel) c).mp hc.2.1
      have hac := hc.1
      have e : x.cps.toList.drop c = p.drop (c - a) := by
        rw [← hd', List.drop_drop]; congr 1; omega
      rw [e] at h1
      obtain ⟨t, ht⟩ := h1
      have : (46 : Nat) ∈ p.drop (c - a) := by rw [← ht]; exact List.mem_append_left _ (by decide +kernel)
      exact hp0 (List.mem_of_mem_drop this)
  | p :: q :: r, a, f, cuts, _, hp, ha, hd, hc, hf => by
    have hp0 := hp p (.head _)
    have hd' : x.cps.toList.drop a = p ++ ([46, 46, 46] ++ glue [46, 46, 46] (q :: r)) := hd
    have hat : At x dots x.length (a + p.length) := by
      rw [at_iff (by decide +kernel), ← List.drop_drop, hd', List.drop_left' rfl]
      exact ⟨glue [46, 46, 46] (q :: r), by rw [show dots.cps.toList = [46, 46, 46] by decide +kernel]⟩
    cases cuts with
    | nil =>
      exfalso
      have e : f = a := hc
      exact hf (a + p.length) (by omega) hat
    | cons c cs =>
      have hac := hc.1
      have h1 := (at_iff (by decide +kernel) c).mp hc.2.1
      have hle : c ≤ a + p.length := by
        rcases Nat.lt_or_ge (a + p.length) c with h | h
        · exact absurd hat (hc.2.2.1 _ (by omega) h)
        · exact h
      have hge : a + p.length ≤ c := by
        rcases Nat.lt_or_ge c (a + p.length) with h | h
        · exfalso
          have e : x.cps.toList.drop c = (p ++ ([46, 46, 46] ++ glue [46, 46, 46] (q :: r))).drop (c - a) := by
            rw [← hd', List.drop_drop]; congr 1; omega
          rw [e, List.drop_append_of_le_length (by omega)] at h1
          obtain ⟨t, ht⟩ := h1
          rw [show dots.cps.toList = [46, 46, 46] by decide +kernel] at ht
          have hne : p.drop (c - a) ≠ [] := by
            intro q'; have := congrArg List.length q'; simp at this; omega
          obtain ⟨u, us, eu⟩ := List.exists_cons_of_ne_nil hne
          rw [eu] at ht
          have h46 : u = 46 := by
            have := congrArg List.head? ht
            simp at this; exact this.symm
          subst h46
          exact hp0 (List.mem_of_mem_drop (i := c - a) (by rw [eu]; exact .head _))
        · exact h
      have hca : c = a + p.length := Nat.le_antisymm hle hge
      subst hca
      have hn : a + p.length + 3 ≤ x.length := by
        have := hat.1
        have e3 : dots.length = 3 := by decide +kernel
        omega
      have hd2 : x.cps.toList.drop (a + p.length + 3) = glue [46, 46, 46] (q :: r) := by
        rw [show a + p.length + 3 = a + (p.length + 3) by omega, ← List.drop_drop, hd', ← List.drop_drop, List.drop_left' rfl]
        rfl
      have hc2 : ChainG x dots x.length (a + p.length + 3) cs f := by
        have := hc.2.2.2
        rw [show dots.length = 3 by decide +kernel] at this
        exact this
      have ih := cuts_glue (q :: r) (a + p.length + 3) f cs (by simp) (fun q' hq => hp q' (.tail _ hq)) hn hd2 hc2 hf
      show Builtin.Str.strSub x a (a + p.length) :: partsFrom x 3 (a + p.length + 3) cs = _
      rw [ih, strSub_drop hd']; rfl

theorem split_glue {qs : List (List Nat)} (h2 : 2 ≤ qs.length) (hp : ∀ q ∈ qs, 46 ∉ q) : Txt.split (toS (glue [46, 46, 46] qs)) dots = qs.map toS ∧
    (Builtin.Str.partsBetween (toS (glue [46, 46, 46] qs)) (Builtin.Str.occurrences (toS (glue [46, 46, 46] qs)) dots 0 (toS (glue [46, 46, 46] qs)).length ((toS (glue [46, 46, 46] qs)).length + 1)) dots.length) = qs.map toS ∧ Txt.contains (toS (glue [46, 46, 46] qs)) dots = true := by
  generalize hx : toS (glue [46, 46, 46] qs) = x
  have hxl : x.cps.toList = glue [46, 46, 46] qs := by rw [← hx]; simp [toS]
  obtain ⟨f, hc, hf⟩ := occ_tight x dots (by decide +kernel)
  have hparts := cuts_glue qs 0 f _ (by intro q; rw [q] at h2; simp at h2) hp (Nat.zero_le _) (by rw [List.drop_zero, hxl]) hc hf
  have hpb : Builtin.Str.partsBetween x (Builtin.Str.occurrences x dots 0 x.length (x.length + 1)) dots.length = qs.map toS := by
    rw [partsBetween_eq, show dots.length = 3 by decide +kernel, hparts]
  have hat : ∃ i, At x dots x.length i := by
    match qs, h2 with
    | p :: q :: r, _ =>
      refine ⟨p.length, (at_iff (by decide +kernel) _).mpr ?_⟩
      rw [hxl]
      show _ <+: (p ++ ([46, 46, 46] ++ glue [46, 46, 46] (q :: r))).drop p.length
      rw [List.drop_left' rfl]
      exact ⟨glue [46, 46, 46] (q :: r), by rw [show dots.cps.toList = [46, 46, 46] by decide +kernel]⟩
  obtain ⟨i, hi⟩ := hat
  have hne : (Builtin.Str.occurrences x dots 0 x.length (x.length + 1)).isEmpty = false := by
    cases ho : Builtin.Str.occurrences x dots 0 x.length (x.length + 1) with
    | nil =>
      rw [ho] at hpb
      have := congrArg List.length hpb
      rw [List.length_map, partsBetween_eq] at this
      simp [partsFrom] at this
      omega
    | cons _ _ => rfl
  refine ⟨?_, hpb, ?_⟩
  · unfold Txt.split
    rw [if_neg, hne, if_neg (by decide), hpb]
    have h3 : dots.length = 3 := by decide +kernel
    have hk : Builtin.Str.strKind dots = 1 := by decide +kernel
    have hk2 : 1 ≤ Builtin.Str.strKind x := by
      unfold Builtin.Str.strKind
      split
      · omega
      · split <;> omega
    have := hi.1
    simp; omega
  · exact (found_iff x dots).mpr ⟨i, hi.1, hi.2⟩
/-- the place of y behind a -/
noncomputable def findAt (x y : Str) (a : Nat) : Int := find4 x y a x.length
theorem findAt_eq (x y : Str) {a : Nat} (ha : a ≤ x.length) : findAt x y a = match Builtin.Str.occurrences x y a x.length 1 with | k :: _ => (k : Int) | [] => -1 := by
  unfold findAt find4
  have e1 : fromIndex x.length (a : Int) = a := by unfold fromIndex; rw [if_neg (by omega)]; omega
  have e2 : fromIndex x.length (x.length : Int) = x.length := by unfold fromIndex; rw [if_neg (by omega)]; omega
  (rw [e1, e2, Nat.min_self]) <;> (cases Builtin.Str.occurrences x y a x.length 1 <;> rfl)
theorem find_hit {x y : Str} (hy : 1 ≤ y.length) {a : Nat} (ha : a ≤ x.length) (h : y.cps.toList <+: x.cps.toList.drop a) : findAt x y a = a := by
  rw [findAt_eq x y ha]
  rcases occ_head_from x y a 1 (Nat.le_refl _) with ⟨e, hn⟩ | ⟨i, r, e, h1, h2, h3⟩
  · exact absurd ((at_iff hy a).mpr h) (hn a (Nat.le_refl _))
  · rw [e]
    have : i = a := by
      rcases Nat.lt_or_ge a i with q | q
      · exact absurd ((at_iff hy a).mpr h) (h3 a (Nat.le_refl _) q)
      · omega
    rw [this]
theorem find_none {x y : Str} (hy : 1 ≤ y.length) {a : Nat} (ha : a ≤ x.length) (h : ∀ k, ¬ y.cps.toList <+: x.cps.toList.drop (a + k)) : findAt x y a = -1 := by
  rw [findAt_eq x y ha]
  rcases occ_head_from x y a 1 (Nat.le_refl _) with ⟨e, hn⟩ | ⟨i, r, e, h1, h2, h3⟩
  · rw [e]
  · exfalso
    have := (at_iff hy i).mp h2
    exact h (i - a) (by rw [show a + (i - a) = i by omega]; exact this)
theorem find_skip {x y : Str} (hy : 1 ≤ y.length) {a B : Nat} (ha : a + B ≤ x.length) (h : ∀ k, k < B → ¬ y.cps.toList <+: x.cps.toList.drop (a + k)) : findAt x y a = findAt x y (a + B) := by
  rw [findAt_eq x y (by omega), findAt_eq x y ha]
  rcases occ_head_from x y a 1 (Nat.le_refl _) with ⟨e, hn⟩ | ⟨i, r, e, h1, h2, h3⟩
  · rcases occ_head_from x y (a + B) 1 (Nat.le_refl _) with ⟨e', hn'⟩ | ⟨i', r', e', h1', h2', h3'⟩
    · rw [e, e']
    · exact absurd h2' (hn i' (by omega))
  · have hi : a + B ≤ i := by
      rcases Nat.lt_or_ge i (a + B) with q | q
      · exact absurd ((at_iff hy i).mp h2) (by rw [show i = a + (i - a) by omega]; exact h (i - a) (by omega))
      · exact q
    rcases occ_head_from x y (a + B) 1 (Nat.le_refl _) with ⟨e', hn'⟩ | ⟨i', r', e', h1', h2', h3'⟩
    · exact absurd h2 (hn' i hi)
    · rw [e, e']
      have : i = i' := by
        rcases Nat.lt_trichotomy i i' with q | q | q
        · exact absurd h2 (h3' i hi q)
        · exact q
        · exact absurd h2' (h3 i' (by omega) q)
      rw [this]
theorem find_empty {x y : Str} (hy : y.cps.toList = []) {a : Nat} (ha : a ≤ x.length) : findAt x y a = a := by
  have hy0 : y.length = 0 := by rw [← len_list, hy]; rfl
  have hat : At x y x.length a := ⟨by omega, by rw [subAt_eq, hy, hy0]; simp⟩
  rw [findAt_eq x y ha]
  rcases occ_head_from x y a 1 (Nat.le_refl _) with ⟨e, hn⟩ | ⟨i, r, e, h1, h2, h3⟩
  · exact absurd hat (hn a (Nat.le_refl _))
  · rw [e]
    have : i = a := by
      rcases Nat.lt_or_ge a i with q | q
      · exact absurd hat (h3 a (Nat.le_refl _) q)
      · omega
    rw [this]

theorem ellRun_cons (got : Str) (w : Str) (r : List Str) (a : Nat) : ellRun got got.length (w :: r) a = if decide (findAt got w a < 0) = true then false else ellRun got got.length r (findAt got w a + w.length) := rfl

theorem ell_all {got : Str} (hdots : True) {qs : List (List Nat)} {s : Str} (hs : Txt.split s dots = toS [] :: (qs.map toS ++ [toS []])) (hc : Txt.contains s dots = true) : ellOf s got = ellRun got got.length (qs.map toS ++ [toS []]) 0 := by
  unfold ellOf
  rw [hc, if_neg (by decide), hs]
  have e0 : (toS []).length = 0 := by decide
  rw [ell1_cons, e0, if_neg (by decide)]
  unfold ell2
  have el : lastD (toS [] :: (qs.map toS ++ [toS []])) = toS [] := by
    unfold lastD
    have : (toS [] :: (qs.map toS ++ [toS []]))[(toS [] :: (qs.map toS ++ [toS []])).length - 1]? = some (toS []) := by
      rw [← List.cons_append]
      simp
    rw [this]; rfl
  rw [el, e0, if_neg (by decide)]
  unfold ell3
  rw [if_neg (by simp)]
  have := ellRun_cons got (toS []) (qs.map toS ++ [toS []]) 0
  rw [find_empty (by simp [toS]) (Nat.zero_le _), if_neg (by simp), e0] at this
  exact this

/-! ## lines one behind the other -/
structure Ln (l : List Nat) : Prop where
  is : ∃ c b, l = c :: 58 :: (b ++ [13, 10]) ∧ c ≠ 58 ∧ c ≠ 13 ∧ 58 ∉ b ∧ 13 ∉ b
noncomputable def subL : List (List Nat) → List (List Nat) → Bool
  | _, [] => true
  | [], _ :: _ => false
  | d :: m, c :: w => if d = c then subL m w else subL m (c :: w)
theorem pre_eq : ∀ (b b' rest : List Nat), 13 ∉ b → 13 ∉ b' → (b ++ [13, 10]) <+: (b' ++ ([13, 10] ++ rest)) → b = b'
  | [], [], _, _, _, _ => rfl
  | [], c :: b', rest, _, h, hp => by
    obtain ⟨t, ht⟩ := hp
    simp at ht
    exact absurd (List.mem_cons_self ..) (ht.1 ▸ h)
  | c :: b, [], rest, h, _, hp => by
    obtain ⟨t, ht⟩ := hp
    simp at ht
    exact absurd (List.mem_cons_self ..) (ht.1 ▸ h)
  | c :: b, d :: b', rest, h, h', hp => by
    obtain ⟨t, ht⟩ := hp
    simp only [List.cons_append] at ht
    have h1 := (List.cons.inj ht).1
    have h2 := (List.cons.inj ht).2
    subst h1
    rw [pre_eq b b' rest (fun q => h (.tail _ q)) (fun q => h' (.tail _ q)) ⟨t, h2⟩]
theorem Ln.pre {l l' rest : List Nat} (h : Ln l) (h' : Ln l') (hp : l <+: l' ++ rest) : l = l' := by
  obtain ⟨c, b, rfl, h1, h2, h3, h4⟩ := h.is
  obtain ⟨c', b', rfl, h1', h2', h3', h4'⟩ := h'.is
  have := pre_eq (c :: 58 :: b) (c' :: 58 :: b') rest (by simp; exact ⟨fun q => h2 q.symm, h4⟩) (by simp; exact ⟨fun q => h2' q.symm, h4'⟩) (by simpa using hp)
  simp at this
  rw [this.1, this.2]
theorem Ln.len {l : List Nat} (h : Ln l) : 4 ≤ l.length := by
  obtain ⟨c, b, rfl, _⟩ := h.is
  simp
/-- inside a line no line begins -/
theorem Ln.skip {l l' rest : List Nat} (h : Ln l) (h' : Ln l') (hr : rest.head? ≠ some 58) {k : Nat} (hk : k + 1 < l'.length) : ¬ l <+: (l' ++ rest).drop (k + 1) := by
  intro hp
  obtain ⟨c, b, rfl, h1, h2, h3, h4⟩ := h.is
  obtain ⟨c', b', rfl, h1', h2', h3', h4'⟩ := h'.is
  obtain ⟨u, hu⟩ := hp
  have e1 : (((c' :: 58 :: (b' ++ [13, 10])) ++ rest).drop (k + 1))[1]? = some 58 := by rw [← hu]; rfl
  rw [List.getElem?_drop] at e1
  by_cases hk2 : k + 1 + 1 < (c' :: 58 :: (b' ++ [13, 10])).length
  · rw [List.getElem?_append_left hk2] at e1
    have e2 : (b' ++ [13, 10])[k]? = some 58 := by simpa using e1
    rcases List.mem_append.mp (List.mem_of_getElem? e2) with q | q
    · exact h3' q
    · simp at q
  · rw [List.getElem?_append_right (by omega)] at e1
    have : k + 1 + 1 - (c' :: 58 :: (b' ++ [13, 10])).length = 0 := by omega
    rw [this] at e1
    exact hr (by rw [List.head?_eq_getElem?]; exact e1)
theorem run_ln {got : Str} {t : List Nat} (ht : t.head? ≠ some 58 ∧ t.length < 4) : ∀ (m w : List (List Nat)) (a : Nat), (∀ l ∈ m, Ln l) → (∀ l ∈ w, Ln l) → a ≤ got.length → got.cps.toList.drop a = m.flatten ++ t →
    ellRun got got.length (w.map toS ++ [toS []]) a = subL m w
  | m, [], a, _, _, ha, _ => by
    show ellRun got got.length [toS []] a = _
    rw [ellRun_cons, find_empty (by simp [toS]) ha, if_neg (by simp)]
    cases m <;> rfl
  | [], c :: w, a, _, hw, ha, hd => by
    show ellRun got got.length (toS c :: _) a = _
    have hc := hw c (.head _)
    have hl : (toS c).cps.toList = c := by simp [toS]
    rw [ellRun_cons, find_none (by rw [← len_list, hl]; have := hc.len; omega) ha (fun k h => ?_)]
    · rfl
    · rw [← List.drop_drop, hd, hl] at h
      have h1 := h.length_le
      have h2 := hc.len
      simp at h1
      omega
  | d :: m, c :: w, a, hm, hw, ha, hd => by
    show ellRun got got.length (toS c :: _) a = _
    have hc := hw c (.head _)
    have hdl := hm d (.head _)
    have hl : (toS c).cps.toList = c := by simp [toS]
    have hn : (toS c).length = c.length := by rw [← len_list, hl]
    have hc4 := hc.len
    have hd4 := hdl.len
    have hd' : got.cps.toList.drop a = d ++ (m.flatten ++ t) := by rw [hd, List.flatten_cons, List.append_assoc]
    have hend : a + d.length ≤ got.length := by
      have := congrArg List.length hd'
      rw [List.length_drop, len_list, List.length_append] at this
      omega
    have hnext : got.cps.toList.drop (a + d.length) = m.flatten ++ t := by
      rw [← List.drop_drop, hd']
      exact List.drop_left' rfl
    by_cases h : d = c
    · subst h
      rw [ellRun_cons, find_hit (by rw [hn]; omega) ha (by rw [hl, hd']; exact ⟨_, rfl⟩), if_neg (by simp), hn]
      have ih := run_ln ht m w (a + d.length) (fun c hc => hm c (.tail _ hc)) (fun c hc => hw c (.tail _ hc)) hend hnext
      rw [subL, if_pos rfl, ← ih]
      congr 1
    · have hskip : findAt got (toS c) a = findAt got (toS c) (a + d.length) := by
        refine find_skip (by rw [hn]; omega) hend fun k hk hp => ?_
        rw [← List.drop_drop, hd', hl] at hp
        cases k with
        | zero => exact h (hc.pre hdl (by simpa using hp)).symm
        | succ k =>
          refine hc.skip hdl ?_ hk hp
          cases m with
          | nil => simpa using ht.1
          | cons e m =>
            obtain ⟨c', b', he, h1', _⟩ := (hm e (.tail _ (.head _))).is
            rw [List.flatten_cons, he]
            simp
            exact h1'
      have ih := run_ln ht m (c :: w) (a + d.length) (fun c hc => hm c (.tail _ hc)) hw hend hnext
      rw [subL, if_neg h, ← ih]
      show _ = ellRun got got.length (toS c :: _) _
      rw [ellRun_cons, ellRun_cons, hskip]
end Mine
set_option maxHeartbeats 8000000
namespace Mine
open PySem.StrLaws

/-! ## pages as lists of signs -/
noncomputable def lnOf (p : Str × Str) : List Nat := p.1.cps.toList ++ (58 :: 32 :: (p.2.cps.toList ++ [13, 10]))
theorem lineOf_list (p : Str × Str) : (lineOf p).cps.toList = p.1.cps.toList ++ (58 :: 32 :: p.2.cps.toList) := by
  unfold lineOf
  simp only [Str.cps_append, Array.toList_append]
  have : (Str.ofString ": ").cps.toList = [58, 32] := by decide +kernel
  rw [this]; simp
theorem join_rows : ∀ l : List (Str × Str), (Str.join (Str.ofString "\r\n") (l.map lineOf ++ [Str.ofString "", Str.ofString ""])).cps.toList = (l.map lnOf).flatten ++ [13, 10]
  | [] => by
    show (Str.join (Str.ofString "\r\n") [Str.ofString "", Str.ofString ""]).cps.toList = [13, 10]
    decide +kernel
  | c :: l => by
    have ih := join_rows l
    have hne : ∃ q r, l.map lineOf ++ [Str.ofString "", Str.ofString ""] = q :: r := by
      cases l with
      | nil => exact ⟨_, _, rfl⟩
      | cons d l => exact ⟨_, _, rfl⟩
    obtain ⟨q, r, e⟩ := hne
    have e2 : (c :: l).map lineOf ++ [Str.ofString "", Str.ofString ""] = lineOf c :: q :: r := by
      rw [← e]; rfl
    rw [e] at ih
    rw [e2]
    show (lineOf c ++ Str.ofString "\r\n" ++ Str.join (Str.ofString "\r\n") (q :: r)).cps.toList = _
    simp only [Str.cps_append, Array.toList_append]
    rw [ih, List.map_cons, List.flatten_cons, lineOf_list]
    have e4 : (Str.ofString "\r\n").cps.toList = [13, 10] := by decide +kernel
    rw [e4]
    simp [lnOf]
theorem page_list (rows : List (Str × Str)) : (pageOf rows).cps.toList = (rows.map lnOf).flatten ++ [13, 10] := by
  unfold pageOf linesOf
  rw [show ∀ l, Txt.join (Str.ofString "\r\n") l = Str.join (Str.ofString "\r\n") l from fun l => StrLaws.glued_eq_join _ _]
  exact join_rows rows
theorem line_list (p : Str × Str) : (lineSl p).cps.toList = lnOf p := by
  have hp : (pageOf [p]).cps.toList = lnOf p ++ [13, 10] := by
    rw [page_list]; simp
  have hn : (pageOf [p]).length = (lnOf p).length + 2 := by rw [← len_list, hp]; simp
  unfold lineSl
  have h1 := slice_closes_to_neg (x := pageOf [p]) (j := -2) (k := -2 + (pageOf [p]).length) (by decide) (by omega) rfl
  rw [eq_of_beq h1, hp, hn]
  have e : (-2 + (((lnOf p).length + 2 : Nat) : Int) - 0).toNat = (lnOf p).length := by omega
  rw [e]
  simp
theorem glue_join : ∀ l : List (Str × Str), (Str.join dots (l.map lineSl)).cps.toList = glue [46, 46, 46] (l.map lnOf)
  | [] => rfl
  | [c] => line_list c
  | c :: d :: l => by
    have ih := glue_join (d :: l)
    show (lineSl c ++ dots ++ Str.join dots ((d :: l).map lineSl)).cps.toList = _
    simp only [Str.cps_append, Array.toList_append]
    rw [ih, line_list, show dots.cps.toList = [46, 46, 46] by decide +kernel]
    simp [glue]
theorem glue_ends (y : List Nat) : ∀ (p : List Nat) (ps : List (List Nat)), glue y ((p :: ps) ++ [[]]) = glue y (p :: ps) ++ y
  | p, [] => by simp [glue]
  | p, q :: ps => by
    have ih := glue_ends y q ps
    show p ++ (y ++ glue y ((q :: ps) ++ [[]])) = p ++ (y ++ glue y (q :: ps)) ++ y
    rw [ih]; simp
theorem glue_len (y : List Nat) {B : Nat} : ∀ ps : List (List Nat), (∀ p ∈ ps, p.length ≤ B) → (glue y ps).length ≤ (B + y.length) * ps.length
  | [], _ => by simp [glue]
  | [p], h => by have := h p (.head _); simp [glue]; omega
  | p :: q :: r, h => by
    have ih := glue_len y (q :: r) fun x hx => h x (.tail _ hx)
    have h1 := h p (.head _)
    show (p ++ (y ++ glue y (q :: r))).length ≤ _
    rw [List.length_append, List.length_append, List.length_cons, Nat.mul_add]
    omega

/-- a row that is safe to look for -/
structure GdRow (p : Str × Str) : Prop where
  is : ∃ c, p.1 = ⟨#[c]⟩ ∧ c ≠ 58 ∧ c ≠ 13 ∧ c ≠ 46
  v : 58 ∉ p.2.cps.toList ∧ 13 ∉ p.2.cps.toList ∧ 46 ∉ p.2.cps.toList ∧ p.2.length ≤ 90
theorem GdRow.ln {p : Str × Str} (h : GdRow p) : Ln (lnOf p) := by
  obtain ⟨c, e, h1, h2, h3⟩ := h.is
  refine ⟨c, 32 :: p.2.cps.toList, ?_, h1, h2, ?_, ?_⟩
  · unfold lnOf; rw [e]; rfl
  · have := h.v.1
    simp only [List.mem_cons, not_or]; exact ⟨by decide, this⟩
  · have := h.v.2.1
    simp only [List.mem_cons, not_or]; exact ⟨by decide, this⟩
theorem GdRow.len {p : Str × Str} (h : GdRow p) : (lnOf p).length ≤ 95 := by
  obtain ⟨c, e, h1, h2, h3⟩ := h.is
  have := h.v.2.2.2
  unfold lnOf
  rw [e]
  simp
  exact this
theorem GdRow.free {p : Str × Str} (h : GdRow p) : 46 ∉ lnOf p := by
  obtain ⟨c, e, h1, h2, h3⟩ := h.is
  have := h.v.2.2.1
  unfold lnOf
  rw [e]
  intro q
  simp at q
  rcases q with q | q
  · exact h3 q.symm
  · exact this (by simpa using q)

theorem want_list {rows : List (Str × Str)} {w : List Int × List Int} (hne : w.2 ≠ []) : (wantFor rows w).cps.toList = glue [46, 46, 46] ([] :: ((w.2.map fun k => lnOf (rowAt rows k)) ++ [[]])) := by
  unfold wantFor joinFor
  rw [show ∀ l, Txt.join dots l = Str.join dots l from fun l => glued_eq_join _ _]
  simp only [Str.cps_append, Array.toList_append]
  have e1 : (w.2.map fun k => lineSl (rowAt rows k)) = (w.2.map (rowAt rows)).map lineSl := by rw [List.map_map]; rfl
  have e2 : (w.2.map fun k => lnOf (rowAt rows k)) = (w.2.map (rowAt rows)).map lnOf := by rw [List.map_map]; rfl
  rw [e1, glue_join, e2, show dots.cps.toList = [46, 46, 46] by decide +kernel]
  obtain ⟨c, l, e⟩ := List.exists_cons_of_ne_nil hne
  rw [e]
  have := glue_ends [46, 46, 46] (lnOf (rowAt rows c)) ((l.map (rowAt rows)).map lnOf)
  show _ = [] ++ ([46, 46, 46] ++ glue [46, 46, 46] ((lnOf (rowAt rows c) :: (l.map (rowAt rows)).map lnOf) ++ [[]]))
  rw [this]; simp

theorem toS_list (x : Str) : toS x.cps.toList = x := by
  apply Str.ext'
  apply Array.toList_inj.mp
  simp [toS]

theorem want_ok {rows : List (Str × Str)} {w : List Int × List Int} (hne : w.2 ≠ []) (hl : w.2.length ≤ 16) (hg : ∀ k ∈ w.2, GdRow (rowAt rows k)) :
    (Txt.split (wantFor rows w) dots = toS [] :: ((w.2.map fun k => lnOf (rowAt rows k)).map toS ++ [toS []])) ∧ Txt.contains (wantFor rows w) dots = true ∧ ElOk (wantFor rows w) := by
  have hq : ∀ q ∈ [] :: ((w.2.map fun k => lnOf (rowAt rows k)) ++ [[]]), 46 ∉ q ∧ q.length ≤ 95 := fun q hq => by
    rcases List.mem_cons.mp hq with rfl | hq
    · simp
    rcases List.mem_append.mp hq with hq | hq
    · obtain ⟨k, hk, rfl⟩ := List.mem_map.mp hq
      exact ⟨(hg k hk).free, (hg k hk).len⟩
    · rw [List.mem_singleton.mp hq]; simp
  have hs := split_glue (qs := [] :: ((w.2.map fun k => lnOf (rowAt rows k)) ++ [[]])) (by simp) (fun q h => (hq q h).1)
  rw [← want_list hne, toS_list] at hs
  have h1 : Txt.split (wantFor rows w) dots = toS [] :: ((w.2.map fun k => lnOf (rowAt rows k)).map toS ++ [toS []]) := by
    rw [hs.1]; simp
  refine ⟨h1, hs.2.2, ?_, ?_, ?_, ?_⟩
  · rw [hs.1]; simp
  · rw [hs.1]; simp; omega
  · rw [hs.2.1, sizeLine_eq]; simp; omega
  · intro p hp
    rw [hs.1] at hp
    obtain ⟨q, h, rfl⟩ := List.mem_map.mp hp
    have := (hq q h).2
    rw [← len_list]
    simp [toS]; omega

theorem ell_fits {rows : List (Str × Str)} {w o : List Int × List Int} (hne : w.2 ≠ []) (hl : w.2.length ≤ 16) (hg : ∀ k ∈ w.2, GdRow (rowAt rows k)) (ho : ∀ k ∈ o.1, GdRow (rowAt rows k)) :
    ellOf (wantFor rows w) (pageFor rows o) = subL (o.1.map fun k => lnOf (rowAt rows k)) (w.2.map fun k => lnOf (rowAt rows k)) := by
  obtain ⟨h1, h2, _⟩ := want_ok hne hl hg
  rw [ell_all trivial h1 h2]
  refine run_ln (t := [13, 10]) (by decide) _ _ 0 ?_ ?_ (Nat.zero_le _) ?_
  · intro l h
    obtain ⟨k, hk, rfl⟩ := List.mem_map.mp h
    exact (ho k hk).ln
  · intro l h
    obtain ⟨k, hk, rfl⟩ := List.mem_map.mp h
    exact (hg k hk).ln
  · rw [List.drop_zero]
    unfold pageFor
    rw [page_list, List.map_map]
    rfl

/-- rows that differ: the walk through the figures -/
theorem within_sub {L : Int → List Nat} {D : Int → Prop} (hL : ∀ a b, D a → D b → L a = L b → a = b) (part : List Int) (hp : ∀ k ∈ part, D k) : ∀ (whole : List Int) (a : Nat), (∀ k ∈ whole, D k) → a ≤ part.length →
    (withinAt part whole a == part.length) = subL (whole.map L) ((part.drop a).map L)
  | [], a, _, ha => by
    unfold withinAt
    by_cases h : a = part.length
    · subst h; simp [subL]
    · obtain ⟨c, l, e⟩ := List.exists_cons_of_ne_nil (l := part.drop a) (fun q => by have := congrArg List.length q; simp at this; omega)
      rw [e]
      simp [subL, h]
  | f :: r, a, hw, ha => by
    have hf := hw f (.head _)
    have hr := fun k hk => hw k (.tail _ hk)
    unfold withinAt
    by_cases h : a = part.length
    · subst h
      rw [if_neg (by simp)]
      have := within_sub hL part hp r part.length hr (Nat.le_refl _)
      rw [this]
      simp only [List.drop_length, List.map_nil]
      cases r <;> simp [subL]
    · have hlt : a < part.length := by omega
      have e : part.drop a = part[a] :: part.drop (a + 1) := List.drop_eq_getElem_cons hlt
      have hpa := hp _ (List.getElem_mem hlt)
      rw [e, List.map_cons, List.map_cons, subL]
      by_cases hb : part[a] = f
      · rw [if_pos (by rw [List.getElem?_eq_getElem hlt, hb]), if_pos (by rw [hb])]
        exact within_sub hL part hp r (a + 1) hr hlt
      · rw [if_neg (by rw [List.getElem?_eq_getElem hlt]; simpa using hb), if_neg (fun q => hb (hL _ _ hf hpa q).symm)]
        have := within_sub hL part hp r a hr ha
        rw [this, e, List.map_cons]
end Mine
set_option maxHeartbeats 8000000
namespace Mine
open PySem.StrLaws
noncomputable def okN : List Nat := [65, 97]
noncomputable def okV : List Nat := [35, 38, 48, 49, 50, 51, 52, 57, 59, 62, 65, 68, 97, 103, 108, 109, 111, 112, 113, 116, 117, 120]
theorem noset_name : ∀ c ∈ okN, NoSet nameCode c := by
  intro c hc
  simp only [okN, List.mem_cons, List.not_mem_nil, or_false] at hc
  rcases hc with rfl | rfl
  all_goals exact fun seen => ⟨_, rfl⟩
theorem noset_value : ∀ c ∈ okV, NoSet valueCode c := by
  intro c hc
  simp only [okV, List.mem_cons, List.not_mem_nil, or_false] at hc
  rcases hc with rfl | rfl | rfl | rfl | rfl | rfl | rfl | rfl | rfl | rfl | rfl | rfl | rfl | rfl | rfl | rfl | rfl | rfl | rfl | rfl | rfl | rfl
  all_goals exact fun seen => ⟨_, rfl⟩

/-! ## the values of law 2 -/
noncomputable def sgn (k : Nat) : Str := Txt.item stock k
noncomputable def valP (par : Bool) (k : Nat) : Str := if par = true then escUpto 7 (sgn k) else c14Upto 6 (sgn k)
theorem val_tab : ∀ (par : Bool) (k : Fin 9), (valP par k.val).length ≤ 90 ∧ ∀ c ∈ (valP par k.val).cps.toList, c ∈ okV ∧ c ≠ 58 ∧ c ≠ 13 ∧ c ≠ 46 := by decide +kernel
theorem val_ne : ∀ (par : Bool) (k l : Fin 9), k ≠ l → (valP par k.val).cps.toList ≠ (valP par l.val).cps.toList := by decide +kernel
theorem esc_tab : ∀ (k : Fin 9) (j : Fin 8), (escUpto j.val (sgn k.val)).length ≤ 65535 ∧ (c14Upto j.val (sgn k.val)).length ≤ 65535 := by decide +kernel
theorem sign_is (i : Int) : ∃ k : Fin 9, signAt i = sgn k.val ∧ (k.val : Int) = i.fmod 9 := by
  have h := fmod_in i (m := 9) (by decide)
  refine ⟨⟨(i.fmod 9).toNat, by omega⟩, ?_, ?_⟩
  · unfold signAt sgn
    congr 1
    show _ = (((i.fmod 9).toNat : Nat) : Int)
    omega
  · show (((i.fmod 9).toNat : Nat) : Int) = _
    omega
theorem written_val {i : Int} {k : Fin 9} (h : signAt i = sgn k.val) (total : Int) : writtenOf (signAt i) total = valP (total.fmod 2 != 0) k.val := by
  unfold writtenOf valP
  rw [h]
theorem sign_lens : (∀ i k, k ≤ 7 → (escUpto k (signAt i)).length ≤ 65535) ∧ ∀ i k, k ≤ 6 → (c14Upto k (signAt i)).length ≤ 65535 := by
  constructor
  · intro i k hk
    obtain ⟨j, e, _⟩ := sign_is i
    rw [e]
    exact (esc_tab j ⟨k, by omega⟩).1
  · intro i k hk
    obtain ⟨j, e, _⟩ := sign_is i
    rw [e]
    exact (esc_tab j ⟨k, by omega⟩).2
theorem rows_vals (total : Int) : ∃ (par : Bool) (k l : Fin 9), k ≠ l ∧ rowsL total = [(Str.ofString "a", valP par k.val), (Str.ofString "A", valP par k.val), (Str.ofString "a", valP par l.val)] := by
  obtain ⟨k, e1, h1⟩ := sign_is total
  obtain ⟨l, e2, h2⟩ := sign_is (total + 1 + (total.fdiv 9).fmod 8)
  refine ⟨total.fmod 2 != 0, k, l, ?_, ?_⟩
  · intro q
    have h3 : (k.val : Int) = l.val := by rw [q]
    have h4 := fmod_in (total.fdiv 9) (m := 8) (by decide)
    rw [h1, h2, Int.fmod_eq_emod_of_nonneg _ (by decide), Int.fmod_eq_emod_of_nonneg _ (by decide)] at h3
    omega
  · unfold rowsL oneOf otherOf
    rw [written_val e1, written_val e2]
theorem gd_val (n : Str) (hn : n = Str.ofString "a" ∨ n = Str.ofString "A") (par : Bool) (k : Fin 9) : GdRow (n, valP par k.val) ∧ okName n ∧ okVal (valP par k.val) ∧ n.length ≤ 100 ∧ (valP par k.val).length ≤ 100 := by
  have h := val_tab par k
  have hc : ∃ c, n = ⟨#[c]⟩ ∧ (c = 97 ∨ c = 65) := by
    rcases hn with rfl | rfl
    · exact ⟨97, by decide +kernel, .inl rfl⟩
    · exact ⟨65, by decide +kernel, .inr rfl⟩
  obtain ⟨c, e, hc⟩ := hc
  refine ⟨⟨⟨c, e, by omega, by omega, by omega⟩, fun q => (h.2 _ q).2.1 rfl, fun q => (h.2 _ q).2.2.1 rfl, fun q => (h.2 _ q).2.2.2 rfl, h.1⟩, ?_, ?_, ?_, by omega⟩
  · intro d hd
    rw [e] at hd
    have : d = c := by simpa using hd
    rw [this]
    refine noset_name c ?_
    rcases hc with rfl | rfl <;> decide
  · exact fun d hd => noset_value d (h.2 d (by simpa using hd)).1
  · rw [e]; exact (by decide : (1 : Nat) ≤ 100)
theorem rowsL_gd (total : Int) : (rowsL total).length = 3 ∧ ∀ p ∈ rowsL total, GdRow p ∧ okName p.1 ∧ okVal p.2 ∧ p.1.length ≤ 100 ∧ p.2.length ≤ 100 := by
  obtain ⟨par, k, l, _, e⟩ := rows_vals total
  rw [e]
  refine ⟨rfl, fun p hp => ?_⟩
  simp only [List.mem_cons, List.not_mem_nil, or_false] at hp
  rcases hp with rfl | rfl | rfl
  · exact gd_val _ (.inl rfl) par k
  · exact gd_val _ (.inr rfl) par k
  · exact gd_val _ (.inl rfl) par l
noncomputable def Fig (k : Int) : Prop := 0 ≤ k ∧ k < 3
theorem rowAt_gd (total : Int) {k : Int} (hk : Fig k) : GdRow (rowAt (rowsL total) k) := ((rowsL_gd total).2 _ (rowAt_mem (rowsL_gd total).1 hk).1).1
theorem ln_inj {p q : Str × Str} (h : lnOf p = lnOf q) (h1 : p.1.length = 1) (h2 : q.1.length = 1) : p.1 = q.1 ∧ p.2.cps.toList = q.2.cps.toList := by
  unfold lnOf at h
  have e1 : p.1.cps.toList.length = q.1.cps.toList.length := by rw [len_list, len_list, h1, h2]
  obtain ⟨a, b⟩ := List.append_inj h e1
  refine ⟨Str.ext' (Array.toList_inj.mp a), ?_⟩
  simp at b
  simpa using b
theorem rowAt_inj (total : Int) (a b : Int) (ha : Fig a) (hb : Fig b) (h : lnOf (rowAt (rowsL total) a) = lnOf (rowAt (rowsL total) b)) : a = b := by
  obtain ⟨par, k, l, hkl, e⟩ := rows_vals total
  have h1 : ∀ c, Fig c → (rowAt (rowsL total) c).1.length = 1 := fun c hc => by
    obtain ⟨d, e, _⟩ := (rowAt_gd total hc).is
    rw [e]; rfl
  obtain ⟨q1, q2⟩ := ln_inj h (h1 a ha) (h1 b hb)
  have ca : a = 0 ∨ a = 1 ∨ a = 2 := by unfold Fig at ha; omega
  have cb : b = 0 ∨ b = 1 ∨ b = 2 := by unfold Fig at hb; omega
  have hA : ¬ (Str.ofString "a" = Str.ofString "A") := by decide +kernel
  have hv := val_ne par k l hkl
  rw [e] at q1 q2
  rcases ca with rfl | rfl | rfl <;> rcases cb with rfl | rfl | rfl
  · rfl
  · exact absurd q1 hA
  · exact absurd q2 hv
  · exact absurd q1.symm hA
  · rfl
  · exact absurd q1.symm hA
  · exact absurd q2.symm hv
  · exact absurd q1 hA
  · rfl

theorem pageFig_ok (k : Int) : (pageFig k).length = 4 ∧ ∀ x ∈ pageFig k, Fig x := by
  refine ⟨by simp [pageFig], fun x hx => ?_⟩
  obtain ⟨p, _, rfl⟩ := List.mem_map.mp hx
  exact fmod_in _ (by decide)
theorem wantFig_ok (k : Int) : (wantFig k).length = 2 ∧ ∀ x ∈ wantFig k, Fig x := by
  refine ⟨rfl, fun x hx => ?_⟩
  simp only [wantFig, List.mem_cons, List.not_mem_nil, or_false] at hx
  rcases hx with rfl | rfl <;> exact fmod_in _ (by decide)

/-- words as they come -/
structure WdOk (words : List (List Int × List Int)) : Prop where
  len : words.length = 5
  ok : ∀ w ∈ words, w.1.length = 4 ∧ w.2.length = 2 ∧ (∀ k ∈ w.1, Fig k) ∧ ∀ k ∈ w.2, Fig k
theorem wordsOf_ok (ns : List Int) : WdOk (wordsOf ns) := by
  refine ⟨?_, fun w hw => ?_⟩
  · unfold wordsOf numsOf drawnOf
    simp only [List.length_map, List.length_append, List.length_drop, List.length_take, List.length_cons, List.length_nil]
    omega
  · obtain ⟨k, _, rfl⟩ := List.mem_map.mp hw
    exact ⟨(pageFig_ok k).1, (wantFig_ok k).1, (pageFig_ok k).2, (wantFig_ok k).2⟩

theorem fits_within (total : Int) {w o : List Int × List Int} (h2 : w.2.length = 2) (hw : ∀ k ∈ w.2, Fig k) (ho : ∀ k ∈ o.1, Fig k) : ellOf (wantFor (rowsL total) w) (pageFor (rowsL total) o) = within w.2 o.1 := by
  rw [ell_fits (fun q => by rw [q] at h2; cases h2) (by omega) (fun k hk => rowAt_gd total (hw k hk)) (fun k hk => rowAt_gd total (ho k hk))]
  unfold within
  have := within_sub (L := fun k => lnOf (rowAt (rowsL total) k)) (D := Fig) (fun a b ha hb h => rowAt_inj total a b ha hb h) w.2 hw o.1 0 ho (Nat.zero_le _)
  rw [List.drop_zero] at this
  rw [this]

theorem ellT_fit (total : Int) {words : List (List Int × List Int)} (h : WdOk words) {i j : Nat} (hi : i < 5) (hj : j < 5) : ellT (rowsL total) words i j = fit words i j := by
  have hi' : i < words.length := by rw [h.len]; exact hi
  have hj' : j < words.length := by rw [h.len]; exact hj
  have e1 : (words.map (wantFor (rowsL total))).getD i (Str.ofString "") = wantFor (rowsL total) words[i] := by
    rw [List.getD_eq_getElem?_getD, List.getElem?_map, List.getElem?_eq_getElem hi']; rfl
  have e2 : (words.map (pageFor (rowsL total))).getD j (Str.ofString "") = pageFor (rowsL total) words[j] := by
    rw [List.getD_eq_getElem?_getD, List.getElem?_map, List.getElem?_eq_getElem hj']; rfl
  have e3 : fit words i j = within words[i].2 words[j].1 := by
    unfold fit
    rw [List.getElem?_map, List.getElem?_eq_getElem hi']
    show ((fitRow words words[i])[j]?).getD false = _
    unfold fitRow
    rw [List.getElem?_map, List.getElem?_eq_getElem hj']; rfl
  have hA := h.ok _ (List.getElem_mem hi')
  have hB := h.ok _ (List.getElem_mem hj')
  unfold ellT
  rw [e1, e2, e3, fits_within total hA.2.1 hA.2.2.2 hB.2.2.1]

theorem num_tab : ∀ k : Fin 5, (numStr k.val).length ≤ 65535 ∧ ∀ c ∈ (numStr k.val).cps.toList, c ∈ okV := by decide +kernel
noncomputable def okL : List Nat := [112, 113, 114, 115, 116, 117, 118, 119, 120, 121, 80, 81, 82, 83, 84, 85, 86, 87, 88, 89]
theorem noset_letter : ∀ c ∈ okL, NoSet nameCode c := by
  intro c hc
  simp only [okL, List.mem_cons, List.not_mem_nil, or_false] at hc
  rcases hc with rfl | rfl | rfl | rfl | rfl | rfl | rfl | rfl | rfl | rfl | rfl | rfl | rfl | rfl | rfl | rfl | rfl | rfl | rfl | rfl
  all_goals exact fun seen => ⟨_, rfl⟩
theorem nm_tab : ∀ i j : Fin 5, (∀ c ∈ (nmT i.val j.val).cps, c ∈ okL) ∧ ∀ c ∈ (nmU i.val j.val).cps, c ∈ okL := by decide +kernel

theorem tb_ok (total : Int) {words : List (List Int × List Int)} (h : WdOk words) : TbOk (rowsL total) words where
  len := (rowsL_gd total).1
  wid := fun p hp => ((rowsL_gd total).2 p hp).2.2.2
  ok := fun p hp => ⟨((rowsL_gd total).2 p hp).2.1, ((rowsL_gd total).2 p hp).2.2.1⟩
  wl := h.len
  wp := fun w hw => by have := h.ok w hw; omega
  w1 := fun w hw => (h.ok w hw).2.2.1
  w2 := fun w hw => (h.ok w hw).2.2.2
  jo := fun w hw => by
    have hw2 := h.ok w hw
    refine joinOk_of ?_
    have hlen : ∀ l : List Int, (∀ k ∈ l, Fig k) → ((l.map fun k => lineSl (rowAt (rowsL total) k)).map (·.length)).sum ≤ 95 * l.length := by
      intro l
      induction l with
      | nil => simp
      | cons k l ih =>
        intro hk
        have h1 := ih fun x hx => hk x (.tail _ hx)
        have h2 := (rowAt_gd total (hk k (.head _))).len
        rw [← line_list, len_list] at h2
        simp only [List.map_cons, List.sum_cons, List.length_cons]
        omega
    have := hlen w.2 hw2.2.2.2
    have h3 : dots.length = 3 := by decide +kernel
    rw [List.length_map, h3]; omega
  jl := fun w hw => by
    have hw2 := h.ok w hw
    unfold joinFor
    rw [show ∀ l, Txt.join dots l = Str.join dots l from fun l => glued_eq_join _ _]
    have e1 : (w.2.map fun k => lineSl (rowAt (rowsL total) k)) = (w.2.map (rowAt (rowsL total))).map lineSl := by rw [List.map_map]; rfl
    rw [e1, ← len_list, glue_join]
    have := glue_len [46, 46, 46] (B := 95) ((w.2.map (rowAt (rowsL total))).map lnOf) (fun p hp => by
      obtain ⟨q, hq, rfl⟩ := List.mem_map.mp hp
      obtain ⟨k, hk, rfl⟩ := List.mem_map.mp hq
      exact (rowAt_gd total (hw2.2.2.2 k hk)).len)
    simp only [List.length_map, List.length_cons, List.length_nil] at this
    omega
  el := fun w hw => by
    have hw2 := h.ok w hw
    exact (want_ok (fun q => by rw [q] at hw2; simp at hw2) (by omega) (fun k hk => rowAt_gd total (hw2.2.2.2 k hk))).2.2
  nt := fun i j hi hj c hc => noset_letter c ((nm_tab ⟨i, hi⟩ ⟨j, hj⟩).1 c hc)
  nu := fun i j hi hj c hc => noset_letter c ((nm_tab ⟨i, hi⟩ ⟨j, hj⟩).2 c hc)
  num := fun k hk => by
    have := num_tab ⟨k, hk⟩
    exact ⟨fun c hc => noset_value c (this.2 c (by simpa using hc)), this.1⟩
end Mine
set_option maxHeartbeats 8000000
namespace Mine
open PySem.StrLaws

/-! ## the two tables as lists -/
noncomputable def rowT1 (el : Nat → Nat → Bool) (i : Nat) : List (Str × Nat) := ((List.range 5).filter (el i)).map fun j => (nmT i j, j)
noncomputable def rowT2 (el : Nat → Nat → Bool) (i : Nat) : List (Str × Nat) := ((List.range 5).filter (el i)).map fun j => (nmU i j, i)
theorem turn_fold (el : Nat → Nat → Bool) (i : Nat) : ∀ (J : List Nat) (acc : Two), J.foldl (turnTb el i) acc = (acc.1 ++ (J.filter (el i)).map (fun j => (nmT i j, j)), acc.2 ++ (J.filter (el i)).map (fun j => (nmU i j, i)))
  | [], acc => by simp
  | j :: J, acc => by
    rw [List.foldl_cons, turn_fold el i J]
    unfold turnTb
    by_cases h : el i j = true
    · rw [if_pos h, List.filter_cons_of_pos h]; simp
    · rw [if_neg h, List.filter_cons_of_neg h]
theorem row_fold (el : Nat → Nat → Bool) : ∀ (L : List Nat) (acc : Two), L.foldl (rowTb el) acc = (acc.1 ++ L.flatMap (rowT1 el), acc.2 ++ L.flatMap (rowT2 el))
  | [], acc => by simp
  | i :: L, acc => by
    rw [List.foldl_cons, row_fold el L]
    unfold rowTb
    rw [turn_fold]
    simp only [List.flatMap_cons, rowT1, rowT2, List.append_assoc]
theorem tab_is (el : Nat → Nat → Bool) : tabTb el = ((List.range 5).flatMap (rowT1 el), (List.range 5).flatMap (rowT2 el)) := by
  unfold tabTb
  rw [row_fold]
  simp

theorem low_T : ∀ i i' j : Fin 5, ((Txt.lower (nmT i'.val j.val)).cps.toList == (Txt.lower (⟨#[112 + i.val]⟩ : Str)).cps.toList) = decide (i' = i) := by decide +kernel
theorem low_U : ∀ j j' i' : Fin 5, ((Txt.lower (nmU i'.val j'.val)).cps.toList == (Txt.lower (⟨#[117 + j.val]⟩ : Str)).cps.toList) = decide (j' = j) := by decide +kernel

theorem flat_one {α : Type} (f : Nat → List α) {i : Nat} (hi : i < 5) : (List.range 5).flatMap (fun k => if k = i then f k else []) = f i := by
  have := lt5 hi
  rcases this with rfl | rfl | rfl | rfl | rfl <;> simp [List.range_succ]
theorem filt_one (p : Nat → Bool) {j : Nat} (hj : j < 5) : ((List.range 5).filter p).filter (fun k => decide (k = j)) = if p j = true then [j] else [] := by
  rw [List.filter_filter]
  have := lt5 hj
  rcases this with rfl | rfl | rfl | rfl | rfl <;> simp [List.range_succ, List.filter_cons]
theorem flat_if {α : Type} (p : Nat → Bool) (g : Nat → α) : ∀ l : List Nat, l.flatMap (fun k => if p k = true then [g k] else []) = (l.filter p).map g
  | [] => rfl
  | k :: l => by
    rw [List.flatMap_cons, flat_if p g l]
    by_cases h : p k = true
    · rw [if_pos h, List.filter_cons_of_pos h]; rfl
    · rw [if_neg h, List.filter_cons_of_neg h]; rfl

theorem flatMap_congr' {α β : Type} {f g : α → List β} : ∀ {l : List α}, (∀ x ∈ l, f x = g x) → l.flatMap f = l.flatMap g
  | [], _ => rfl
  | x :: l, h => by rw [List.flatMap_cons, List.flatMap_cons, h x (.head _), flatMap_congr' fun y hy => h y (.tail _ hy)]

theorem pick_T (el : Nat → Nat → Bool) {i : Nat} (hi : i < 5) : pick (tabTb el).1 ⟨#[112 + i]⟩ = (List.range 5).filter (el i) := by
  rw [tab_is]
  unfold pick
  show (((List.range 5).flatMap (rowT1 el)).filter _).map _ = _
  rw [List.filter_flatMap]
  have e : (List.range 5).flatMap (fun a => (rowT1 el a).filter fun p => (Txt.lower p.1).cps.toList == (Txt.lower (⟨#[112 + i]⟩ : Str)).cps.toList) = (List.range 5).flatMap (fun a => if a = i then rowT1 el a else []) := by
    refine flatMap_congr' fun a ha => ?_
    have ha5 : a < 5 := by simpa using ha
    by_cases h : a = i
    · rw [if_pos h]
      refine List.filter_eq_self.mpr fun p hp => ?_
      obtain ⟨j, hj, rfl⟩ := List.mem_map.mp hp
      have hj5 : j < 5 := by simpa using (List.mem_filter.mp hj).1
      have := low_T ⟨i, hi⟩ ⟨a, ha5⟩ ⟨j, hj5⟩
      simp only at this ⊢
      rw [this]; simpa using h
    · rw [if_neg h]
      refine List.filter_eq_nil_iff.mpr fun p hp => ?_
      obtain ⟨j, hj, rfl⟩ := List.mem_map.mp hp
      have hj5 : j < 5 := by simpa using (List.mem_filter.mp hj).1
      have := low_T ⟨i, hi⟩ ⟨a, ha5⟩ ⟨j, hj5⟩
      simp only at this ⊢
      rw [this]; simpa using h
  rw [e, flat_one _ hi]
  unfold rowT1
  rw [List.map_map]
  exact List.map_id _
theorem pick_U (el : Nat → Nat → Bool) {j : Nat} (hj : j < 5) : pick (tabTb el).2 ⟨#[117 + j]⟩ = (List.range 5).filter (fun i => el i j) := by
  rw [tab_is]
  unfold pick
  show (((List.range 5).flatMap (rowT2 el)).filter _).map _ = _
  rw [List.filter_flatMap, List.map_flatMap]
  have e : (List.range 5).flatMap (fun a => ((rowT2 el a).filter fun p => (Txt.lower p.1).cps.toList == (Txt.lower (⟨#[117 + j]⟩ : Str)).cps.toList).map (·.2)) = (List.range 5).flatMap (fun a => if el a j = true then [a] else []) := by
    refine flatMap_congr' fun a ha => ?_
    have ha5 : a < 5 := by simpa using ha
    unfold rowT2
    rw [List.filter_map, List.map_map]
    have e2 : ((List.range 5).filter (el a)).filter ((fun p : Str × Nat => (Txt.lower p.1).cps.toList == (Txt.lower (⟨#[117 + j]⟩ : Str)).cps.toList) ∘ fun j' => (nmU a j', a)) = ((List.range 5).filter (el a)).filter (fun k => decide (k = j)) := by
      refine List.filter_congr fun k hk => ?_
      have hk5 : k < 5 := by simpa using (List.mem_filter.mp hk).1
      have := low_U ⟨j, hj⟩ ⟨k, hk5⟩ ⟨a, ha5⟩
      simp only [Function.comp] at this ⊢
      rw [this]
      simp
    rw [e2, filt_one _ hj]
    split <;> rfl
  rw [e, flat_if (fun a => el a j) (fun a => a)]
  exact List.map_id _

theorem sum_congr_range {f g : Nat → Bool} (h : ∀ j, j < 5 → f j = g j) : (List.range 5).filter f = (List.range 5).filter g := List.filter_congr fun j hj => h j (by simpa using hj)
theorem names_T : (Str.ofString "pqrst").cps.toList = (List.range 5).map (112 + ·) := by decide +kernel
theorem names_U : (Str.ofString "uvwxy").cps.toList = (List.range 5).map (117 + ·) := by decide +kernel
theorem sides_T {el : Nat → Nat → Bool} {words : List (List Int × List Int)} (h : ∀ i j, i < 5 → j < 5 → el i j = fit words i j) : sidesL (tabTb el).1 (Str.ofString "pqrst") = hereOf words := by
  unfold sidesL hereOf
  rw [names_T, List.map_map]
  refine List.map_congr_left fun i hi => ?_
  have hi5 : i < 5 := by simpa using hi
  show sideOf _ _ = _
  unfold sideOf
  rw [pick_T el hi5, sum_congr_range fun j hj => h i j hi5 hj]
theorem sides_U {el : Nat → Nat → Bool} {words : List (List Int × List Int)} (h : ∀ i j, i < 5 → j < 5 → el i j = fit words i j) : sidesL (tabTb el).2 (Str.ofString "uvwxy") = thereOf words := by
  unfold sidesL thereOf
  rw [names_U, List.map_map]
  refine List.map_congr_left fun j hj => ?_
  have hj5 : j < 5 := by simpa using hj
  show sideOf _ _ = _
  unfold sideOf
  rw [pick_U el hj5, sum_congr_range fun i hi => h i j hi hj5]

theorem fr_tab : ∀ i j : Fin 5, Builtin.Str.tooLong (Txt.lower (nmT i.val j.val)).length = false ∧ Builtin.Str.tooLong (Txt.lower (nmU i.val j.val)).length = false := by decide +kernel
theorem nmc_tab : ∀ i : Fin 5, (Builtin.Str.tooLong (Txt.lower (⟨#[112 + i.val]⟩ : Str)).length = false ∧ ∀ c ∈ (Txt.lower (⟨#[112 + i.val]⟩ : Str)).cps, c ∈ okL) ∧ (Builtin.Str.tooLong (Txt.lower (⟨#[117 + i.val]⟩ : Str)).length = false ∧ ∀ c ∈ (Txt.lower (⟨#[117 + i.val]⟩ : Str)).cps, c ∈ okL) := by decide +kernel
theorem flat_rows {f : Nat → List (Str × Nat)} (h : ∀ i, i < 5 → (f i).length ≤ 5) : ((List.range 5).flatMap f).length ≤ 60 := by
  have := h 0 (by decide)
  have := h 1 (by decide)
  have := h 2 (by decide)
  have := h 3 (by decide)
  have := h 4 (by decide)
  simp [List.range_succ]
  omega
theorem filt5 (p : Nat → Bool) : ((List.range 5).filter p).length ≤ 5 := Nat.le_trans (List.length_filter_le _ _) (by simp)
theorem sd_T (el : Nat → Nat → Bool) : SdOk (tabTb el).1 (Str.ofString "pqrst") where
  rl := by
    rw [tab_is]
    exact flat_rows fun i _ => by unfold rowT1; rw [List.length_map]; exact filt5 _
  num := fun p hp => by
    rw [tab_is] at hp
    obtain ⟨i, hi, hp⟩ := List.mem_flatMap.mp hp
    obtain ⟨j, hj, rfl⟩ := List.mem_map.mp hp
    simpa using (List.mem_filter.mp hj).1
  fr := fun p hp => by
    rw [tab_is] at hp
    obtain ⟨i, hi, hp⟩ := List.mem_flatMap.mp hp
    obtain ⟨j, hj, rfl⟩ := List.mem_map.mp hp
    exact (fr_tab ⟨i, by simpa using hi⟩ ⟨j, by simpa using (List.mem_filter.mp hj).1⟩).1
  nl := by decide +kernel
  nm := fun c hc => by
    rw [names_T] at hc
    obtain ⟨i, hi, rfl⟩ := List.mem_map.mp hc
    have := (nmc_tab ⟨i, by simpa using hi⟩).1
    exact ⟨fun d hd => noset_letter d (this.2 d hd), this.1⟩
theorem sd_U (el : Nat → Nat → Bool) : SdOk (tabTb el).2 (Str.ofString "uvwxy") where
  rl := by
    rw [tab_is]
    exact flat_rows fun i _ => by unfold rowT2; rw [List.length_map]; exact filt5 _
  num := fun p hp => by
    rw [tab_is] at hp
    obtain ⟨i, hi, hp⟩ := List.mem_flatMap.mp hp
    obtain ⟨j, hj, rfl⟩ := List.mem_map.mp hp
    simpa using hi
  fr := fun p hp => by
    rw [tab_is] at hp
    obtain ⟨i, hi, hp⟩ := List.mem_flatMap.mp hp
    obtain ⟨j, hj, rfl⟩ := List.mem_map.mp hp
    exact (fr_tab ⟨i, by simpa using hi⟩ ⟨j, by simpa using (List.mem_filter.mp hj).1⟩).2
  nl := by decide +kernel
  nm := fun c hc => by
    rw [names_U] at hc
    obtain ⟨i, hi, rfl⟩ := List.mem_map.mp hc
    have := (nmc_tab ⟨i, by simpa using hi⟩).2
    exact ⟨fun d hd => noset_letter d (this.2 d hd), this.1⟩

/-- all but the count of holes -/
theorem law2_but {ns : List Int} (ho : holesOf (hereOf (wordsOf ns)) = holesOf (thereOf (wordsOf ns))) : Law2Ok (totalOf ns) (wordsOf ns) where
  h7 := sign_lens.1
  h6 := sign_lens.2
  tb := tb_ok _ (wordsOf_ok ns)
  s1 := sd_T _
  s2 := sd_U _
  e1 := sides_T fun i j hi hj => ellT_fit _ (wordsOf_ok ns) hi hj
  e2 := sides_U fun i j hi hj => ellT_fit _ (wordsOf_ok ns) hi hj
  ho := ho
end Mine
set_option maxHeartbeats 8000000
namespace Mine

/-! ## sums over all choices of bits -/
section
variable {ι : Type} [DecidableEq ι]
noncomputable def upd (g : ι → Bool) (x : ι) (b : Bool) : ι → Bool := fun y => if y = x then b else g y
theorem upd_same (g : ι → Bool) (x : ι) (b : Bool) : upd g x b x = b := by simp [upd]
theorem upd_ne (g : ι → Bool) {x y : ι} (b : Bool) (h : y ≠ x) : upd g x b y = g y := by simp [upd, h]
theorem upd_comm (g : ι → Bool) {x y : ι} (b c : Bool) (h : x ≠ y) : upd (upd g x b) y c = upd (upd g y c) x b := by
  funext z
  unfold upd
  by_cases h1 : z = y <;> by_cases h2 : z = x
  · exact absurd (h2.symm.trans h1) h
  · simp [h1]; intro h3; exact absurd h3.symm h
  · simp [h1, h2]; intro h3; exact absurd h3 h
  · simp [h1, h2]
theorem upd_upd (g : ι → Bool) (x : ι) (b c : Bool) : upd (upd g x b) x c = upd g x c := by
  funext z
  unfold upd
  by_cases h : z = x <;> simp [h]
noncomputable def sm : List ι → (ι → Bool) → ((ι → Bool) → Nat) → Nat
  | [], g, φ => φ g
  | x :: xs, g, φ => sm xs (upd g x false) φ + sm xs (upd g x true) φ

theorem sm_mul (c : Nat) (φ : (ι → Bool) → Nat) : ∀ (I : List ι) (g : ι → Bool), sm I g (fun h => c * φ h) = c * sm I g φ
  | [], g => rfl
  | x :: xs, g => by rw [sm, sm, sm_mul c φ xs, sm_mul c φ xs, Nat.mul_add]
theorem sm_congr {φ ψ : (ι → Bool) → Nat} (h : ∀ g, φ g = ψ g) (I : List ι) (g : ι → Bool) : sm I g φ = sm I g ψ := by
  have : φ = ψ := funext h
  rw [this]
theorem sm_one : ∀ (I : List ι) (g : ι → Bool), sm I g (fun _ => 1) = 2 ^ I.length
  | [], g => rfl
  | x :: xs, g => by rw [sm, sm_one xs, sm_one xs, List.length_cons, Nat.pow_succ]; omega
theorem sm_perm {I J : List ι} (p : I.Perm J) : ∀ (g : ι → Bool) (φ : (ι → Bool) → Nat), sm I g φ = sm J g φ := by
  induction p with
  | nil => intro g φ; rfl
  | cons x _ ih => intro g φ; rw [sm, sm, ih, ih]
  | swap x y l =>
    intro g φ
    by_cases h : x = y
    · rw [h]
    · simp only [sm]
      rw [upd_comm g false false h, upd_comm g true false h, upd_comm g false true h, upd_comm g true true h]
      omega
  | trans _ _ h1 h2 => intro g φ; rw [h1, h2]
theorem sm_fub {κ : Type} [DecidableEq κ] (J : List κ) (k : κ → Bool) (φ : (ι → Bool) → (κ → Bool) → Nat) : ∀ (I : List ι) (g : ι → Bool), sm I g (fun h => sm J k fun u => φ h u) = sm J k (fun u => sm I g fun h => φ h u)
  | [], g => rfl
  | x :: xs, g => by
    rw [sm, sm_fub J k φ xs, sm_fub J k φ xs]
    have : ∀ (J : List κ) (k : κ → Bool) (a b : (κ → Bool) → Nat), sm J k a + sm J k b = sm J k (fun u => a u + b u) := by
      intro J
      induction J with
      | nil => intro k a b; rfl
      | cons y ys ih => intro k a b; rw [sm, sm, sm, ← ih, ← ih]; omega
    rw [this]
    rfl
/-- what does not look at x -/
noncomputable def Ind (x : ι) (φ : (ι → Bool) → Nat) : Prop := ∀ g b, φ (upd g x b) = φ g
theorem sm_ind {x : ι} {φ : (ι → Bool) → Nat} (h : Ind x φ) : ∀ (I : List ι) (g : ι → Bool) (b : Bool), sm I (upd g x b) φ = sm I g φ
  | [], g, b => h g b
  | y :: ys, g, b => by
    rw [sm, sm]
    by_cases e : x = y
    · subst e
      rw [upd_upd, upd_upd]
    · rw [upd_comm g b false e, upd_comm g b true e, sm_ind h ys, sm_ind h ys]
theorem sm_app (φ : (ι → Bool) → Nat) : ∀ (A B : List ι) (g : ι → Bool), sm (A ++ B) g φ = sm A g (fun h => sm B h φ)
  | [], B, g => rfl
  | x :: A, B, g => by rw [List.cons_append, sm, sm, sm_app φ A, sm_app φ A]
theorem sm_prod {φ ψ : (ι → Bool) → Nat} (B : List ι) : ∀ (A : List ι) (g : ι → Bool), (∀ x ∈ B, Ind x φ) → (∀ x ∈ A, Ind x ψ) → sm (A ++ B) g (fun h => φ h * ψ h) = sm A g φ * sm B g ψ
  | [], g, hφ, _ => by
    show sm B g _ = φ g * _
    have : ∀ (B : List ι) (g : ι → Bool), (∀ x ∈ B, Ind x φ) → sm B g (fun h => φ h * ψ h) = φ g * sm B g ψ := by
      intro B
      induction B with
      | nil => intro g _; rfl
      | cons y ys ih =>
        intro g h
        rw [sm, sm, ih _ fun x hx => h x (.tail _ hx), ih _ fun x hx => h x (.tail _ hx), h y (.head _), h y (.head _), Nat.mul_add]
    exact this B g hφ
  | x :: A, g, hφ, hψ => by
    have hx := hψ x (.head _)
    rw [List.cons_append, sm, sm, sm_prod B A _ hφ fun y hy => hψ y (.tail _ hy), sm_prod B A _ hφ fun y hy => hψ y (.tail _ hy), sm_ind hx, sm_ind hx, Nat.add_mul]
theorem sm_shift (w : ι → Bool) (φ : (ι → Bool) → Nat) : ∀ (I : List ι) (g : ι → Bool), (∀ x, x ∉ I → w x = false) → sm I g (fun h => φ fun x => Bool.xor (h x) (w x)) = sm I g φ
  | [], g, hw => by
    show φ _ = φ g
    congr 1
    funext x
    rw [hw x (by simp)]; simp
  | x :: xs, g, hw => by
    -- the rest of w
    have key : ∀ b : Bool, sm xs (upd g x b) (fun h => φ fun y => Bool.xor (h y) (w y)) = sm xs (upd g x (Bool.xor b (w x))) φ := by
      intro b
      by_cases hx : x ∈ xs
      · rw [sm_shift w φ xs _ fun y hy => hw y (by simp only [List.mem_cons, not_or]; exact ⟨fun e => hy (e ▸ hx), hy⟩)]
        -- x is set again below
        have : ∀ (l : List ι), x ∈ l → ∀ (g : ι → Bool) (b c : Bool), sm l (upd g x b) φ = sm l (upd g x c) φ := by
          intro l
          induction l with
          | nil => intro h; cases h
          | cons y ys ih =>
            intro h g b c
            by_cases e : x = y
            · subst e; rw [sm, sm, upd_upd, upd_upd, upd_upd, upd_upd]
            · have hys : x ∈ ys := by
                rcases List.mem_cons.mp h with q | q
                · exact absurd q e
                · exact q
              rw [sm, sm, upd_comm g b false e, upd_comm g b true e, upd_comm g c false e, upd_comm g c true e, ih hys _ b c, ih hys _ b c]
        exact this xs hx g b _
      · let w' : ι → Bool := fun y => if y = x then false else w y
        have h1 := sm_shift w' (fun h => φ fun y => if y = x then Bool.xor (h y) (w x) else h y) xs (upd g x b) (fun y hy => by
          show (if y = x then false else w y) = false
          by_cases e : y = x
          · rw [if_pos e]
          · rw [if_neg e]; exact hw y (by simp only [List.mem_cons, not_or]; exact ⟨e, hy⟩))
        have h2 : (fun h : ι → Bool => φ fun y => Bool.xor (h y) (w y)) = fun h => (fun h : ι → Bool => φ fun y => if y = x then Bool.xor (h y) (w x) else h y) fun y => Bool.xor (h y) (w' y) := by
          funext h
          show φ _ = φ _
          congr 1
          funext y
          show Bool.xor (h y) (w y) = if y = x then Bool.xor (Bool.xor (h y) (if y = x then false else w y)) (w x) else Bool.xor (h y) (if y = x then false else w y)
          by_cases e : y = x
          · rw [if_pos e, if_pos e, e]; simp
          · rw [if_neg e, if_neg e]
        rw [h2, h1]
        have h3 : ∀ (l : List ι), x ∉ l → ∀ (g : ι → Bool) (b : Bool), sm l (upd g x b) (fun h => φ fun y => if y = x then Bool.xor (h y) (w x) else h y) = sm l (upd g x (Bool.xor b (w x))) φ := by
          intro l
          induction l with
          | nil =>
            intro _ g b
            show φ _ = φ _
            congr 1
            funext y
            by_cases e : y = x
            · rw [if_pos e, e, upd_same, upd_same]
            · rw [if_neg e, upd_ne _ _ e, upd_ne _ _ e]
          | cons y ys ih =>
            intro h g b
            have e : x ≠ y := fun e => h (by rw [e]; exact .head _)
            have hys : x ∉ ys := fun q => h (.tail _ q)
            rw [sm, sm, upd_comm g b false e, upd_comm g b true e, upd_comm g _ false e, upd_comm g _ true e, ih hys, ih hys]
        exact h3 xs hx g b
    rw [sm, sm, key, key]
    cases w x with
    | false => rfl
    | true => exact Nat.add_comm _ _
/-- other names -/
theorem sm_name (τ : ι → ι) (hτ : ∀ x, τ (τ x) = x) (φ : (ι → Bool) → Nat) : ∀ (I : List ι) (g : ι → Bool), sm I g (fun h => φ fun x => h (τ x)) = sm (I.map τ) (fun x => g (τ x)) φ
  | [], g => rfl
  | x :: xs, g => by
    have e : ∀ b, (fun y => upd g x b (τ y)) = upd (fun y => g (τ y)) (τ x) b := by
      intro b
      funext y
      unfold upd
      by_cases h : τ y = x
      · have : y = τ x := by rw [← h, hτ]
        rw [if_pos h, if_pos this]
      · have : ¬ y = τ x := fun q => h (by rw [q, hτ])
        rw [if_neg h, if_neg this]
    rw [List.map_cons, sm, sm, sm_name τ hτ φ xs, sm_name τ hτ φ xs, e, e]
end
end Mine
set_option maxHeartbeats 8000000
namespace Mine

/-! ## striking out over two elements -/
theorem xor_add_step {x y p q u v A B s t : Nat} (h1 : u + 2 * v = x + y) (hs : s + 2 * t = p + q) (hA : 2 * u + s = A) (hB : 2 * v + t = B) : A + 2 * B = (2 * x + p) + (2 * y + q) := by omega
theorem bit_add (p q : Fin 2) : (p.val ^^^ q.val) + 2 * (p.val &&& q.val) = p.val + q.val := by revert p q; decide
theorem xor_add (a b : Nat) : (a ^^^ b) + 2 * (a &&& b) = a + b := by
  induction a using Nat.strongRecOn generalizing b with
  | ind a ih =>
    by_cases h : a = 0
    · rw [h, Nat.zero_xor, Nat.zero_and, Nat.mul_zero, Nat.add_zero, Nat.zero_add]
    · have h1 := ih (a / 2) (Nat.div_lt_self (Nat.pos_of_ne_zero h) (by decide)) (b / 2)
      have m1 := @Nat.xor_mod_two_pow a b 1
      have m2 := @Nat.and_mod_two_pow a b 1
      rw [Nat.pow_one] at m1 m2
      have hs := bit_add ⟨a % 2, Nat.mod_lt _ (by decide)⟩ ⟨b % 2, Nat.mod_lt _ (by decide)⟩
      have e1 := Nat.div_add_mod (a ^^^ b) 2
      have e2 := Nat.div_add_mod (a &&& b) 2
      rw [Nat.xor_div_two, m1] at e1
      rw [Nat.and_div_two, m2] at e2
      have := xor_add_step h1 hs e1 e2
      rw [Nat.div_add_mod, Nat.div_add_mod] at this
      exact this
theorem bitXor_nat (a b : Nat) : Builtin.bitXor (a : Int) (b : Int) = ((a ^^^ b : Nat) : Int) := by
  rw [bitXor_and, bitAnd_pp (by omega) (by omega)]
  have := xor_add a b
  simp only [Int.toNat_natCast]
  omega

noncomputable def redN (r : Nat) (B : List Nat) : Nat := B.foldl (fun r k => if r ^^^ k < r then r ^^^ k else r) r
theorem reduce_nat : ∀ (B : List Nat) (r : Nat), reduce (r : Int) (B.map fun (k : Nat) => (k : Int)) = ((redN r B : Nat) : Int)
  | [], r => rfl
  | k :: B, r => by
    have ih := reduce_nat B (if r ^^^ k < r then r ^^^ k else r)
    unfold reduce redN at *
    rw [List.map_cons, List.foldl_cons, List.foldl_cons, ← ih]
    congr 1
    rw [bitXor_nat]
    by_cases h : r ^^^ k < r
    · rw [if_pos h, if_pos (by omega)]
    · rw [if_neg h, if_neg (by omega)]
noncomputable def elimN (vs B : List Nat) : List Nat := vs.foldl (fun B v => if (redN v B != 0) = true then B ++ [redN v B] else B) B
theorem elimN_cons (v : Nat) (vs B : List Nat) : elimN (v :: vs) B = elimN vs (if (redN v B != 0) = true then B ++ [redN v B] else B) := rfl

noncomputable def dot (J : List Nat) (v : Nat) (f : Nat → Bool) : Bool := J.foldr (fun i acc => Bool.xor (v.testBit i && f i) acc) false
noncomputable def sol (J : List Nat) (f : Nat → Bool) (B : List Nat) : Bool := B.all fun v => !dot J v f
theorem dot_xor (a b : Nat) (f : Nat → Bool) : ∀ J : List Nat, dot J (a ^^^ b) f = Bool.xor (dot J a f) (dot J b f)
  | [] => rfl
  | i :: J => by
    have ih := dot_xor a b f J
    unfold dot at ih ⊢
    rw [List.foldr_cons, List.foldr_cons, List.foldr_cons, ih, Nat.testBit_xor]
    cases a.testBit i <;> cases b.testBit i <;> cases f i <;> simp
theorem dot_zero (f : Nat → Bool) : ∀ J : List Nat, dot J 0 f = false
  | [] => rfl
  | i :: J => by
    have ih := dot_zero f J
    unfold dot at ih ⊢
    rw [List.foldr_cons, ih]; simp
theorem red_dot {J : List Nat} {f : Nat → Bool} : ∀ (B : List Nat) (r : Nat), sol J f B = true → dot J (redN r B) f = dot J r f
  | [], r, _ => rfl
  | k :: B, r, h => by
    have h' : (!dot J k f) = true ∧ sol J f B = true := by
      unfold sol at h ⊢
      simpa using h
    have hk : dot J k f = false := by simpa using h'.1
    have ih := red_dot B (if r ^^^ k < r then r ^^^ k else r) h'.2
    have e : redN r (k :: B) = redN (if r ^^^ k < r then r ^^^ k else r) B := rfl
    rw [e, ih]
    split
    · rw [dot_xor, hk]; simp
    · rfl
theorem sol_app (J : List Nat) (f : Nat → Bool) (A B : List Nat) : sol J f (A ++ B) = (sol J f A && sol J f B) := by unfold sol; rw [List.all_append]
theorem elim_sol {J : List Nat} {f : Nat → Bool} : ∀ (vs B : List Nat), sol J f (elimN vs B) = (sol J f B && sol J f vs)
  | [], B => by
    have : sol J f [] = true := rfl
    rw [this]; simp [elimN]
  | v :: vs, B => by
    rw [elimN_cons, elim_sol vs]
    have e : sol J f (v :: vs) = ((!dot J v f) && sol J f vs) := rfl
    rw [e, ← Bool.and_assoc]
    congr 1
    by_cases hB : sol J f B = true
    · have hr := red_dot B v hB
      by_cases h : (redN v B != 0) = true
      · rw [if_pos h, sol_app]
        have : sol J f [redN v B] = !dot J (redN v B) f := by simp [sol]
        rw [this, hr]
      · rw [if_neg h]
        have h0 : redN v B = 0 := by simpa using h
        rw [h0, dot_zero] at hr
        rw [← hr]; simp
    · have hB : sol J f B = false := by simpa using hB
      split
      · rw [sol_app, hB]; simp
      · rw [hB]; simp

/-! a list struck out -/
structure Tri (B : List Nat) : Prop where
  low : B.Pairwise fun a b => b.testBit a.log2 = false
  pos : ∀ a ∈ B, a ≠ 0
theorem lt_top {x y i : Nat} (hx : x.testBit i = false) (hy : y.testBit i = true) (h : ∀ j, i < j → x.testBit j = y.testBit j) : x < y := by
  have e : x / 2 ^ (i + 1) = y / 2 ^ (i + 1) := by
    apply Nat.eq_of_testBit_eq
    intro j
    rw [Nat.testBit_div_two_pow, Nat.testBit_div_two_pow]
    exact h _ (by omega)
  have h1 := Nat.div_add_mod x (2 ^ (i + 1))
  have h2 := Nat.div_add_mod y (2 ^ (i + 1))
  have h3 := @Nat.mod_pow_succ x 2 i
  have h4 := @Nat.mod_pow_succ y 2 i
  have h5 := Nat.mod_lt x (Nat.two_pow_pos i)
  rw [Nat.testBit_eq_decide_div_mod_eq] at hx hy
  have hx' : x / 2 ^ i % 2 = 0 := by have := of_decide_eq_false hx; omega
  have hy' : y / 2 ^ i % 2 = 1 := of_decide_eq_true hy
  rw [hx'] at h3
  rw [hy'] at h4
  rw [e] at h1
  omega
theorem log_top {k j : Nat} (h : k.log2 < j) : k.testBit j = false := by
  by_cases h0 : k = 0
  · subst h0; simp
  · exact Nat.testBit_lt_two_pow (Nat.lt_of_lt_of_le ((Nat.log2_lt h0).mp (Nat.lt_succ_self _)) (Nat.pow_le_pow_right (by decide) h))
theorem min_clear {r k : Nat} (hk : k ≠ 0) : (if r ^^^ k < r then r ^^^ k else r).testBit k.log2 = false := by
  have hkb := Nat.testBit_log2 hk
  have hj : ∀ j, k.log2 < j → (r ^^^ k).testBit j = r.testBit j := fun j h => by rw [Nat.testBit_xor, log_top h]; simp
  cases hb : r.testBit k.log2 with
  | true =>
    have hx : (r ^^^ k).testBit k.log2 = false := by rw [Nat.testBit_xor, hb, hkb]; rfl
    rw [if_pos (lt_top hx hb hj)]
    exact hx
  | false =>
    have hx : (r ^^^ k).testBit k.log2 = true := by rw [Nat.testBit_xor, hb, hkb]; rfl
    have : r < r ^^^ k := lt_top hb hx fun j h => (hj j h).symm
    rw [if_neg (by omega)]
    exact hb
theorem red_bit {p : Nat} : ∀ (B : List Nat) (r : Nat), (∀ b ∈ B, b.testBit p = false) → (redN r B).testBit p = r.testBit p
  | [], r, _ => rfl
  | k :: B, r, h => by
    have e : redN r (k :: B) = redN (if r ^^^ k < r then r ^^^ k else r) B := rfl
    rw [e, red_bit B _ fun b hb => h b (.tail _ hb)]
    split
    · rw [Nat.testBit_xor, h k (.head _)]; simp
    · rfl
theorem red_clear : ∀ (B : List Nat) (r : Nat), Tri B → ∀ k ∈ B, (redN r B).testBit k.log2 = false
  | [], r, _, k, hk => by cases hk
  | a :: B, r, h, k, hk => by
    have h1 := List.pairwise_cons.mp h.low
    have e : redN r (a :: B) = redN (if r ^^^ a < r then r ^^^ a else r) B := rfl
    rw [e]
    rcases List.mem_cons.mp hk with rfl | hk
    · rw [red_bit B _ h1.1]
      exact min_clear (h.pos _ (.head _))
    · exact red_clear B _ ⟨h1.2, fun x hx => h.pos x (.tail _ hx)⟩ k hk
theorem elim_tri : ∀ (vs B : List Nat), Tri B → Tri (elimN vs B)
  | [], B, h => h
  | v :: vs, B, h => by
    rw [elimN_cons]
    apply elim_tri vs
    split
    · rename_i hz
      refine ⟨List.pairwise_append.mpr ⟨h.low, by simp, fun a ha b hb => ?_⟩, fun a ha => ?_⟩
      · rw [List.mem_singleton.mp hb]; exact red_clear B v h a ha
      · rcases List.mem_append.mp ha with q | q
        · exact h.pos a q
        · rw [List.mem_singleton.mp q]; simpa using hz
    · exact h
noncomputable def Supp (I : List Nat) (v : Nat) : Prop := ∀ i, v.testBit i = true → i ∈ I
theorem Supp.xor {I : List Nat} {a b : Nat} (ha : Supp I a) (hb : Supp I b) : Supp I (a ^^^ b) := fun i h => by
  rw [Nat.testBit_xor] at h
  cases h1 : a.testBit i with
  | true => exact ha i h1
  | false => rw [h1] at h; exact hb i (by simpa using h)
theorem red_supp {I : List Nat} : ∀ (B : List Nat) (r : Nat), Supp I r → (∀ b ∈ B, Supp I b) → Supp I (redN r B)
  | [], r, h, _ => h
  | k :: B, r, h, hB => by
    have e : redN r (k :: B) = redN (if r ^^^ k < r then r ^^^ k else r) B := rfl
    rw [e]
    refine red_supp B _ ?_ fun b hb => hB b (.tail _ hb)
    split
    · exact h.xor (hB k (.head _))
    · exact h
theorem elim_supp {I : List Nat} : ∀ (vs B : List Nat), (∀ v ∈ vs, Supp I v) → (∀ b ∈ B, Supp I b) → ∀ b ∈ elimN vs B, Supp I b
  | [], B, _, h => h
  | v :: vs, B, hv, h => by
    rw [elimN_cons]
    refine elim_supp vs _ (fun x hx => hv x (.tail _ hx)) ?_
    split
    · intro b hb
      rcases List.mem_append.mp hb with q | q
      · exact h b q
      · rw [List.mem_singleton.mp q]; exact red_supp B v (hv v (.head _)) h
    · exact h

theorem dot_upd_ne {v p : Nat} (h : v.testBit p = false) (f : Nat → Bool) (b : Bool) : ∀ J : List Nat, dot J v (upd f p b) = dot J v f
  | [] => rfl
  | i :: J => by
    have ih := dot_upd_ne h f b J
    unfold dot at ih ⊢
    rw [List.foldr_cons, List.foldr_cons, ih]
    by_cases e : i = p
    · subst e; rw [h]; simp
    · rw [upd_ne _ _ e]
theorem dot_upd_out {v p : Nat} (f : Nat → Bool) (b : Bool) : ∀ J : List Nat, p ∉ J → dot J v (upd f p b) = dot J v f
  | [], _ => rfl
  | i :: J, h => by
    have ih := dot_upd_out (v := v) f b J fun q => h (.tail _ q)
    unfold dot at ih ⊢
    rw [List.foldr_cons, List.foldr_cons, ih, upd_ne _ _ (fun e => h (by rw [e]; exact .head _))]
theorem dot_upd_in {v p : Nat} (h : v.testBit p = true) (f : Nat → Bool) : ∀ J : List Nat, J.Nodup → p ∈ J → dot J v (upd f p true) = !dot J v (upd f p false)
  | [], _, hp => by cases hp
  | i :: J, hn, hp => by
    have hn := List.nodup_cons.mp hn
    by_cases e : i = p
    · subst e
      have h1 := dot_upd_out (v := v) f true J hn.1
      have h2 := dot_upd_out (v := v) f false J hn.1
      unfold dot at h1 h2 ⊢
      rw [List.foldr_cons, List.foldr_cons, h1, h2, upd_same, upd_same, h]
      simp
    · have hpJ : p ∈ J := by
        rcases List.mem_cons.mp hp with q | q
        · exact absurd q.symm e
        · exact q
      have ih := dot_upd_in h f J hn.2 hpJ
      unfold dot at ih ⊢
      rw [List.foldr_cons, List.foldr_cons, ih, upd_ne _ _ e, upd_ne _ _ e]
      cases (v.testBit i && f i) <;> simp
theorem sol_upd {p : Nat} (J : List Nat) (f : Nat → Bool) (b : Bool) : ∀ B : List Nat, (∀ v ∈ B, v.testBit p = false) → sol J (upd f p b) B = sol J f B
  | [], _ => rfl
  | v :: B, h => by
    have ih := sol_upd (p := p) J f b B fun x hx => h x (.tail _ hx)
    unfold sol at ih ⊢
    rw [List.all_cons, List.all_cons, ih, dot_upd_ne (h v (.head _))]

theorem sol_count {J : List Nat} (hJ : J.Nodup) : ∀ (B I : List Nat) (g : Nat → Bool), Tri B → I.Nodup → (∀ b ∈ B, b.log2 ∈ I ∧ b.log2 ∈ J) → sm I g (fun f => (sol J f B).toNat) * 2 ^ B.length = 2 ^ I.length
  | [], I, g, _, _, _ => by
    have : sm I g (fun f => (sol J f []).toNat) = sm I g (fun _ => 1) := rfl
    rw [this, sm_one]; simp
  | k :: B, I, g, ht, hn, hp => by
    have h1 := List.pairwise_cons.mp ht.low
    have hk := ht.pos k (.head _)
    have hkb := Nat.testBit_log2 hk
    have hpk := hp k (.head _)
    have hperm : I.Perm (I.erase k.log2 ++ [k.log2]) := (List.perm_cons_erase hpk.1).trans (List.perm_append_comm (l₁ := [k.log2]))
    have hlen : I.length = (I.erase k.log2).length + 1 := by rw [List.Perm.length_eq hperm]; simp
    rw [sm_perm hperm, sm_app]
    have e : ∀ h : Nat → Bool, sm [k.log2] h (fun f => (sol J f (k :: B)).toNat) = (sol J h B).toNat := by
      intro h
      show (sol J (upd h k.log2 false) (k :: B)).toNat + (sol J (upd h k.log2 true) (k :: B)).toNat = _
      have e1 : ∀ f, sol J f (k :: B) = ((!dot J k f) && sol J f B) := fun _ => rfl
      rw [e1, e1, sol_upd J h _ B h1.1, sol_upd J h _ B h1.1, dot_upd_in hkb h J hJ hpk.2]
      cases dot J k (upd h k.log2 false) <;> cases sol J h B <;> rfl
    rw [sm_congr e]
    have ih := sol_count hJ B (I.erase k.log2) g ⟨h1.2, fun x hx => ht.pos x (.tail _ hx)⟩ (hn.erase _) (fun b hb => ⟨?_, (hp b (.tail _ hb)).2⟩)
    · rw [List.length_cons, Nat.pow_succ, ← Nat.mul_assoc, ih, hlen, Nat.pow_succ]
    · have hb1 := hp b (.tail _ hb)
      have hb2 := Nat.testBit_log2 (ht.pos b (.tail _ hb))
      have hb3 := h1.1 b hb
      refine (List.mem_erase_of_ne fun q => ?_).mpr hb1.1
      rw [q, hb3] at hb2
      cases hb2

/-- how many are stood upon by nothing of vs -/
theorem rank_count {I : List Nat} (hI : I.Nodup) (vs : List Nat) (h : ∀ v ∈ vs, Supp I v) (g : Nat → Bool) : sm I g (fun f => (sol I f vs).toNat) * 2 ^ (elimN vs []).length = 2 ^ I.length := by
  have ht : Tri (elimN vs []) := elim_tri vs [] ⟨.nil, fun _ h => by cases h⟩
  have hs := elim_supp vs [] h (fun _ h => by cases h)
  have key := sol_count hI (elimN vs []) I g ht hI fun b hb => by
    have := hs b hb _ (Nat.testBit_log2 (ht.pos b hb))
    exact ⟨this, this⟩
  rw [← key]
  congr 1
  refine sm_congr (fun f => ?_) I g
  rw [elim_sol]
  have : sol I f [] = true := rfl
  rw [this, Bool.true_and]
end Mine
set_option maxHeartbeats 8000000
namespace Mine

/-! ## the bodies of a relation -/
noncomputable def sideR (R : Nat → Nat → Bool) (i : Nat) : Int := (((List.range 5).filter (R i)).map fun j => (2 : Int) ^ j).sum
noncomputable def sidesR (R : Nat → Nat → Bool) : List Int := (List.range 5).map (sideR R)
noncomputable def inRow (R : Nat → Nat → Bool) (face i : Nat) : Bool := (List.range 5).all fun j => !bit face j || R i j
noncomputable def mem (R : Nat → Nat → Bool) (face : Nat) : Bool := (List.range 5).any (inRow R face)

noncomputable def maskB (a b c d e : Bool) : Int := (if a = true then 1 else 0) + ((if b = true then 2 else 0) + ((if c = true then 4 else 0) + ((if d = true then 8 else 0) + (if e = true then 16 else 0))))
noncomputable def side5 (a b c d e : Bool) : Int := (((List.range 5).filter fun j => match j with | 0 => a | 1 => b | 2 => c | 3 => d | _ => e).map fun j => (2 : Int) ^ j).sum
theorem side5_tab : ∀ a b c d e : Bool, side5 a b c d e = maskB a b c d e := by decide +kernel
theorem side_mask (R : Nat → Nat → Bool) (i : Nat) : sideR R i = maskB (R i 0) (R i 1) (R i 2) (R i 3) (R i 4) := by
  rw [← side5_tab]
  unfold sideR side5
  have e : (List.range 5).filter (R i) = (List.range 5).filter fun j => match j with | 0 => R i 0 | 1 => R i 1 | 2 => R i 2 | 3 => R i 3 | _ => R i 4 := by
    refine List.filter_congr fun j hj => ?_
    have hj5 : j ∈ [0, 1, 2, 3, 4] := hj
    simp only [List.mem_cons, List.not_mem_nil, or_false] at hj5
    rcases hj5 with rfl | rfl | rfl | rfl | rfl <;> rfl
  rw [e]
theorem mask_tab : ∀ (a b c d e : Bool) (face : Fin 32), (Builtin.bitAnd (face.val : Int) (maskB a b c d e) == (face.val : Int)) = ((!bit face.val 0 || a) && ((!bit face.val 1 || b) && ((!bit face.val 2 || c) && ((!bit face.val 3 || d) && (!bit face.val 4 || e))))) := by decide +kernel
theorem inSome_mem (R : Nat → Nat → Bool) {face : Nat} (hf : face < 32) : inSome (sidesR R) face = mem R face := by
  unfold inSome mem sidesR
  rw [List.map_map, List.any_map]
  congr 1
  funext i
  show (Builtin.bitAnd (face : Int) (sideR R i) == (face : Int)) = _
  rw [side_mask, mask_tab _ _ _ _ _ ⟨face, hf⟩]
  unfold inRow
  simp [List.range_succ, Bool.and_assoc]

/-! ## the count of holes, size by size -/
noncomputable def sz (f : Nat) : Nat := (cornersOf f).length
noncomputable def stepR (sides : List Int) (B : List Int) (f : Nat) : List Int := if inSome sides f = true then (if (reduce (rimOf f) B != 0) = true then B ++ [reduce (rimOf f) B] else B) else B
theorem getD_set {α : Type} (l : List α) (i k : Nat) (x d : α) (h : i < l.length) : (l.set i x).getD k d = if k = i then x else l.getD k d := by
  rw [List.getD_eq_getElem?_getD, List.getD_eq_getElem?_getD]
  by_cases e : k = i
  · subst e; rw [List.getElem?_set_self h, if_pos rfl]; rfl
  · rw [List.getElem?_set_ne (fun q => e q.symm), if_neg e]
theorem turn_parts (sides : List Int) (t : Tab) (f : Nat) (hc : t.counts.length = 7) (hr : t.rims.length = 7) (hf : sz f < 7) (s : Nat) :
    (turnF sides t f).counts.length = 7 ∧ (turnF sides t f).rims.length = 7 ∧ (turnF sides t f).counts.getD s 0 = t.counts.getD s 0 + (if (sz f == s && inSome sides f) = true then 1 else 0) ∧
    (turnF sides t f).rims.getD s [] = if (sz f == s && decide (1 < s)) = true then stepR sides (t.rims.getD s []) f else t.rims.getD s [] := by
  have hsz : (cornersOf f).length = sz f := rfl
  unfold turnF
  by_cases hin : inSome sides f = true
  · rw [if_pos hin]
    simp only [hsz]
    by_cases h1 : 1 < sz f
    · rw [if_pos h1]
      by_cases hz : (reduce (rimOf f) (t.rims.getD (sz f) []) != 0) = true
      · rw [if_pos hz]
        refine ⟨by rw [List.length_set]; exact hc, by rw [List.length_set]; exact hr, ?_, ?_⟩
        · rw [getD_set _ _ _ _ _ (by omega)]
          by_cases e : s = sz f
          · subst e; rw [if_pos rfl, if_pos (by simp [hin])]
          · rw [if_neg e, if_neg (by simp; intro q; exact absurd q.symm e)]; simp
        · rw [getD_set _ _ _ _ _ (by omega)]
          by_cases e : s = sz f
          · subst e
            rw [if_pos rfl, if_pos (by simp [h1])]
            unfold stepR
            rw [if_pos hin, if_pos hz]
          · rw [if_neg e, if_neg (by simp; intro q; exact absurd q.symm e)]
      · rw [if_neg hz]
        refine ⟨by rw [List.length_set]; exact hc, hr, ?_, ?_⟩
        · rw [getD_set _ _ _ _ _ (by omega)]
          by_cases e : s = sz f
          · subst e; rw [if_pos rfl, if_pos (by simp [hin])]
          · rw [if_neg e, if_neg (by simp; intro q; exact absurd q.symm e)]; simp
        · by_cases e : s = sz f
          · subst e
            rw [if_pos (by simp [h1])]
            unfold stepR
            rw [if_pos hin, if_neg hz]
          · rw [if_neg (by simp; intro q; exact absurd q.symm e)]
    · rw [if_neg h1]
      refine ⟨by rw [List.length_set]; exact hc, hr, ?_, ?_⟩
      · rw [getD_set _ _ _ _ _ (by omega)]
        by_cases e : s = sz f
        · subst e; rw [if_pos rfl, if_pos (by simp [hin])]
        · rw [if_neg e, if_neg (by simp; intro q; exact absurd q.symm e)]; simp
      · rw [if_neg (by simp; intro q; omega)]
  · rw [if_neg hin]
    refine ⟨hc, hr, ?_, ?_⟩
    · rw [if_neg (by simp [hin])]; simp
    · split
      · unfold stepR; rw [if_neg hin]
      · rfl
theorem fold_parts (sides : List Int) (s : Nat) : ∀ (F : List Nat) (t : Tab), t.counts.length = 7 → t.rims.length = 7 → (∀ f ∈ F, sz f < 7) →
    (F.foldl (turnF sides) t).counts.getD s 0 = t.counts.getD s 0 + (((F.filter fun f => sz f == s).countP (inSome sides) : Nat) : Int) ∧
    (F.foldl (turnF sides) t).rims.getD s [] = (F.filter fun f => sz f == s && decide (1 < s)).foldl (stepR sides) (t.rims.getD s [])
  | [], t, _, _, _ => ⟨by simp, rfl⟩
  | f :: F, t, hc, hr, h => by
    obtain ⟨a, b, c, d⟩ := turn_parts sides t f hc hr (h f (.head _)) s
    obtain ⟨p, q⟩ := fold_parts sides s F (turnF sides t f) a b fun x hx => h x (.tail _ hx)
    rw [List.foldl_cons]
    constructor
    · rw [p, c]
      by_cases e : (sz f == s) = true
      · rw [List.filter_cons_of_pos (p := fun f => sz f == s) e, List.countP_cons, e, Bool.true_and]
        split <;> simp <;> omega
      · rw [List.filter_cons_of_neg (p := fun f => sz f == s) e]
        have e : (sz f == s) = false := by simpa using e
        rw [e, Bool.false_and, if_neg (by decide)]; simp
    · rw [q, d]
      by_cases e : (sz f == s && decide (1 < s)) = true
      · rw [List.filter_cons_of_pos (p := fun f => sz f == s && decide (1 < s)) e, List.foldl_cons, if_pos e]
      · rw [List.filter_cons_of_neg (p := fun f => sz f == s && decide (1 < s)) e, if_neg e]

noncomputable def faces (s : Nat) : List Nat := ((List.range 31).map (· + 1)).filter fun f => sz f == s
noncomputable def rimN (f : Nat) : Nat := ((cornersOf f).map fun c => 2 ^ (f - 2 ^ c)).sum
theorem rim_nat (f : Nat) : rimOf f = ((rimN f : Nat) : Int) := by
  unfold rimOf rimN
  generalize cornersOf f = l
  induction l with
  | nil => rfl
  | cons c l ih => rw [List.map_cons, List.sum_cons, List.map_cons, List.sum_cons, ih]; simp
theorem step_elim (sides : List Int) : ∀ (F B : List Nat), F.foldl (stepR sides) (B.map fun (k : Nat) => (k : Int)) = (elimN ((F.filter (inSome sides)).map rimN) B).map fun (k : Nat) => (k : Int)
  | [], B => rfl
  | f :: F, B => by
    rw [List.foldl_cons]
    unfold stepR
    by_cases h : inSome sides f = true
    · rw [if_pos h, List.filter_cons_of_pos h, List.map_cons, elimN_cons, rim_nat, reduce_nat]
      by_cases hz : (redN (rimN f) B != 0) = true
      · rw [if_pos hz, if_pos (by simpa using hz)]
        have := step_elim sides F (B ++ [redN (rimN f) B])
        rw [← this]
        congr 1
        simp
      · rw [if_neg hz, if_neg (by simpa using hz)]
        exact step_elim sides F B
    · rw [if_neg h, List.filter_cons_of_neg h]
      exact step_elim sides F B

noncomputable def nK (R : Nat → Nat → Bool) (s : Nat) : Nat := (faces s).countP (mem R)
noncomputable def rK (R : Nat → Nat → Bool) (s : Nat) : Nat := (elimN (((faces s).filter (mem R)).map rimN) []).length
theorem faces_lt (s : Nat) : ∀ f ∈ faces s, f < 32 ∧ sz f < 7 := fun f hf => by
  have h1 := (List.mem_filter.mp hf).1
  have h2 : ∀ f ∈ (List.range 31).map (· + 1), f < 32 ∧ sz f < 7 := by decide +kernel
  exact h2 f h1
theorem tab_counts (R : Nat → Nat → Bool) (s : Nat) : (tabOf (sidesR R)).counts.getD s 0 = ((nK R s : Nat) : Int) := by
  have h := (fold_parts (sidesR R) s ((List.range 31).map (· + 1)) tab0 rfl rfl (by decide +kernel)).1
  have e0 : tab0.counts.getD s 0 = 0 := by
    unfold tab0
    rw [List.getD_eq_getElem?_getD, List.getElem?_replicate]
    split <;> rfl
  rw [e0, Int.zero_add] at h
  unfold tabOf
  rw [h]
  unfold nK
  congr 1
  refine List.countP_congr fun f hf => ?_
  rw [inSome_mem R (faces_lt s f hf).1]
theorem tab_rims (R : Nat → Nat → Bool) (s : Nat) : ((tabOf (sidesR R)).rims.getD s []).length = if 1 < s then rK R s else 0 := by
  have h := (fold_parts (sidesR R) s ((List.range 31).map (· + 1)) tab0 rfl rfl (by decide +kernel)).2
  have e0 : tab0.rims.getD s [] = ([] : List Nat).map fun (k : Nat) => (k : Int) := by
    unfold tab0
    rw [List.getD_eq_getElem?_getD, List.getElem?_replicate]
    split <;> rfl
  rw [e0, step_elim] at h
  unfold tabOf
  rw [h, List.length_map]
  by_cases hs : 1 < s
  · rw [if_pos hs]
    unfold rK
    have e1 : ((List.range 31).map (· + 1)).filter (fun f => sz f == s && decide (1 < s)) = faces s := by
      unfold faces
      congr 1
      funext f
      simp [hs]
    rw [e1]
    congr 3
    refine List.filter_congr fun f hf => ?_
    rw [inSome_mem R (faces_lt s f hf).1]
  · rw [if_neg hs]
    have e1 : ((List.range 31).map (· + 1)).filter (fun f => sz f == s && decide (1 < s)) = [] := by
      refine List.filter_eq_nil_iff.mpr fun f _ => ?_
      simp [hs]
    rw [e1]; rfl
theorem rK6 (R : Nat → Nat → Bool) : rK R 6 = 0 := by
  unfold rK
  have : faces 6 = [] := by decide +kernel
  rw [this]; rfl
theorem holes_R (R : Nat → Nat → Bool) : holesOf (sidesR R) = [(nK R 1 : Int) - rK R 2, (nK R 2 : Int) - rK R 2 - rK R 3, (nK R 3 : Int) - rK R 3 - rK R 4, (nK R 4 : Int) - rK R 4 - rK R 5, (nK R 5 : Int) - rK R 5] := by
  unfold holesOf
  have e : (List.range 5).map (· + 1) = [1, 2, 3, 4, 5] := by decide
  rw [e]
  have h6 := rK6 R
  simp only [List.map_cons, List.map_nil, tab_counts, tab_rims]
  simp
  omega
end Mine
set_option maxHeartbeats 8000000
namespace Mine

/-! ## products -/
section
variable {ι κ : Type} [DecidableEq ι]
theorem sm_blocks (blk : κ → List ι) (φ : κ → (ι → Bool) → Nat) : ∀ (L : List κ) (g : ι → Bool), L.Pairwise (fun k l => (∀ x ∈ blk l, Ind x (φ k)) ∧ ∀ x ∈ blk k, Ind x (φ l)) →
    sm (L.flatMap blk) g (fun h => (L.map fun k => φ k h).prod) = (L.map fun k => sm (blk k) g (φ k)).prod
  | [], g, _ => rfl
  | k :: L, g, h => by
    have hp := List.pairwise_cons.mp h
    rw [List.flatMap_cons, List.map_cons, List.prod_cons, ← sm_blocks blk φ L g hp.2]
    refine sm_prod (φ := φ k) (ψ := fun h => (L.map fun k => φ k h).prod) (L.flatMap blk) (blk k) g (fun x hx => ?_) (fun x hx => ?_)
    · obtain ⟨l, hl, hx⟩ := List.mem_flatMap.mp hx
      exact (hp.1 l hl).1 x hx
    · intro g b
      show (L.map fun k => φ k (upd g x b)).prod = (L.map fun k => φ k g).prod
      congr 1
      exact List.map_congr_left fun l hl => (hp.1 l hl).2 x hx g b
theorem sm_singles (e : κ → ι) (φ : κ → Bool → Nat) (L : List κ) (g : ι → Bool) (hn : L.Pairwise fun k l => e k ≠ e l) :
    sm (L.map e) g (fun h => (L.map fun k => φ k (h (e k))).prod) = (L.map fun k => φ k false + φ k true).prod := by
  have hf : L.map e = L.flatMap fun k => [e k] := by
    induction L with
    | nil => rfl
    | cons k L ih => rw [List.map_cons, List.flatMap_cons, ih (List.pairwise_cons.mp hn).2]; rfl
  rw [hf, sm_blocks (fun k => [e k]) (fun k h => φ k (h (e k))) L g (hn.imp fun {k l} h => ⟨fun x hx => ?_, fun x hx => ?_⟩)]
  · congr 1
    refine List.map_congr_left fun k _ => ?_
    show φ k (upd g (e k) false (e k)) + φ k (upd g (e k) true (e k)) = _
    rw [upd_same, upd_same]
  · intro g b
    rw [List.mem_singleton.mp hx]
    show φ k (upd g (e l) b (e k)) = _
    rw [upd_ne _ _ h]
  · intro g b
    rw [List.mem_singleton.mp hx]
    show φ l (upd g (e k) b (e l)) = _
    rw [upd_ne _ _ fun q => h q.symm]
end
theorem all_prod {κ : Type} (p : κ → Bool) : ∀ L : List κ, (L.all p).toNat = (L.map fun k => (p k).toNat).prod
  | [] => rfl
  | k :: L => by
    rw [List.all_cons, List.map_cons, List.prod_cons, ← all_prod p L]
    cases p k <;> simp
theorem prod_mul {κ : Type} (f g : κ → Nat) : ∀ L : List κ, (L.map fun k => f k * g k).prod = (L.map f).prod * (L.map g).prod
  | [] => rfl
  | k :: L => by
    simp only [List.map_cons, List.prod_cons, prod_mul f g L]
    rw [Nat.mul_mul_mul_comm]
theorem prod_two {κ : Type} (q : κ → Bool) : ∀ L : List κ, (L.map fun k => if q k = true then 1 else 2).prod * 2 ^ L.countP q = 2 ^ L.length
  | [] => rfl
  | k :: L => by
    have ih := prod_two q L
    rw [List.map_cons, List.prod_cons, List.countP_cons, List.length_cons, Nat.pow_succ, ← ih]
    cases q k
    · simp; rw [Nat.mul_comm 2, Nat.mul_right_comm]
    · simp [Nat.pow_succ]; rw [← Nat.mul_assoc]
theorem all_swap {α β : Type} (p : α → β → Bool) (L : List α) (M : List β) : (L.all fun a => M.all fun b => p a b) = (M.all fun b => L.all fun a => p a b) := by
  rw [Bool.eq_iff_iff]
  simp only [List.all_eq_true]
  exact ⟨fun h b hb a ha => h a ha b hb, fun h a ha b hb => h b hb a ha⟩

/-! ## one equation in one unknown -/
noncomputable def mk5 (a b c d e : Bool) : Nat → Bool := fun j => match j with | 0 => a | 1 => b | 2 => c | 3 => d | 4 => e | _ => false
theorem mk5_at (p : Nat → Bool) : ∀ {j : Nat}, j < 5 → mk5 (p 0) (p 1) (p 2) (p 3) (p 4) j = p j
  | 0, _ => rfl
  | 1, _ => rfl
  | 2, _ => rfl
  | 3, _ => rfl
  | 4, _ => rfl
  | n + 5, h => absurd h (Nat.not_lt.mpr (Nat.le_add_left 5 n))
noncomputable def Pr : List (Nat × Nat) := [(0, 1), (0, 2), (1, 2), (0, 3), (1, 3), (2, 3), (0, 4), (1, 4), (2, 4), (3, 4)]
theorem Pr_lt : ∀ p ∈ Pr, p.1 < 5 ∧ p.2 < 5 := by decide
noncomputable def onB (a x : Nat → Bool) (b : Bool) : Bool := (List.range 5).all fun j => !a j || (x j == b)
noncomputable def conB (a x : Nat → Bool) : Bool := Pr.all fun p => !(a p.1 && a p.2) || (x p.1 == x p.2)
noncomputable def anyB (a : Nat → Bool) : Bool := (List.range 5).any a
theorem one_tab : ∀ a0 a1 a2 a3 a4 x0 x1 x2 x3 x4 : Bool, (onB (mk5 a0 a1 a2 a3 a4) (mk5 x0 x1 x2 x3 x4) false).toNat + (onB (mk5 a0 a1 a2 a3 a4) (mk5 x0 x1 x2 x3 x4) true).toNat = (if anyB (mk5 a0 a1 a2 a3 a4) = true then 1 else 2) * (conB (mk5 a0 a1 a2 a3 a4) (mk5 x0 x1 x2 x3 x4)).toNat := by decide +kernel
theorem all_congr {α : Type} {p q : α → Bool} {L : List α} (h : ∀ x ∈ L, p x = q x) : L.all p = L.all q := by
  rw [Bool.eq_iff_iff]
  simp only [List.all_eq_true]
  exact ⟨fun k x hx => by rw [← h x hx]; exact k x hx, fun k x hx => by rw [h x hx]; exact k x hx⟩
theorem any_congr {α : Type} {p q : α → Bool} {L : List α} (h : ∀ x ∈ L, p x = q x) : L.any p = L.any q := by
  rw [Bool.eq_iff_iff]
  simp only [List.any_eq_true]
  exact ⟨fun ⟨x, hx, k⟩ => ⟨x, hx, by rw [← h x hx]; exact k⟩, fun ⟨x, hx, k⟩ => ⟨x, hx, by rw [h x hx]; exact k⟩⟩
theorem one_eq (a x : Nat → Bool) : (onB a x false).toNat + (onB a x true).toNat = (if anyB a = true then 1 else 2) * (conB a x).toNat := by
  have h := one_tab (a 0) (a 1) (a 2) (a 3) (a 4) (x 0) (x 1) (x 2) (x 3) (x 4)
  have e1 : ∀ b, onB (mk5 (a 0) (a 1) (a 2) (a 3) (a 4)) (mk5 (x 0) (x 1) (x 2) (x 3) (x 4)) b = onB a x b := fun b => all_congr fun j hj => by
    have hj5 : j < 5 := by simpa using hj
    rw [mk5_at a hj5, mk5_at x hj5]
  have e2 : anyB (mk5 (a 0) (a 1) (a 2) (a 3) (a 4)) = anyB a := any_congr fun j hj => mk5_at a (by simpa using hj)
  have e3 : conB (mk5 (a 0) (a 1) (a 2) (a 3) (a 4)) (mk5 (x 0) (x 1) (x 2) (x 3) (x 4)) = conB a x := all_congr fun p hp => by
    have := Pr_lt p hp
    rw [mk5_at a this.1, mk5_at a this.2, mk5_at x this.1, mk5_at x this.2]
  rw [e1, e1, e2, e3] at h
  exact h

/-! ## parts: h constant on each row -/
noncomputable def two (j : Nat) : Nat := 2 ^ j
noncomputable def V5 : List Nat := [1, 2, 4, 8, 16]
theorem V5_map : (List.range 5).map two = V5 := by decide
theorem faces1 : faces 1 = V5 := by decide +kernel
noncomputable def eP (p : Nat × Nat) : Nat := 2 ^ p.1 + 2 ^ p.2
theorem faces2 : faces 2 = Pr.map eP := by decide +kernel
theorem two_ne : (List.range 5).Pairwise fun k l => two k ≠ two l := by decide
theorem rk0 : List.Pairwise (fun (k l : Nat) => k ≠ l) (List.range 5) := by decide
noncomputable def J0 (R : Nat → Nat → Bool) (h u : Nat → Bool) : Bool := (List.range 5).all fun i => onB (R i) (fun j => h (two j)) (u (two i))
theorem J0_sum (R : Nat → Nat → Bool) (h g : Nat → Bool) : sm V5 g (fun u => (J0 R h u).toNat) = ((List.range 5).map fun i => if anyB (R i) = true then 1 else 2).prod * ((List.range 5).all fun i => conB (R i) fun j => h (two j)).toNat := by
  have e : ∀ u, (J0 R h u).toNat = ((List.range 5).map fun i => (onB (R i) (fun j => h (two j)) (u (two i))).toNat).prod := fun u => all_prod _ _
  rw [sm_congr e, ← V5_map, sm_singles two (fun i b => (onB (R i) (fun j => h (two j)) b).toNat) (List.range 5) g two_ne, all_prod, ← prod_mul]
  congr 1
  exact List.map_congr_left fun i _ => one_eq _ _

theorem inRow_eP (R : Nat → Nat → Bool) (i : Nat) : ∀ p ∈ Pr, inRow R (eP p) i = (R i p.1 && R i p.2) := by
  intro p hp
  have key : ∀ p ∈ Pr, ∀ a b c d e : Bool, (List.range 5).all (fun j => !bit (eP p) j || mk5 a b c d e j) = (mk5 a b c d e p.1 && mk5 a b c d e p.2) := by decide +kernel
  have h := key p hp (R i 0) (R i 1) (R i 2) (R i 3) (R i 4)
  have := Pr_lt p hp
  rw [mk5_at (R i) this.1, mk5_at (R i) this.2] at h
  rw [← h]
  exact all_congr fun j hj => by rw [mk5_at (R i) (by simpa using hj)]
theorem dot_congr {v : Nat} {f f' : Nat → Bool} : ∀ {J : List Nat}, (∀ i ∈ J, f i = f' i) → dot J v f = dot J v f'
  | [], _ => rfl
  | i :: J, h => by
    have ih := dot_congr (v := v) (J := J) fun k hk => h k (.tail _ hk)
    unfold dot at ih ⊢
    rw [List.foldr_cons, List.foldr_cons, ih, h i (.head _)]
noncomputable def mkV (a b c d e : Bool) : Nat → Bool := fun x => if x = 1 then a else if x = 2 then b else if x = 4 then c else if x = 8 then d else e
theorem dot_eP (h : Nat → Bool) : ∀ p ∈ Pr, dot V5 (rimN (eP p)) h = Bool.xor (h (two p.1)) (h (two p.2)) := by
  intro p hp
  have key : ∀ p ∈ Pr, ∀ a b c d e : Bool, dot V5 (rimN (eP p)) (mkV a b c d e) = Bool.xor (mkV a b c d e (two p.1)) (mkV a b c d e (two p.2)) := by decide +kernel
  have k := key p hp (h 1) (h 2) (h 4) (h 8) (h 16)
  have hV : ∀ x ∈ V5, mkV (h 1) (h 2) (h 4) (h 8) (h 16) x = h x := by
    intro x hx
    simp only [V5, List.mem_cons, List.not_mem_nil, or_false] at hx
    rcases hx with rfl | rfl | rfl | rfl | rfl <;> rfl
  have h2 : ∀ j, j < 5 → two j ∈ V5 := by decide
  have := Pr_lt p hp
  rw [hV _ (h2 _ this.1), hV _ (h2 _ this.2)] at k
  rw [← k]
  exact dot_congr fun x hx => (hV x hx).symm
theorem sol_filter (J : List Nat) (f : Nat → Bool) (q : Nat → Bool) (r : Nat → Nat) : ∀ L : List Nat, sol J f ((L.filter q).map r) = L.all fun x => !q x || !dot J (r x) f
  | [] => rfl
  | x :: L => by
    have ih := sol_filter J f q r L
    rw [List.all_cons, ← ih]
    by_cases h : q x = true
    · rw [List.filter_cons_of_pos h, List.map_cons, h]; simp [sol]
    · rw [List.filter_cons_of_neg h]
      have h : q x = false := by simpa using h
      rw [h]; simp
theorem any_imp {α : Type} (p : α → Bool) (b : Bool) : ∀ L : List α, (!L.any p || b) = L.all fun a => !p a || b
  | [] => rfl
  | a :: L => by
    rw [List.any_cons, List.all_cons, ← any_imp p b L]
    cases p a <;> cases b <;> simp
theorem con_sol (R : Nat → Nat → Bool) (h : Nat → Bool) : ((List.range 5).all fun i => conB (R i) fun j => h (two j)) = sol V5 h (((faces 2).filter (mem R)).map rimN) := by
  rw [sol_filter, faces2, List.all_map]
  unfold conB
  rw [all_swap]
  refine all_congr fun p hp => ?_
  show _ = (!mem R (eP p) || !dot V5 (rimN (eP p)) h)
  unfold mem
  rw [any_imp, dot_eP h p hp]
  refine all_congr fun i _ => ?_
  rw [inRow_eP R i p hp]
  show (!(R i p.1 && R i p.2) || (h (two p.1) == h (two p.2))) = _
  cases h (two p.1) <;> cases h (two p.2) <;> rfl
theorem two_inj {a b : Nat} (h : 2 ^ a = 2 ^ b) : a = b := by
  rcases Nat.lt_trichotomy a b with q | q | q
  · have := Nat.pow_lt_pow_right (a := 2) (by decide) q; omega
  · exact q
  · have := Nat.pow_lt_pow_right (a := 2) (by decide) q; omega
theorem supp2 : ∀ v ∈ (faces 2).map rimN, Supp V5 v := by
  intro v hv i hi
  have h1 : ∀ v ∈ (faces 2).map rimN, v < 2 ^ 17 ∧ ∀ i, i < 17 → v.testBit i = true → i ∈ V5 := by decide +kernel
  obtain ⟨h2, h3⟩ := h1 v hv
  rcases Nat.lt_or_ge i 17 with q | q
  · exact h3 i q hi
  · have := Nat.testBit_lt_two_pow (Nat.lt_of_lt_of_le h2 (Nat.pow_le_pow_right (by decide) q))
    rw [this] at hi; cases hi
noncomputable def tr (R : Nat → Nat → Bool) : Nat → Nat → Bool := fun i j => R j i
theorem nK1_tr (R : Nat → Nat → Bool) : nK (tr R) 1 = (List.range 5).countP fun i => anyB (R i) := by
  unfold nK
  rw [faces1, ← V5_map, List.countP_map]
  refine List.countP_congr fun i hi => ?_
  have hi5 : i < 5 := by simpa using hi
  have e : mem (tr R) (two i) = anyB (R i) := by
    unfold mem anyB
    refine any_congr fun j _ => ?_
    have key : ∀ i, i < 5 → ∀ a b c d e : Bool, (List.range 5).all (fun k => !bit (two i) k || mk5 a b c d e k) = mk5 a b c d e i := by decide +kernel
    have h := key i hi5 (R 0 j) (R 1 j) (R 2 j) (R 3 j) (R 4 j)
    rw [mk5_at (fun k => R k j) hi5] at h
    rw [← h]
    exact all_congr fun k hk => by rw [mk5_at (fun k => R k j) (by simpa using hk)]; rfl
  show mem (tr R) (two i) = true ↔ _
  rw [e]
theorem parts_count (R : Nat → Nat → Bool) (g g' : Nat → Bool) : sm V5 g (fun h => sm V5 g' fun u => (J0 R h u).toNat) * 2 ^ (nK (tr R) 1 + rK R 2) = 2 ^ 10 := by
  rw [sm_congr (fun h => (J0_sum R h g').trans (by rw [con_sol])), sm_mul]
  have h1 := prod_two (fun i => anyB (R i)) (List.range 5)
  rw [← nK1_tr] at h1
  have h2 := rank_count (I := V5) (by decide) (((faces 2).filter (mem R)).map rimN) (fun v hv => by
    obtain ⟨f, hf, rfl⟩ := List.mem_map.mp hv
    exact supp2 _ (List.mem_map.mpr ⟨f, (List.mem_filter.mp hf).1, rfl⟩)) g
  rw [Nat.pow_add, Nat.mul_mul_mul_comm, h1]
  unfold rK
  rw [h2]
  rfl
theorem J0_tr (R : Nat → Nat → Bool) (h u : Nat → Bool) : J0 (tr R) u h = J0 R h u := by
  unfold J0 onB
  rw [all_swap]
  refine all_congr fun i _ => all_congr fun j _ => ?_
  show (!R i j || (u (two i) == h (two j))) = (!R i j || (h (two j) == u (two i)))
  cases h (two j) <;> cases u (two i) <;> rfl
theorem parts_sym (R : Nat → Nat → Bool) : nK (tr R) 1 + rK R 2 = nK R 1 + rK (tr R) 2 := by
  have h1 := parts_count R (fun _ => false) (fun _ => false)
  have h2 := parts_count (tr R) (fun _ => false) (fun _ => false)
  rw [sm_fub, sm_congr (fun u => sm_congr (fun h => by rw [J0_tr]) _ _)] at h2
  have h3 := h1.trans h2.symm
  have hpos : 0 < sm V5 (fun _ => false) (fun h => sm V5 (fun _ => false) fun u => (J0 R h u).toNat) := by
    rcases Nat.eq_zero_or_pos (sm V5 (fun _ => false) (fun h => sm V5 (fun _ => false) fun u => (J0 R h u).toNat)) with q | q
    · rw [q, Nat.zero_mul] at h1
      exact absurd h1 (by decide)
    · exact q
  have h4 := Nat.eq_of_mul_eq_mul_left hpos h3
  exact two_inj h4
end Mine
set_option maxHeartbeats 8000000
namespace Mine

/-! ## rings -/
noncomputable def E10 : List Nat := Pr.map eP
noncomputable def Tr : List (Nat × Nat × Nat) := [(0, 1, 2), (0, 1, 3), (0, 2, 3), (1, 2, 3), (0, 1, 4), (0, 2, 4), (1, 2, 4), (0, 3, 4), (1, 3, 4), (2, 3, 4)]
noncomputable def eT (t : Nat × Nat × Nat) : Nat := 2 ^ t.1 + 2 ^ t.2.1 + 2 ^ t.2.2
theorem faces3 : faces 3 = Tr.map eT := by decide +kernel
theorem Tr_ok : ∀ t ∈ Tr, (t.1, t.2.1) ∈ Pr ∧ (t.1, t.2.2) ∈ Pr ∧ (t.2.1, t.2.2) ∈ Pr ∧ t.1 < 5 ∧ t.2.1 < 5 ∧ t.2.2 < 5 := by decide
theorem rim_T : ∀ t ∈ Tr, rimN (eT t) = (2 ^ eP (t.1, t.2.1) ^^^ 2 ^ eP (t.1, t.2.2)) ^^^ 2 ^ eP (t.2.1, t.2.2) := by decide +kernel
theorem dot_pow {p : Nat} (f : Nat → Bool) : ∀ J : List Nat, J.Nodup → p ∈ J → dot J (2 ^ p) f = f p
  | [], _, h => by cases h
  | i :: J, hn, h => by
    have hn := List.nodup_cons.mp hn
    have out : ∀ J : List Nat, p ∉ J → dot J (2 ^ p) f = false := by
      intro J
      induction J with
      | nil => intro _; rfl
      | cons k J ih =>
        intro hk
        have := ih fun q => hk (.tail _ q)
        unfold dot at this ⊢
        rw [List.foldr_cons, this, Nat.testBit_two_pow]
        have : ¬ p = k := fun e => hk (by rw [e]; exact .head _)
        simp [this]
    by_cases e : i = p
    · subst e
      have := out J hn.1
      unfold dot at this ⊢
      rw [List.foldr_cons, this, Nat.testBit_two_pow]
      simp
    · have hp : p ∈ J := by
        rcases List.mem_cons.mp h with q | q
        · exact absurd q.symm e
        · exact q
      have ih := dot_pow f J hn.2 hp
      unfold dot at ih ⊢
      rw [List.foldr_cons, ih, Nat.testBit_two_pow]
      have : ¬ p = i := fun q => e q.symm
      simp [this]
theorem E10_nodup : E10.Nodup := by decide
theorem eP_mem {p : Nat × Nat} (h : p ∈ Pr) : eP p ∈ E10 := List.mem_map.mpr ⟨p, h, rfl⟩
theorem dot_eT (f : Nat → Bool) : ∀ t ∈ Tr, dot E10 (rimN (eT t)) f = Bool.xor (Bool.xor (f (eP (t.1, t.2.1))) (f (eP (t.1, t.2.2)))) (f (eP (t.2.1, t.2.2))) := by
  intro t ht
  obtain ⟨h1, h2, h3, _⟩ := Tr_ok t ht
  rw [rim_T t ht, dot_xor, dot_xor, dot_pow f _ E10_nodup (eP_mem h1), dot_pow f _ E10_nodup (eP_mem h2), dot_pow f _ E10_nodup (eP_mem h3)]
theorem inRow_eT (R : Nat → Nat → Bool) (i : Nat) : ∀ t ∈ Tr, inRow R (eT t) i = (R i t.1 && R i t.2.1 && R i t.2.2) := by
  intro t ht
  have key : ∀ t ∈ Tr, ∀ a b c d e : Bool, (List.range 5).all (fun j => !bit (eT t) j || mk5 a b c d e j) = (mk5 a b c d e t.1 && mk5 a b c d e t.2.1 && mk5 a b c d e t.2.2) := by decide +kernel
  have h := key t ht (R i 0) (R i 1) (R i 2) (R i 3) (R i 4)
  obtain ⟨_, _, _, h1, h2, h3⟩ := Tr_ok t ht
  rw [mk5_at (R i) h1, mk5_at (R i) h2, mk5_at (R i) h3] at h
  rw [← h]
  exact all_congr fun j hj => by rw [mk5_at (R i) (by simpa using hj)]

/-- the triangles of one row -/
noncomputable def Tb (a f : Nat → Bool) : Bool := Tr.all fun t => !(a t.1 && a t.2.1 && a t.2.2) || !Bool.xor (Bool.xor (f (eP (t.1, t.2.1))) (f (eP (t.1, t.2.2)))) (f (eP (t.2.1, t.2.2)))
noncomputable def cB (a f b : Nat → Bool) : Bool := Pr.all fun p => !(a p.1 && a p.2) || (f (eP p) == Bool.xor (b p.1) (b p.2))
theorem tri_sol (R : Nat → Nat → Bool) (f : Nat → Bool) : ((List.range 5).all fun i => Tb (R i) f) = sol E10 f (((faces 3).filter (mem R)).map rimN) := by
  rw [sol_filter, faces3, List.all_map]
  unfold Tb
  rw [all_swap]
  refine all_congr fun t ht => ?_
  show _ = (!mem R (eT t) || !dot E10 (rimN (eT t)) f)
  unfold mem
  rw [any_imp, dot_eT f t ht]
  refine all_congr fun i _ => ?_
  rw [inRow_eT R i t ht]
theorem cB_Tb {a f b : Nat → Bool} (h : cB a f b = true) : Tb a f = true := by
  unfold cB at h
  unfold Tb
  rw [List.all_eq_true] at h ⊢
  intro t ht
  obtain ⟨h1, h2, h3, _⟩ := Tr_ok t ht
  have k1 := h _ h1
  have k2 := h _ h2
  have k3 := h _ h3
  simp only at k1 k2 k3
  revert k1 k2 k3
  cases a t.1 <;> cases a t.2.1 <;> cases a t.2.2 <;> simp
  intro k1 k2 k3
  rw [k1, k2, k3]
  cases b t.1 <;> cases b t.2.1 <;> cases b t.2.2 <;> rfl
/-- what a row hides: a potential -/
noncomputable def wOf (a f : Nat → Bool) : Nat → Bool := fun j => match j with
  | 1 => a 0 && f 3
  | 2 => bif a 0 then f 5 else a 1 && f 6
  | 3 => bif a 0 then f 9 else bif a 1 then f 10 else a 2 && f 12
  | 4 => bif a 0 then f 17 else bif a 1 then f 18 else bif a 2 then f 20 else a 3 && f 24
  | _ => false
noncomputable def triB (a0 a1 a2 a3 a4 f01 f02 f12 f03 f13 f23 f04 f14 f24 f34 : Bool) : Bool := ((!(a0 && a1 && a2) || !Bool.xor (Bool.xor f01 f02) f12) && ((!(a0 && a1 && a3) || !Bool.xor (Bool.xor f01 f03) f13) && ((!(a0 && a2 && a3) || !Bool.xor (Bool.xor f02 f03) f23) && ((!(a1 && a2 && a3) || !Bool.xor (Bool.xor f12 f13) f23) && ((!(a0 && a1 && a4) || !Bool.xor (Bool.xor f01 f04) f14) && ((!(a0 && a2 && a4) || !Bool.xor (Bool.xor f02 f04) f24) && ((!(a1 && a2 && a4) || !Bool.xor (Bool.xor f12 f14) f24) && ((!(a0 && a3 && a4) || !Bool.xor (Bool.xor f03 f04) f34) && ((!(a1 && a3 && a4) || !Bool.xor (Bool.xor f13 f14) f34) && (!(a2 && a3 && a4) || !Bool.xor (Bool.xor f23 f24) f34))))))))))
noncomputable def wB (a0 a1 a2 a3 a4 f01 f02 f12 f03 f13 f23 f04 f14 f24 f34 : Bool) (w1 w2 w3 w4 : Bool) : Bool := ((!(a0 && a1) || (f01 == w1)) && ((!(a0 && a2) || (f02 == w2)) && ((!(a1 && a2) || (f12 == Bool.xor w1 w2)) && ((!(a0 && a3) || (f03 == w3)) && ((!(a1 && a3) || (f13 == Bool.xor w1 w3)) && ((!(a2 && a3) || (f23 == Bool.xor w2 w3)) && ((!(a0 && a4) || (f04 == w4)) && ((!(a1 && a4) || (f14 == Bool.xor w1 w4)) && ((!(a2 && a4) || (f24 == Bool.xor w2 w4)) && (!(a3 && a4) || (f34 == Bool.xor w3 w4)))))))))))
theorem w_tab : ∀ a0 a1 a2 a3 a4 f01 f02 f12 f03 f13 f23 f04 f14 f24 f34 : Bool, (!triB a0 a1 a2 a3 a4 f01 f02 f12 f03 f13 f23 f04 f14 f24 f34 || wB a0 a1 a2 a3 a4 f01 f02 f12 f03 f13 f23 f04 f14 f24 f34 (a0 && f01) (bif a0 then f02 else a1 && f12) (bif a0 then f03 else bif a1 then f13 else a2 && f23) (bif a0 then f04 else bif a1 then f14 else bif a2 then f24 else a3 && f34)) = true := by decide +kernel

theorem Tb_triB (a f : Nat → Bool) : Tb a f = triB (a 0) (a 1) (a 2) (a 3) (a 4) (f 3) (f 5) (f 6) (f 9) (f 10) (f 12) (f 17) (f 18) (f 20) (f 24) := by
  simp only [Tb, Tr, List.all_cons, List.all_nil, Bool.and_true, triB, eP]
theorem cB_wB (a f : Nat → Bool) : cB a f (wOf a f) = wB (a 0) (a 1) (a 2) (a 3) (a 4) (f 3) (f 5) (f 6) (f 9) (f 10) (f 12) (f 17) (f 18) (f 20) (f 24) (wOf a f 1) (wOf a f 2) (wOf a f 3) (wOf a f 4) := by
  have e : wOf a f 0 = false := rfl
  simp only [cB, Pr, List.all_cons, List.all_nil, Bool.and_true, wB, eP, e, Bool.false_xor]
theorem w_ok {a f : Nat → Bool} (h : Tb a f = true) : cB a f (wOf a f) = true := by
  rw [cB_wB]
  have k := w_tab (a 0) (a 1) (a 2) (a 3) (a 4) (f 3) (f 5) (f 6) (f 9) (f 10) (f 12) (f 17) (f 18) (f 20) (f 24)
  rw [← Tb_triB, h, Bool.not_true, Bool.false_or] at k
  exact k
theorem wOf_out (a f : Nat → Bool) : ∀ x, x ∉ List.range 5 → wOf a f x = false := by
  intro x hx
  match x with
  | 0 => rfl
  | 1 => exact absurd (by decide) hx
  | 2 => exact absurd (by decide) hx
  | 3 => exact absurd (by decide) hx
  | 4 => exact absurd (by decide) hx
  | n + 5 => rfl
theorem cB_shift {a f w : Nat → Bool} (h : cB a f w = true) (b : Nat → Bool) : cB a f (fun x => Bool.xor (b x) (w x)) = conB a b := by
  unfold cB at h
  rw [List.all_eq_true] at h
  refine all_congr fun p hp => ?_
  have k := h p hp
  show (!(a p.1 && a p.2) || (f (eP p) == Bool.xor (Bool.xor (b p.1) (w p.1)) (Bool.xor (b p.2) (w p.2)))) = (!(a p.1 && a p.2) || (b p.1 == b p.2))
  revert k
  cases a p.1 <;> cases a p.2 <;> simp
  intro k
  rw [k]
  cases b p.1 <;> cases b p.2 <;> cases w p.1 <;> cases w p.2 <;> rfl
theorem sm_add {ι : Type} [DecidableEq ι] (φ ψ : (ι → Bool) → Nat) : ∀ (I : List ι) (g : ι → Bool), sm I g (fun h => φ h + ψ h) = sm I g φ + sm I g ψ
  | [], g => rfl
  | x :: xs, g => by rw [sm, sm, sm, sm_add φ ψ xs, sm_add φ ψ xs]; omega
theorem on_count (a : Nat → Bool) (c : Bool) (k : Nat → Bool) : sm (List.range 5) k (fun b => (onB a b c).toNat) * 2 ^ (List.range 5).countP a = 2 ^ 5 := by
  have e : ∀ b, (onB a b c).toNat = ((List.range 5).map fun j => (!a j || (b j == c)).toNat).prod := fun b => all_prod _ _
  have hs := sm_singles (fun j : Nat => j) (fun j b => (!a j || (b == c)).toNat) (List.range 5) k rk0
  rw [List.map_id' ] at hs
  rw [sm_congr e, hs]
  have e2 : ((List.range 5).map fun j => (!a j || (false == c)).toNat + (!a j || (true == c)).toNat) = (List.range 5).map fun j => if a j = true then 1 else 2 := by
    refine List.map_congr_left fun j _ => ?_
    cases a j <;> cases c <;> rfl
  rw [e2, prod_two]
  rfl
theorem row_count (a f k : Nat → Bool) : sm (List.range 5) k (fun b => (cB a f b).toNat) * ((if anyB a = true then 1 else 2) * 2 ^ (List.range 5).countP a) = 2 ^ 6 * (Tb a f).toNat := by
  cases hT : Tb a f with
  | false =>
    have e : ∀ b, (cB a f b).toNat = 0 * 1 := fun b => by
      cases hc : cB a f b with
      | false => rfl
      | true => rw [cB_Tb hc] at hT; cases hT
    rw [sm_congr e, sm_mul]
    simp
  | true =>
    have hw := w_ok hT
    rw [← sm_shift (wOf a f) (fun b => (cB a f b).toNat) (List.range 5) k (wOf_out a f)]
    have e : ∀ b, (cB a f (fun x => Bool.xor (b x) (wOf a f x))).toNat = (conB a b).toNat := fun b => by rw [cB_shift hw]
    have e1 : sm (List.range 5) k (fun h => (fun b => (cB a f b).toNat) fun x => Bool.xor (h x) (wOf a f x)) = sm (List.range 5) k (fun b => (conB a b).toNat) := sm_congr e _ _
    rw [e1, ← Nat.mul_assoc, Nat.mul_comm (sm _ _ _), ← sm_mul]
    have e2 : ∀ b, (if anyB a = true then 1 else 2) * (conB a b).toNat = (onB a b false).toNat + (onB a b true).toNat := fun b => (one_eq a b).symm
    rw [sm_congr e2, sm_add, Nat.add_mul, on_count, on_count]
    rfl
end Mine
set_option maxHeartbeats 8000000
namespace Mine

theorem sm_map {ι κ : Type} [DecidableEq ι] [DecidableEq κ] (e : κ → ι) (he : ∀ a b, e a = e b → a = b) (ψ : (κ → Bool) → Nat) : ∀ (L : List κ) (g : ι → Bool), sm (L.map e) g (fun h => ψ fun j => h (e j)) = sm L (fun j => g (e j)) ψ
  | [], g => rfl
  | x :: xs, g => by
    have u : ∀ b, (fun j => upd g (e x) b (e j)) = upd (fun j => g (e j)) x b := fun b => by
      funext j
      unfold upd
      by_cases h : j = x
      · rw [if_pos h, if_pos (by rw [h])]
      · rw [if_neg h, if_neg fun q => h (he _ _ q)]
    rw [List.map_cons, sm, sm, sm_map e he ψ xs, sm_map e he ψ xs, u, u]

noncomputable def blk (i : Nat) : List (Nat × Nat) := (List.range 5).map fun j => (i, j)
noncomputable def G25 : List (Nat × Nat) := (List.range 5).flatMap blk
noncomputable def J1 (R : Nat → Nat → Bool) (f : Nat → Bool) (g : Nat × Nat → Bool) : Bool := (List.range 5).all fun i => cB (R i) f fun j => g (i, j)
noncomputable def wR (R : Nat → Nat → Bool) : Nat := ((List.range 5).map fun i => (if anyB (R i) = true then 1 else 2) * 2 ^ (List.range 5).countP (R i)).prod
theorem J1_rows (R : Nat → Nat → Bool) (f : Nat → Bool) (g0 : Nat × Nat → Bool) : sm G25 g0 (fun g => (J1 R f g).toNat) * wR R = 2 ^ 30 * ((List.range 5).all fun i => Tb (R i) f).toNat := by
  have e : ∀ g, (J1 R f g).toNat = ((List.range 5).map fun i => (cB (R i) f fun j => g (i, j)).toNat).prod := fun g => all_prod _ _
  have hind : ∀ k l : Nat, k ≠ l → ∀ x ∈ blk l, Ind x (fun g => (cB (R k) f fun j => g (k, j)).toNat) := by
    intro k l hkl x hx g b
    obtain ⟨j, _, rfl⟩ := List.mem_map.mp hx
    show (cB (R k) f fun j' => upd g (l, j) b (k, j')).toNat = _
    congr 2
    funext j'
    exact upd_ne _ _ fun q => hkl (Prod.mk.inj q).1
  rw [sm_congr e]
  unfold G25
  rw [sm_blocks blk (fun i g => (cB (R i) f fun j => g (i, j)).toNat) (List.range 5) g0 (rk0.imp fun {k l} h => ⟨hind k l h, hind l k fun q => h q.symm⟩)]
  unfold wR
  rw [← prod_mul, all_prod]
  have e2 : ((List.range 5).map fun i => sm (blk i) g0 (fun g => (cB (R i) f fun j => g (i, j)).toNat) * ((if anyB (R i) = true then 1 else 2) * 2 ^ (List.range 5).countP (R i))) = (List.range 5).map fun i => 2 ^ 6 * (Tb (R i) f).toNat := by
    refine List.map_congr_left fun i _ => ?_
    have := sm_map (fun j : Nat => (i, j)) (fun a b h => (Prod.mk.inj h).2) (fun b => (cB (R i) f b).toNat) (List.range 5) g0
    unfold blk
    rw [this, row_count]
  rw [e2, prod_mul]
  rfl
theorem supp3 : ∀ v ∈ (faces 3).map rimN, Supp E10 v := by
  intro v hv i hi
  have h1 : ∀ v ∈ (faces 3).map rimN, v < 2 ^ 25 ∧ ∀ i, i < 25 → v.testBit i = true → i ∈ E10 := by decide +kernel
  obtain ⟨h2, h3⟩ := h1 v hv
  rcases Nat.lt_or_ge i 25 with q | q
  · exact h3 i q hi
  · have := Nat.testBit_lt_two_pow (Nat.lt_of_lt_of_le h2 (Nat.pow_le_pow_right (by decide) q))
    rw [this] at hi; cases hi
theorem rings_a (R : Nat → Nat → Bool) (f0 : Nat → Bool) (g0 : Nat × Nat → Bool) : sm E10 f0 (fun f => sm G25 g0 fun g => (J1 R f g).toNat) * wR R * 2 ^ rK R 3 = 2 ^ 40 := by
  rw [Nat.mul_comm (sm _ _ _) (wR R), ← sm_mul]
  have e : ∀ f, wR R * sm G25 g0 (fun g => (J1 R f g).toNat) = 2 ^ 30 * (sol E10 f (((faces 3).filter (mem R)).map rimN)).toNat := fun f => by
    rw [Nat.mul_comm, J1_rows, tri_sol]
  rw [sm_congr e, sm_mul, Nat.mul_assoc]
  have h2 := rank_count E10_nodup (((faces 3).filter (mem R)).map rimN) (fun v hv => by
    obtain ⟨f, hf, rfl⟩ := List.mem_map.mp hv
    exact supp3 _ (List.mem_map.mpr ⟨f, (List.mem_filter.mp hf).1, rfl⟩)) f0
  unfold rK
  rw [h2]
  rfl
noncomputable def mP (R : Nat → Nat → Bool) (p : Nat × Nat) : Nat → Bool := fun i => R i p.1 && R i p.2
noncomputable def xP (g : Nat × Nat → Bool) (p : Nat × Nat) : Nat → Bool := fun i => Bool.xor (g (i, p.1)) (g (i, p.2))
noncomputable def Gc (R : Nat → Nat → Bool) (g : Nat × Nat → Bool) : Bool := Pr.all fun p => conB (mP R p) (xP g p)
theorem J1_on (R : Nat → Nat → Bool) (f : Nat → Bool) (g : Nat × Nat → Bool) : J1 R f g = Pr.all fun p => onB (mP R p) (xP g p) (f (eP p)) := by
  unfold J1 cB
  rw [all_swap]
  refine all_congr fun p _ => all_congr fun i _ => ?_
  show (!(R i p.1 && R i p.2) || (f (eP p) == Bool.xor (g (i, p.1)) (g (i, p.2)))) = (!(R i p.1 && R i p.2) || (Bool.xor (g (i, p.1)) (g (i, p.2)) == f (eP p)))
  cases f (eP p) <;> cases Bool.xor (g (i, p.1)) (g (i, p.2)) <;> rfl
theorem eP_ne : Pr.Pairwise fun k l => eP k ≠ eP l := by decide
theorem nK2 (R : Nat → Nat → Bool) : nK R 2 = Pr.countP fun p => anyB (mP R p) := by
  unfold nK
  rw [faces2, List.countP_map]
  refine List.countP_congr fun p hp => ?_
  have e : mem R (eP p) = anyB (mP R p) := by
    unfold mem anyB
    exact any_congr fun i _ => inRow_eP R i p hp
  show mem R (eP p) = true ↔ _
  rw [e]
theorem rings_b (R : Nat → Nat → Bool) (f0 : Nat → Bool) (g0 : Nat × Nat → Bool) : sm E10 f0 (fun f => sm G25 g0 fun g => (J1 R f g).toNat) * 2 ^ nK R 2 = 2 ^ 10 * sm G25 g0 (fun g => (Gc R g).toNat) := by
  rw [sm_fub]
  have e : ∀ g, sm E10 f0 (fun f => (J1 R f g).toNat) = (Pr.map fun p => if anyB (mP R p) = true then 1 else 2).prod * (Gc R g).toNat := fun g => by
    have e1 : ∀ f, (J1 R f g).toNat = (Pr.map fun p => (onB (mP R p) (xP g p) (f (eP p))).toNat).prod := fun f => by rw [J1_on]; exact all_prod _ _
    unfold E10
    rw [sm_congr e1, sm_singles eP (fun p b => (onB (mP R p) (xP g p) b).toNat) Pr f0 eP_ne]
    unfold Gc
    rw [all_prod, ← prod_mul]
    congr 1
    exact List.map_congr_left fun p _ => one_eq _ _
  rw [sm_congr e, sm_mul, nK2, Nat.mul_right_comm, prod_two]
  rfl
noncomputable def cardR (R : Nat → Nat → Bool) : Nat := ((List.range 5).map fun i => (List.range 5).countP (R i)).sum
theorem cnt_sum (q : Nat → Bool) : ∀ L : List Nat, L.countP q = (L.map fun j => (q j).toNat).sum
  | [] => rfl
  | j :: L => by
    rw [List.countP_cons, List.map_cons, List.sum_cons, cnt_sum q L, Nat.add_comm]
    cases q j <;> rfl
theorem nsum_add (f g : Nat → Nat) : ∀ L : List Nat, (L.map fun a => f a + g a).sum = (L.map f).sum + (L.map g).sum
  | [] => rfl
  | a :: L => by rw [List.map_cons, List.sum_cons, nsum_add f g L, List.map_cons, List.sum_cons, List.map_cons, List.sum_cons]; omega
theorem nsum_swap (h : Nat → Nat → Nat) (M : List Nat) : ∀ L : List Nat, (L.map fun a => (M.map fun b => h a b).sum).sum = (M.map fun b => (L.map fun a => h a b).sum).sum
  | [] => by
    induction M with
    | nil => rfl
    | cons b M ih => rw [List.map_cons, List.sum_cons, ← ih]; rfl
  | a :: L => by
    rw [List.map_cons, List.sum_cons, nsum_swap h M L, ← nsum_add]
    rfl
theorem cardR_tr (R : Nat → Nat → Bool) : cardR (tr R) = cardR R := by
  unfold cardR
  simp only [cnt_sum]
  exact nsum_swap (fun i j => (tr R i j).toNat) (List.range 5) (List.range 5)
theorem prod_pow (c : Nat → Nat) : ∀ L : List Nat, (L.map fun i => 2 ^ c i).prod = 2 ^ (L.map c).sum
  | [] => rfl
  | i :: L => by rw [List.map_cons, List.prod_cons, prod_pow c L, List.map_cons, List.sum_cons, Nat.pow_add]
theorem wR_eq (R : Nat → Nat → Bool) : wR R * 2 ^ nK (tr R) 1 = 2 ^ (5 + cardR R) := by
  unfold wR
  rw [prod_mul, prod_pow, nK1_tr, Nat.mul_right_comm, prod_two, Nat.pow_add]
  rfl
theorem G_sym (R : Nat → Nat → Bool) : sm G25 (fun _ => false) (fun g => (Gc (tr R) g).toNat) = sm G25 (fun _ => false) (fun g => (Gc R g).toNat) := by
  have e : ∀ g, (Gc (tr R) g).toNat = (fun g => (Gc R g).toNat) fun x => g (x.2, x.1) := by
    intro g
    show (Gc (tr R) g).toNat = (Gc R fun x => g (x.2, x.1)).toNat
    congr 1
    unfold Gc conB
    rw [all_swap]
    refine all_congr fun p _ => all_congr fun q _ => ?_
    show (!((R q.1 p.1 && R q.2 p.1) && (R q.1 p.2 && R q.2 p.2)) || (Bool.xor (g (p.1, q.1)) (g (p.1, q.2)) == Bool.xor (g (p.2, q.1)) (g (p.2, q.2)))) = (!((R q.1 p.1 && R q.1 p.2) && (R q.2 p.1 && R q.2 p.2)) || (Bool.xor (g (p.1, q.1)) (g (p.2, q.1)) == Bool.xor (g (p.1, q.2)) (g (p.2, q.2))))
    generalize R q.1 p.1 = a
    generalize R q.1 p.2 = b
    generalize R q.2 p.1 = c
    generalize R q.2 p.2 = d
    generalize g (p.1, q.1) = x
    generalize g (p.1, q.2) = y
    generalize g (p.2, q.1) = z
    generalize g (p.2, q.2) = w
    revert a b c d x y z w
    decide
  rw [sm_congr e]
  have k := sm_name (fun x : Nat × Nat => (x.2, x.1)) (fun x => rfl) (fun g => (Gc R g).toNat) G25 (fun _ => false)
  refine k.trans ?_
  exact sm_perm (by decide) _ _
theorem cancel_pow {G a b c d : Nat} (h1 : G * 2 ^ a = 2 ^ b) (h2 : G * 2 ^ c = 2 ^ d) : a + d = c + b := by
  have e1 : G * 2 ^ (a + d) = 2 ^ (b + d) := by rw [Nat.pow_add, ← Nat.mul_assoc, h1, Nat.pow_add]
  have e2 : G * 2 ^ (c + b) = 2 ^ (b + d) := by rw [Nat.pow_add, ← Nat.mul_assoc, h2, Nat.add_comm b d, Nat.pow_add]
  have hpos : 0 < G := by
    rcases Nat.eq_zero_or_pos G with q | q
    · rw [q, Nat.zero_mul] at h1
      have := Nat.two_pow_pos b
      omega
    · exact q
  exact two_inj (Nat.eq_of_mul_eq_mul_left hpos (e1.trans e2.symm))
theorem rings_c (R : Nat → Nat → Bool) : sm G25 (fun _ => false) (fun g => (Gc R g).toNat) * 2 ^ (15 + cardR R + rK R 3) = 2 ^ (40 + nK (tr R) 1 + nK R 2) := by
  have h1 := rings_a R (fun _ => false) (fun _ => false)
  have h2 := rings_b R (fun _ => false) (fun _ => false)
  have h3 := wR_eq R
  generalize sm E10 (fun _ => false) (fun f => sm G25 (fun _ => false) fun g => (J1 R f g).toNat) = J at h1 h2
  generalize sm G25 (fun _ => false) (fun g => (Gc R g).toNat) = G at h2 ⊢
  generalize wR R = W at h1 h3
  have e : G * 2 ^ (15 + cardR R + rK R 3) = (2 ^ 10 * G) * 2 ^ (5 + cardR R) * 2 ^ rK R 3 := by
    rw [show 15 + cardR R + rK R 3 = 10 + (5 + cardR R) + rK R 3 by omega, Nat.pow_add, Nat.pow_add, Nat.mul_comm (2 ^ 10) G]
    simp only [Nat.mul_assoc]
  rw [e, ← h2, ← h3, Nat.pow_add, Nat.pow_add, ← h1]
  simp only [Nat.mul_assoc, Nat.mul_comm, Nat.mul_left_comm]
theorem rings_sym (R : Nat → Nat → Bool) : rK R 3 + nK R 1 + nK (tr R) 2 = rK (tr R) 3 + nK (tr R) 1 + nK R 2 := by
  have h1 := rings_c R
  have h2 := rings_c (tr R)
  rw [G_sym, cardR_tr] at h2
  have h3 : tr (tr R) = R := rfl
  rw [h3] at h2
  have := cancel_pow h1 h2
  omega
end Mine
set_option maxHeartbeats 8000000
namespace Mine

/-! ## the sum with signs -/
noncomputable def SF : List (Nat × Int) := [1, 2, 4, 8, 16].map (fun f => (f, 1)) ++ ([3, 5, 6, 9, 10, 12, 17, 18, 20, 24].map (fun f => (f, -1)) ++ ([7, 11, 13, 14, 19, 21, 22, 25, 26, 28].map (fun f => (f, 1)) ++ ([15, 23, 27, 29, 30].map (fun f => (f, -1)) ++ [31].map (fun f => (f, 1)))))
noncomputable def one0 (b : Bool) : Int := if b = true then 1 else 0
noncomputable def chi (R : Nat → Nat → Bool) : Int := (SF.map fun p => p.2 * one0 (mem R p.1)).sum
theorem count_sum (q : Nat → Bool) : ∀ L : List Nat, ((L.countP q : Nat) : Int) = (L.map fun f => one0 (q f)).sum
  | [] => rfl
  | f :: L => by
    rw [List.countP_cons, List.map_cons, List.sum_cons, ← count_sum q L]
    unfold one0
    cases q f <;> simp <;> omega
theorem faces_all : faces 1 = [1, 2, 4, 8, 16] ∧ faces 2 = [3, 5, 6, 9, 10, 12, 17, 18, 20, 24] ∧ faces 3 = [7, 11, 13, 14, 19, 21, 22, 25, 26, 28] ∧ faces 4 = [15, 23, 27, 29, 30] ∧ faces 5 = [31] := by decide +kernel
theorem sign_sum (c : Int) (g : Nat → Int) : ∀ L : List Nat, ((L.map fun f => (f, c)).map fun p : Nat × Int => p.2 * g p.1).sum = c * (L.map g).sum
  | [] => by rw [List.map_nil, List.map_nil, List.map_nil, List.sum_nil, Int.mul_zero]
  | a :: L => by rw [List.map_cons, List.map_cons, List.sum_cons, sign_sum c g L, List.map_cons, List.sum_cons, Int.mul_add]
theorem chi_n (R : Nat → Nat → Bool) : chi R = (nK R 1 : Int) - nK R 2 + nK R 3 - nK R 4 + nK R 5 := by
  unfold nK chi
  obtain ⟨h1, h2, h3, h4, h5⟩ := faces_all
  rw [count_sum, count_sum, count_sum, count_sum, count_sum, h1, h2, h3, h4, h5]
  unfold SF
  rw [List.map_append, List.map_append, List.map_append, List.map_append, List.sum_append, List.sum_append, List.sum_append, List.sum_append]
  have k := fun (c : Int) (L : List Nat) => sign_sum c (fun f => one0 (mem R f)) L
  rw [k, k, k, k, k]
  generalize (List.map (fun f => one0 (mem R f)) [1, 2, 4, 8, 16]).sum = a
  generalize (List.map (fun f => one0 (mem R f)) [3, 5, 6, 9, 10, 12, 17, 18, 20, 24]).sum = b
  generalize (List.map (fun f => one0 (mem R f)) [7, 11, 13, 14, 19, 21, 22, 25, 26, 28]).sum = c
  generalize (List.map (fun f => one0 (mem R f)) [15, 23, 27, 29, 30]).sum = d
  generalize (List.map (fun f => one0 (mem R f)) [31]).sum = e
  omega

noncomputable def Qb (τ : Nat) (b : Nat → Bool) : Bool := (List.range 5).all fun i => !bit τ i || b i
theorem any_tab : ∀ b0 b1 b2 b3 b4 : Bool, one0 ((List.range 5).any (mk5 b0 b1 b2 b3 b4)) = (SF.map fun p => p.2 * one0 (Qb p.1 (mk5 b0 b1 b2 b3 b4))).sum := by decide +kernel
theorem any_sum (b : Nat → Bool) : one0 ((List.range 5).any b) = (SF.map fun p => p.2 * one0 (Qb p.1 b)).sum := by
  have h := any_tab (b 0) (b 1) (b 2) (b 3) (b 4)
  have e1 : (List.range 5).any (mk5 (b 0) (b 1) (b 2) (b 3) (b 4)) = (List.range 5).any b := any_congr fun j hj => mk5_at b (by simpa using hj)
  have e2 : ∀ τ, Qb τ (mk5 (b 0) (b 1) (b 2) (b 3) (b 4)) = Qb τ b := fun τ => all_congr fun j hj => by rw [mk5_at b (by simpa using hj)]
  simp only [e1, e2] at h
  exact h
theorem sum_mul_l {α : Type} (c : Int) (f : α → Int) : ∀ L : List α, c * (L.map f).sum = (L.map fun a => c * f a).sum
  | [] => by simp
  | a :: L => by rw [List.map_cons, List.sum_cons, List.map_cons, List.sum_cons, Int.mul_add, sum_mul_l c f L]
theorem sum_add {α : Type} (f g : α → Int) : ∀ L : List α, (L.map f).sum + (L.map g).sum = (L.map fun a => f a + g a).sum
  | [] => rfl
  | a :: L => by rw [List.map_cons, List.sum_cons, List.map_cons, List.sum_cons, List.map_cons, List.sum_cons, ← sum_add f g L]; omega
theorem sum_swap {α β : Type} (h : α → β → Int) (M : List β) : ∀ L : List α, (L.map fun a => (M.map fun b => h a b).sum).sum = (M.map fun b => (L.map fun a => h a b).sum).sum
  | [] => by
    induction M with
    | nil => rfl
    | cons b M ih => rw [List.map_cons, List.sum_cons, ← ih]; rfl
  | a :: L => by
    rw [List.map_cons, List.sum_cons, sum_swap h M L, sum_add]
    rfl
theorem Q_tr (R : Nat → Nat → Bool) (σ τ : Nat) : Qb τ (inRow R σ) = Qb σ (inRow (tr R) τ) := by
  unfold Qb inRow
  rw [Bool.eq_iff_iff]
  simp only [List.all_eq_true, Bool.or_eq_true, Bool.not_eq_true']
  constructor
  · intro h j hj
    by_cases hb : bit σ j = false
    · exact .inl hb
    · right
      intro i hi
      rcases h i hi with q | q
      · exact .inl q
      · rcases q j hj with q | q
        · exact absurd q hb
        · exact .inr q
  · intro h i hi
    by_cases hb : bit τ i = false
    · exact .inl hb
    · right
      intro j hj
      rcases h j hj with q | q
      · exact .inl q
      · rcases q i hi with q | q
        · exact absurd q hb
        · exact .inr q
theorem chi_tr (R : Nat → Nat → Bool) : chi (tr R) = chi R := by
  have key : ∀ R, chi R = (SF.map fun p => (SF.map fun q => p.2 * (q.2 * one0 (Qb q.1 (inRow R p.1)))).sum).sum := by
    intro R
    unfold chi
    congr 1
    refine List.map_congr_left fun p _ => ?_
    show p.2 * one0 ((List.range 5).any (inRow R p.1)) = _
    rw [any_sum, sum_mul_l]
  rw [key, key, sum_swap]
  congr 1
  refine List.map_congr_left fun p _ => ?_
  congr 1
  refine List.map_congr_left fun q _ => ?_
  rw [Q_tr (tr R)]
  show q.2 * (p.2 * one0 (Qb q.1 (inRow R p.1))) = _
  rw [← Int.mul_assoc, Int.mul_comm q.2 p.2, Int.mul_assoc]

/-! ## the greatest hollow -/
noncomputable def full (R : Nat → Nat → Bool) : Bool := (List.range 5).any fun i => (List.range 5).all fun j => R i j
noncomputable def most (R : Nat → Nat → Bool) (k : Nat) : Bool := (List.range 5).any fun i => (List.range 5).all fun j => decide (j = k) || R i j
noncomputable def all4 (R : Nat → Nat → Bool) : Bool := (List.range 5).all fun k => most R k
theorem mem31 (R : Nat → Nat → Bool) : mem R 31 = full R := any_congr fun i _ => all_congr fun j hj => by
  have : ∀ j ∈ List.range 5, bit 31 j = true := by decide
  rw [this j hj]; rfl
theorem memk (R : Nat → Nat → Bool) {k : Nat} (hk : k < 5) : mem R (31 - 2 ^ k) = most R k := any_congr fun i _ => all_congr fun j hj => by
  have : ∀ k, k < 5 → ∀ j ∈ List.range 5, (!bit (31 - 2 ^ k) j) = decide (j = k) := by decide +kernel
  rw [this k hk j hj]
theorem full_most {R : Nat → Nat → Bool} (h : full R = true) (k : Nat) : most R k = true := by
  unfold full at h
  unfold most
  simp only [List.any_eq_true, List.all_eq_true] at h ⊢
  obtain ⟨i, hi, h⟩ := h
  exact ⟨i, hi, fun j hj => by rw [h j hj]; simp⟩
theorem hollow_tab : ∀ b0 b1 b2 b3 b4 : Bool, let q : Nat → Bool := fun f => if f = 30 then b0 else if f = 29 then b1 else if f = 27 then b2 else if f = 23 then b3 else b4
    (([15, 23, 27, 29, 30].countP q : Nat) : Int) - ((elimN (([15, 23, 27, 29, 30].filter q).map rimN) []).length : Nat) = one0 (b0 && b1 && b2 && b3 && b4) := by decide +kernel
theorem rank5 : ∀ b : Bool, (([31].countP fun _ => b : Nat) : Int) - ((elimN (([31].filter fun _ => b).map rimN) []).length : Nat) = 0 ∧ ((elimN (([31].filter fun _ => b).map rimN) []).length : Nat) = (one0 b) := by decide +kernel
theorem hol5 (R : Nat → Nat → Bool) : (nK R 5 : Int) - rK R 5 = 0 ∧ (rK R 5 : Int) = one0 (full R) := by
  have h := rank5 (mem R 31)
  unfold nK rK
  rw [faces_all.2.2.2.2, ← mem31]
  have e1 : [31].countP (mem R) = [31].countP fun _ => mem R 31 := List.countP_congr fun f hf => by rw [List.mem_singleton.mp hf]
  have e2 : [31].filter (mem R) = [31].filter fun _ => mem R 31 := List.filter_congr fun f hf => by rw [List.mem_singleton.mp hf]
  rw [e1, e2]
  exact h
theorem hol4 (R : Nat → Nat → Bool) : (nK R 4 : Int) - rK R 4 = one0 (all4 R) := by
  have h := hollow_tab (most R 0) (most R 1) (most R 2) (most R 3) (most R 4)
  unfold nK rK
  rw [faces_all.2.2.2.1]
  have m0 := memk R (k := 0) (by decide)
  have m1 := memk R (k := 1) (by decide)
  have m2 := memk R (k := 2) (by decide)
  have m3 := memk R (k := 3) (by decide)
  have m4 := memk R (k := 4) (by decide)
  simp only [Nat.reducePow, Nat.reduceSub] at m0 m1 m2 m3 m4
  have hq : ∀ f ∈ [15, 23, 27, 29, 30], mem R f = (fun f => if f = 30 then most R 0 else if f = 29 then most R 1 else if f = 27 then most R 2 else if f = 23 then most R 3 else most R 4) f := by
    intro f hf
    simp only [List.mem_cons, List.not_mem_nil, or_false] at hf
    rcases hf with rfl | rfl | rfl | rfl | rfl
    · exact m4
    · exact m3
    · exact m2
    · exact m1
    · exact m0
  rw [List.countP_congr fun f hf => by rw [hq f hf], List.filter_congr hq]
  have e : all4 R = (most R 0 && most R 1 && most R 2 && most R 3 && most R 4) := by
    unfold all4
    simp [List.range_succ, Bool.and_assoc]
  rw [e]
  exact h
theorem perm_tab : ∀ i0 i1 i2 i3 i4 i : Fin 5, i0 ≠ i1 → i0 ≠ i2 → i0 ≠ i3 → i0 ≠ i4 → i1 ≠ i2 → i1 ≠ i3 → i1 ≠ i4 → i2 ≠ i3 → i2 ≠ i4 → i3 ≠ i4 → i = i0 ∨ i = i1 ∨ i = i2 ∨ i = i3 ∨ i = i4 := by decide +kernel
theorem hollow_tr {R : Nat → Nat → Bool} (h : (all4 R && !full R) = true) : (all4 (tr R) && !full (tr R)) = true := by
  simp only [Bool.and_eq_true, Bool.not_eq_true'] at h ⊢
  obtain ⟨h1, h2⟩ := h
  have hne : ∀ i : Fin 5, ∃ j : Fin 5, R i.val j.val = false := by
    intro i
    unfold full at h2
    rw [List.any_eq_false] at h2
    have := h2 i.val (by simp)
    rw [List.all_eq_true] at this
    refine Classical.byContradiction fun q => this fun j hj => ?_
    have hj5 : j < 5 := by simpa using hj
    cases hb : R i.val j with
    | true => rfl
    | false => exact absurd ⟨⟨j, hj5⟩, hb⟩ q
  have hrow : ∀ k : Fin 5, ∃ i : Fin 5, R i.val k.val = false ∧ ∀ j : Fin 5, j ≠ k → R i.val j.val = true := by
    intro k
    unfold all4 at h1
    rw [List.all_eq_true] at h1
    have := h1 k.val (by simp)
    unfold most at this
    simp only [List.any_eq_true, List.all_eq_true] at this
    obtain ⟨i, hi, hij⟩ := this
    have hi5 : i < 5 := by simpa using hi
    have key : ∀ j : Fin 5, j ≠ k → R i j.val = true := fun j hj => by
      have := hij j.val (by simp)
      have hn : ¬ j.val = k.val := fun q => hj (Fin.ext q)
      simpa [hn] using this
    refine ⟨⟨i, hi5⟩, ?_, key⟩
    obtain ⟨j, hj⟩ := hne ⟨i, hi5⟩
    by_cases e : j = k
    · rw [← e]; exact hj
    · have := key j e
      simp only at hj
      rw [hj] at this; cases this
  obtain ⟨i0, a0, b0⟩ := hrow 0
  obtain ⟨i1, a1, b1⟩ := hrow 1
  obtain ⟨i2, a2, b2⟩ := hrow 2
  obtain ⟨i3, a3, b3⟩ := hrow 3
  obtain ⟨i4, a4, b4⟩ := hrow 4
  have dis : ∀ {i i' k k' : Fin 5}, R i.val k.val = false → (∀ j : Fin 5, j ≠ k' → R i'.val j.val = true) → k ≠ k' → i ≠ i' := fun {i i' k k'} p q hk e => by
    subst e
    rw [q k hk] at p; cases p
  have sur := fun i => perm_tab i0 i1 i2 i3 i4 i (dis a0 b1 (by decide)) (dis a0 b2 (by decide)) (dis a0 b3 (by decide)) (dis a0 b4 (by decide)) (dis a1 b2 (by decide)) (dis a1 b3 (by decide)) (dis a1 b4 (by decide)) (dis a2 b3 (by decide)) (dis a2 b4 (by decide)) (dis a3 b4 (by decide))
  -- each row has its column
  have hcol : ∀ i : Fin 5, ∃ k : Fin 5, ∀ i' : Fin 5, i' ≠ i → R i'.val k.val = true := by
    intro i
    have hcase : ∀ {m : Fin 5} {x : Fin 5}, i = x → R x.val m.val = false → (∀ i' : Fin 5, i' ≠ x → R i'.val m.val = true) → ∃ k : Fin 5, ∀ i' : Fin 5, i' ≠ i → R i'.val k.val = true := fun {m x} e _ q => ⟨m, fun i' hi' => q i' (by rw [← e]; exact hi')⟩
    rcases sur i with e | e | e | e | e
    · refine hcase e a0 fun i' hi' => ?_
      rcases sur i' with q | q | q | q | q
      · exact absurd q hi'
      · rw [q]; exact b1 0 (by decide)
      · rw [q]; exact b2 0 (by decide)
      · rw [q]; exact b3 0 (by decide)
      · rw [q]; exact b4 0 (by decide)
    · refine hcase e a1 fun i' hi' => ?_
      rcases sur i' with q | q | q | q | q
      · rw [q]; exact b0 1 (by decide)
      · exact absurd q hi'
      · rw [q]; exact b2 1 (by decide)
      · rw [q]; exact b3 1 (by decide)
      · rw [q]; exact b4 1 (by decide)
    · refine hcase e a2 fun i' hi' => ?_
      rcases sur i' with q | q | q | q | q
      · rw [q]; exact b0 2 (by decide)
      · rw [q]; exact b1 2 (by decide)
      · exact absurd q hi'
      · rw [q]; exact b3 2 (by decide)
      · rw [q]; exact b4 2 (by decide)
    · refine hcase e a3 fun i' hi' => ?_
      rcases sur i' with q | q | q | q | q
      · rw [q]; exact b0 3 (by decide)
      · rw [q]; exact b1 3 (by decide)
      · rw [q]; exact b2 3 (by decide)
      · exact absurd q hi'
      · rw [q]; exact b4 3 (by decide)
    · refine hcase e a4 fun i' hi' => ?_
      rcases sur i' with q | q | q | q | q
      · rw [q]; exact b0 4 (by decide)
      · rw [q]; exact b1 4 (by decide)
      · rw [q]; exact b2 4 (by decide)
      · rw [q]; exact b3 4 (by decide)
      · exact absurd q hi'
  constructor
  · unfold all4
    rw [List.all_eq_true]
    intro i hi
    have hi5 : i < 5 := by simpa using hi
    obtain ⟨k, hk⟩ := hcol ⟨i, hi5⟩
    unfold most
    simp only [List.any_eq_true, List.all_eq_true]
    refine ⟨k.val, by simp, fun i' hi' => ?_⟩
    have hi'5 : i' < 5 := by simpa using hi'
    by_cases e : i' = i
    · simp [e]
    · have := hk ⟨i', hi'5⟩ fun q => e (Fin.mk.inj q)
      simp [tr, this]
  · unfold full
    rw [List.any_eq_false]
    intro c hc
    have hc5 : c < 5 := by simpa using hc
    rw [List.all_eq_true]
    intro q
    obtain ⟨i, hi, _⟩ := hrow ⟨c, hc5⟩
    have := q i.val (by simp)
    simp only [tr] at this
    rw [this] at hi
    cases hi
theorem hollow_sym (R : Nat → Nat → Bool) : (all4 (tr R) && !full (tr R)) = (all4 R && !full R) := by
  cases h : (all4 R && !full R) with
  | true => exact hollow_tr h
  | false =>
    cases h' : (all4 (tr R) && !full (tr R)) with
    | false => rfl
    | true =>
      have := hollow_tr h'
      have e : tr (tr R) = R := rfl
      rw [e, h] at this
      cases this
theorem hol45 (R : Nat → Nat → Bool) : (nK R 4 : Int) - rK R 4 - rK R 5 = one0 (all4 R && !full R) := by
  rw [hol4, (hol5 R).2]
  cases hf : full R with
  | false => cases all4 R <;> rfl
  | true =>
    have : all4 R = true := by
      unfold all4
      rw [List.all_eq_true]
      exact fun k _ => full_most hf k
    rw [this]; rfl

/-- the two bodies of a relation have the same holes (Dowker) -/
theorem holes_nums {n1 n2 n3 n4 n5 r2 r3 r4 r5 m1 m2 m3 m4 m5 s2 s3 s4 s5 h : Int} (h1 : m1 + r2 = n1 + s2) (h2 : r3 + n1 + m2 = s3 + m1 + n2) (h4 : n1 - n2 + n3 - n4 + n5 = m1 - m2 + m3 - m4 + m5) (h5 : n4 - r4 - r5 = h) (h6 : m4 - s4 - s5 = h) (h7 : n5 - r5 = 0) (h8 : m5 - s5 = 0) :
    n1 - r2 = m1 - s2 ∧ n2 - r2 - r3 = m2 - s2 - s3 ∧ n3 - r3 - r4 = m3 - s3 - s4 ∧ n4 - r4 - r5 = m4 - s4 - s5 ∧ n5 - r5 = m5 - s5 := by omega
theorem dowker (R : Nat → Nat → Bool) : holesOf (sidesR R) = holesOf (sidesR (tr R)) := by
  rw [holes_R, holes_R]
  have h1 : (nK (tr R) 1 : Int) + rK R 2 = nK R 1 + rK (tr R) 2 := by have := parts_sym R; exact_mod_cast this
  have h2 : (rK R 3 : Int) + nK R 1 + nK (tr R) 2 = rK (tr R) 3 + nK (tr R) 1 + nK R 2 := by have := rings_sym R; exact_mod_cast this
  have h4 := (chi_n (tr R)).symm.trans ((chi_tr R).trans (chi_n R))
  have h5 := hol45 R
  have h6 := hol45 (tr R)
  rw [hollow_sym] at h6
  obtain ⟨a, b, c, d, e⟩ := holes_nums h1 h2 h4.symm h5 h6 (hol5 R).1 (hol5 (tr R)).1
  rw [a, b, c, d, e]
theorem law2_holds : PySem.Challenge.rw_tc0046_02.Holds := law2_of fun ns _ => law2_but (dowker (fit (wordsOf ns)))
end Mine

set_option maxHeartbeats 8000000 in
theorem PySem.Challenge.cw_tc0046_02_holds : PySem.Challenge.rw_tc0046_02.Holds := by
  exact Mine.law2_holds
