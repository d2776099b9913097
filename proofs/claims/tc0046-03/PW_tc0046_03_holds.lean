import PyProof.Rows.All
import Wide.All
import OpenK.AllK
import Wide.FinOn
import PySem.Challenge.RW_tc0046_03
open PySem PySem.Calls PySem.W PyProof.Rows
set_option Elab.async false
set_option maxRecDepth 100000
set_option linter.unusedVariables false
set_option genSizeOf false
set_option genInjectivity false
namespace Mine

/-- abstract values -/
inductive AV where
  | none
  | bool (b : Bool)
  | int (i : Int)
  | str (s : Str)
  | val (v : Value)
  | tup (xs : List AV)
  | lst (xs : List AV)
  | dct (kvs : List (Str × AV))
  | obj (i : Nat)
  | hdr (i : Nat)
  | inst (i : Nat)

/-- abstract objects (tracked) -/
inductive AO where
  | lst (xs : List AV)
  | dct (kvs : List (Str × AV))
  | ns (vars : List (Str × AV))
  | cell (v : Option AV)
  | inst (v : Option AV)
  | loan

/-- what stays fixed -/
structure Cx where
  prog : Program
  w : World
  K : Frag
  p : Program
  loose : List Str
  mg : Str → Option Value
  mb : Str → Option Value
  C : Addr
  r : Shared
  kin : K.In r.heap
  top : TopRead p loose mg mb r.heap

abbrev Cx.M (X : Cx) : Model := model X.prog X.w

noncomputable def HdrAt (C : Addr) (h : Heap) (x dx l : Addr) : Prop :=
  h.get? x = some (instObj C dx) ∧ ∃ m, h.Ns dx m ∧ m (Str.ofString "_headers") = some (.ref l) ∧ ∀ y, y ≠ Str.ofString "_headers" → m y = none

mutual
noncomputable def VR (X : Cx) (ρ T : List Addr) (h : Heap) : AV → Value → Prop
  | .none, v => v = .none
  | .bool b, v => v = .bool b
  | .int i, v => ∃ t, v = .int i t
  | .str x, v => x.length ≤ sizeLine ∧ ∃ t, v = .str x t
  | .val u, v => v = u
  | .tup xs, v => ∃ a vs, v = .ref a ∧ a ∉ T ∧ IsTup h a vs.toArray ∧ VRs X ρ T h xs vs
  | .lst xs, v => ∃ a vs, v = .ref a ∧ a ∉ T ∧ h.IsList a vs.toArray ∧ VRs X ρ T h xs vs
  | .dct kvs, v => ∃ a vs, v = .ref a ∧ a ∉ T ∧ (a == sysModules) = false ∧ h.DictOf (strKind X.prog X.w) a vs ∧ VRk X ρ T h kvs vs
  | .obj i, v => ∃ a, v = .ref a ∧ ρ[i]? = some a
  | .hdr i, v => ∃ x dx l, v = .ref x ∧ x ∉ T ∧ dx ∉ T ∧ ρ[i]? = some l ∧ HdrAt X.C h x dx l
  | .inst i, v => ∃ x dx, v = .ref x ∧ x ∉ T ∧ ρ[i]? = some dx ∧ h.get? x = some (instObj X.C dx)
noncomputable def VRs (X : Cx) (ρ T : List Addr) (h : Heap) : List AV → List Value → Prop
  | [], vs => vs = []
  | x :: xs, vs => ∃ v r, vs = v :: r ∧ VR X ρ T h x v ∧ VRs X ρ T h xs r
noncomputable def VRk (X : Cx) (ρ T : List Addr) (h : Heap) : List (Str × AV) → List (Str × Value) → Prop
  | [], vs => vs = []
  | (k, x) :: xs, vs => ∃ v r, vs = (k, v) :: r ∧ VR X ρ T h x v ∧ VRk X ρ T h xs r
end

/-- heaps that agree on what is not tracked -/
structure Mv (ρ T : List Addr) (h : Heap) (ρ' T' : List Addr) (h' : Heap) : Prop where
  keep : ∀ b o, b ∉ T → h.get? b = some o → h'.get? b = some o
  trk : ∀ a ∈ T', a ∈ T ∨ h.get? a = none
  ids : ∀ (i : Nat) (a : Addr), ρ[i]? = some a → ρ'[i]? = some a

section
variable {X : Cx} {ρ T ρ' T' ρ'' T'' : List Addr} {h h' h'' : Heap}

theorem Mv.old (m : Mv ρ T h ρ' T' h') {a : Addr} {o : Obj} (ha : a ∉ T) (e : h.get? a = some o) : a ∉ T' ∧ h'.get? a = some o :=
  ⟨fun q => (m.trk a q).elim ha fun z => (by rw [z] at e; cases e), m.keep a o ha e⟩

theorem isList_at {a : Addr} {vs : Array Value} (m : Mv ρ T h ρ' T' h') (ha : a ∉ T) (x : h.IsList a vs) : a ∉ T' ∧ h'.IsList a vs :=
  let ⟨o, ho, r⟩ := x
  let q := m.old ha ho
  ⟨q.1, o, q.2, r⟩
theorem isTup_at {a : Addr} {vs : Array Value} (m : Mv ρ T h ρ' T' h') (ha : a ∉ T) (x : IsTup h a vs) : a ∉ T' ∧ IsTup h' a vs :=
  let ⟨o, ho, r⟩ := x
  let q := m.old ha ho
  ⟨q.1, o, q.2, r⟩
theorem dictOf_at {a : Addr} {kvs : List (Str × Value)} (m : Mv ρ T h ρ' T' h') (ha : a ∉ T) (x : h.DictOf (strKind X.prog X.w) a kvs) : a ∉ T' ∧ h'.DictOf (strKind X.prog X.w) a kvs :=
  let ⟨o, es, ep, ho, r⟩ := x
  let q := m.old ha ho
  ⟨q.1, o, es, ep, q.2, r⟩

mutual
theorem VR.mv (m : Mv ρ T h ρ' T' h') : ∀ (x : AV) {v : Value}, VR X ρ T h x v → VR X ρ' T' h' x v
  | .none, _, q => by simpa [VR] using q
  | .bool _, _, q => by simpa [VR] using q
  | .int _, _, q => by simpa [VR] using q
  | .str _, _, q => by simpa [VR] using q
  | .val _, _, q => by simpa [VR] using q
  | .tup xs, _, q => by
    simp only [VR] at q ⊢
    obtain ⟨a, vs, rfl, ha, ht, hv⟩ := q
    obtain ⟨ha', ht'⟩ := isTup_at m ha ht
    exact ⟨a, vs, rfl, ha', ht', VRs.mv m xs hv⟩
  | .lst xs, _, q => by
    simp only [VR] at q ⊢
    obtain ⟨a, vs, rfl, ha, ht, hv⟩ := q
    obtain ⟨ha', ht'⟩ := isList_at m ha ht
    exact ⟨a, vs, rfl, ha', ht', VRs.mv m xs hv⟩
  | .dct kvs, _, q => by
    simp only [VR] at q ⊢
    obtain ⟨a, vs, rfl, ha, hy, ht, hv⟩ := q
    obtain ⟨ha', ht'⟩ := dictOf_at m ha ht
    exact ⟨a, vs, rfl, ha', hy, ht', VRk.mv m kvs hv⟩
  | .obj i, _, q => by
    simp only [VR] at q ⊢
    obtain ⟨a, rfl, e⟩ := q
    exact ⟨a, rfl, m.ids _ _ e⟩
  | .hdr i, _, q => by
    simp only [VR] at q ⊢
    obtain ⟨x, dx, l, rfl, hx, hd, e, h1, mm, ⟨o, es, ep, h2, r⟩, r2⟩ := q
    obtain ⟨a1, a2⟩ := m.old hx h1
    obtain ⟨b1, b2⟩ := m.old hd h2
    exact ⟨x, dx, l, rfl, a1, b1, m.ids _ _ e, a2, mm, ⟨o, es, ep, b2, r⟩, r2⟩
  | .inst i, _, q => by
    simp only [VR] at q ⊢
    obtain ⟨x, dx, rfl, hx, e, h1⟩ := q
    obtain ⟨a1, a2⟩ := m.old hx h1
    exact ⟨x, dx, rfl, a1, m.ids _ _ e, a2⟩
theorem VRs.mv (m : Mv ρ T h ρ' T' h') : ∀ (xs : List AV) {vs : List Value}, VRs X ρ T h xs vs → VRs X ρ' T' h' xs vs
  | [], _, q => by simpa [VRs] using q
  | x :: xs, _, q => by
    simp only [VRs] at q ⊢
    obtain ⟨v, r, rfl, h1, h2⟩ := q
    exact ⟨v, r, rfl, VR.mv m x h1, VRs.mv m xs h2⟩
theorem VRk.mv (m : Mv ρ T h ρ' T' h') : ∀ (xs : List (Str × AV)) {vs : List (Str × Value)}, VRk X ρ T h xs vs → VRk X ρ' T' h' xs vs
  | [], _, q => by simpa [VRk] using q
  | (k, x) :: xs, _, q => by
    simp only [VRk] at q ⊢
    obtain ⟨v, r, rfl, h1, h2⟩ := q
    exact ⟨v, r, rfl, VR.mv m x h1, VRk.mv m xs h2⟩
end

@[simp] theorem VR_none {v : Value} : VR X ρ T h .none v ↔ v = .none := by simp [VR]
@[simp] theorem VR_bool {b : Bool} {v : Value} : VR X ρ T h (.bool b) v ↔ v = .bool b := by simp [VR]
@[simp] theorem VR_int {i : Int} {v : Value} : VR X ρ T h (.int i) v ↔ ∃ t, v = .int i t := by simp [VR]
@[simp] theorem VR_str {i : Str} {v : Value} : VR X ρ T h (.str i) v ↔ i.length ≤ sizeLine ∧ ∃ t, v = .str i t := by simp [VR]
@[simp] theorem VR_val {u v : Value} : VR X ρ T h (.val u) v ↔ v = u := by simp [VR]
@[simp] theorem VRs_nil {vs : List Value} : VRs X ρ T h [] vs ↔ vs = [] := by simp [VRs]
theorem VRs_cons {x : AV} {xs : List AV} {vs : List Value} : VRs X ρ T h (x :: xs) vs ↔ ∃ v r, vs = v :: r ∧ VR X ρ T h x v ∧ VRs X ρ T h xs r := by simp [VRs]

theorem VRs.length : ∀ {xs : List AV} {vs : List Value}, VRs X ρ T h xs vs → vs.length = xs.length
  | [], _, q => by rw [VRs_nil.mp q]; rfl
  | x :: xs, _, q => by
    obtain ⟨v, r, rfl, _, h2⟩ := VRs_cons.mp q
    simp [VRs.length h2]
theorem VRs.get : ∀ {xs : List AV} {vs : List Value}, VRs X ρ T h xs vs → ∀ {i : Nat} {x : AV}, xs[i]? = some x → ∃ v, vs[i]? = some v ∧ VR X ρ T h x v
  | [], _, _, _, _, e => by simp at e
  | y :: xs, _, q, i, x, e => by
    obtain ⟨v, r, rfl, h1, h2⟩ := VRs_cons.mp q
    cases i with
    | zero => simp at e; subst e; exact ⟨v, by simp, h1⟩
    | succ i => simp at e; obtain ⟨u, a, b⟩ := VRs.get h2 e; exact ⟨u, by simpa using a, b⟩
theorem VRs.app : ∀ {xs ys : List AV} {vs us : List Value}, VRs X ρ T h xs vs → VRs X ρ T h ys us → VRs X ρ T h (xs ++ ys) (vs ++ us)
  | [], _, _, _, q, q' => by rw [VRs_nil.mp q]; exact q'
  | x :: xs, _, _, _, q, q' => by
    obtain ⟨v, r, rfl, h1, h2⟩ := VRs_cons.mp q
    exact VRs_cons.mpr ⟨v, _, rfl, h1, VRs.app h2 q'⟩
theorem VRs.one {x : AV} {v : Value} (q : VR X ρ T h x v) : VRs X ρ T h [x] [v] := VRs_cons.mpr ⟨v, [], rfl, q, VRs_nil.mpr rfl⟩
end
end Mine
namespace Mine

noncomputable def VRo (X : Cx) (ρ T : List Addr) (h : Heap) : Option AV → Option Value → Prop
  | .none, .none => True
  | .some x, .some v => VR X ρ T h x v
  | _, _ => False

noncomputable def OR (X : Cx) (ρ T : List Addr) (h : Heap) (a : Addr) : AO → Prop
  | .lst xs => ∃ vs : List Value, h.PlainList a vs.toArray ∧ VRs X ρ T h xs vs
  | .dct kvs => ∃ vs, h.DictOf (strKind X.prog X.w) a vs ∧ VRk X ρ T h kvs vs
  | .ns vars => ∃ m, h.Ns a m ∧ (∀ x v, vars.lookup x = some v → ∃ u, m x = some u ∧ VR X ρ T h v u) ∧ ∀ x, vars.lookup x = none → m x = none
  | .cell v => ∃ u, h.IsCell a u ∧ VRo X ρ T h v u
  | .inst v => match v with
    | none => h.get? a = some emptyDict
    | some v => ∃ hs t n u, h.get? a = some (dictOf [⟨hs, .str (Str.ofString "_headers") t, u⟩] n) ∧ VR X ρ T h v u
  | .loan => True

structure Rep (X : Cx) (S : List AO) (ρ T : List Addr) (s : Shared) : Prop where
  keep : ∀ b o, X.r.heap.get? b = some o → s.heap.get? b = some o
  len : ρ.length = S.length
  obj : ∀ (i : Nat) (ao : AO) (a : Addr), S[i]? = some ao → ρ[i]? = some a → OR X ρ T s.heap a ao
  nodup : ρ.Nodup
  nosys : ∀ a ∈ ρ, (a == sysModules) = false
  sub : ∀ a ∈ ρ, a ∈ T
  new : ∀ a ∈ T, X.r.heap.get? a = none
  low : ∀ a ∈ T, ∃ o, s.heap.get? a = some o
  rest : s.gens = X.r.gens ∧ s.os = X.r.os ∧ s.drawn = X.r.drawn
  toks : 1 ≤ s.toks

noncomputable def Live (S : List AO) (ρ : List Addr) (b : Addr) : Prop := ∃ (i : Nat) (ao : AO), ρ[i]? = some b ∧ S[i]? = some ao ∧ ao ≠ .loan

structure Step (X : Cx) (S : List AO) (ρ T : List Addr) (s : Shared) (S' : List AO) (ρ' T' : List Addr) (s' : Shared) : Prop where
  rep : Rep X S' ρ' T' s'
  more : ∃ m, ρ' = ρ ++ m ∧ T' = T ++ m ∧ ∀ a ∈ m, s.heap.get? a = none
  keep : ∀ b o, ¬ Live S ρ b → s.heap.get? b = some o → s'.heap.get? b = some o
  loans : ∀ i : Nat, S[i]? = some .loan → S'[i]? = some .loan

section
variable {X : Cx} {S S' S'' : List AO} {ρ T ρ' T' ρ'' T'' : List Addr} {s s' s'' : Shared} {h h' : Heap}

theorem Live.mem {b : Addr} (l : Live S ρ b) : b ∈ ρ := let ⟨_, _, e, _⟩ := l; List.mem_of_getElem? e

theorem Step.mv (R : Rep X S ρ T s) (st : Step X S ρ T s S' ρ' T' s') : Mv ρ T s.heap ρ' T' s'.heap where
  keep := fun b o hb e => st.keep b o (fun l => hb (R.sub b l.mem)) e
  trk := fun a ha => by
    obtain ⟨m, _, rfl, hm⟩ := st.more
    rcases List.mem_append.mp ha with q | q
    · exact .inl q
    · exact .inr (hm a q)
  ids := fun i a e => by
    obtain ⟨m, rfl, _, _⟩ := st.more
    rw [List.getElem?_append_left (List.getElem?_eq_some_iff.mp e).1]
    exact e

theorem Step.trans (R : Rep X S ρ T s) (a : Step X S ρ T s S' ρ' T' s') (b : Step X S' ρ' T' s' S'' ρ'' T'' s'') : Step X S ρ T s S'' ρ'' T'' s'' where
  rep := b.rep
  more := by
    obtain ⟨m, rfl, rfl, h1⟩ := a.more
    obtain ⟨n, rfl, rfl, h2⟩ := b.more
    refine ⟨m ++ n, by simp, by simp, fun x hx => ?_⟩
    rcases List.mem_append.mp hx with q | q
    · exact h1 x q
    · have n1 := h2 x q
      cases e : s.heap.get? x with
      | none => rfl
      | some o =>
        by_cases hT : x ∈ T
        · obtain ⟨o', e'⟩ := a.rep.low x (List.mem_append_left _ hT)
          rw [n1] at e'; cases e'
        · have := a.keep x o (fun l => hT (R.sub x l.mem)) e
          rw [n1] at this; cases this
  keep := fun x o hx e => b.keep x o (fun l => by
    obtain ⟨m, rfl, rfl, h1⟩ := a.more
    obtain ⟨i, ao, e1, e2, e3⟩ := l
    by_cases hi : i < ρ.length
    · rw [List.getElem?_append_left hi] at e1
      have hiS : i < S.length := R.len ▸ hi
      cases q : S[i]? with
      | none => exact absurd (List.getElem?_eq_none_iff.mp q) (by omega)
      | some ao' =>
        by_cases hl' : ao' = .loan
        · subst hl'
          have := a.loans i q
          rw [e2] at this
          exact e3 (Option.some.inj this)
        · exact hx ⟨i, ao', e1, q, hl'⟩
    · have hm : x ∈ m := by
        rw [List.getElem?_append_right (by omega)] at e1
        exact List.mem_of_getElem? e1
      rw [h1 x hm] at e; cases e) (a.keep x o hx e)
  loans := fun i e => b.loans i (a.loans i e)

theorem VRo.mv (m : Mv ρ T h ρ' T' h') : ∀ {x : Option AV} {v : Option Value}, VRo X ρ T h x v → VRo X ρ' T' h' x v
  | .none, .none, _ => trivial
  | .some x, .some _, q => VR.mv m x q
  | .none, .some _, q => q.elim
  | .some _, .none, q => q.elim

theorem OR.mv (m : Mv ρ T h ρ' T' h') {a : Addr} (hk : ∀ o, h.get? a = some o → h'.get? a = some o) : ∀ {ao : AO}, OR X ρ T h a ao → OR X ρ' T' h' a ao
  | .lst _, ⟨vs, ⟨o, ho⟩, q⟩ => ⟨vs, ⟨o, hk _ ho⟩, VRs.mv m _ q⟩
  | .dct _, ⟨vs, ⟨o, es, ep, ho, r⟩, q⟩ => ⟨vs, ⟨o, es, ep, hk o ho, r⟩, VRk.mv m _ q⟩
  | .ns _, ⟨mm, ⟨o, es, ep, ho, r⟩, q, q'⟩ => ⟨mm, ⟨o, es, ep, hk o ho, r⟩, fun x v e => let ⟨u, a, b⟩ := q x v e; ⟨u, a, VR.mv m _ b⟩, q'⟩
  | .cell _, ⟨u, ⟨o, ho, r⟩, q⟩ => ⟨u, ⟨o, hk o ho, r⟩, q.mv m⟩
  | .inst none, q => hk _ q
  | .inst (some v), ⟨hs, t, n, u, q, r⟩ => ⟨hs, t, n, u, hk _ q, VR.mv m v r⟩
  | .loan, _ => trivial

/-- all that stood stands -/
theorem Step.ext (R : Rep X S ρ T s) (hk : ∀ b o, s.heap.get? b = some o → s'.heap.get? b = some o)
    (hr : s'.gens = s.gens ∧ s'.os = s.os ∧ s'.drawn = s.drawn) (ht : s.toks ≤ s'.toks) : Step X S ρ T s S ρ T s' where
  rep := {
    keep := fun b o e => hk b o (R.keep b o e)
    len := R.len
    obj := fun i ao a e1 e2 => (R.obj i ao a e1 e2).mv ⟨fun b o _ e => hk b o e, fun a ha => .inl ha, fun _ _ e => e⟩ fun o e => hk a o e
    nodup := R.nodup
    nosys := R.nosys
    sub := R.sub
    new := R.new
    low := fun a ha => let ⟨o, e⟩ := R.low a ha; ⟨o, hk a o e⟩
    rest := ⟨hr.1.trans R.rest.1, hr.2.1.trans R.rest.2.1, hr.2.2.trans R.rest.2.2⟩
    toks := Nat.le_trans R.toks ht }
  more := ⟨[], by simp, by simp, fun _ h => nomatch h⟩
  keep := fun b o _ e => hk b o e
  loans := fun _ e => e

theorem Step.refl (R : Rep X S ρ T s) : Step X S ρ T s S ρ T s := .ext R (fun _ _ e => e) ⟨rfl, rfl, rfl⟩ (Nat.le_refl _)
theorem Step.toks (R : Rep X S ρ T s) (n : Nat) (hn : s.toks ≤ n := by first | exact Nat.le_refl _ | omega) : Step X S ρ T s S ρ T { s with toks := n } := .ext R (fun _ _ e => e) ⟨rfl, rfl, rfl⟩ hn
theorem Step.push (R : Rep X S ρ T s) (o : Obj) (n : Nat) (hn : s.toks ≤ n := by first | exact Nat.le_refl _ | omega) : Step X S ρ T s S ρ T { s with heap := s.heap.push o, toks := n } :=
  .ext R (fun _ _ e => Heap.get?_push_of_some _ e) ⟨rfl, rfl, rfl⟩ hn

/-- a tracked object turned -/
theorem Step.upd (R : Rep X S ρ T s) {i : Nat} {a : Addr} {ao ao' : AO} (hi : S[i]? = some ao) (ha : ρ[i]? = some a) (hn : ao ≠ .loan) (hn' : ao' ≠ .loan) (hs : Heap.ExtBut a s.heap h') (hO : OR X ρ T h' a ao') (ho : ∃ o, h'.get? a = some o) (n : Nat) (hnn : s.toks ≤ n := by first | exact Nat.le_refl _ | omega) :
    Step X S ρ T s (S.set i ao') ρ T { s with heap := h', toks := n } := by
  have haT : a ∈ T := R.sub a (List.mem_of_getElem? ha)
  have mv : Mv ρ T s.heap ρ T h' := ⟨fun b o hb e => hs b o (fun q => hb (q ▸ haT)) e, fun a ha => .inl ha, fun _ _ e => e⟩
  exact {
    rep := {
      keep := fun b o e => hs b o (fun q => by have := R.new a haT; rw [← q, e] at this; cases this) (R.keep b o e)
      len := by simpa using R.len
      obj := fun j oj b e1 e2 => by
        by_cases hij : i = j
        · subst hij
          rw [List.getElem?_set_self (List.getElem?_eq_some_iff.mp hi).1] at e1
          rw [ha] at e2
          cases e1; cases e2
          exact hO
        · rw [List.getElem?_set_ne hij] at e1
          have hb : b ≠ a := fun q => by
            subst q
            have h1 := List.getElem?_eq_some_iff.mp ha
            have h2 := List.getElem?_eq_some_iff.mp e2
            obtain ⟨l1, z1⟩ := h1
            obtain ⟨l2, z2⟩ := h2
            exact hij ((List.getElem_inj R.nodup).mp (z1.trans z2.symm))
          exact (R.obj j oj b e1 e2).mv mv fun o e => hs b o hb e
      nodup := R.nodup
      nosys := R.nosys
      sub := R.sub
      new := R.new
      low := fun b hb => by
        by_cases q : b = a
        · rw [q]; exact ho
        · obtain ⟨o, e⟩ := R.low b hb; exact ⟨o, hs b o q e⟩
      rest := R.rest
      toks := Nat.le_trans R.toks hnn }
    more := ⟨[], by simp, by simp, fun _ h => nomatch h⟩
    keep := fun b o hb e => hs b o (fun q => hb ⟨i, ao, q ▸ ha, hi, hn⟩) e
    loans := fun j e => by
      by_cases hij : i = j
      · subst hij; rw [hi] at e; exact absurd (Option.some.inj e) hn
      · rw [List.getElem?_set_ne hij]; exact e }

/-- a new tracked object -/
theorem Step.new (R : Rep X S ρ T s) {a : Addr} {ao : AO} (hk : ∀ b o, s.heap.get? b = some o → h'.get? b = some o) (ha : s.heap.get? a = none) (hy : (a == sysModules) = false) (ha' : ∃ o, h'.get? a = some o)
    (hO : OR X (ρ ++ [a]) (T ++ [a]) h' a ao) (n : Nat) (hn : s.toks ≤ n := by first | exact Nat.le_refl _ | omega) : Step X S ρ T s (S ++ [ao]) (ρ ++ [a]) (T ++ [a]) { s with heap := h', toks := n } := by
  have mv : Mv ρ T s.heap (ρ ++ [a]) (T ++ [a]) h' := ⟨fun b o _ e => hk b o e, fun b hb => by
    rcases List.mem_append.mp hb with q | q
    · exact .inl q
    · rw [List.mem_singleton.mp q]; exact .inr ha, fun i b e => by rw [List.getElem?_append_left (List.getElem?_eq_some_iff.mp e).1]; exact e⟩
  have hnot : a ∉ T := fun q => by obtain ⟨o, e⟩ := R.low a q; rw [ha] at e; cases e
  exact {
    rep := {
      keep := fun b o e => hk b o (R.keep b o e)
      len := by simp [R.len]
      obj := fun j oj b e1 e2 => by
        by_cases hj : j < S.length
        · rw [List.getElem?_append_left hj] at e1
          rw [List.getElem?_append_left (by rw [R.len]; exact hj)] at e2
          exact (R.obj j oj b e1 e2).mv mv fun o e => hk b o e
        · rw [List.getElem?_append_right (by omega)] at e1
          rw [List.getElem?_append_right (by rw [R.len]; omega)] at e2
          have hz : j - S.length = 0 := by
            have := (List.getElem?_eq_some_iff.mp e1).1
            simpa using this
          rw [R.len] at e2
          rw [hz] at e1 e2
          cases e1; cases e2
          exact hO
      nodup := List.nodup_append.mpr ⟨R.nodup, by simp, fun x hx y hy e => by
        rw [List.mem_singleton.mp hy] at e
        exact hnot (e ▸ R.sub x hx)⟩
      nosys := fun b hb => by
        rcases List.mem_append.mp hb with q | q
        · exact R.nosys b q
        · rw [List.mem_singleton.mp q]; exact hy
      sub := fun b hb => by
        rcases List.mem_append.mp hb with q | q
        · exact List.mem_append_left _ (R.sub b q)
        · exact List.mem_append_right _ q
      new := fun b hb => by
        rcases List.mem_append.mp hb with q | q
        · exact R.new b q
        · rw [List.mem_singleton.mp q]
          cases e : X.r.heap.get? a with
          | none => rfl
          | some o => have := R.keep a o e; rw [ha] at this; cases this
      low := fun b hb => by
        rcases List.mem_append.mp hb with q | q
        · obtain ⟨o, e⟩ := R.low b q; exact ⟨o, hk b o e⟩
        · rw [List.mem_singleton.mp q]; exact ha'
      rest := R.rest
      toks := Nat.le_trans R.toks hn }
    more := ⟨[a], rfl, rfl, fun b hb => by rw [List.mem_singleton.mp hb]; exact ha⟩
    keep := fun b o _ e => hk b o e
    loans := fun i e => by rw [List.getElem?_append_left (List.getElem?_eq_some_iff.mp e).1]; exact e }

theorem Rep.nosysOf (R : Rep X S ρ T s) {a : Addr} (ha : s.heap.objs.size ≤ a) : (a == sysModules) = false := by
  obtain ⟨o, _, _, ho, _⟩ := X.top.g
  have h1 : mainGlobals < s.heap.objs.size := Heap.lt_size (R.keep _ _ ho)
  have h2 : sysModules < mainGlobals := by decide
  exact beq_false_of_ne (Nat.ne_of_gt (Nat.lt_of_lt_of_le (Nat.lt_trans h2 h1) ha))

end

/-- the frame -/
structure AEnv where
  scope : Scope
  loc : Nat
  cells : List (Str × Nat)

structure EnvOk (ae : AEnv) (ρ : List Addr) (env : Env) : Prop where
  scope : env.scope = ae.scope
  fn : ae.scope.kind = .function
  loc : ρ[ae.loc]? = some env.locals
  glob : env.globals = mainGlobals
  bui : env.builtins = builtinsNs
  cells : ∀ (x : Str) (i : Nat), ae.cells.lookup x = some i → ∃ c, env.cells.lookup x = some c ∧ ρ[i]? = some c

structure Room (n : Nat) (A : Around) : Prop where
  depth : A.depth + n < recursionLimit
  units : A.units + 8 * n < cLine
  handled : A.handled = .none

abbrev No : Value → Shared → Prop := fun _ _ => False

noncomputable def PostG {α β : Type} (R : List Addr → List Addr → Heap → α → β → Prop) (X : Cx) (S : List AO) (ρ T : List Addr) (s : Shared) (K : α → List AO → Prop) (b : β) (s' : Shared) : Prop :=
  ∃ x S' ρ' T', K x S' ∧ Step X S ρ T s S' ρ' T' s' ∧ R ρ' T' s'.heap x b

abbrev PostV (X : Cx) := PostG (VR X) X
abbrev PostL (X : Cx) := PostG (VRs X) X
abbrev PostB (X : Cx) := PostG (fun _ _ _ (x b : Bool) => b = x) X
abbrev PostU (X : Cx) := PostG (fun _ _ _ (_ _ : Unit) => True) X

inductive AF where
  | next | brk | cont
  | ret (x : AV)
noncomputable def FR (X : Cx) (ρ T : List Addr) (h : Heap) : AF → Flow → Prop
  | .next, f => f = .next
  | .brk, f => f = .brk
  | .cont, f => f = .cont
  | .ret x, f => ∃ v, f = .ret v ∧ VR X ρ T h x v
abbrev PostF (X : Cx) := PostG (FR X) X

section
variable {X : Cx} {S S' : List AO} {ρ T ρ' T' : List Addr} {s s' : Shared} {α β : Type} {R : List Addr → List Addr → Heap → α → β → Prop} {K K' : α → List AO → Prop} {A : Around} {E : Value → Shared → Prop}

theorem EnvOk.step {ae : AEnv} {env : Env} (E : EnvOk ae ρ env) (st : Step X S ρ T s S' ρ' T' s') (hR : Rep X S ρ T s) : EnvOk ae ρ' env :=
  ⟨E.scope, E.fn, (st.mv hR).ids _ _ E.loc, E.glob, E.bui, fun x i e => let ⟨c, a, b⟩ := E.cells x i e; ⟨c, a, (st.mv hR).ids _ _ b⟩⟩

theorem PostG.mono {b : β} (p : PostG R X S ρ T s K b s') (h : ∀ x S', K x S' → K' x S') : PostG R X S ρ T s K' b s' :=
  let ⟨x, S', ρ', T', k, r⟩ := p; ⟨x, S', ρ', T', h _ _ k, r⟩
theorem PostG.trans {b : β} {s'' : Shared} (hR : Rep X S ρ T s) (st : Step X S ρ T s S' ρ' T' s') (p : PostG R X S' ρ' T' s' K b s'') : PostG R X S ρ T s K b s'' :=
  let ⟨x, S'', ρ'', T'', k, st', r⟩ := p; ⟨x, S'', ρ'', T'', k, st.trans hR st', r⟩
theorem PostG.mk {b : β} {x : α} (st : Step X S ρ T s S' ρ' T' s') (k : K x S') (r : R ρ' T' s'.heap x b) : PostG R X S ρ T s K b s' := ⟨x, S', ρ', T', k, st, r⟩

theorem chain {t : Sem β} {Q : β → Shared → Prop} (h : wpAny X.M A t (PostG R X S ρ T s K) No s)
    (k : ∀ x S' ρ' T' b s', K x S' → Step X S ρ T s S' ρ' T' s' → R ρ' T' s'.heap x b → Q b s') : wpAny X.M A t Q E s :=
  wpAny_mono h (fun b s' ⟨x, S', ρ', T', a, st, r⟩ => k x S' ρ' T' b s' a st r) fun _ _ f => f.elim

theorem thenG {γ δ : Type} {R' : List Addr → List Addr → Heap → γ → δ → Prop} {K' : γ → List AO → Prop} {t : Sem δ} (hR : Rep X S ρ T s) (st : Step X S ρ T s S' ρ' T' s') (h : wpAny X.M A t (PostG R' X S' ρ' T' s' K') No s') : wpAny X.M A t (PostG R' X S ρ T s K') E s' :=
  wpAny_mono h (fun _ _ p => p.trans hR st) fun _ _ f => f.elim
end

noncomputable def WpE (X : Cx) (n : Nat) (ae : AEnv) (S : List AO) (e : Expr) (K : AV → List AO → Prop) : Prop :=
  ∀ A ρ T s env, Room n A → Rep X S ρ T s → EnvOk ae ρ env → wpAny X.M A (eval e env) (PostV X S ρ T s K) No s
noncomputable def WpB (X : Cx) (n : Nat) (ae : AEnv) (S : List AO) (e : Expr) (K : Bool → List AO → Prop) : Prop :=
  ∀ A ρ T s env, Room n A → Rep X S ρ T s → EnvOk ae ρ env → wpAny X.M A (isTrue e env (eval e env)) (PostB X S ρ T s K) No s
noncomputable def WpS (X : Cx) (n : Nat) (ae : AEnv) (S : List AO) (st : Stmt) (K : AF → List AO → Prop) : Prop :=
  ∀ A ρ T s env, Room n A → Rep X S ρ T s → EnvOk ae ρ env → wpAny X.M A (exec st env) (PostF X S ρ T s K) No s
noncomputable def WpSs (X : Cx) (n : Nat) (ae : AEnv) (S : List AO) (st : List Stmt) (K : AF → List AO → Prop) : Prop :=
  ∀ A ρ T s env, Room n A → Rep X S ρ T s → EnvOk ae ρ env → wpAny X.M A (execs st env) (PostF X S ρ T s K) No s
/-- a tree of one, two, three values -/
noncomputable def Wp1 (X : Cx) (n : Nat) (S : List AO) (f : Value → Sem Value) (x : AV) (K : AV → List AO → Prop) : Prop :=
  ∀ A ρ T s v, Room n A → Rep X S ρ T s → VR X ρ T s.heap x v → wpAny X.M A (f v) (PostV X S ρ T s K) No s
noncomputable def Wp2 (X : Cx) (n : Nat) (S : List AO) (f : Value → Value → Sem Value) (x y : AV) (K : AV → List AO → Prop) : Prop :=
  ∀ A ρ T s v u, Room n A → Rep X S ρ T s → VR X ρ T s.heap x v → VR X ρ T s.heap y u → wpAny X.M A (f v u) (PostV X S ρ T s K) No s
/-- a call -/
noncomputable def WpC (X : Cx) (n : Nat) (S : List AO) (f : AV) (xs : List AV) (kw : List (Str × AV)) (K : AV → List AO → Prop) : Prop :=
  ∀ A ρ T s g vs ks, Room n A → Rep X S ρ T s → VR X ρ T s.heap f g → VRs X ρ T s.heap xs vs → VRk X ρ T s.heap kw ks → wpAny X.M A (call g vs ks) (PostV X S ρ T s K) No s

end Mine
namespace Mine

section
variable {X : Cx} {n : Nat} {ae : AEnv} {S S' : List AO} {K : AV → List AO → Prop}

/-! monotone -/
theorem WpE.mono {e : Expr} {K K' : AV → List AO → Prop} (h : WpE X n ae S e K) (hk : ∀ x S', K x S' → K' x S') : WpE X n ae S e K' :=
  fun A ρ T s env hr hR hE => wpAny_mono (h A ρ T s env hr hR hE) (fun _ _ p => p.mono hk) fun _ _ f => f
theorem WpB.mono {e : Expr} {K K' : Bool → List AO → Prop} (h : WpB X n ae S e K) (hk : ∀ x S', K x S' → K' x S') : WpB X n ae S e K' :=
  fun A ρ T s env hr hR hE => wpAny_mono (h A ρ T s env hr hR hE) (fun _ _ p => p.mono hk) fun _ _ f => f
theorem WpS.mono {e : Stmt} {K K' : AF → List AO → Prop} (h : WpS X n ae S e K) (hk : ∀ x S', K x S' → K' x S') : WpS X n ae S e K' :=
  fun A ρ T s env hr hR hE => wpAny_mono (h A ρ T s env hr hR hE) (fun _ _ p => p.mono hk) fun _ _ f => f
theorem WpSs.mono {e : List Stmt} {K K' : AF → List AO → Prop} (h : WpSs X n ae S e K) (hk : ∀ x S', K x S' → K' x S') : WpSs X n ae S e K' :=
  fun A ρ T s env hr hR hE => wpAny_mono (h A ρ T s env hr hR hE) (fun _ _ p => p.mono hk) fun _ _ f => f
theorem Room.in1 {A : Around} (h : Room (n + 1) A) : Room n A.in1 := ⟨by have := h.depth; show A.depth + n < _; omega, by have := h.units; show A.units + 1 + 8 * n < _; omega, h.handled⟩
theorem Room.deeper {A : Around} {env : Env} (h : Room (n + 1) A) : Room n (A.deeper env) := ⟨by have := h.depth; show A.depth + 1 + n < _; omega, by have := h.units; show A.units + 3 + 8 * n < _; omega, h.handled⟩

theorem EnvOk.kind {ρ : List Addr} {env : Env} (E : EnvOk ae ρ env) (x : Str) : env.kindOf x = ae.scope.names.lookup x := by unfold Env.kindOf; rw [E.scope]
theorem EnvOk.fnk {ρ : List Addr} {env : Env} (E : EnvOk ae ρ env) : env.scope.kind = .function := by rw [E.scope, E.fn]

theorem Rep.ns {ρ T : List Addr} {s : Shared} (hR : Rep X S ρ T s) {env : Env} (hE : EnvOk ae ρ env) {vars : List (Str × AV)} (hS : S[ae.loc]? = some (.ns vars)) :
    ∃ m, s.heap.Ns env.locals m ∧ ∀ x v, vars.lookup x = some v → ∃ u, m x = some u ∧ VR X ρ T s.heap v u := let ⟨m, a, b, _⟩ := hR.obj _ _ _ hS hE.loc; ⟨m, a, b⟩

/-! names -/
theorem wName {x : Str} {pos : Pos} {vars : List (Str × AV)} {v : AV} (hk : ae.scope.names.lookup x = some .local) (hS : S[ae.loc]? = some (.ns vars)) (hv : vars.lookup x = some v) (h : K v S)
    (hd : (x == ("__debug__" : Str)) = false := by decide +kernel) : WpE X n ae S (.Name x pos) K := fun A ρ T s env hr hR hE => by
  obtain ⟨m, hm, hq⟩ := hR.ns hE hS
  obtain ⟨u, e, q⟩ := hq x v hv
  exact wpAny_Name (wpAny_loadName_local hE.fnk ((hE.kind x).trans hk) hm e (PostG.mk (.refl hR) h q)) hd

theorem Rep.cell {ρ T : List Addr} {s : Shared} (hR : Rep X S ρ T s) {env : Env} (hE : EnvOk ae ρ env) {x : Str} {i : Nat} {v : Option AV} (hc : ae.cells.lookup x = some i) (hS : S[i]? = some (.cell v)) :
    ∃ c u, env.cells.lookup x = some c ∧ ρ[i]? = some c ∧ s.heap.IsCell c u ∧ VRo X ρ T s.heap v u := by
  obtain ⟨c, h1, h2⟩ := hE.cells x i hc
  obtain ⟨u, h3, h4⟩ := hR.obj _ _ _ hS h2
  exact ⟨c, u, h1, h2, h3, h4⟩

theorem wCell {x : Str} {pos : Pos} {i : Nat} {v : AV} (hk : ae.scope.names.lookup x = some .cell ∨ ae.scope.names.lookup x = some .free) (hc : ae.cells.lookup x = some i) (hS : S[i]? = some (.cell (some v))) (h : K v S)
    (hd : (x == ("__debug__" : Str)) = false := by decide +kernel) (hn : (x == ("__classdict__" : Str)) = false := by decide +kernel) : WpE X n ae S (.Name x pos) K := fun A ρ T s env hr hR hE => by
  obtain ⟨c, u, h1, h2, h3, h4⟩ := hR.cell hE hc hS
  cases u with
  | none => exact h4.elim
  | some u =>
    rcases hk with hk | hk
    · exact wpAny_Name (wpAny_loadName_cell hE.fnk ((hE.kind x).trans hk) h1 h3 (PostG.mk (.refl hR) h h4)) hd
    · exact wpAny_Name (wpAny_loadName_free hE.fnk ((hE.kind x).trans hk) h1 h3 (PostG.mk (.refl hR) h h4) hn) hd

theorem Rep.topR {ρ T : List Addr} {s : Shared} (hR : Rep X S ρ T s) : TopRead X.p X.loose X.mg X.mb s.heap := X.top.keeps hR.keep
theorem Rep.kin {ρ T : List Addr} {s : Shared} (hR : Rep X S ρ T s) : X.K.In s.heap := X.kin.keeps hR.keep

theorem wGlob {x : Str} {pos : Pos} {v : Value} {av : AV} (hk : ae.scope.names.lookup x = some .globalImplicit) (e : nsIn X.K mainGlobals x = some (some v)) (hv : ∀ ρ T h, VR X ρ T h av v) (h : K av S)
    (hd : (x == ("__debug__" : Str)) = false := by decide +kernel) : WpE X n ae S (.Name x pos) K := fun A ρ T s env hr hR hE =>
  Name_function_global hE.fnk ((hE.kind x).trans hk) (loadGlobal_global (by rw [hE.glob]; exact hR.topR.g) (mg_of X.kin X.top.g e) (PostG.mk (.refl hR) h (hv _ _ _))) hd
theorem wBoot {x : Str} {pos : Pos} {v : Value} (hk : ae.scope.names.lookup x = some .globalImplicit) (e : nsIn X.K mainGlobals x = some none) (hv : bootBuiltins x = some v) (h : K (.val v) S)
    (hn : x ≠ "__name__" := by decide +kernel) (hd : (x == ("__debug__" : Str)) = false := by decide +kernel) : WpE X n ae S (.Name x pos) K := fun A ρ T s env hr hR hE =>
  Name_function_global hE.fnk ((hE.kind x).trans hk) (loadGlobal_builtin (by rw [hE.glob]; exact hR.topR.g) (mg_none_of X.kin X.top.g e) (by rw [hE.bui]; exact hR.topR.b) ((X.top.builtins x hn).trans hv) (PostG.mk (.refl hR) h (by simp))) hd

/-! constants -/
theorem wInt {i : Int} {k : Nat} {pos : Pos} (h : K (.int i) S) : WpE X n ae S (.Constant (.int i) k pos) K := fun A ρ T s env hr hR hE =>
  wpAny_Constant_int (PostG.mk (.toks hR _) h (by simp))
theorem wStr {x : Str} {k : Nat} {pos : Pos} (h : K (.str x) S) (hl : x.length ≤ sizeLine := by decide +kernel) : WpE X n ae S (.Constant (.str x) k pos) K := fun A ρ T s env hr hR hE =>
  Calls.Constant_str (PostG.mk (.toks hR _) h (by simp [hl]))
theorem wNone {k : Nat} {pos : Pos} (h : K .none S) : WpE X n ae S (.Constant .none k pos) K := fun A ρ T s env hr hR hE =>
  wpAny_pure (PostG.mk (.refl hR) h (by simp))
theorem wBool {b : Bool} {k : Nat} {pos : Pos} (h : K (.bool b) S) : WpE X n ae S (.Constant (.bool b) k pos) K := fun A ρ T s env hr hR hE =>
  wpAny_pure (PostG.mk (.refl hR) h (by simp))

/-! operators -/
theorem wBin {l r : Expr} {op : Operator} {pos : Pos} (h : WpE X n ae S l fun a S1 => WpE X n ae S1 r fun b S2 => Wp2 X n S2 (binaryOp op) a b K) : WpE X n ae S (.BinOp l op r pos) K := fun A ρ T s env hr hR hE =>
  wpAny_BinOp (chain (h A ρ T s env hr hR hE) fun a S1 ρ1 T1 v s1 hK st hv => chain (hK A ρ1 T1 s1 env hr st.rep (hE.step st hR)) fun b S2 ρ2 T2 u s2 hK2 st2 hu =>
    thenG hR (st.trans hR st2) (hK2 A ρ2 T2 s2 v u hr st2.rep (VR.mv (st2.mv st.rep) _ hv) hu))

theorem wCmp {l r : Expr} {op : CmpOp} {pos : Pos} (h : WpE X n ae S l fun a S1 => WpE X n ae S1 r fun b S2 => Wp2 X n S2 (compareOp op) a b K)
    (hm : behindInMarks op r = false := by with_unfolding_all rfl) : WpE X n ae S (.Compare l [op] [r] pos) K := fun A ρ T s env hr hR hE =>
  wpAny_Compare1 (chain (h A ρ T s env hr hR hE) fun a S1 ρ1 T1 v s1 hK st hv => chain (hK A ρ1 T1 s1 env hr st.rep (hE.step st hR)) fun b S2 ρ2 T2 u s2 hK2 st2 hu =>
    thenG hR (st.trans hR st2) (hK2 A ρ2 T2 s2 v u hr st2.rep (VR.mv (st2.mv st.rep) _ hv) hu)) hm

/-- one tree that makes an immediate -/
theorem op2 {f : Value → Value → Sem Value} {x y z : AV} (hz : ∀ A ρ T s v u, Room n A → Rep X S ρ T s → VR X ρ T s.heap x v → VR X ρ T s.heap y u →
    ∀ (Q : Value → Shared → Prop) (E : Value → Shared → Prop), (∀ r k, VR X ρ T s.heap z r → Q r { s with toks := k }) → wpAny X.M A (f v u) Q E s) (h : K z S) : Wp2 X n S f x y K :=
  fun A ρ T s v u hr hR hv hu => wpAny_with_toks (Nat.le_refl _) (hz A ρ T s v u hr hR hv hu _ _ fun _ k q hk => PostG.mk (.toks hR k hk) h q)

section
variable {a b : Int} {x y : Str}
theorem oAdd (h : K (.int (a + b)) S) : Wp2 X n S (binaryOp .Add) (.int a) (.int b) K := op2 (fun A ρ T s v u _ _ hv hu Q E hq => by
  obtain ⟨t, rfl⟩ := VR_int.mp hv; obtain ⟨t', rfl⟩ := VR_int.mp hu
  exact AutoIntOps.add_0 (hq _ _ (by simp))) h
theorem oMod (hb : (b == 0) = false) (h : K (.int (a.fmod b)) S) : Wp2 X n S (binaryOp .Mod) (.int a) (.int b) K := op2 (fun A ρ T s v u _ _ hv hu Q E hq => by
  obtain ⟨t, rfl⟩ := VR_int.mp hv; obtain ⟨t', rfl⟩ := VR_int.mp hu
  exact AutoIntOps.mod_1 (by simp [hb]) (hq _ _ (by simp))) h
theorem oAddS (hl : x.length + y.length ≤ sizeLine) (h : K (.str (x ++ y)) S) : Wp2 X n S (binaryOp .Add) (.str x) (.str y) K := op2 (fun A ρ T s v u _ _ hv hu Q E hq => by
  obtain ⟨l1, t, rfl⟩ := VR_str.mp hv; obtain ⟨l2, t', rfl⟩ := VR_str.mp hu
  refine P.add_str ?_
  have ex : ∀ z w : Str, z.length = 0 → z ++ w = w ∧ w ++ z = w := fun z w e => by
    obtain ⟨⟨l⟩⟩ := z
    obtain ⟨⟨l'⟩⟩ := w
    have : l = [] := by simpa [Str.length] using e
    subst this
    constructor <;> (show Str.append _ _ = _; simp [Str.append])
  split
  · rename_i e; exact hq _ s.toks (by rw [(ex x y (by simpa using e)).1]; simp [l2])
  · split
    · rename_i e; exact hq _ s.toks (by rw [(ex y x (by simpa using e)).2]; simp [l1])
    · exact ⟨by rw [Str.length_append]; exact hl, hq _ _ (by simp [Str.length_append, hl])⟩) h

theorem oEqI (h : K (.bool (a == b)) S) : Wp2 X n S (compareOp .Eq) (.int a) (.int b) K := op2 (fun A ρ T s v u _ _ hv hu Q E hq => by
  obtain ⟨t, rfl⟩ := VR_int.mp hv; obtain ⟨t', rfl⟩ := VR_int.mp hu
  exact P.eq_int (hq _ s.toks (by simp))) h
theorem oNeI (h : K (.bool (a != b)) S) : Wp2 X n S (compareOp .NotEq) (.int a) (.int b) K := op2 (fun A ρ T s v u _ _ hv hu Q E hq => by
  obtain ⟨t, rfl⟩ := VR_int.mp hv; obtain ⟨t', rfl⟩ := VR_int.mp hu
  exact P.ne_int (hq _ s.toks (by simp))) h
theorem oLtI (h : K (.bool (decide (a < b))) S) : Wp2 X n S (compareOp .Lt) (.int a) (.int b) K := op2 (fun A ρ T s v u _ _ hv hu Q E hq => by
  obtain ⟨t, rfl⟩ := VR_int.mp hv; obtain ⟨t', rfl⟩ := VR_int.mp hu
  exact P.lt_int (hq _ s.toks (by simp))) h
theorem oGtI (h : K (.bool (decide (a > b))) S) : Wp2 X n S (compareOp .Gt) (.int a) (.int b) K := op2 (fun A ρ T s v u _ _ hv hu Q E hq => by
  obtain ⟨t, rfl⟩ := VR_int.mp hv; obtain ⟨t', rfl⟩ := VR_int.mp hu
  exact P.gt_int (hq _ s.toks (by simp))) h
theorem oGeI (h : K (.bool (decide (a ≥ b))) S) : Wp2 X n S (compareOp .GtE) (.int a) (.int b) K := op2 (fun A ρ T s v u _ _ hv hu Q E hq => by
  obtain ⟨t, rfl⟩ := VR_int.mp hv; obtain ⟨t', rfl⟩ := VR_int.mp hu
  exact P.ge_int (hq _ s.toks (by simp))) h
theorem oEqS (h : K (.bool (x.cps.toList == y.cps.toList)) S) : Wp2 X n S (compareOp .Eq) (.str x) (.str y) K := op2 (fun A ρ T s v u _ _ hv hu Q E hq => by
  obtain ⟨l1, t, rfl⟩ := VR_str.mp hv; obtain ⟨l2, t', rfl⟩ := VR_str.mp hu
  exact P.eq_str (hq _ s.toks (by simp))) h
theorem oNeS (h : K (.bool (x.cps.toList != y.cps.toList)) S) : Wp2 X n S (compareOp .NotEq) (.str x) (.str y) K := op2 (fun A ρ T s v u _ _ hv hu Q E hq => by
  obtain ⟨l1, t, rfl⟩ := VR_str.mp hv; obtain ⟨l2, t', rfl⟩ := VR_str.mp hu
  exact P.ne_str (hq _ s.toks (by simp))) h
theorem oInS (h : K (.bool (Txt.contains x y)) S) : Wp2 X n S (compareOp .In) (.str y) (.str x) K := op2 (fun A ρ T s v u _ _ hv hu Q E hq => by
  obtain ⟨l1, t, rfl⟩ := VR_str.mp hv; obtain ⟨l2, t', rfl⟩ := VR_str.mp hu
  exact SB.contains (hq _ s.toks (by simp))) h
theorem oNotInS (h : K (.bool (!Txt.contains x y)) S) : Wp2 X n S (compareOp .NotIn) (.str y) (.str x) K := op2 (fun A ρ T s v u _ _ hv hu Q E hq => by
  obtain ⟨l1, t, rfl⟩ := VR_str.mp hv; obtain ⟨l2, t', rfl⟩ := VR_str.mp hu
  exact SB.notContains (hq _ s.toks (by simp))) h
end
end
end Mine
namespace Mine

section
variable {X : Cx} {n : Nat} {ae : AEnv} {S S' : List AO} {K : AV → List AO → Prop} {KB : Bool → List AO → Prop} {KF : AF → List AO → Prop} {KU : Unit → List AO → Prop}

/-! truth -/
noncomputable def WpT (X : Cx) (n : Nat) (S : List AO) (x : AV) (K : Bool → List AO → Prop) : Prop :=
  ∀ A ρ T s v, Room n A → Rep X S ρ T s → VR X ρ T s.heap x v → wpAny X.M A (truthy v) (PostB X S ρ T s K) No s

theorem tBool {b : Bool} (h : KB b S) : WpT X n S (.bool b) KB := fun A ρ T s v hr hR hv => by
  rw [VR_bool.mp hv]; exact wpAny_truthy_bool (PostG.mk (.refl hR) h rfl)
theorem tNone (h : KB false S) : WpT X n S .none KB := fun A ρ T s v hr hR hv => by
  rw [VR_none.mp hv]; exact truthy_none (PostG.mk (.refl hR) h rfl)
theorem tInt {i : Int} (h : KB (i != 0) S) : WpT X n S (.int i) KB := fun A ρ T s v hr hR hv => by
  obtain ⟨t, rfl⟩ := VR_int.mp hv; exact P.truthy_int (PostG.mk (.refl hR) h rfl)
theorem tStr {x : Str} (h : KB (x.length != 0) S) : WpT X n S (.str x) KB := fun A ρ T s v hr hR hv => by
  obtain ⟨hl, t, rfl⟩ := VR_str.mp hv
  refine P.truthy_str (by rw [sizeLine_eq] at hl; omega) (PostG.mk (.toks hR _) (x := x.length != 0) h ?_)
  rw [Bool.eq_iff_iff]; simp only [bne_iff_ne]; omega
/-! tests -/
theorem bCmp {l r : Expr} {op : CmpOp} {pos : Pos} (h : WpE X n ae S l fun a S1 => WpE X n ae S1 r fun b S2 => Wp2 X n S2 (compareOp op) a b fun c S3 => WpT X n S3 c KB)
    (hm : behindInMarks op r = false := by with_unfolding_all rfl) : WpB X n ae S (.Compare l [op] [r] pos) KB := fun A ρ T s env hr hR hE =>
  wpAny_isTrue_Compare1 (chain (h A ρ T s env hr hR hE) fun a S1 ρ1 T1 v s1 hK st hv => chain (hK A ρ1 T1 s1 env hr st.rep (hE.step st hR)) fun b S2 ρ2 T2 u s2 hK2 st2 hu =>
    chain (hK2 A ρ2 T2 s2 v u hr st2.rep (VR.mv (st2.mv st.rep) _ hv) hu) fun c S3 ρ3 T3 z s3 hK3 st3 hz =>
      thenG hR ((st.trans hR st2).trans hR st3) (hK3 A ρ3 T3 s3 z hr st3.rep hz)) hm
theorem bVal {e : Expr} (h : WpE X n ae S e fun a S1 => WpT X n S1 a KB)
    (he : ∀ env whole, isTrue e env whole = (do let v ← whole; standAt e.pos; holding [v] (truthy v)) := by intro _ _; rfl) : WpB X n ae S e KB := fun A ρ T s env hr hR hE =>
  isTrue_plain (chain (h A ρ T s env hr hR hE) fun a S1 ρ1 T1 v s1 hK st hv => thenG hR st (hK A ρ1 T1 s1 v hr st.rep hv)) (he env _)
theorem bOr0 {pos : Pos} (h : KB false S) : WpB X n ae S (.BoolOp .Or [] pos) KB := fun A ρ T s env hr hR hE => isTrue_or_nil (PostG.mk (.refl hR) h rfl)
theorem bOr {e : Expr} {r : List Expr} {pos : Pos} (h : WpB X n ae S e fun b S1 => if b = true then KB true S1 else WpB X n ae S1 (.BoolOp .Or r pos) KB) : WpB X n ae S (.BoolOp .Or (e :: r) pos) KB := fun A ρ T s env hr hR hE =>
  isTrue_or (chain (h A ρ T s env hr hR hE) fun b S1 ρ1 T1 v s1 hK st hv => by
    subst hv
    split at hK
    · rename_i e; rw [if_pos e]; exact PostG.mk st hK rfl
    · rename_i e; rw [if_neg e]; exact thenG hR st (hK A ρ1 T1 s1 env hr st.rep (hE.step st hR)))

/-! boolean and conditional expressions as values -/
theorem wIf {t b o : Expr} {pos : Pos} (h : WpB X n ae S t fun c S1 => if c = true then WpE X n ae S1 b K else WpE X n ae S1 o K) : WpE X n ae S (.IfExp t b o pos) K := fun A ρ T s env hr hR hE =>
  wpAny_IfExp (chain (h A ρ T s env hr hR hE) fun c S1 ρ1 T1 v s1 hK st hv => by
    subst hv
    split at hK
    · rename_i e; rw [if_pos e]; exact thenG hR st (hK A ρ1 T1 s1 env hr st.rep (hE.step st hR))
    · rename_i e; rw [if_neg e]; exact thenG hR st (hK A ρ1 T1 s1 env hr st.rep (hE.step st hR)))
theorem wOp1 {e : Expr} {op : UnaryOp} {pos : Pos} (h : WpE X n ae S e fun a S1 => Wp1 X n S1 (unaryOp op) a K) : WpE X n ae S (.UnaryOp op e pos) K := fun A ρ T s env hr hR hE =>
  wpAny_UnaryOp (chain (h A ρ T s env hr hR hE) fun a S1 ρ1 T1 v s1 hK st hv => thenG hR st (hK A ρ1 T1 s1 v hr st.rep hv))
theorem wAnd1 {e : Expr} {pos : Pos} {op : BoolOp} (h : WpE X n ae S e K) : WpE X n ae S (.BoolOp op [e] pos) K := fun A ρ T s env hr hR hE => BoolOp_one (h A ρ T s env hr hR hE)
theorem wAnd {e e2 : Expr} {r : List Expr} {pos : Pos} (h : WpE X n ae S e fun a S1 => WpT X n S1 a fun c S2 => if c = true then WpE X n ae S2 (.BoolOp .And (e2 :: r) pos) K else K a S2) :
    WpE X n ae S (.BoolOp .And (e :: e2 :: r) pos) K := fun A ρ T s env hr hR hE =>
  BoolOp_and (chain (h A ρ T s env hr hR hE) fun a S1 ρ1 T1 v s1 hK st hv => chain (hK A ρ1 T1 s1 v hr st.rep hv) fun c S2 ρ2 T2 b s2 hK2 st2 hb => by
    subst hb
    split at hK2
    · rename_i e; rw [if_pos e]; exact thenG hR (st.trans hR st2) (hK2 A ρ2 T2 s2 env hr st2.rep (hE.step (st.trans hR st2) hR))
    · rename_i e; rw [if_neg e]; exact PostG.mk (st.trans hR st2) hK2 (VR.mv (st2.mv st.rep) _ hv))

/-! statements -/
theorem sNil (h : KF .next S) : WpSs X n ae S [] KF := fun A ρ T s env hr hR hE => wpAny_execs_nil (PostG.mk (.refl hR) h rfl)
/-- what a list of statements does behind one of them -/
noncomputable def Seq (X : Cx) (n : Nat) (ae : AEnv) (rest : List Stmt) (KF : AF → List AO → Prop) (f : AF) (S : List AO) : Prop := match f with
  | .next => WpSs X n ae S rest KF
  | f => KF f S
theorem sCons {st : Stmt} {r : List Stmt} (h : WpS X n ae S st (Seq X n ae r KF)) : WpSs X n ae S (st :: r) KF := fun A ρ T s env hr hR hE =>
  wpAny_execs_cons (chain (h A ρ T s env hr hR hE) fun f S1 ρ1 T1 v s1 hK st hv => by
    cases f with
    | next => cases hv; exact thenG hR st (hK A ρ1 T1 s1 env hr st.rep (hE.step st hR))
    | brk => cases hv; exact PostG.mk st hK rfl
    | cont => cases hv; exact PostG.mk st hK rfl
    | ret x => obtain ⟨u, rfl, hu⟩ := hv; exact PostG.mk st hK ⟨u, rfl, hu⟩)
theorem sRet {e : Expr} {pos : Pos} (h : WpE X n ae S e fun a S1 => KF (.ret a) S1) : WpS X n ae S (.Return (some e) pos) KF := fun A ρ T s env hr hR hE =>
  wpAny_Return_some (chain (h A ρ T s env hr hR hE) fun a S1 ρ1 T1 v s1 hK st hv => PostG.mk st hK ⟨v, rfl, hv⟩)
theorem sIf {t : Expr} {b o : List Stmt} {pos : Pos} (h : WpB X n ae S t fun c S1 => if c = true then WpSs X n ae S1 b KF else WpSs X n ae S1 o KF) : WpS X n ae S (.If t b o pos) KF := fun A ρ T s env hr hR hE =>
  wpAny_If (chain (h A ρ T s env hr hR hE) fun c S1 ρ1 T1 v s1 hK st hv => by
    subst hv
    split at hK
    · rename_i e; rw [if_pos e]; exact thenG hR st (hK A ρ1 T1 s1 env hr st.rep (hE.step st hR))
    · rename_i e; rw [if_neg e]; exact thenG hR st (hK A ρ1 T1 s1 env hr st.rep (hE.step st hR)))
theorem sAssert {t : Expr} {msg : Option Expr} {pos : Pos} (h : WpB X n ae S t fun c S1 => c = true ∧ KF .next S1) : WpS X n ae S (.Assert t msg pos) KF := fun A ρ T s env hr hR hE =>
  wpAny_Assert_holds (chain (h A ρ T s env hr hR hE) fun c S1 ρ1 T1 v s1 hK st hv => by subst hv; exact ⟨hK.1, PostG.mk st hK.2 rfl⟩)

/-! stores -/
noncomputable def put (x : Str) (v : AV) : List (Str × AV) → List (Str × AV)
  | [] => [(x, v)]
  | (y, u) :: r => if x = y then (x, v) :: r else (y, u) :: put x v r
theorem put_lookup (x : Str) (v : AV) (y : Str) : ∀ l, (put x v l).lookup y = if y = x then some v else l.lookup y
  | [] => by by_cases h : y = x <;> simp [put, List.lookup_cons, h, beq_iff_eq]; · simp [beq_eq_false_iff_ne.mpr h]
  | (z, u) :: r => by
    have ih := put_lookup x v y r
    unfold put
    by_cases hz : x = z
    · subst hz
      rw [if_pos rfl]
      by_cases h : y = x
      · subst h; simp [List.lookup_cons]
      · simp [List.lookup_cons, h, beq_eq_false_iff_ne.mpr h]
    · rw [if_neg hz]
      by_cases h : y = z
      · subst h
        have : ¬ y = x := fun e => hz e.symm
        simp [List.lookup_cons, this]
      · simp [List.lookup_cons, beq_eq_false_iff_ne.mpr h, ih]

/-- a store of a name -/
noncomputable def WpN (X : Cx) (n : Nat) (ae : AEnv) (S : List AO) (x : Str) (v : AV) (K : Unit → List AO → Prop) : Prop :=
  ∀ A ρ T s env u, Room n A → Rep X S ρ T s → EnvOk ae ρ env → VR X ρ T s.heap v u → wpAny X.M A (storeName env x u) (PostU X S ρ T s K) No s
theorem nLoc {x : Str} {v : AV} {vars : List (Str × AV)} (hk : ae.scope.names.lookup x = some .local) (hS : S[ae.loc]? = some (.ns vars)) (h : KU () (S.set ae.loc (.ns (put x v vars)))) : WpN X n ae S x v KU := fun A ρ T s env u hr hR hE hv => by
  obtain ⟨m, hm, hq, hq'⟩ := hR.obj _ _ _ hS hE.loc
  refine wpAny_storeName_local ((hE.kind x).trans hk) hm (fun h' hn hs => ?_) (by rw [hE.fnk]; rfl)
  have hmv : Mv ρ T s.heap ρ T h' := ⟨fun b o hb e => (hs.2 b (fun q => hb (q ▸ hR.sub _ (List.mem_of_getElem? hE.loc)))).trans e, fun a ha => .inl ha, fun _ _ e => e⟩
  refine PostG.mk (x := ()) (.upd hR hS hE.loc (by intro q; cases q) (by intro q; cases q) hs.extBut (show OR X ρ T h' _ (.ns (put x v vars)) from ⟨_, hn, fun y w e => ?_, fun y e => ?_⟩) (let ⟨o, _, _, ho, _⟩ := hn; ⟨o, ho⟩) _) h trivial
  rw [put_lookup] at e
  by_cases hy : y = x
  · rw [if_pos hy] at e; cases e
    exact ⟨u, by rw [if_pos hy], VR.mv hmv _ hv⟩
  · rw [if_neg hy] at e
    obtain ⟨z, a, b⟩ := hq y w e
    exact ⟨z, by rw [if_neg hy]; exact a, VR.mv hmv _ b⟩
  rw [put_lookup] at e
  by_cases hy : y = x
  · rw [if_pos hy] at e; cases e
  · rw [if_neg hy] at e ⊢; exact hq' y e
theorem nCell {x : Str} {v : AV} {i : Nat} {v0 : Option AV} (hk : ae.scope.names.lookup x = some .cell) (hc : ae.cells.lookup x = some i) (hS : S[i]? = some (.cell v0)) (h : KU () (S.set i (.cell (some v)))) : WpN X n ae S x v KU := fun A ρ T s env u hr hR hE hv => by
  obtain ⟨c, u0, h1, h2, h3, h4⟩ := hR.cell hE hc hS
  refine wpAny_storeName_cell hE.fnk ((hE.kind x).trans hk) h1 h3 fun h' hn hs => ?_
  have hmv : Mv ρ T s.heap ρ T h' := ⟨fun b o hb e => (hs.2 b (fun q => hb (q ▸ hR.sub _ (List.mem_of_getElem? h2)))).trans e, fun a ha => .inl ha, fun _ _ e => e⟩
  exact PostG.mk (x := ()) (.upd hR hS h2 (by intro q; cases q) (by intro q; cases q) hs.extBut (show OR X ρ T h' _ (.cell (some v)) from ⟨_, hn, VR.mv hmv _ hv⟩) (let ⟨o, ho, _⟩ := hn; ⟨o, ho⟩) _) h trivial

noncomputable def dumb (sc : Scope) : Env := { scope := sc, locals := 0, globals := 0, cells := [] }

theorem sAsg {x : Str} {p pos : Pos} {e : Expr} (h : WpE X n ae S e fun a S1 => WpN X n ae S1 x a fun _ S2 => KF .next S2)
    (hs : swapsWith e (some (.Name x p)) pos.line (dumb ae.scope) = pure false := by rfl) : WpS X n ae S (.Assign [.Name x p] e pos) KF := fun A ρ T s env hr hR hE =>
  wpAny_Assign_Name (chain (h A ρ T s env hr hR hE) fun a S1 ρ1 T1 v s1 hK st hv => chain (hK A ρ1 T1 s1 env v hr st.rep (hE.step st hR) hv) fun _ S2 ρ2 T2 _ s2 hK2 st2 _ =>
    PostG.mk (st.trans hR st2) hK2 rfl) (by rw [← hE.scope] at hs; exact hs)
/-- a name read for a store in its place -/
noncomputable def WpL (X : Cx) (n : Nat) (ae : AEnv) (S : List AO) (x : Str) (K : AV → List AO → Prop) : Prop :=
  ∀ A ρ T s env, Room n A → Rep X S ρ T s → EnvOk ae ρ env → wpAny X.M A (loadName env x) (PostV X S ρ T s K) No s
theorem lLoc {x : Str} {vars : List (Str × AV)} {v : AV} (hk : ae.scope.names.lookup x = some .local) (hS : S[ae.loc]? = some (.ns vars)) (hv : vars.lookup x = some v) (h : K v S) : WpL X n ae S x K := fun A ρ T s env hr hR hE => by
  obtain ⟨m, hm, hq⟩ := hR.ns hE hS
  obtain ⟨u, e, q⟩ := hq x v hv
  exact wpAny_loadName_local hE.fnk ((hE.kind x).trans hk) hm e (PostG.mk (.refl hR) h q)
theorem sAug {x : Str} {p pos : Pos} {op : Operator} {e : Expr} (h : WpL X n ae S x fun a S1 => WpE X n ae S1 e fun b S2 => Wp2 X n S2 (inplaceOp op) a b fun c S3 => WpN X n ae S3 x c fun _ S4 => KF .next S4) :
    WpS X n ae S (.AugAssign (.Name x p) op e pos) KF := fun A ρ T s env hr hR hE =>
  wpAny_AugAssign_Name (chain (h A ρ T s env hr hR hE) fun a S1 ρ1 T1 v s1 hK st hv => chain (hK A ρ1 T1 s1 env hr st.rep (hE.step st hR)) fun b S2 ρ2 T2 u s2 hK2 st2 hu =>
    chain (hK2 A ρ2 T2 s2 v u hr st2.rep (VR.mv (st2.mv st.rep) _ hv) hu) fun c S3 ρ3 T3 z s3 hK3 st3 hz =>
    chain (hK3 A ρ3 T3 s3 env z hr st3.rep (hE.step ((st.trans hR st2).trans hR st3) hR) hz) fun _ S4 ρ4 T4 _ s4 hK4 st4 _ =>
      PostG.mk (((st.trans hR st2).trans hR st3).trans hR st4) hK4 rfl)
end
end Mine
namespace Mine

noncomputable def lo (S : List AO) : Option Nat → List AO
  | none => S
  | some k => S.set k .loan
noncomputable def un (S S2 : List AO) : Option Nat → List AO
  | none => S2
  | some k => match S[k]? with
    | some ao => S2.set k ao
    | none => S2

section
variable {X : Cx} {S S' S1 S2 : List AO} {ρ T ρ' T' ρ1 T1 wr : List Addr} {s s' s1 : Shared} {h h' : Heap}

theorem Rep.mvT (R : Rep X S ρ T s) {T' : List Addr} (h1 : ∀ a ∈ T', a ∈ T) (h2 : ∀ a ∈ ρ, a ∈ T') : Rep X S ρ T' s where
  keep := R.keep
  len := R.len
  obj := fun i ao a e1 e2 => (R.obj i ao a e1 e2).mv ⟨fun b o _ e => e, fun a ha => .inl (h1 a ha), fun _ _ e => e⟩ fun o e => e
  nodup := R.nodup
  nosys := R.nosys
  sub := h2
  new := fun a ha => R.new a (h1 a ha)
  low := fun a ha => R.low a (h1 a ha)
  rest := R.rest
  toks := R.toks

theorem Rep.lo (R : Rep X S ρ T s) (k : Option Nat) : Rep X (lo S k) ρ T s := by
  cases k with
  | none => exact R
  | some k => exact {
      keep := R.keep
      len := by simpa [Mine.lo] using R.len
      obj := fun i ao a e1 e2 => by
        simp only [Mine.lo] at e1
        by_cases hi : k = i
        · subst hi
          have hlt : k < S.length := by have := (List.getElem?_eq_some_iff.mp e1).1; simpa using this
          rw [List.getElem?_set_self hlt] at e1
          cases e1; trivial
        · rw [List.getElem?_set_ne hi] at e1; exact R.obj i ao a e1 e2
      nodup := R.nodup
      nosys := R.nosys
      sub := R.sub
      new := R.new
      low := R.low
      rest := R.rest
      toks := R.toks }

theorem Live.lo {b : Addr} {k : Option Nat} (l : Live (lo S k) ρ b) : Live S ρ b := by
  cases k with
  | none => exact l
  | some k =>
    obtain ⟨i, ao, e1, e2, e3⟩ := l
    simp only [Mine.lo] at e2
    by_cases hi : k = i
    · subst hi
      have hlt : k < S.length := by have := (List.getElem?_eq_some_iff.mp e2).1; simpa using this
      rw [List.getElem?_set_self hlt] at e2
      cases e2; exact absurd rfl e3
    · rw [List.getElem?_set_ne hi] at e2; exact ⟨i, ao, e1, e2, e3⟩

theorem Step.un {k : Option Nat} (R : Rep X S ρ T s) (st : Step X (Mine.lo S k) ρ T s S' ρ' T' s') : Step X S ρ T s (Mine.un S S' k) ρ' T' s' := by
  cases k with
  | none => exact st
  | some k =>
    cases hk : S[k]? with
    | none =>
      have e : Mine.lo S (some k) = S := by simp only [Mine.lo]; exact List.set_eq_of_length_le (List.getElem?_eq_none_iff.mp hk)
      rw [e] at st
      simp only [Mine.un, hk]; exact st
    | some ao =>
      simp only [Mine.un, hk]
      have hlt : k < S.length := (List.getElem?_eq_some_iff.mp hk).1
      have hl : (S.set k AO.loan)[k]? = some .loan := List.getElem?_set_self hlt
      have hl' : S'[k]? = some .loan := st.loans k hl
      have hlt' : k < S'.length := (List.getElem?_eq_some_iff.mp hl').1
      have mv := st.mv (R.lo (some k))
      exact {
        rep := {
          keep := st.rep.keep
          len := by simpa using st.rep.len
          obj := fun i oj a e1 e2 => by
            by_cases hi : k = i
            · subst hi
              rw [List.getElem?_set_self hlt'] at e1
              cases e1
              have hlen : k < ρ.length := by rw [R.len]; exact hlt
              have ea : ρ[k]? = some a := by
                have h1 : ρ[k]? = some ρ[k] := List.getElem?_eq_getElem hlen
                have h2 := mv.ids k _ h1
                rw [e2] at h2; rw [h1]; exact h2.symm
              refine (R.obj k ao a hk ea).mv mv fun o e => st.keep a o (fun l => ?_) e
              obtain ⟨j, oj, f1, f2, f3⟩ := l
              have hjk : j = k := by
                obtain ⟨l1, z1⟩ := List.getElem?_eq_some_iff.mp f1
                obtain ⟨l2, z2⟩ := List.getElem?_eq_some_iff.mp ea
                exact (List.getElem_inj R.nodup).mp (z1.trans z2.symm)
              subst hjk
              simp only [Mine.lo] at f2
              rw [hl] at f2; cases f2; exact f3 rfl
            · rw [List.getElem?_set_ne hi] at e1; exact st.rep.obj i oj a e1 e2
          nodup := st.rep.nodup
          nosys := st.rep.nosys
          sub := st.rep.sub
          new := st.rep.new
          low := st.rep.low
          rest := st.rep.rest
          toks := st.rep.toks }
        more := st.more
        keep := fun b o hb e => st.keep b o (fun l => hb l.lo) e
        loans := fun i e => by
          by_cases hi : k = i
          · subst hi
            rw [hk] at e; cases e
            rw [List.getElem?_set_self hlt']
          · rw [List.getElem?_set_ne hi]
            refine st.loans i ?_
            simp only [Mine.lo]; rw [List.getElem?_set_ne hi]; exact e }

/-- within a loop: S1 is the (loaned) start, s1 the state before the iterator was made -/
structure Lp (X : Cx) (S1 : List AO) (ρ1 T1 wr : List Addr) (s1 : Shared) (S : List AO) (ρ T : List Addr) (s : Shared) : Prop where
  rep : Rep X S ρ T s
  more : ∃ m, ρ = ρ1 ++ m ∧ T = (T1 ++ wr) ++ m ∧ ∀ a ∈ m, s1.heap.get? a = none ∧ a ∉ wr
  keep : ∀ b o, ¬ Live S1 ρ1 b → s1.heap.get? b = some o → s.heap.get? b = some o
  loans : ∀ i : Nat, S1[i]? = some .loan → S[i]? = some .loan

theorem Lp.start (R : Rep X S1 ρ1 T1 s1) (hk : ∀ b o, s1.heap.get? b = some o → h.get? b = some o) (hw : ∀ b ∈ wr, s1.heap.get? b = none) (he : ∀ b ∈ wr, ∃ o, h.get? b = some o) (n : Nat) (hn : s1.toks ≤ n) :
    Lp X S1 ρ1 T1 wr s1 S1 ρ1 (T1 ++ wr) { s1 with heap := h, toks := n } where
  rep := {
    keep := fun b o e => hk b o (R.keep b o e)
    len := R.len
    obj := fun i ao a e1 e2 => (R.obj i ao a e1 e2).mv ⟨fun b o _ e => hk b o e, fun a ha => (List.mem_append.mp ha).imp id fun q => hw a q, fun _ _ e => e⟩ fun o e => hk a o e
    nodup := R.nodup
    nosys := R.nosys
    sub := fun a ha => List.mem_append_left _ (R.sub a ha)
    new := fun a ha => by
      rcases List.mem_append.mp ha with q | q
      · exact R.new a q
      · cases e : X.r.heap.get? a with
        | none => rfl
        | some o => have := R.keep a o e; rw [hw a q] at this; cases this
    low := fun a ha => by
      rcases List.mem_append.mp ha with q | q
      · obtain ⟨o, e⟩ := R.low a q; exact ⟨o, hk a o e⟩
      · exact he a q
    rest := R.rest
    toks := Nat.le_trans R.toks hn }
  more := ⟨[], by simp, by simp, fun _ h => nomatch h⟩
  keep := fun b o _ e => hk b o e
  loans := fun _ e => e

theorem Lp.mv (R : Rep X S1 ρ1 T1 s1) (hw : ∀ b ∈ wr, s1.heap.get? b = none) (L : Lp X S1 ρ1 T1 wr s1 S ρ T s) : Mv ρ1 T1 s1.heap ρ T s.heap where
  keep := fun b o hb e => L.keep b o (fun l => hb (R.sub b l.mem)) e
  trk := fun a ha => by
    obtain ⟨m, _, rfl, hm⟩ := L.more
    rcases List.mem_append.mp ha with q | q
    · exact (List.mem_append.mp q).imp id fun z => hw a z
    · exact .inr (hm a q).1
  ids := fun i a e => by
    obtain ⟨m, rfl, _, _⟩ := L.more
    rw [List.getElem?_append_left (List.getElem?_eq_some_iff.mp e).1]; exact e

theorem Lp.notin (R : Rep X S1 ρ1 T1 s1) (hw : ∀ b ∈ wr, s1.heap.get? b = none) (L : Lp X S1 ρ1 T1 wr s1 S ρ T s) : ∀ b ∈ wr, b ∉ ρ := fun b hb q => by
  obtain ⟨m, rfl, _, hm⟩ := L.more
  rcases List.mem_append.mp q with q | q
  · obtain ⟨o, e⟩ := R.low b (R.sub b q); rw [hw b hb] at e; cases e
  · exact (hm b q).2 hb

/-- the iterator moved -/
theorem Lp.move (R : Rep X S1 ρ1 T1 s1) (hw : ∀ b ∈ wr, s1.heap.get? b = none) (L : Lp X S1 ρ1 T1 wr s1 S ρ T s) (hk : ∀ b o, b ∉ wr → s.heap.get? b = some o → h.get? b = some o) (he : ∀ b ∈ wr, ∃ o, h.get? b = some o) (n : Nat) (hnn : s.toks ≤ n) :
    Lp X S1 ρ1 T1 wr s1 S ρ T { s with heap := h, toks := n } := by
  have hwT : ∀ b ∈ wr, b ∈ T := fun b hb => by
    obtain ⟨m, _, rfl, _⟩ := L.more
    exact List.mem_append_left _ (List.mem_append_right _ hb)
  have hn := L.notin R hw
  exact {
    rep := {
      keep := fun b o e => hk b o (fun q => by have := L.rep.new b (hwT b q); rw [e] at this; cases this) (L.rep.keep b o e)
      len := L.rep.len
      obj := fun i ao a e1 e2 => (L.rep.obj i ao a e1 e2).mv ⟨fun b o hb e => hk b o (fun q => hb (hwT b q)) e, fun a ha => .inl ha, fun _ _ e => e⟩ fun o e => hk a o (fun q => hn a q (List.mem_of_getElem? e2)) e
      nodup := L.rep.nodup
      nosys := L.rep.nosys
      sub := L.rep.sub
      new := L.rep.new
      low := fun a ha => by
        by_cases q : a ∈ wr
        · exact he a q
        · obtain ⟨o, e⟩ := L.rep.low a ha; exact ⟨o, hk a o q e⟩
      rest := L.rep.rest
      toks := Nat.le_trans L.rep.toks hnn }
    more := L.more
    keep := fun b o hb e => hk b o (fun q => by rw [hw b q] at e; cases e) (L.keep b o hb e)
    loans := L.loans }

theorem Lp.ex (L : Lp X S1 ρ1 T1 wr s1 S ρ T s) : ∀ b ∈ wr, ∃ o, s.heap.get? b = some o := fun b hb => by
  obtain ⟨m, _, e, _⟩ := L.more
  exact L.rep.low b (by rw [e]; exact List.mem_append_left _ (List.mem_append_right _ hb))

/-- the body ran -/
theorem Lp.step (R : Rep X S1 ρ1 T1 s1) (L : Lp X S1 ρ1 T1 wr s1 S ρ T s) (st : Step X S ρ T s S' ρ' T' s') : Lp X S1 ρ1 T1 wr s1 S' ρ' T' s' where
  rep := st.rep
  more := by
    obtain ⟨m, e1, e2, hm⟩ := L.more
    obtain ⟨m', e3, e4, hm'⟩ := st.more
    refine ⟨m ++ m', by rw [e3, e1, List.append_assoc], by rw [e4, e2, List.append_assoc], fun a ha => ?_⟩
    rcases List.mem_append.mp ha with q | q
    · exact hm a q
    · have z := hm' a q
      refine ⟨?_, fun hw => by obtain ⟨o, e⟩ := L.ex a hw; rw [z] at e; cases e⟩
      cases e : s1.heap.get? a with
      | none => rfl
      | some o =>
        by_cases hT : a ∈ T
        · obtain ⟨o', e'⟩ := L.rep.low a hT; rw [z] at e'; cases e'
        · have := L.keep a o (fun l => hT (by rw [e2]; exact List.mem_append_left _ (List.mem_append_left _ (R.sub a l.mem)))) e
          rw [z] at this; cases this
  keep := fun b o hb e => st.keep b o (fun l => by
    obtain ⟨m, e1, e2, hm⟩ := L.more
    obtain ⟨i, ao, f1, f2, f3⟩ := l
    rw [e1] at f1
    by_cases hi : i < ρ1.length
    · rw [List.getElem?_append_left hi] at f1
      have hiS : i < S1.length := R.len ▸ hi
      have q : S1[i]? = some S1[i] := List.getElem?_eq_getElem hiS
      by_cases hl : S1[i] = .loan
      · rw [hl] at q
        have := L.loans i q
        rw [f2] at this; exact f3 (Option.some.inj this)
      · exact hb ⟨i, _, f1, q, hl⟩
    · rw [List.getElem?_append_right (by omega)] at f1
      rw [(hm b (List.mem_of_getElem? f1)).1] at e; cases e) (L.keep b o hb e)
  loans := fun i e => st.loans i (L.loans i e)

/-- what the iterator reads stands -/
theorem Lp.fp (R : Rep X S1 ρ1 T1 s1) (hw : ∀ b ∈ wr, s1.heap.get? b = none) (L : Lp X S1 ρ1 T1 wr s1 S ρ T s) (st : Step X S ρ T s S' ρ' T' s') {b : Addr} (hb : b ∈ wr ∨ (¬ Live S1 ρ1 b ∧ ∃ o, s1.heap.get? b = some o)) {o : Obj}
    (e : s.heap.get? b = some o) : s'.heap.get? b = some o := st.keep b o (fun l => by
  rcases hb with hb | ⟨hb, o1, eo⟩
  · exact L.notin R hw b hb l.mem
  · obtain ⟨m, e1, e2, hm⟩ := L.more
    obtain ⟨i, ao, f1, f2, f3⟩ := l
    rw [e1] at f1
    by_cases hi : i < ρ1.length
    · rw [List.getElem?_append_left hi] at f1
      have hiS : i < S1.length := R.len ▸ hi
      have q : S1[i]? = some S1[i] := List.getElem?_eq_getElem hiS
      by_cases hl : S1[i] = .loan
      · rw [hl] at q
        have := L.loans i q
        rw [f2] at this; exact f3 (Option.some.inj this)
      · exact hb ⟨i, _, f1, q, hl⟩
    · rw [List.getElem?_append_right (by omega)] at f1
      rw [(hm b (List.mem_of_getElem? f1)).1] at eo; cases eo) e

/-- behind the loop -/
theorem Lp.done (R : Rep X S1 ρ1 T1 s1) (L : Lp X S1 ρ1 T1 wr s1 S ρ T s) : ∃ T', Step X S1 ρ1 T1 s1 S ρ T' s ∧ ∀ a ∈ T', a ∈ T := by
  obtain ⟨m, e1, e2, hm⟩ := L.more
  have hsub : ∀ a ∈ T1 ++ m, a ∈ T := fun a ha => by
    rw [e2]
    rcases List.mem_append.mp ha with q | q
    · exact List.mem_append_left _ (List.mem_append_left _ q)
    · exact List.mem_append_right _ q
  refine ⟨T1 ++ m, ⟨L.rep.mvT hsub fun a ha => ?_, ⟨m, e1, rfl, fun a ha => (hm a ha).1⟩, L.keep, L.loans⟩, hsub⟩
  rw [e1] at ha
  rcases List.mem_append.mp ha with q | q
  · exact List.mem_append_left _ (R.sub a q)
  · exact List.mem_append_right _ q
theorem Lp.fin (R : Rep X S1 ρ1 T1 s1) (hw : ∀ b ∈ wr, s1.heap.get? b = none) (L : Lp X S1 ρ1 T1 wr s1 S ρ T s) (hk : ∀ b o, b ∉ wr → s.heap.get? b = some o → h.get? b = some o) (n : Nat) (hnn : s.toks ≤ n) :
    ∃ T', Step X S1 ρ1 T1 s1 S ρ T' { s with heap := h, toks := n } := by
  have hn := L.notin R hw
  obtain ⟨m, e1, e2, hm⟩ := L.more
  have hsub : ∀ a ∈ T1 ++ m, a ∈ T := fun a ha => by
    rw [e2]
    rcases List.mem_append.mp ha with q | q
    · exact List.mem_append_left _ (List.mem_append_left _ q)
    · exact List.mem_append_right _ q
  have hno : ∀ a ∈ T1 ++ m, a ∉ wr := fun a ha q => by
    rcases List.mem_append.mp ha with z | z
    · obtain ⟨o, e⟩ := R.low a z; rw [hw a q] at e; cases e
    · exact (hm a z).2 q
  have hwT : ∀ b ∈ wr, b ∈ T := fun b hb => by rw [e2]; exact List.mem_append_left _ (List.mem_append_right _ hb)
  refine ⟨T1 ++ m, ⟨?_, ⟨m, e1, rfl, fun a ha => (hm a ha).1⟩, fun b o hb e => hk b o (fun q => by rw [hw b q] at e; cases e) (L.keep b o hb e), L.loans⟩⟩
  exact {
    keep := fun b o e => hk b o (fun q => by have := L.rep.new b (hwT b q); rw [e] at this; cases this) (L.rep.keep b o e)
    len := L.rep.len
    obj := fun i ao a f1 f2 => (L.rep.obj i ao a f1 f2).mv ⟨fun b o hb e => hk b o (fun q => hb (hwT b q)) e, fun a ha => .inl (hsub a ha), fun _ _ e => e⟩ fun o e => hk a o (fun q => hn a q (List.mem_of_getElem? f2)) e
    nodup := L.rep.nodup
    nosys := L.rep.nosys
    sub := fun a ha => by
      rw [e1] at ha
      rcases List.mem_append.mp ha with q | q
      · exact List.mem_append_left _ (R.sub a q)
      · exact List.mem_append_right _ q
    new := fun a ha => L.rep.new a (hsub a ha)
    low := fun a ha => let ⟨o, e⟩ := L.rep.low a (hsub a ha); ⟨o, hk a o (hno a ha) e⟩
    rest := L.rep.rest
    toks := Nat.le_trans L.rep.toks hnn }
end

/-- an item that goes to a target -/
noncomputable def VI (X : Cx) (ρ T : List Addr) (h : Heap) (target : Expr) (it : AV) (v : Value) : Prop := match target with
  | .Tuple .. => ∃ xs a vs, it = .tup xs ∧ v = .ref a ∧ IsTup h a vs.toArray ∧ VRs X ρ T h xs vs
  | _ => VR X ρ T h it v

/-- an iterator made in s1: what its turns give -/
structure SrcAt (X : Cx) (A : Around) (S : List AO) (k : Option Nat) (ρ T : List Addr) (s : Shared) (target : Expr) (items : List AV) (I : Addr) (fp wr : List Addr) (P Md : Nat → Value → Heap → Prop) (St : Nat → Heap → Prop) (h' : Heap) (tk : Nat) : Prop where
  hk : ∀ b o, s.heap.get? b = some o → h'.get? b = some o
  turns : KTurns X.prog X.w A target I fp wr items.length P Md St
  st : St 0 h'
  time : s.toks ≤ tk
  new : ∀ b ∈ wr, s.heap.get? b = none
  foot : ∀ b ∈ fp, b ∈ wr ∨ (¬ Live (lo S k) ρ b ∧ ∃ o, s.heap.get? b = some o)
  ex : ∀ i h, St i h → ∀ b ∈ wr, ∃ o, h.get? b = some o
  item : ∀ (j : Nat) (it : AV) (v : Value) (h : Heap) (ρ' T' : List Addr), items[j]? = some it → P j v h → Mv ρ T s.heap ρ' T' h → (∀ b ∈ wr, b ∈ T') → VI X ρ' T' h target it v
  self : ∀ (s' : Shared) (Q' : Value → Shared → Prop) (E' : Value → Shared → Prop), St 0 s'.heap → Q' (.ref I) s' → wpAny X.M A (pyIter (.ref I)) Q' E' s'
/-- what a value gives when it is iterated -/
noncomputable def Src (X : Cx) (n : Nat) (S : List AO) (k : Option Nat) (target : Expr) (x : AV) (items : List AV) : Prop :=
  ∀ (A : Around) (ρ T : List Addr) (s : Shared) (v : Value) (Q : Value → Shared → Prop) (E : Value → Shared → Prop), Room n A → Rep X S ρ T s → VR X ρ T s.heap x v →
    (∀ (I : Addr) (fp wr : List Addr) (P Md : Nat → Value → Heap → Prop) (St : Nat → Heap → Prop) (h' : Heap) (tk : Nat), SrcAt X A S k ρ T s target items I fp wr P Md St h' tk →
      Q (.ref I) { s with heap := h', toks := tk }) → wpAny X.M A (pyIter v) Q E s
/-- what an iterable expression gives -/
noncomputable def WpI (X : Cx) (n : Nat) (ae : AEnv) (S : List AO) (target iter : Expr) (K : List AV → Option Nat → List AO → Prop) : Prop :=
  ∀ (A : Around) (ρ T : List Addr) (s : Shared) (env : Env) (Q : Value → Shared → Prop) (E : Value → Shared → Prop) (E' : Value → Shared → Prop), Room n A → Rep X S ρ T s → EnvOk ae ρ env →
    (∀ items k S1 ρ1 T1 s1, K items k S1 → Step X S ρ T s S1 ρ1 T1 s1 → ∀ (I : Addr) (fp wr : List Addr) (P Md : Nat → Value → Heap → Prop) (St : Nat → Heap → Prop) (h' : Heap) (tk : Nat), SrcAt X A S1 k ρ1 T1 s1 target items I fp wr P Md St h' tk →
      Q (.ref I) { s1 with heap := h', toks := tk }) → wpAny X.M A (eval iter env) (fun v s' => wpAny X.M A (pyIter v) Q E s') E' s

/-- a value goes to a target -/
noncomputable def WpA (X : Cx) (n : Nat) (ae : AEnv) (S : List AO) (target : Expr) (it : AV) (K : Unit → List AO → Prop) : Prop :=
  ∀ A ρ T s env v, Room n A → Rep X S ρ T s → EnvOk ae ρ env → VI X ρ T s.heap target it v → wpAny X.M A (assign target env v) (PostU X S ρ T s K) No s

noncomputable def WpLoop (X : Cx) (n : Nat) (ae : AEnv) (target : Expr) (body : List Stmt) : List AV → List AO → (AF → List AO → Prop) → Prop
  | [], S, K => K .next S
  | it :: r, S, K => WpA X n ae S target it fun _ S1 => WpSs X n ae S1 body fun f S2 => match f with
    | .next => WpLoop X n ae target body r S2 K
    | .cont => WpLoop X n ae target body r S2 K
    | .brk => K .next S2
    | .ret v => K (.ret v) S2

section
variable {X : Cx} {n : Nat} {ae : AEnv} {S S' : List AO} {K : AV → List AO → Prop} {KB : Bool → List AO → Prop} {KF : AF → List AO → Prop} {KU : Unit → List AO → Prop}

theorem EnvOk.lp {ρ ρ1 T1 wr T : List Addr} {s1 s : Shared} {S1 : List AO} {env : Env} (R : Rep X S1 ρ1 T1 s1) (hw : ∀ b ∈ wr, s1.heap.get? b = none) (E : EnvOk ae ρ1 env) (L : Lp X S1 ρ1 T1 wr s1 S ρ T s) : EnvOk ae ρ env :=
  ⟨E.scope, E.fn, (L.mv R hw).ids _ _ E.loc, E.glob, E.bui, fun x i e => let ⟨c, a, b⟩ := E.cells x i e; ⟨c, a, (L.mv R hw).ids _ _ b⟩⟩

theorem PostG.un {α β : Type} {R : List Addr → List Addr → Heap → α → β → Prop} {K : α → List AO → Prop} {ρ T : List Addr} {s s' : Shared} {k : Option Nat} {b : β} (hR : Rep X S ρ T s)
    (p : PostG R X (lo S k) ρ T s (fun x S2 => K x (un S S2 k)) b s') : PostG R X S ρ T s K b s' :=
  let ⟨x, S2, ρ', T', hk, st, r⟩ := p
  ⟨x, Mine.un S S2 k, ρ', T', hk, Step.un hR st, r⟩

theorem FR.mvT {ρ T T' : List Addr} {h : Heap} (hT : ∀ a ∈ T', a ∈ T) : ∀ {f : AF} {g : Flow}, FR X ρ T h f g → FR X ρ T' h f g
  | .next, _, q => q
  | .brk, _, q => q
  | .cont, _, q => q
  | .ret x, _, ⟨v, e, q⟩ => ⟨v, e, VR.mv ⟨fun _ _ _ e => e, fun a ha => .inl (hT a ha), fun _ _ e => e⟩ x q⟩

theorem iE {target iter : Expr} {K : List AV → Option Nat → List AO → Prop} (h : WpE X n ae S iter fun x S1 => ∃ items k, Src X n S1 k target x items ∧ K items k S1) : WpI X n ae S target iter K :=
  fun A ρ T s env Q E E' hr hR hE hQ => chain (h A ρ T s env hr hR hE) fun x S1 ρ1 T1 v s1 hK st hv => by
    obtain ⟨items, k, hsrc, hK⟩ := hK
    exact hsrc A ρ1 T1 s1 v Q E hr st.rep hv fun I fp wr P Md St h' tk W => hQ items k S1 ρ1 T1 s1 hK st I fp wr P Md St h' tk W

theorem sFor {target iter : Expr} {body : List Stmt} {pos : Pos} (h : WpI X n ae S target iter fun items k S1 => WpLoop X n ae target body items (lo S1 k) fun f S2 => KF f (un S1 S2 k))
    (hs : ∀ env x, foldedSetIterable iter env x = pure x := by intro _ _; rfl) : WpS X n ae S (.For target iter body [] pos) KF := fun A ρ T s env hr hR hE => by
  refine wpAny_For (h A ρ T s env _ _ _ hr hR hE fun items k S1 ρ1 T1 s1 hloop st I fp wr P Md St h' tk W0 => ?_) (hs env)
  obtain ⟨hk, W, hst, htk, hwr, hfp, hex, hP, _⟩ := W0
  have R1 := st.rep.lo k
  have fin : ∀ {f : AF} {g : Flow} {S2 : List AO} {ρ2 T2 : List Addr} {s2 : Shared}, Lp X (lo S1 k) ρ1 T1 wr s1 S2 ρ2 T2 s2 → KF f (un S1 S2 k) → FR X ρ2 T2 s2.heap f g → PostF X S ρ T s KF g s2 := fun L hkf hf => by
    obtain ⟨T', stp, hT⟩ := L.done R1
    exact (PostG.un (K := KF) (k := k) st.rep (PostG.mk stp hkf (hf.mvT hT))).trans hR st
  refine codeAny_forLoop_any (fun m s' => ∃ i S2 ρ2 T2, m = items.length + 1 - i ∧ i ≤ items.length ∧ Lp X (lo S1 k) ρ1 T1 wr s1 S2 ρ2 T2 s' ∧ St i s'.heap ∧ WpLoop X n ae target body (items.drop i) S2 fun f S2 => KF f (un S1 S2 k)) ?_ (items.length + 1)
    ⟨0, lo S1 k, ρ1, T1 ++ wr, by omega, Nat.zero_le _, Lp.start R1 hk hwr (hex 0 h' hst) tk htk, hst, by simpa using hloop⟩
  rintro m s' ⟨i, S2, ρ2, T2, rfl, hi, L, hst', hw⟩
  by_cases hlt : i < items.length
  · refine wpAny_with_toks (Nat.le_refl _) (W.item i s' _ _ hlt hst' fun u h1 tk1 hMd hk1 htk1 => W.go i u _ _ _ hMd fun h2 hP2 hst2 hk2 => ?_)
    have L2 := L.move (h := h2) R1 hwr (fun b o hb e => hk2 b o hb (hk1 b o hb e)) (hex _ _ hst2) tk1 htk1
    have hdrop : items.drop i = items[i] :: items.drop (i + 1) := List.drop_eq_getElem_cons hlt
    rw [hdrop] at hw
    have hwT : ∀ b ∈ wr, b ∈ T2 := fun b hb => by
      obtain ⟨m, _, e, _⟩ := L.more
      rw [e]; exact List.mem_append_left _ (List.mem_append_right _ hb)
    have hv2 := hP i items[i] u h2 ρ2 T2 (List.getElem?_eq_getElem hlt) hP2 (L2.mv R1 hwr) hwT
    have hE2 : EnvOk ae ρ2 env := (hE.step st hR).lp R1 hwr L2
    refine chain (hw A ρ2 T2 _ env u hr L2.rep hE2 hv2) fun _ S3 ρ3 T3 _ s3 hK3 st3 _ => ?_
    refine chain (hK3 A ρ3 T3 s3 env hr st3.rep (hE2.step st3 L2.rep)) fun f S4 ρ4 T4 g s4 hK4 st4 hf => ?_
    have st34 := st3.trans L2.rep st4
    have L4 := L2.step R1 st34
    have hst4 : St (i + 1) s4.heap := W.frame _ _ _ hst2 fun b hb o e => L2.fp R1 hwr st34 (hfp b hb) e
    cases f with
    | next => cases hf; exact ⟨items.length + 1 - (i + 1), by omega, i + 1, S4, ρ4, T4, rfl, hlt, L4, hst4, hK4⟩
    | cont => cases hf; exact ⟨items.length + 1 - (i + 1), by omega, i + 1, S4, ρ4, T4, rfl, hlt, L4, hst4, hK4⟩
    | brk => cases hf; exact fin L4 hK4 rfl
    | ret x => obtain ⟨z, rfl, hz⟩ := hf; exact fin L4 hK4 ⟨z, rfl, hz⟩
  · have hin : i = items.length := by omega
    subst hin
    rw [List.drop_length] at hw
    refine wpAny_with_toks (Nat.le_refl _) (W.done s' _ _ hst' fun h1 tk1 hk1 htk1 => wpAny_execs_nil ?_)
    obtain ⟨T', stp⟩ := L.fin (h := h1) R1 hwr hk1 tk1 htk1
    exact (PostG.un (K := KF) (k := k) st.rep (PostG.mk stp hw rfl)).trans hR st
end
end Mine
namespace Mine

/-! ## comprehensions -/
noncomputable def testsT (ifs : List Expr) (env : Env) : Sem Bool := forIn ifs true fun c r => if r = true then do let ok ← isTrue c env (eval c env); pure (ForInStep.yield ok) else pure (ForInStep.yield r)
/-- what a clause behind another one does -/
noncomputable def nestT (e : Expr) (t i : Expr) (d : Nat) (acc : Value) (env : Env) : Sem Unit :=
  eval i env >>= fun x => standAt i.pos >>= fun _ => foldedSetIterable i env x >>= fun x => holding [x] (pyIter x) >>= fun it => runOwn (.compStart e (d + 1) it acc env) env >>= fun _ => pure ()
noncomputable def restT (e : Expr) (gens : List Comprehension) (emit : Sem Unit) (d : Nat) (acc : Value) (env : Env) : Sem Unit := match gens[d + 1]? with
  | some ⟨t, i, _, _⟩ => nestT e t i d acc env
  | none => emit
/-- a turn of a plain clause -/
noncomputable def turnT (e t i : Expr) (fs : List Expr) (rest : Sem Unit) (d : Nat) (it acc : Value) (env : Env) : Sem PySem.Fin :=
  standAt i.pos >>= fun _ => pyNext it >>= fun r => match r with
    | none => pure (.done .next)
    | some v => letOwnedTupleGo t it v >>= fun _ => assign t env v >>= fun _ => testsT fs env >>= fun ok =>
      if ok = true then rest >>= fun _ => again (.compLoop e d it acc env) else again (.compLoop e d it acc env)
noncomputable def emitL (elt : Expr) (acc : Value) (env : Env) : Sem Unit := eval elt env >>= fun v => call (.builtin "list.append") [acc, v] >>= fun _ => pure ()
noncomputable def emitD (k v : Expr) (a : Addr) (env : Env) : Sem Unit :=
  eval k env >>= fun x => holding [x] (eval v env) >>= fun y => standAt { k.pos with endLine := v.pos.endLine, endCol := v.pos.endCol } >>= fun _ => holding [x, y] (dictSet a x y)

theorem turn_list {elt : Expr} {gens : List Comprehension} {scope : Scope} {pos : Pos} {d : Nat} {it acc : Value} {env : Env} {t i : Expr} {fs : List Expr} (hg : gens[d]? = some ⟨t, i, fs, 0⟩) (ha : ∀ g ∈ gens, g.is_async = 0) :
    compTurn (.ListComp elt gens scope pos) d it acc env = turnT (.ListComp elt gens scope pos) t i fs (restT (.ListComp elt gens scope pos) gens (emitL elt acc env) d acc env) d it acc env := by
  unfold compTurn turnT restT
  dsimp only
  rw [hg]
  cases h : gens[d + 1]? with
  | none => dsimp only; simp only [bne_self_eq_false, Bool.false_eq_true, if_false]; rfl
  | some g' =>
    obtain ⟨t', i', fs', k'⟩ := g'
    have hz : k' = 0 := ha _ (List.mem_of_getElem? h)
    subst hz
    unfold nestT
    dsimp only
    simp only [bne_self_eq_false, Bool.false_eq_true, if_false, bind_assoc, pure_bind]
    rfl
theorem turn_dict {k v : Expr} {gens : List Comprehension} {scope : Scope} {pos : Pos} {d : Nat} {it : Value} {a : Addr} {env : Env} {t i : Expr} {fs : List Expr} (hg : gens[d]? = some ⟨t, i, fs, 0⟩) (ha : ∀ g ∈ gens, g.is_async = 0) :
    compTurn (.DictComp k v gens scope pos) d it (.ref a) env = turnT (.DictComp k v gens scope pos) t i fs (restT (.DictComp k v gens scope pos) gens (emitD k v a env) d (.ref a) env) d it (.ref a) env := by
  unfold compTurn turnT restT
  dsimp only
  rw [hg]
  cases h : gens[d + 1]? with
  | none => dsimp only; simp only [bne_self_eq_false, Bool.false_eq_true, if_false]; rfl
  | some g' =>
    obtain ⟨t', i', fs', k'⟩ := g'
    have hz : k' = 0 := ha _ (List.mem_of_getElem? h)
    subst hz
    unfold nestT
    dsimp only
    simp only [bne_self_eq_false, Bool.false_eq_true, if_false, bind_assoc, pure_bind]
    rfl

section
variable {prog : Program} {w : World} {A : Around} {R : Result → Shared → Prop} {s : Shared}

theorem andThen {M : Model} {α β : Type} {m : Sem α} {f : α → Sem β} {Q' : α → Shared → Prop} {Q : β → Shared → Prop} {E : Value → Shared → Prop} (h : wpAny M A m Q' E s) (k : ∀ a s', Q' a s' → wpAny M A (f a) Q E s') : wpAny M A (m >>= f) Q E s :=
  wpAny_bind (wpAny_mono h k fun _ _ e => e)
theorem compLoop_gen {e : Expr} {gens : List Comprehension} {emit : Sem Unit} {d : Nat} {it acc : Value} {env : Env} {t i : Expr} {fs : List Expr}
    (hu : ∀ A' : Around, A'.under (.compLoop e d it acc env) = A') (hden : (model prog w).den (.compLoop e d it acc env) = (turnT e t i fs (restT e gens emit d acc env) d it acc env).onRaise (fun x => do noteFrame x env; theTreesLotGoes x))
    (I : Nat → Shared → Prop)
    (turn : ∀ n s, I n s → wpAny (model prog w) A (pyNext it) (fun r s₁ => match r with
      | none => R (.ok .next) s₁
      | some v => wpAny (model prog w) A (letOwnedTupleGo t it v) (fun _ s₂ => wpAny (model prog w) A (assign t env v) (fun _ s₃ => wpAny (model prog w) A (testsT fs env) (fun ok s₄ =>
          if ok = true then wpAny (model prog w) A (restT e gens emit d acc env) (fun _ s₅ => ∃ m, m < n ∧ I m s₅) (notedBy (model prog w) A env fun e s' => R (.error e) s') s₄
          else ∃ m, m < n ∧ I m s₄) (notedBy (model prog w) A env fun e s' => R (.error e) s') s₃) (notedBy (model prog w) A env fun e s' => R (.error e) s') s₂) (notedBy (model prog w) A env fun e s' => R (.error e) s') s₁) (notedBy (model prog w) A env fun e s' => R (.error e) s') s)
    (n : Nat) (h : I n s) : codeAny (model prog w) A (.compLoop e d it acc env) R s := by
  refine codeAny_loop (M := model prog w) rfl I ?_ n h
  intro n s hI
  rw [hu, hden]
  refine wpAny_noted (wpAny_bind (wpAny_standAt (andThen (turn n s hI) fun r s1 q => ?_)))
  cases r with
  | none => exact wpAny_pure q
  | some v =>
    refine andThen q fun _ _ q => andThen q fun _ _ q => andThen q fun ok _ q => ?_
    by_cases b : ok = true
    · rw [if_pos b] at q ⊢
      exact andThen q fun _ _ q => wpAny_pure ⟨rfl, q⟩
    · rw [if_neg b] at q ⊢
      exact wpAny_pure ⟨rfl, q⟩

theorem compStart_gen {e : Expr} {d : Nat} {it acc : Value} {env : Env} {t i : Expr} {fs : List Expr}
    (hu : ∀ A' : Around, A'.under (.compStart e d it acc env) = A') (hden : (model prog w).den (.compStart e d it acc env) = (compStart e d it acc env).onRaise (fun x => do noteFrame x env; standAt theWindowsPlace))
    (hg : (clausesOf e)[d]? = some ⟨t, i, fs, 0⟩) (h0 : codeAny (model prog w) A (.compLoop e d it acc env) R s)
    (h : wpAny (model prog w) A (pyIter it) (fun it' s' => codeAny (model prog w) A (.compLoop e d it' acc env) R s') No s) :
    codeAny (model prog w) A (.compStart e d it acc env) R s := by
  refine codeAny_of_tree ?_
  rw [hu, hden]
  unfold compStart
  rw [hg]
  refine wpAny_notedAt (wpAny_bind (m := ask) (wpAny_askSetting (wpAny_ite ?_)))
  split
  · exact wpAny_pure ⟨rfl, h0⟩
  · exact wpAny_bind (wpAny_rule (wpAny_bind (m := standAt i.pos) (wpAny_standAt (wpAny_bind (wpAny_mono h (fun _ _ q => wpAny_pure ⟨rfl, q⟩) fun _ _ x => x.elim)))))
end

/-! the shadows -/
noncomputable def WpTests (X : Cx) (n : Nat) (ae : AEnv) : List Expr → List AO → (Bool → List AO → Prop) → Prop
  | [], S, K => K true S
  | c :: r, S, K => WpB X n ae S c fun b S1 => if b = true then WpTests X n ae r S1 K else K false S1
noncomputable def WpItems (body : AV → List AO → (List AO → Prop) → Prop) : List AV → List AO → (List AO → Prop) → Prop
  | [], S, K => K S
  | it :: r, S, K => body it S fun S2 => WpItems body r S2 K
noncomputable def WpIn (X : Cx) (n : Nat) (ae : AEnv) (t : Expr) (fs : List Expr) (rest : List AO → (List AO → Prop) → Prop) (it : AV) (S : List AO) (K : List AO → Prop) : Prop :=
  WpA X n ae S t it fun _ S1 => WpTests X n ae fs S1 fun b S2 => if b = true then rest S2 K else K S2
noncomputable def WpGens (X : Cx) (n : Nat) (ae : AEnv) (emit : List AO → (List AO → Prop) → Prop) : List Comprehension → List AO → (List AO → Prop) → Prop
  | [], S, K => emit S K
  | ⟨t, i, fs, a⟩ :: r, S, K => a = 0 ∧ WpI X n ae S t i fun items k S1 => WpItems (WpIn X n ae t fs (WpGens X n ae emit r)) items (lo S1 k) fun S2 => K (un S1 S2 k)

noncomputable def Sound (X : Cx) (n : Nat) (ae : AEnv) (ia : Nat) (a : Addr) (env : Env) (B : List AO → (List AO → Prop) → Prop) (t : Sem Unit) : Prop :=
  ∀ A ρ T s S K, Room n A → Rep X S ρ T s → EnvOk ae ρ env → ρ[ia]? = some a → B S K → wpAny X.M A t (PostU X S ρ T s fun _ S' => K S') No s

section
variable {X : Cx} {n : Nat} {ae : AEnv}

theorem forIn_false (env : Env) : ∀ (fs : List Expr) {M : Model} {A : Around} {E : Value → Shared → Prop} {s : Shared} {Q : Bool → Shared → Prop}, Q false s →
    wpAny M A (forIn fs false fun c r => if r = true then do let ok ← isTrue c env (eval c env); pure (ForInStep.yield ok) else pure (ForInStep.yield r)) Q E s
  | [], _, _, _, _, _, h => by rw [List.forIn_nil]; exact wpAny_pure h
  | c :: r, _, _, _, _, _, h => by
    rw [List.forIn_cons]
    refine wpAny_bind ?_
    rw [if_neg (by decide)]
    exact wpAny_pure (forIn_false env r h)

theorem tests_sound : ∀ (fs : List Expr) {A : Around} {ρ T : List Addr} {s : Shared} {env : Env} {S : List AO} {K : Bool → List AO → Prop}, Room n A → Rep X S ρ T s → EnvOk ae ρ env → WpTests X n ae fs S K →
    wpAny X.M A (testsT fs env) (PostB X S ρ T s K) No s
  | [], A, ρ, T, s, env, S, K, hr, hR, hE, h => by
    unfold testsT; rw [List.forIn_nil]; exact wpAny_pure (PostG.mk (.refl hR) h rfl)
  | c :: r, A, ρ, T, s, env, S, K, hr, hR, hE, h => by
    unfold testsT
    rw [List.forIn_cons]
    refine wpAny_bind ?_
    rw [if_pos rfl]
    refine wpAny_bind (chain (h A ρ T s env hr hR hE) fun b S1 ρ1 T1 v s1 hK st hv => ?_)
    subst hv
    refine wpAny_pure ?_
    dsimp only
    cases v with
    | true => rw [if_pos rfl] at hK; exact thenG hR st (tests_sound r hr st.rep (hE.step st hR) hK)
    | false => rw [if_neg (by decide)] at hK; exact forIn_false env r (PostG.mk st hK rfl)

theorem items_sound {e : Expr} {gens : List Comprehension} {emit : Sem Unit} {d : Nat} {env : Env} {t i : Expr} {fs : List Expr} {ia : Nat} {a : Addr} {A : Around} {rest : List AO → (List AO → Prop) → Prop}
    (hu : ∀ I (A' : Around), A'.under (.compLoop e d (.ref I) (.ref a) env) = A') (hden : ∀ I, X.M.den (.compLoop e d (.ref I) (.ref a) env) = (turnT e t i fs (restT e gens emit d (.ref a) env) d (.ref I) (.ref a) env).onRaise (fun x => do noteFrame x env; theTreesLotGoes x))
    (hg : gens[d]? = some ⟨t, i, fs, 0⟩) (ha : ∀ g ∈ gens, g.is_async = 0) (hrest : Sound X n ae ia a env rest (restT e gens emit d (.ref a) env)) (hr : Room n A)
    {S1 S0 : List AO} {ρ1 T1 wr fp ρ0 T0 : List Addr} {s1 s0 : Shared} {I : Addr} {items : List AV} {P Md : Nat → Value → Heap → Prop} {St : Nat → Heap → Prop} {K : List AO → Prop}
    (R1 : Rep X S1 ρ1 T1 s1) (L0 : Lp X S1 ρ1 T1 wr s1 S0 ρ0 T0 s0) (hE : EnvOk ae ρ0 env) (hia : ρ0[ia]? = some a)
    (W : KTurns X.prog X.w A t I fp wr items.length P Md St) (hst : St 0 s0.heap)
    (hwr : ∀ b ∈ wr, s1.heap.get? b = none) (hfp : ∀ b ∈ fp, b ∈ wr ∨ (¬ Live S1 ρ1 b ∧ ∃ o, s1.heap.get? b = some o)) (hex : ∀ i h, St i h → ∀ b ∈ wr, ∃ o, h.get? b = some o)
    (hP : ∀ (j : Nat) (it : AV) (v : Value) (h : Heap) (ρ' T' : List Addr), items[j]? = some it → P j v h → Mv ρ1 T1 s1.heap ρ' T' h → (∀ b ∈ wr, b ∈ T') → VI X ρ' T' h t it v)
    (hI : WpItems (WpIn X n ae t fs rest) items S0 K) :
    codeAny X.M A (.compLoop e d (.ref I) (.ref a) env) (fun r s' => r = .ok .next ∧ ∃ S' ρ' T', K S' ∧ Step X S1 ρ1 T1 s1 S' ρ' T' s' ∧ ∀ (j : Nat) (b : Addr), ρ0[j]? = some b → ρ'[j]? = some b) s0 := by
  refine compLoop_gen (hu I) (hden I) (fun m s' => ∃ i S2 ρ2 T2, m = items.length + 1 - i ∧ i ≤ items.length ∧ Lp X S1 ρ1 T1 wr s1 S2 ρ2 T2 s' ∧ (∀ (j : Nat) (b : Addr), ρ0[j]? = some b → ρ2[j]? = some b) ∧ St i s'.heap ∧ WpItems (WpIn X n ae t fs rest) (items.drop i) S2 K) ?_ (items.length + 1)
    ⟨0, S0, ρ0, T0, by omega, Nat.zero_le _, L0, fun _ _ e => e, hst, by simpa using hI⟩
  rintro m s' ⟨i, S2, ρ2, T2, rfl, hi, L, hpre, hst', hw⟩
  by_cases hlt : i < items.length
  · refine wpAny_with_toks (Nat.le_refl _) (W.item i s' _ _ hlt hst' fun u h1 tk1 hMd hk1 htk1 => W.go i u _ _ _ hMd fun h2 hP2 hst2 hk2 => ?_)
    have L2 := L.move (h := h2) R1 hwr (fun b o hb e => hk2 b o hb (hk1 b o hb e)) (hex _ _ hst2) tk1 htk1
    have hdrop : items.drop i = items[i] :: items.drop (i + 1) := List.drop_eq_getElem_cons hlt
    rw [hdrop] at hw
    have hwT : ∀ b ∈ wr, b ∈ T2 := fun b hb => by
      obtain ⟨m, _, e, _⟩ := L.more
      rw [e]; exact List.mem_append_left _ (List.mem_append_right _ hb)
    have hv2 := hP i items[i] u h2 ρ2 T2 (List.getElem?_eq_getElem hlt) hP2 (L2.mv R1 hwr) hwT
    have hE2 : EnvOk ae ρ2 env := ⟨hE.scope, hE.fn, hpre _ _ hE.loc, hE.glob, hE.bui, fun x i e => let ⟨c, a, b⟩ := hE.cells x i e; ⟨c, a, hpre _ _ b⟩⟩
    have hia2 : ρ2[ia]? = some a := hpre _ _ hia
    have hw : WpA X n ae S2 t items[i] _ := hw
    refine chain (hw A ρ2 T2 _ env u hr L2.rep hE2 hv2) fun _ S3 ρ3 T3 _ s3 hK3 st3 _ => ?_
    refine chain (tests_sound fs hr st3.rep (hE2.step st3 L2.rep) hK3) fun b S4 ρ4 T4 g s4 hK4 st4 hf => ?_
    subst hf
    have st34 := st3.trans L2.rep st4
    cases g with
    | false =>
      rw [if_neg (by decide)] at hK4 ⊢
      exact ⟨items.length + 1 - (i + 1), by omega, i + 1, S4, ρ4, T4, rfl, hlt, L2.step R1 st34, fun j b e => (st34.mv L2.rep).ids _ _ (hpre j b e), W.frame _ _ _ hst2 fun b hb o e => L2.fp R1 hwr st34 (hfp b hb) e, hK4⟩
    | true =>
      rw [if_pos rfl] at hK4 ⊢
      refine chain (hrest A ρ4 T4 s4 S4 _ hr st34.rep (hE2.step st34 L2.rep) ((st34.mv L2.rep).ids _ _ hia2) hK4) fun _ S5 ρ5 T5 _ s5 hK5 st5 _ => ?_
      have st35 := st34.trans L2.rep st5
      exact ⟨items.length + 1 - (i + 1), by omega, i + 1, S5, ρ5, T5, rfl, hlt, L2.step R1 st35, fun j b e => (st35.mv L2.rep).ids _ _ (hpre j b e), W.frame _ _ _ hst2 fun b hb o e => L2.fp R1 hwr st35 (hfp b hb) e, hK5⟩
  · have hin : i = items.length := by omega
    subst hin
    rw [List.drop_length] at hw
    refine wpAny_with_toks (Nat.le_refl _) (W.done s' _ _ hst' fun h1 tk1 hk1 htk1 => ?_)
    obtain ⟨T', stp⟩ := L.fin (h := h1) R1 hwr hk1 tk1 htk1
    exact ⟨rfl, _, _, _, hw, stp, hpre⟩

/-- from the source to the loop, once or twice through iter -/
theorem start_sound {e : Expr} {gens : List Comprehension} {emit : Sem Unit} {d : Nat} {env : Env} {t i : Expr} {fs : List Expr} {ia : Nat} {a : Addr} {A : Around} {rest : List AO → (List AO → Prop) → Prop}
    (hu : ∀ I (A' : Around), A'.under (.compLoop e d (.ref I) (.ref a) env) = A') (hden : ∀ I, X.M.den (.compLoop e d (.ref I) (.ref a) env) = (turnT e t i fs (restT e gens emit d (.ref a) env) d (.ref I) (.ref a) env).onRaise (fun x => do noteFrame x env; theTreesLotGoes x))
    (hu' : ∀ I (A' : Around), A'.under (.compStart e d (.ref I) (.ref a) env) = A') (hden' : ∀ I, X.M.den (.compStart e d (.ref I) (.ref a) env) = (compStart e d (.ref I) (.ref a) env).onRaise (fun x => do noteFrame x env; standAt theWindowsPlace))
    (hc : clausesOf e = gens) (hg : gens[d]? = some ⟨t, i, fs, 0⟩) (ha : ∀ g ∈ gens, g.is_async = 0) (hrest : Sound X n ae ia a env rest (restT e gens emit d (.ref a) env)) (hr : Room n A)
    {S1 S0 : List AO} {ρ1 T1 wr fp ρ0 T0 : List Addr} {s1 s0 : Shared} {I : Addr} {items : List AV} {P Md : Nat → Value → Heap → Prop} {St : Nat → Heap → Prop} {K : List AO → Prop}
    (R1 : Rep X S1 ρ1 T1 s1) (L0 : Lp X S1 ρ1 T1 wr s1 S0 ρ0 T0 s0) (hE : EnvOk ae ρ0 env) (hia : ρ0[ia]? = some a)
    (W : KTurns X.prog X.w A t I fp wr items.length P Md St) (hst : St 0 s0.heap)
    (hwr : ∀ b ∈ wr, s1.heap.get? b = none) (hfp : ∀ b ∈ fp, b ∈ wr ∨ (¬ Live S1 ρ1 b ∧ ∃ o, s1.heap.get? b = some o)) (hex : ∀ i h, St i h → ∀ b ∈ wr, ∃ o, h.get? b = some o)
    (hP : ∀ (j : Nat) (it : AV) (v : Value) (h : Heap) (ρ' T' : List Addr), items[j]? = some it → P j v h → Mv ρ1 T1 s1.heap ρ' T' h → (∀ b ∈ wr, b ∈ T') → VI X ρ' T' h t it v)
    (hself : ∀ (s' : Shared) (Q' : Value → Shared → Prop) (E' : Value → Shared → Prop), St 0 s'.heap → Q' (.ref I) s' → wpAny X.M A (pyIter (.ref I)) Q' E' s')
    (hI : WpItems (WpIn X n ae t fs rest) items S0 K) :
    codeAny X.M A (.compStart e d (.ref I) (.ref a) env) (fun r s' => r = .ok .next ∧ ∃ S' ρ' T', K S' ∧ Step X S1 ρ1 T1 s1 S' ρ' T' s' ∧ ∀ (j : Nat) (b : Addr), ρ0[j]? = some b → ρ'[j]? = some b) s0 := by
  have lp := items_sound hu hden hg ha hrest hr R1 L0 hE hia W hst hwr hfp hex hP hI
  exact compStart_gen (hu' I) (hden' I) (by rw [hc]; exact hg) lp (hself _ _ _ hst lp)

theorem gens_sound {e : Expr} {gens : List Comprehension} {emit : Sem Unit} {env : Env} {ia : Nat} {a : Addr} {B : List AO → (List AO → Prop) → Prop}
    (hu : ∀ d I (A' : Around), A'.under (.compLoop e d (.ref I) (.ref a) env) = A') (hden : ∀ d I t i fs, gens[d]? = some ⟨t, i, fs, 0⟩ → X.M.den (.compLoop e d (.ref I) (.ref a) env) = (turnT e t i fs (restT e gens emit d (.ref a) env) d (.ref I) (.ref a) env).onRaise (fun x => do noteFrame x env; theTreesLotGoes x))
    (hu' : ∀ d I (A' : Around), A'.under (.compStart e d (.ref I) (.ref a) env) = A') (hden' : ∀ d I, X.M.den (.compStart e d (.ref I) (.ref a) env) = (compStart e d (.ref I) (.ref a) env).onRaise (fun x => do noteFrame x env; standAt theWindowsPlace))
    (hc : clausesOf e = gens) (ha : ∀ g ∈ gens, g.is_async = 0) (hs : ∀ g ∈ gens, ∀ env x, foldedSetIterable g.iter env x = pure x) (hem : Sound X n ae ia a env B emit) :
    ∀ (r : List Comprehension) (d : Nat), gens.drop (d + 1) = r → Sound X n ae ia a env (WpGens X n ae B r) (restT e gens emit d (.ref a) env)
  | [], d, hd => by
    have : gens[d + 1]? = none := by
      have h1 : gens.length ≤ d + 1 := by simpa using List.drop_eq_nil_iff.mp hd
      exact List.getElem?_eq_none h1
    intro A ρ T s S K hr hR hE hia hB
    unfold restT; rw [this]
    exact hem A ρ T s S K hr hR hE hia hB
  | ⟨t, i, fs, k0⟩ :: r, d, hd => by
    have hg : gens[d + 1]? = some ⟨t, i, fs, k0⟩ := by
      have := congrArg (fun l : List Comprehension => l[0]?) hd
      simpa using this
    have hd' : gens.drop (d + 1 + 1) = r := by
      have := congrArg (List.drop 1) hd
      simpa [List.drop_drop] using this
    have ih := gens_sound hu hden hu' hden' hc ha hs hem r (d + 1) hd'
    intro A ρ T s S K hr hR hE hia hB
    obtain ⟨rfl, hB⟩ := hB
    unfold restT; rw [hg]
    show wpAny X.M A (nestT e t i d (.ref a) env) _ _ _
    unfold nestT
    have key : wpAny X.M A (eval i env) (fun v s' => wpAny X.M A (pyIter v) (fun it s' => wpAny X.M A (runOwn (.compStart e (d + 1) it (.ref a) env) env >>= fun _ => pure ()) (PostU X S ρ T s fun _ S' => K S') No s') No s') No s := by
      refine hB A ρ T s env (fun it s' => wpAny X.M A (runOwn (.compStart e (d + 1) it (.ref a) env) env >>= fun _ => pure ()) (PostU X S ρ T s fun _ S' => K S') No s') No No hr hR hE fun items k S1 ρ1 T1 s1 hI st I fp wr P Md St h' tk W0 => ?_
      obtain ⟨hk, W, hst, htk, hwr, hfp, hex, hP, hself⟩ := W0
      refine wpAny_bind (wpAny_runOwn ?_)
      have := start_sound (hu (d + 1)) (fun I => hden (d + 1) I _ _ _ hg) (hu' (d + 1)) (hden' (d + 1)) hc hg ha ih hr (st.rep.lo k) (Lp.start (st.rep.lo k) hk hwr (hex 0 h' hst) tk htk) (hE.step st hR) ((st.mv hR).ids _ _ hia) W hst hwr hfp hex hP hself hI
      refine codeAny_mono this fun q s' hq => ?_
      obtain ⟨rfl, S', ρ', T', hq, stq, _⟩ := hq
      exact wpAny_pure ((PostG.un (K := fun _ S' => K S') (k := k) st.rep (PostG.mk (x := ()) stq hq trivial)).trans hR st)
    refine wpAny_bind (wpAny_mono key (fun v s' hv => wpAny_bind (wpAny_standAt ?_)) fun _ _ f => f)
    show wpAny X.M A (foldedSetIterable i env v >>= _) _ _ _
    rw [hs _ (List.mem_of_getElem? hg)]
    refine wpAny_bind (wpAny_pure ?_)
    show wpAny X.M A (holding [v] (pyIter v) >>= _) _ _ _
    exact wpAny_bind (wpAny_holding hv)
end
end Mine
namespace Mine

/-! ## values without tracked parts; dropping -/
mutual
noncomputable def AV.und (m : Nat) : AV → Prop
  | .tup xs => AV.unds m xs
  | .lst xs => AV.unds m xs
  | .dct kvs => AV.undk m kvs
  | .obj i => i < m
  | .hdr i => i < m
  | .inst i => i < m
  | _ => True
noncomputable def AV.unds (m : Nat) : List AV → Prop
  | [] => True
  | x :: xs => x.und m ∧ AV.unds m xs
noncomputable def AV.undk (m : Nat) : List (Str × AV) → Prop
  | [] => True
  | (_, x) :: xs => x.und m ∧ AV.undk m xs
end
noncomputable def AO.und (m : Nat) : AO → Prop
  | .lst xs => AV.unds m xs
  | .dct kvs => AV.undk m kvs
  | .ns vars => ∀ x v, vars.lookup x = some v → v.und m
  | .cell (some v) => v.und m
  | .cell none => True
  | .inst (some v) => v.und m
  | .inst none => True
  | .loan => True

section
variable {X : Cx} {ρ T ρ' T' : List Addr} {h h' : Heap} {m : Nat}
mutual
theorem VR.und : ∀ (x : AV) {v : Value}, VR X ρ T h x v → x.und ρ.length
  | .none, _, _ => by simp [AV.und]
  | .bool _, _, _ => by simp [AV.und]
  | .int _, _, _ => by simp [AV.und]
  | .str _, _, _ => by simp [AV.und]
  | .val _, _, _ => by simp [AV.und]
  | .tup xs, _, q => by
    simp only [VR] at q; simp only [AV.und]
    obtain ⟨a, vs, rfl, ha, ht, hv⟩ := q
    exact VRs.und xs hv
  | .lst xs, _, q => by
    simp only [VR] at q; simp only [AV.und]
    obtain ⟨a, vs, rfl, ha, ht, hv⟩ := q
    exact VRs.und xs hv
  | .dct kvs, _, q => by
    simp only [VR] at q; simp only [AV.und]
    obtain ⟨a, vs, rfl, ha, hy, ht, hv⟩ := q
    exact VRk.und kvs hv
  | .obj i, _, q => by
    simp only [VR] at q; simp only [AV.und]
    obtain ⟨a, rfl, e⟩ := q
    exact (List.getElem?_eq_some_iff.mp e).1
  | .hdr i, _, q => by
    simp only [VR] at q; simp only [AV.und]
    obtain ⟨x, dx, l, rfl, hx, hd, e, _⟩ := q
    exact (List.getElem?_eq_some_iff.mp e).1
  | .inst i, _, q => by
    simp only [VR] at q; simp only [AV.und]
    obtain ⟨x, dx, rfl, hx, e, _⟩ := q
    exact (List.getElem?_eq_some_iff.mp e).1
theorem VRs.und : ∀ (xs : List AV) {vs : List Value}, VRs X ρ T h xs vs → AV.unds ρ.length xs
  | [], _, _ => by simp [AV.unds]
  | x :: xs, _, q => by
    simp only [VRs] at q; simp only [AV.unds]
    obtain ⟨v, r, rfl, h1, h2⟩ := q
    exact ⟨VR.und x h1, VRs.und xs h2⟩
theorem VRk.und : ∀ (xs : List (Str × AV)) {vs : List (Str × Value)}, VRk X ρ T h xs vs → AV.undk ρ.length xs
  | [], _, _ => by simp [AV.undk]
  | (k, x) :: xs, _, q => by
    simp only [VRk] at q; simp only [AV.undk]
    obtain ⟨v, r, rfl, h1, h2⟩ := q
    exact ⟨VR.und x h1, VRk.und xs h2⟩
end

/-- fewer are tracked -/
structure Dr (m : Nat) (ρ T : List Addr) (h : Heap) (ρ' T' : List Addr) (h' : Heap) : Prop where
  keep : ∀ b o, b ∉ T → h.get? b = some o → h'.get? b = some o
  trk : ∀ a ∈ T', a ∈ T
  ids : ∀ (i : Nat) (a : Addr), i < m → ρ[i]? = some a → ρ'[i]? = some a

mutual
theorem VR.dr (d : Dr m ρ T h ρ' T' h') : ∀ (x : AV) {v : Value}, x.und m → VR X ρ T h x v → VR X ρ' T' h' x v
  | .none, _, _, q => by simpa [VR] using q
  | .bool _, _, _, q => by simpa [VR] using q
  | .int _, _, _, q => by simpa [VR] using q
  | .str _, _, _, q => by simpa [VR] using q
  | .val _, _, _, q => by simpa [VR] using q
  | .tup xs, _, b, q => by
    simp only [VR] at q ⊢; simp only [AV.und] at b
    obtain ⟨a, vs, rfl, ha, ⟨o, ho, r⟩, hv⟩ := q
    exact ⟨a, vs, rfl, fun z => ha (d.trk a z), ⟨o, d.keep a o ha ho, r⟩, VRs.dr d xs b hv⟩
  | .lst xs, _, b, q => by
    simp only [VR] at q ⊢; simp only [AV.und] at b
    obtain ⟨a, vs, rfl, ha, ⟨o, ho, r⟩, hv⟩ := q
    exact ⟨a, vs, rfl, fun z => ha (d.trk a z), ⟨o, d.keep a o ha ho, r⟩, VRs.dr d xs b hv⟩
  | .dct kvs, _, b, q => by
    simp only [VR] at q ⊢; simp only [AV.und] at b
    obtain ⟨a, vs, rfl, ha, hy, ⟨o, es, ep, ho, r⟩, hv⟩ := q
    exact ⟨a, vs, rfl, fun z => ha (d.trk a z), hy, ⟨o, es, ep, d.keep a o ha ho, r⟩, VRk.dr d kvs b hv⟩
  | .obj i, _, b, q => by
    simp only [VR] at q ⊢; simp only [AV.und] at b
    obtain ⟨a, rfl, e⟩ := q
    exact ⟨a, rfl, d.ids _ _ b e⟩
  | .hdr i, _, b, q => by
    simp only [VR] at q ⊢; simp only [AV.und] at b
    obtain ⟨x, dx, l, rfl, hx, hd, e, h1, mm, ⟨o, es, ep, h2, r⟩, r2⟩ := q
    exact ⟨x, dx, l, rfl, fun z => hx (d.trk _ z), fun z => hd (d.trk _ z), d.ids _ _ b e, d.keep _ _ hx h1, mm, ⟨o, es, ep, d.keep _ _ hd h2, r⟩, r2⟩
  | .inst i, _, b, q => by
    simp only [VR] at q ⊢; simp only [AV.und] at b
    obtain ⟨x, dx, rfl, hx, e, h1⟩ := q
    exact ⟨x, dx, rfl, fun z => hx (d.trk _ z), d.ids _ _ b e, d.keep _ _ hx h1⟩
theorem VRs.dr (d : Dr m ρ T h ρ' T' h') : ∀ (xs : List AV) {vs : List Value}, AV.unds m xs → VRs X ρ T h xs vs → VRs X ρ' T' h' xs vs
  | [], _, _, q => by simpa [VRs] using q
  | x :: xs, _, b, q => by
    simp only [VRs] at q ⊢; simp only [AV.unds] at b
    obtain ⟨v, r, rfl, h1, h2⟩ := q
    exact ⟨v, r, rfl, VR.dr d x b.1 h1, VRs.dr d xs b.2 h2⟩
theorem VRk.dr (d : Dr m ρ T h ρ' T' h') : ∀ (xs : List (Str × AV)) {vs : List (Str × Value)}, AV.undk m xs → VRk X ρ T h xs vs → VRk X ρ' T' h' xs vs
  | [], _, _, q => by simpa [VRk] using q
  | (k, x) :: xs, _, b, q => by
    simp only [VRk] at q ⊢; simp only [AV.undk] at b
    obtain ⟨v, r, rfl, h1, h2⟩ := q
    exact ⟨v, r, rfl, VR.dr d x b.1 h1, VRk.dr d xs b.2 h2⟩
end

mutual
theorem AV.und_le {m m' : Nat} (hm : m ≤ m') : ∀ {x : AV}, x.und m → x.und m'
  | .none, h => by simp [AV.und]
  | .bool _, h => by simp [AV.und]
  | .int _, h => by simp [AV.und]
  | .str _, h => by simp [AV.und]
  | .val _, h => by simp [AV.und]
  | .tup xs, h => by simp only [AV.und] at h ⊢; exact AV.unds_le hm h
  | .lst xs, h => by simp only [AV.und] at h ⊢; exact AV.unds_le hm h
  | .dct kvs, h => by simp only [AV.und] at h ⊢; exact AV.undk_le hm h
  | .obj i, h => by simp only [AV.und] at h ⊢; omega
  | .hdr i, h => by simp only [AV.und] at h ⊢; omega
  | .inst i, h => by simp only [AV.und] at h ⊢; omega
theorem AV.unds_le {m m' : Nat} (hm : m ≤ m') : ∀ {xs : List AV}, AV.unds m xs → AV.unds m' xs
  | [], _ => by simp [AV.unds]
  | x :: xs, h => by simp only [AV.unds] at h ⊢; exact ⟨AV.und_le hm h.1, AV.unds_le hm h.2⟩
theorem AV.undk_le {m m' : Nat} (hm : m ≤ m') : ∀ {xs : List (Str × AV)}, AV.undk m xs → AV.undk m' xs
  | [], _ => by simp [AV.undk]
  | (_, x) :: xs, h => by simp only [AV.undk] at h ⊢; exact ⟨AV.und_le hm h.1, AV.undk_le hm h.2⟩
end
end

section
variable {X : Cx} {S S' : List AO} {ρ T ρ' T' : List Addr} {s s' : Shared} {h : Heap}

theorem OR.und {a : Addr} : ∀ {ao : AO}, OR X ρ T h a ao → ao.und ρ.length
  | .lst xs, ⟨_, _, q⟩ => VRs.und xs q
  | .dct kvs, ⟨_, _, q⟩ => VRk.und kvs q
  | .ns vars, ⟨_, _, q, _⟩ => fun x v e => let ⟨_, _, b⟩ := q x v e; VR.und v b
  | .cell (some v), ⟨some u, _, q⟩ => VR.und v q
  | .cell (some v), ⟨none, _, q⟩ => q.elim
  | .cell none, _ => trivial
  | .inst none, _ => trivial
  | .inst (some v), ⟨_, _, _, _, _, q⟩ => VR.und v q
  | .loan, _ => trivial
theorem OR.dr {m : Nat} {h' : Heap} (d : Dr m ρ T h ρ' T' h') {a : Addr} (hk : ∀ o, h.get? a = some o → h'.get? a = some o) : ∀ {ao : AO}, ao.und m → OR X ρ T h a ao → OR X ρ' T' h' a ao
  | .lst _, b, ⟨vs, ⟨o, ho⟩, q⟩ => ⟨vs, ⟨o, hk _ ho⟩, VRs.dr d _ b q⟩
  | .dct _, b, ⟨vs, ⟨o, es, ep, ho, r⟩, q⟩ => ⟨vs, ⟨o, es, ep, hk o ho, r⟩, VRk.dr d _ b q⟩
  | .ns _, b, ⟨mm, ⟨o, es, ep, ho, r⟩, q, q'⟩ => ⟨mm, ⟨o, es, ep, hk o ho, r⟩, fun x v e => let ⟨u, c, z⟩ := q x v e; ⟨u, c, VR.dr d _ (b x v e) z⟩, q'⟩
  | .cell (some v), b, ⟨some u, ⟨o, ho, r⟩, q⟩ => ⟨some u, ⟨o, hk o ho, r⟩, VR.dr d _ b q⟩
  | .cell (some v), b, ⟨none, _, q⟩ => q.elim
  | .cell none, b, ⟨some _, _, q⟩ => q.elim
  | .cell none, b, ⟨none, ⟨o, ho, r⟩, q⟩ => ⟨none, ⟨o, hk o ho, r⟩, trivial⟩
  | .inst none, _, q => hk _ q
  | .inst (some v), b, ⟨hs, t, n, u, q, r⟩ => ⟨hs, t, n, u, hk _ q, VR.dr d v b r⟩
  | .loan, _, _ => trivial

theorem Rep.und (R : Rep X S ρ T s) : ∀ (i : Nat) (ao : AO), S[i]? = some ao → ao.und S.length := fun i ao e => by
  have hi : i < ρ.length := by rw [R.len]; exact (List.getElem?_eq_some_iff.mp e).1
  have := OR.und (R.obj i ao _ e (List.getElem?_eq_getElem hi))
  rwa [R.len] at this

/-- what was made behind S is let go; the first part is S again -/
theorem Step.back (R : Rep X S ρ T s) (st : Step X S ρ T s S' ρ' T' s') (hS : ∀ (i : Nat) (ao : AO), S[i]? = some ao → S'[i]? = some ao)
    (hk : ∀ b o, (∀ j : Nat, S.length ≤ j → ρ'[j]? ≠ some b) → s'.heap.get? b = some o → h.get? b = some o) (n : Nat) (hn : s'.toks ≤ n) :
    Step X S ρ T s S ρ T { s' with heap := h, toks := n } ∧ Dr S.length ρ' T' s'.heap ρ T h := by
  obtain ⟨mm, e1, e2, hm⟩ := st.more
  have hnm : ∀ b, b ∉ mm → ∀ j : Nat, S.length ≤ j → ρ'[j]? ≠ some b := fun b hb j hj e => by
    rw [e1, List.getElem?_append_right (by rw [R.len]; exact hj)] at e
    exact hb (List.mem_of_getElem? e)
  have hTm : ∀ a ∈ T, a ∉ mm := fun a ha q => by obtain ⟨o, e⟩ := R.low a ha; rw [hm a q] at e; cases e
  have d : Dr S.length ρ' T' s'.heap ρ T h := ⟨fun b o hb e => hk b o (hnm b fun q => hb (by rw [e2]; exact List.mem_append_right _ q)) e, fun a ha => by rw [e2]; exact List.mem_append_left _ ha, fun i a hi e => by
    rw [e1, List.getElem?_append_left (by rw [R.len]; exact hi)] at e; exact e⟩
  refine ⟨⟨?_, ⟨[], by simp, by simp, fun _ h => nomatch h⟩, fun b o hb e => hk b o (hnm b fun q => by rw [hm b q] at e; cases e) (st.keep b o hb e), fun _ e => e⟩, d⟩
  exact {
    keep := fun b o e => hk b o (hnm b fun q => by have := R.keep b o e; rw [hm b q] at this; cases this) (st.rep.keep b o e)
    len := R.len
    obj := fun i ao a f1 f2 => by
      have hi : i < S.length := (List.getElem?_eq_some_iff.mp f1).1
      have f2' : ρ'[i]? = some a := (st.mv R).ids _ _ f2
      refine (st.rep.obj i ao a (hS i ao f1) f2').dr d (fun o e => hk a o (hnm a (hTm a (R.sub a (List.mem_of_getElem? f2)))) e) (R.und i ao f1)
    nodup := R.nodup
    nosys := R.nosys
    sub := R.sub
    new := R.new
    low := fun a ha => by
      obtain ⟨o, e⟩ := st.rep.low a (by rw [e2]; exact List.mem_append_left _ ha)
      exact ⟨o, hk a o (hnm a (hTm a ha)) e⟩
    rest := st.rep.rest
    toks := Nat.le_trans st.rep.toks hn }

/-! ## cells of a new frame -/
noncomputable def cellAOs : List (Str × NameKind) → List AO
  | [] => []
  | (_, k) :: r => if (k == .cell) = true then .cell none :: cellAOs r else cellAOs r

theorem cells_step : ∀ (names : List (Str × NameKind)) {S : List AO} {ρ T : List Addr} {s : Shared} (R : Rep X S ρ T s) (acc : List (Str × Nat)) (cacc : List (Str × Addr)),
    (∀ (x : Str) (i : Nat), acc.lookup x = some i → ∃ c, cacc.lookup x = some c ∧ ρ[i]? = some c) →
    ∃ ρ' T', Step X S ρ T s (S ++ cellAOs names) ρ' T' { s with heap := pushCells s.heap names } ∧
      ∀ (x : Str) (i : Nat), (cellsFrom S.length names acc).lookup x = some i → ∃ c, (cellsFrom s.heap.objs.size names cacc).lookup x = some c ∧ ρ'[i]? = some c
  | [], S, ρ, T, s, R, acc, cacc, h => ⟨ρ, T, by simpa [cellAOs, pushCells] using Step.refl R, by simpa [cellsFrom] using h⟩
  | (x, k) :: r, S, ρ, T, s, R, acc, cacc, h => by
    unfold cellAOs pushCells cellsFrom
    by_cases hk : (k == .cell) = true
    · simp only [hk, if_true]
      have hnew : s.heap.get? s.heap.objs.size = none := by
        cases e : s.heap.get? s.heap.objs.size with
        | none => rfl
        | some o => exact absurd (Heap.lt_size e) (Nat.lt_irrefl _)
      have hput : (s.heap.push { cls := .type "cell", data := .cell none }).get? s.heap.objs.size = some { cls := .type "cell", data := .cell none } := Heap.get?_push_size _ rfl
      have st : Step X S ρ T s (S ++ [.cell none]) (ρ ++ [s.heap.objs.size]) (T ++ [s.heap.objs.size]) { s with heap := s.heap.push { cls := .type "cell", data := .cell none }, toks := s.toks } :=
        Step.new (ao := .cell none) R (fun b o e => Heap.get?_push_of_some _ e) hnew (R.nosysOf (Nat.le_refl _)) ⟨_, hput⟩ ⟨none, ⟨_, hput, rfl⟩, trivial⟩ s.toks
      obtain ⟨ρ', T', st', hc⟩ := cells_step r st.rep ((x, S.length) :: acc) ((x, s.heap.objs.size) :: cacc) (fun y i e => by
        rw [List.lookup_cons] at e
        cases hy : y == x with
        | true =>
          rw [hy] at e; cases e
          exact ⟨s.heap.objs.size, by rw [List.lookup_cons, hy], by rw [← R.len]; simp⟩
        | false =>
          rw [hy] at e
          obtain ⟨c, c1, c2⟩ := h y i e
          exact ⟨c, by rw [List.lookup_cons, hy]; exact c1, by rw [List.getElem?_append_left (List.getElem?_eq_some_iff.mp c2).1]; exact c2⟩)
      refine ⟨ρ', T', ?_, ?_⟩
      · have := st.trans R st'
        simpa using this
      · simpa using hc
    · simp only [hk]
      obtain ⟨ρ', T', st', hc⟩ := cells_step r R acc cacc h
      exact ⟨ρ', T', by simpa using st', by simpa using hc⟩
end

section
variable {M : Model} {A : Around} {E : Value → Shared → Prop} {s : Shared} {env : Env}
theorem newEnv_comp {scope : Scope} {cl : List (Str × Addr)} {Q : Env → Shared → Prop}
    (h : Q { scope := scope, locals := s.heap.objs.size, globals := env.globals, cells := cellsFrom (s.heap.objs.size + 1) scope.names cl, qual := env.qual, func := none, code := env.code, frame := env.frame, builtins := env.builtins }
      { s with heap := pushCells (s.heap.push { cls := .type "dict", data := .dict #[] }) scope.names }) :
    wpAny M A (newFunctionEnv scope env.globals cl [] env.qual none .none (some env)) Q E s := by
  simp only [newFunctionEnv, Option.isSome_some, if_true]
  refine wpAny_bind (wpAny_alloc ?_)
  refine wpAny_bind (wpAny_layCells _ (fun name kind cells => by cases hkc : kind == NameKind.cell <;> simp [hkc]) _ _ _ _ ?_)
  rw [show ({ s with heap := s.heap.push { cls := .type "dict", data := .dict #[] } } : Shared).heap.objs.size = s.heap.objs.size + 1 from Heap.size_push ..]
  refine wpAny_bind ?_
  rw [List.forIn_nil]
  exact wpAny_pure (wpAny_pure h)

noncomputable def closA (cs : List (Str × Nat)) : List (Str × NameKind) → List (Str × Nat) → List (Str × Nat)
  | [], acc => acc
  | (x, k) :: r, acc => if (k == .free) = true then (match cs.lookup x with | some i => closA cs r ((x, i) :: acc) | none => closA cs r acc) else closA cs r acc
noncomputable def closV (cs : List (Str × Addr)) : List (Str × NameKind) → List (Str × Addr) → List (Str × Addr)
  | [], acc => acc
  | (x, k) :: r, acc => if (k == .free) = true then (match cs.lookup x with | some i => closV cs r ((x, i) :: acc) | none => closV cs r acc) else closV cs r acc

theorem closureFor_eq {scope : Scope} (hall : ∀ x ∈ scope.names, x.2 = .free → (env.cells.lookup x.1).isSome = true) : closureFor scope env = pure (closV env.cells scope.names []) := by
  simp only [closureFor]
  have key : ∀ (names : List (Str × NameKind)) (acc : List (Str × Addr)), (∀ x ∈ names, x.2 = .free → (env.cells.lookup x.1).isSome = true) →
      (forIn names acc (fun (x : Str × NameKind) (r : List (Str × Addr)) => (if (x.2 == .free) = true then do let a ← cellOf env x.1; pure (ForInStep.yield ((x.1, a) :: r)) else pure (ForInStep.yield r) : Sem (ForInStep (List (Str × Addr)))))) = pure (closV env.cells names acc) := by
    intro names
    induction names with
    | nil => intro acc _; rw [List.forIn_nil]; rfl
    | cons x r ih =>
      intro acc hh
      obtain ⟨n, k⟩ := x
      rw [List.forIn_cons]
      by_cases hk : (k == .free) = true
      · simp only [hk, if_true]
        obtain ⟨c, hc⟩ := Option.isSome_iff_exists.mp (hh (n, k) (.head _) (by simpa using hk))
        have hcell : cellOf env n = pure c := by unfold cellOf; rw [show env.cells.lookup n = some c from hc]
        simp only [hcell, pure_bind]
        rw [ih _ fun y hy => hh y (.tail _ hy)]
        simp only [closV, hk, if_true]
        rw [show env.cells.lookup n = some c from hc]
      · simp only [hk]
        simp only [Bool.false_eq_true, if_false, pure_bind]
        rw [ih _ fun y hy => hh y (.tail _ hy)]
        simp only [closV, hk]
        rfl
  have h2 := key scope.names [] hall
  show (forIn scope.names [] _ >>= pure) = _
  rw [bind_pure]
  exact h2

theorem clos_rel {ρ : List Addr} {cs : List (Str × Nat)} {cv : List (Str × Addr)} (hc : ∀ (x : Str) (i : Nat), cs.lookup x = some i → ∃ c, cv.lookup x = some c ∧ ρ[i]? = some c) :
    ∀ (names : List (Str × NameKind)) (acc : List (Str × Nat)) (cacc : List (Str × Addr)), (∀ x ∈ names, x.2 = .free → (cs.lookup x.1).isSome = true) →
      (∀ (x : Str) (i : Nat), acc.lookup x = some i → ∃ c, cacc.lookup x = some c ∧ ρ[i]? = some c) →
      ∀ (x : Str) (i : Nat), (closA cs names acc).lookup x = some i → ∃ c, (closV cv names cacc).lookup x = some c ∧ ρ[i]? = some c
  | [], acc, cacc, _, h => h
  | (n, k) :: r, acc, cacc, hall, h => by
    unfold closA closV
    by_cases hk : (k == .free) = true
    · simp only [hk, if_true]
      obtain ⟨i, hi⟩ := Option.isSome_iff_exists.mp (hall (n, k) (.head _) (by simpa using hk))
      obtain ⟨c, h1, h2⟩ := hc n i hi
      rw [show cs.lookup n = some i from hi, h1]
      refine clos_rel hc r _ _ (fun y hy => hall y (.tail _ hy)) fun y j e => ?_
      rw [List.lookup_cons] at e
      cases hy : y == n with
      | true => rw [hy] at e; cases e; exact ⟨c, by rw [List.lookup_cons, hy], h2⟩
      | false => rw [hy] at e; obtain ⟨c', a1, a2⟩ := h y j e; exact ⟨c', by rw [List.lookup_cons, hy]; exact a1, a2⟩
    · simp only [hk]
      exact clos_rel hc r _ _ (fun y hy => hall y (.tail _ hy)) h
end
end Mine
namespace Mine

/-- the frame of a comprehension that is made when m objects are tracked -/
noncomputable def cEnv (ae : AEnv) (sc : Scope) (m : Nat) : AEnv := ⟨relabel sc (dumb ae.scope), m + 1, cellsFrom (m + 2) sc.names (closA ae.cells sc.names [])⟩

noncomputable def accTree : Expr → Sem Value
  | .DictComp .. => newDict
  | _ => newList []
noncomputable def accAO : Expr → AO
  | .DictComp .. => .dct []
  | _ => .lst []
noncomputable def emitT (e : Expr) (acc : Value) (env : Env) : Sem Unit := match e with
  | .ListComp elt _ _ _ => emitL elt acc env
  | .DictComp k v _ _ _ => match acc with
    | .ref a => emitD k v a env
    | _ => pure ()
  | _ => pure ()
noncomputable def emitW (X : Cx) (n : Nat) (ae : AEnv) (ia : Nat) (e : Expr) (S : List AO) (K : List AO → Prop) : Prop := match e with
  | .ListComp elt _ _ _ => WpE X n ae S elt fun v S1 => ∃ xs, S1[ia]? = some (.lst xs) ∧ xs.length ≤ sizeLine ∧ K (S1.set ia (.lst (xs ++ [v])))
  | .DictComp k v _ _ _ => WpE X n ae S k fun kv S1 => WpE X n ae S1 v fun vv S2 => ∃ kvs x, S2[ia]? = some (.dct kvs) ∧ kv = .str x ∧ kvs.length ≤ sizeLine ∧ K (S2.set ia (.dct (put x vv kvs)))
  | _ => False
inductive IsComp : Expr → List Comprehension → Scope → Pos → Prop
  | list (elt : Expr) (gens : List Comprehension) (sc : Scope) (pos : Pos) : IsComp (.ListComp elt gens sc pos) gens sc pos
  | dict (k v : Expr) (gens : List Comprehension) (sc : Scope) (pos : Pos) : IsComp (.DictComp k v gens sc pos) gens sc pos

section
variable {X : Cx} {n : Nat} {ae : AEnv} {S S' : List AO}

theorem newAddr (h : Heap) : h.get? h.objs.size = none := by
  cases e : h.get? h.objs.size with
  | none => rfl
  | some o => exact absurd (Heap.lt_size e) (Nat.lt_irrefl _)

theorem IsComp.clauses {e : Expr} {gens : List Comprehension} {sc : Scope} {pos : Pos} (c : IsComp e gens sc pos) : clausesOf e = gens := by cases c <;> rfl
theorem IsComp.eval {e : Expr} {gens : List Comprehension} {sc : Scope} {pos : Pos} (c : IsComp e gens sc pos) (env : Env) : eval e env = comprehension e sc env (firstIterPos gens pos) (accTree e) (firstAsync gens) (firstIter gens env) := by cases c <;> rfl
theorem IsComp.used {e : Expr} {gens : List Comprehension} {sc : Scope} {pos : Pos} (c : IsComp e gens sc pos) (env : Env) (u : Value → Sem Unit) : evalThenUse e env u = (do let _ ← comprehension e sc env (firstIterPos gens pos) (accTree e) (firstAsync gens) (firstIter gens env) (some u)) := by cases c <;> rfl
theorem IsComp.u1 {e : Expr} {gens : List Comprehension} {sc : Scope} {pos : Pos} (c : IsComp e gens sc pos) (d : Nat) (it acc : Value) (env : Env) (A' : Around) : A'.under (.compLoop e d it acc env) = A' := by cases c <;> exact Around.under_of_weight rfl
theorem IsComp.u2 {e : Expr} {gens : List Comprehension} {sc : Scope} {pos : Pos} (c : IsComp e gens sc pos) (d : Nat) (it acc : Value) (env : Env) (A' : Around) : A'.under (.compStart e d it acc env) = A' := by cases c <;> exact Around.under_of_weight rfl
theorem IsComp.d1 {e : Expr} {gens : List Comprehension} {sc : Scope} {pos : Pos} (c : IsComp e gens sc pos) (ha : ∀ g ∈ gens, g.is_async = 0) (d : Nat) (it : Value) (a : Addr) (env : Env) {t i : Expr} {fs : List Expr} (hg : gens[d]? = some ⟨t, i, fs, 0⟩) :
    X.M.den (.compLoop e d it (.ref a) env) = (turnT e t i fs (restT e gens (emitT e (.ref a) env) d (.ref a) env) d it (.ref a) env).onRaise (fun x => do noteFrame x env; theTreesLotGoes x) := by
  cases c
  · exact congrArg (fun t : Sem PySem.Fin => t.onRaise (fun x => do noteFrame x env; theTreesLotGoes x)) (turn_list (d := d) (it := it) (acc := .ref a) (env := env) hg ha)
  · exact congrArg (fun t : Sem PySem.Fin => t.onRaise (fun x => do noteFrame x env; theTreesLotGoes x)) (turn_dict (d := d) (it := it) (a := a) (env := env) hg ha)
theorem IsComp.d2 {e : Expr} {gens : List Comprehension} {sc : Scope} {pos : Pos} (c : IsComp e gens sc pos) (d : Nat) (it acc : Value) (env : Env) : X.M.den (.compStart e d it acc env) = (compStart e d it acc env).onRaise (fun x => do noteFrame x env; standAt theWindowsPlace) := by cases c <;> rfl

theorem VRk.lookup_put {ρ T : List Addr} {h : Heap} {x : Str} {v : AV} {u : Value} (hv : VR X ρ T h v u) : ∀ {kvs : List (Str × AV)} {vs : List (Str × Value)}, VRk X ρ T h kvs vs → (vs.map (·.1)).Nodup → VRk X ρ T h (put x v kvs) (stored vs x u)
  | [], vs, q, _ => by
    have : vs = [] := by simpa [VRk] using q
    subst this
    simp only [put, stored, List.any_nil, Bool.false_eq_true, if_false, List.nil_append, VRk]
    exact ⟨u, [], rfl, hv, rfl⟩
  | (y, w) :: r, vs, q, hn => by
    simp only [VRk] at q
    obtain ⟨z, vs', rfl, h1, h2⟩ := q
    have hn' := List.nodup_cons.mp hn
    by_cases hx : x = y
    · subst hx
      unfold put
      rw [if_pos rfl]
      have : stored ((x, z) :: vs') x u = (x, u) :: vs' := by
        unfold stored
        rw [if_pos (by simp), List.map_cons, if_pos rfl]
        rw [map_store_of_not_mem vs' x u hn'.1]
      rw [this]
      simp only [VRk]
      exact ⟨u, vs', rfl, hv, h2⟩
    · unfold put
      rw [if_neg hx]
      have ih := VRk.lookup_put (x := x) hv h2 hn'.2
      have : stored ((y, z) :: vs') x u = (y, z) :: stored vs' x u := by
        unfold stored
        have hyx : ¬ y = x := fun e => hx e.symm
        simp only [List.any_cons, hyx, decide_false, Bool.false_or, List.map_cons, if_false]
        split <;> rfl
      rw [this]
      simp only [VRk]
      exact ⟨z, _, rfl, h1, ih⟩

theorem putOR {ρ T : List Addr} {d : Addr} {h' : Heap} {x : Str} {v : AV} {u : Value} {kvs : List (Str × AV)} {vs : List (Str × Value)} (hv : VR X ρ T h' v u) (hq : VRk X ρ T h' kvs vs) (hd : h'.DictOf (strKind X.prog X.w) d (stored vs x u)) (hn : (vs.map (·.1)).Nodup) :
    OR X ρ T h' d (.dct (put x v kvs)) := ⟨_, hd, VRk.lookup_put hv hq hn⟩

theorem Rep.mvSelf {ρ T : List Addr} {s : Shared} {a : Addr} {h' : Heap} (hR : Rep X S ρ T s) (ha : a ∈ ρ) (hs : Heap.ExtBut a s.heap h') : Mv ρ T s.heap ρ T h' :=
  ⟨fun b o hb e => hs b o (fun q => hb (q ▸ hR.sub a ha)) e, fun a ha => .inl ha, fun _ _ e => e⟩

theorem emit_sound {e : Expr} {gens : List Comprehension} {sc : Scope} {pos : Pos} (c : IsComp e gens sc pos) (ia : Nat) (a : Addr) (env : Env) : Sound X n ae ia a env (emitW X n ae ia e) (emitT e (.ref a) env) := by
  intro A ρ T s S K hr hR hE hia hB
  cases c with
  | list elt =>
    show wpAny X.M A (emitL elt (.ref a) env) _ _ _
    unfold emitL
    refine wpAny_bind (chain (hB A ρ T s env hr hR hE) fun v S1 ρ1 T1 u s1 hK st hv => ?_)
    obtain ⟨xs, hS, hl, hK⟩ := hK
    have ha1 : ρ1[ia]? = some a := (st.mv hR).ids _ _ hia
    obtain ⟨vs, hi, hq⟩ := st.rep.obj _ _ _ hS ha1
    refine wpAny_bind (wpAny_list_append_plain hi (fun h' hl' hs => ?_) (by rw [List.size_toArray, hq.length]; exact hl))
    have mv := st.rep.mvSelf (List.mem_of_getElem? ha1) hs.extBut
    refine wpAny_pure (PostG.mk (x := ()) (st.trans hR (.upd st.rep hS ha1 (by intro q; cases q) (by intro q; cases q) hs.extBut (ao' := .lst (xs ++ [v])) ⟨vs ++ [u], by simpa using hl', VRs.app (VRs.mv mv _ hq) (VRs.one (VR.mv mv _ hv))⟩ (let ⟨_, ho⟩ := hl'; ⟨_, ho⟩) s1.toks)) hK trivial)
  | dict k v =>
    show wpAny X.M A (emitD k v a env) _ _ _
    unfold emitD
    refine wpAny_bind (chain (hB A ρ T s env hr hR hE) fun kv S1 ρ1 T1 ku s1 hK st hkv => ?_)
    refine wpAny_bind (wpAny_holding (chain (hK A ρ1 T1 s1 env hr st.rep (hE.step st hR)) fun vv S2 ρ2 T2 vu s2 hK2 st2 hvv => ?_))
    obtain ⟨kvs, x, hS, rfl, hl, hK2⟩ := hK2
    obtain ⟨hx, t, rfl⟩ := VR_str.mp hkv
    have ha2 : ρ2[ia]? = some a := (st2.mv st.rep).ids _ _ ((st.mv hR).ids _ _ hia)
    obtain ⟨vs, hd, hq⟩ := st2.rep.obj _ _ _ hS ha2
    have hn : (vs.map (·.1)).Nodup := let ⟨_, _, _, _, _, _, _, _, hn⟩ := hd; hn
    have hlen : vs.length = kvs.length := by
      clear hd hn hK2 hS
      induction kvs generalizing vs with
      | nil => simp only [VRk] at hq; subst hq; rfl
      | cons p r ih =>
        obtain ⟨k, y⟩ := p
        simp only [VRk] at hq
        obtain ⟨v, r', rfl, _, h2⟩ := hq
        simp [ih (by simp only [List.length_cons] at hl; omega) _ h2]
    refine wpAny_bind (wpAny_standAt (wpAny_holding (wpAny_dictSet_pairs (k := x) (strKind_is X.prog X.w x t) hd (fun h' hd' hs => ?_) (by rw [hlen]; exact hl))))
    have mv := st2.rep.mvSelf (List.mem_of_getElem? ha2) hs.extBut
    exact PostG.mk (x := ()) ((st.trans hR st2).trans hR (.upd st2.rep hS ha2 (by intro q; cases q) (by intro q; cases q) hs.extBut (ao' := .dct (put x vv kvs)) (putOR (VR.mv mv _ hvv) (VRk.mv mv _ hq) hd' hn) (let ⟨o, _, _, ho, _⟩ := hd'; ⟨o, ho⟩) _)) hK2 trivial

/-- what a comprehension does, behind its first iterable -/
noncomputable def CompOk (X : Cx) (n : Nat) (ae : AEnv) (e : Expr) (t : Expr) (fs : List Expr) (r : List Comprehension) (sc : Scope) (items : List AV) (k : Option Nat) (S1 : List AO) (K : Option Nat → List AO → Prop) : Prop :=
  WpItems (WpIn X n (cEnv ae sc S1.length) t fs (WpGens X n (cEnv ae sc S1.length) (emitW X n (cEnv ae sc S1.length) S1.length e) r)) items
    (lo S1 k ++ ([accAO e] ++ ([.ns []] ++ cellAOs sc.names))) (K k)

theorem accTree_ok {e : Expr} {gens : List Comprehension} {sc : Scope} {pos : Pos} (c : IsComp e gens sc pos) {M : Model} {A : Around} {E : Value → Shared → Prop} {s : Shared} {Q : Value → Shared → Prop}
    (h : ∀ o, o.isFreed = false → (∀ (X : Cx) ρ T h', h'.get? s.heap.objs.size = some o → OR X ρ T h' s.heap.objs.size (accAO e)) → Q (.ref s.heap.objs.size) { s with heap := s.heap.push o }) : wpAny M A (accTree e) Q E s := by
  cases c with
  | list elt => exact wpAny_newObj_type (h _ rfl fun X ρ T h' e => ⟨[], ⟨_, e⟩, by simp⟩)
  | dict k v =>
    show wpAny M A (newObj (.type "dict") (.dict #[])) Q E s
    refine wpAny_newObj_type (h _ rfl fun X ρ T h' e => ⟨[], ?_, by simp [VRk]⟩)
    exact ⟨_, #[], 0, e, ⟨rfl, rfl, rfl⟩, rfl, fun _ he => by simp at he, .nil, by simp⟩

theorem comp_core {e t i : Expr} {fs : List Expr} {r : List Comprehension} {sc : Scope} {pos : Pos} (c : IsComp e (⟨t, i, fs, 0⟩ :: r) sc pos) (hsk : sc.kind = .function)
    (ha : ∀ g ∈ (⟨t, i, fs, 0⟩ :: r : List Comprehension), g.is_async = 0) (hsi : ∀ g ∈ (⟨t, i, fs, 0⟩ :: r : List Comprehension), ∀ env x, foldedSetIterable g.iter env x = pure x)
    (hfree : ∀ x ∈ sc.names, x.2 = .free → (ae.cells.lookup x.1).isSome = true)
    {A : Around} {E : Value → Shared → Prop} {S1 : List AO} {ρ1 T1 : List Addr} {s1 : Shared} {env : Env} {items : List AV} {k : Option Nat} {K : Option Nat → List AO → Prop} (hr : Room n A) (R1 : Rep X S1 ρ1 T1 s1) (hE : EnvOk ae ρ1 env)
    {I : Addr} {fp wr : List Addr} {P Md : Nat → Value → Heap → Prop} {St : Nat → Heap → Prop} {h' : Heap} {tk : Nat} (W0 : SrcAt X A S1 k ρ1 T1 s1 t items I fp wr P Md St h' tk)
    (h : CompOk X n ae e t fs r sc items k S1 K) {R : Value → Addr → Result → Shared → Prop}
    (hR : ∀ a C s' S' ρ' T', K k S' → Step X (lo S1 k) ρ1 T1 s1 S' ρ' T' s' → ρ'[S1.length]? = some a → ρ'[S1.length + 1]? = some C → R (.ref a) C (.ok .next) s') :
    wpAny X.M A (accTree e) (fun acc s₃ => wpAny X.M A (newFunctionEnv sc env.globals (closV env.cells sc.names []) [] env.qual none .none (some env)) (fun cenv s₄ =>
      codeAny X.M A (.compStart e 0 (.ref I) acc { cenv with scope := relabel sc env }) (R acc cenv.locals) s₄) E s₃) E { s1 with heap := h', toks := tk } := by
  have hI := h
  unfold CompOk at hI
  obtain ⟨hk, W, hst, htk, hwr, hfp, hex, hP, hself⟩ := W0
  have RL := R1.lo k
  have L2 : Lp X (lo S1 k) ρ1 T1 wr s1 (lo S1 k) ρ1 (T1 ++ wr) { s1 with heap := h', toks := tk } := Lp.start RL hk hwr (hex 0 h' hst) tk htk
  have hlen : (lo S1 k).length = S1.length := by cases k <;> simp [lo]
  refine accTree_ok c fun o hof hO => ?_
  refine newEnv_comp ?_
  -- the accumulator
  have p1 : (h'.push o).get? h'.objs.size = some o := Heap.get?_push_size _ hof
  have st1 : Step X (lo S1 k) ρ1 (T1 ++ wr) { s1 with heap := h', toks := tk } (lo S1 k ++ [accAO e]) (ρ1 ++ [h'.objs.size]) ((T1 ++ wr) ++ [h'.objs.size]) { s1 with heap := h'.push o, toks := tk } :=
    Step.new L2.rep (fun b o e => Heap.get?_push_of_some _ e) (newAddr h') (L2.rep.nosysOf (Nat.le_refl _)) ⟨_, p1⟩ (hO X _ _ _ p1) tk
  -- the frame
  have p2 := Heap.Ns.new (h'.push o) (.type "dict")
  have st2 : Step X (lo S1 k ++ [accAO e]) (ρ1 ++ [h'.objs.size]) ((T1 ++ wr) ++ [h'.objs.size]) { s1 with heap := h'.push o, toks := tk } ((lo S1 k ++ [accAO e]) ++ [.ns []]) ((ρ1 ++ [h'.objs.size]) ++ [(h'.push o).objs.size]) (((T1 ++ wr) ++ [h'.objs.size]) ++ [(h'.push o).objs.size]) { s1 with heap := (h'.push o).push { cls := .type "dict", data := .dict #[] }, toks := tk } :=
    Step.new (ao := .ns []) st1.rep (fun b o e => Heap.get?_push_of_some _ e) (newAddr (h'.push o)) (st1.rep.nosysOf (Nat.le_refl _)) ⟨_, Heap.get?_push_size _ rfl⟩ ⟨_, p2, fun x v e => by simp at e, fun _ _ => rfl⟩ tk
  have st12 := st1.trans L2.rep st2
  -- the cells
  have hcl := clos_rel (ρ := ρ1) (cs := ae.cells) (cv := env.cells) hE.cells sc.names [] [] hfree (fun x i e => by simp at e)
  obtain ⟨ρ3, T3, st3, hc3⟩ := cells_step sc.names st2.rep (closA ae.cells sc.names []) (closV env.cells sc.names []) (fun x i e => by
    obtain ⟨c, a, b⟩ := hcl x i e
    exact ⟨c, a, (st12.mv L2.rep).ids _ _ b⟩)
  have st13 := st12.trans L2.rep st3
  have L3 := L2.step RL st13
  have e1 : ((ρ1 ++ [h'.objs.size]) ++ [(h'.push o).objs.size])[S1.length]? = some h'.objs.size := by
    have : S1.length = ρ1.length := R1.len.symm
    rw [this]; simp
  have e2 : ((ρ1 ++ [h'.objs.size]) ++ [(h'.push o).objs.size])[S1.length + 1]? = some (h'.push o).objs.size := by
    have : S1.length + 1 = (ρ1 ++ [h'.objs.size]).length := by simp [R1.len]
    rw [this, List.getElem?_append_right (Nat.le_refl _)]; simp
  have ids3 := (st3.mv st2.rep).ids
  have i1 := ids3 _ _ e1
  have i2 := ids3 _ _ e2
  have hcE : EnvOk (cEnv ae sc S1.length) ρ3 { scope := relabel sc env, locals := (h'.push o).objs.size, globals := env.globals, cells := cellsFrom ((h'.push o).objs.size + 1) sc.names (closV env.cells sc.names []), qual := env.qual, func := none, code := env.code, frame := env.frame, builtins := env.builtins } := {
    scope := by show relabel sc (dumb env.scope) = relabel sc (dumb ae.scope); rw [hE.scope]
    fn := hsk
    loc := i2
    glob := hE.glob
    bui := hE.bui
    cells := fun y j ej => by
      have hl : (lo S1 k ++ [accAO e] ++ [AO.ns []]).length = S1.length + 2 := by simp [hlen]
      have e' : (cellsFrom (lo S1 k ++ [accAO e] ++ [AO.ns []]).length sc.names (closA ae.cells sc.names [])).lookup y = some j := by rw [hl]; exact ej
      obtain ⟨c, a, b⟩ := hc3 y j e'
      refine ⟨c, ?_, b⟩
      rw [Heap.size_push] at a
      exact a }
  have hI' : WpItems (WpIn X n (cEnv ae sc S1.length) t fs (WpGens X n (cEnv ae sc S1.length) (emitW X n (cEnv ae sc S1.length) S1.length e) r)) items (((lo S1 k ++ [accAO e]) ++ [.ns []]) ++ cellAOs sc.names) (K k) := by
    simpa [List.append_assoc] using hI
  have hg := fun cv : Env => gens_sound (X := X) (n := n) (ae := cEnv ae sc S1.length) (env := cv) (ia := S1.length) (a := h'.objs.size) (fun d I A' => c.u1 d _ _ cv A') (fun d I t i fs hg => c.d1 ha d (.ref I) h'.objs.size cv hg) (fun d I A' => c.u2 d _ _ cv A') (fun d I => c.d2 d (.ref I) (.ref h'.objs.size) cv) c.clauses ha hsi (emit_sound (ae := cEnv ae sc S1.length) c S1.length h'.objs.size cv) r 0 rfl
  have key := start_sound (fun I A' => c.u1 0 _ _ _ A') (fun I => c.d1 ha 0 (.ref I) h'.objs.size _ rfl) (fun I A' => c.u2 0 _ _ _ A') (fun I => c.d2 0 (.ref I) (.ref h'.objs.size) _) c.clauses rfl ha (hg _) hr RL L3 hcE i1 W
    (W.frame _ _ _ hst fun b _ o e => pushCells_keeps _ _ b o (Heap.get?_push_of_some _ (Heap.get?_push_of_some _ e))) hwr hfp hex hP hself hI'
  refine codeAny_mono key fun q s' hq => ?_
  obtain ⟨rfl, S', ρ', T', hq, stq, hpre⟩ := hq
  exact hR _ _ _ S' ρ' T' hq stq (hpre _ _ i1) (hpre _ _ i2)
end
end Mine
namespace Mine

theorem lo_length (S : List AO) (k : Option Nat) : (lo S k).length = S.length := by cases k <;> simp [lo]
theorem un_lo_app (S r : List AO) (k : Option Nat) : un S (lo S k ++ r) k = S ++ r := by
  cases k with
  | none => rfl
  | some k =>
    cases h : S[k]? with
    | none =>
      simp only [un, h, lo]
      rw [List.set_eq_of_length_le (List.getElem?_eq_none_iff.mp h)]
    | some ao =>
      have hk : k < S.length := (List.getElem?_eq_some_iff.mp h).1
      simp only [un, h, lo]
      rw [List.set_append_left _ _ (by simpa using hk), List.set_set]
      congr 1
      have := (List.getElem?_eq_some_iff.mp h).2
      rw [← this]; exact List.set_getElem_self hk

section
variable {X : Cx} {S S' : List AO} {ρ T ρ' T' : List Addr} {s s' : Shared} {h : Heap}

/-- what was made behind S is let go, but for C -/
theorem Step.backLp (R : Rep X S ρ T s) (st : Step X S ρ T s S' ρ' T' s') (hS : ∀ (i : Nat) (ao : AO), S[i]? = some ao → S'[i]? = some ao) {C : Addr} (hC : ∃ j : Nat, S.length ≤ j ∧ ρ'[j]? = some C) :
    Lp X S ρ T [C] s S ρ (T ++ [C]) s' ∧ Dr S.length ρ' T' s'.heap ρ (T ++ [C]) s'.heap := by
  obtain ⟨mm, e1, e2, hm⟩ := st.more
  obtain ⟨j, hj, ej⟩ := hC
  have hCm : C ∈ mm := by
    rw [e1, List.getElem?_append_right (by rw [R.len]; exact hj)] at ej
    exact List.mem_of_getElem? ej
  obtain ⟨st0, d0⟩ := st.back R hS (h := s'.heap) (fun _ _ _ e => e) s'.toks (Nat.le_refl _)
  have trk : ∀ a ∈ T ++ [C], a ∈ T' := fun a ha => by
    rw [e2]
    rcases List.mem_append.mp ha with q | q
    · exact List.mem_append_left _ q
    · rw [List.mem_singleton.mp q]; exact List.mem_append_right _ hCm
  have d : Dr S.length ρ' T' s'.heap ρ (T ++ [C]) s'.heap := ⟨d0.keep, trk, d0.ids⟩
  refine ⟨{ rep := ?_, more := ⟨[], by simp, by simp, fun _ h => nomatch h⟩, keep := st0.keep, loans := fun _ e => e }, d⟩
  exact {
    keep := st0.rep.keep
    len := R.len
    obj := fun i ao a f1 f2 => by
      have f2' : ρ'[i]? = some a := (st.mv R).ids _ _ f2
      exact (st.rep.obj i ao a (hS i ao f1) f2').dr d (fun o e => e) (R.und i ao f1)
    nodup := R.nodup
    nosys := R.nosys
    sub := fun a ha => List.mem_append_left _ (R.sub a ha)
    new := fun a ha => st.rep.new a (trk a ha)
    low := fun a ha => st.rep.low a (trk a ha)
    rest := st.rep.rest
    toks := st.rep.toks }

theorem app_get {r : List AO} : ∀ (i : Nat) (ao : AO), S[i]? = some ao → (S ++ r)[i]? = some ao := fun i ao e => by
  rw [List.getElem?_append_left (List.getElem?_eq_some_iff.mp e).1]; exact e

/-- the accumulator, frozen -/
theorem acc_frozen {acc : AO} {y : AV} {r : List AO} {C a : Addr} (R : Rep X S ρ T s) (st : Step X S ρ T s (S ++ (acc :: r)) ρ' T' s') (ha : ρ'[S.length]? = some a) (hC : ρ'[S.length + 1]? = some C)
    (hy : (∃ xs, acc = .lst xs ∧ y = .lst xs ∧ AV.unds S.length xs) ∨ (∃ kvs, acc = .dct kvs ∧ y = .dct kvs ∧ AV.undk S.length kvs)) :
    VR X ρ (T ++ [C]) s'.heap y (.ref a) := by
  obtain ⟨L, d⟩ := st.backLp R app_get ⟨_, Nat.le_succ _, hC⟩
  obtain ⟨mm, e1, e2, hm⟩ := st.more
  have haC : a ≠ C := fun e => by
    subst e
    obtain ⟨l1, z1⟩ := List.getElem?_eq_some_iff.mp ha
    obtain ⟨l2, z2⟩ := List.getElem?_eq_some_iff.mp hC
    have := (List.getElem_inj st.rep.nodup).mp (z1.trans z2.symm)
    omega
  have ham : a ∈ mm := by
    rw [e1, List.getElem?_append_right (by rw [R.len]; exact Nat.le_refl _)] at ha
    exact List.mem_of_getElem? ha
  have haT : a ∉ T ++ [C] := fun q => by
    rcases List.mem_append.mp q with q | q
    · obtain ⟨o, e⟩ := R.low a q; rw [hm a ham] at e; cases e
    · exact haC (List.mem_singleton.mp q)
  have ho := st.rep.obj S.length acc a (by simp) ha
  rcases hy with ⟨xs, rfl, rfl, hu⟩ | ⟨xs, rfl, rfl, hu⟩
  · obtain ⟨vs, hi, hq⟩ := ho
    simp only [VR]
    exact ⟨a, vs, rfl, haT, hi.isList, VRs.dr d xs hu hq⟩
  · obtain ⟨vs, hi, hq⟩ := ho
    simp only [VR]
    exact ⟨a, vs, rfl, haT, st.rep.nosys a (List.mem_of_getElem? ha), hi, VRk.dr d xs hu hq⟩
end

section
variable {X : Cx} {n : Nat} {ae : AEnv} {S S' : List AO} {K : AV → List AO → Prop} {KF : AF → List AO → Prop}

noncomputable def Frz (m : Nat) (acc : AO) (y : AV) : Prop := (∃ xs, acc = .lst xs ∧ y = .lst xs ∧ AV.unds m xs) ∨ (∃ kvs, acc = .dct kvs ∧ y = .dct kvs ∧ AV.undk m kvs)
theorem Frz.lst {m : Nat} {xs : List AV} (h : AV.unds m xs) : Frz m (.lst xs) (.lst xs) := .inl ⟨xs, rfl, rfl, h⟩
theorem Frz.dct {m : Nat} {xs : List (Str × AV)} (h : AV.undk m xs) : Frz m (.dct xs) (.dct xs) := .inr ⟨xs, rfl, rfl, h⟩

/-- the end of a comprehension -/
noncomputable def CompEnd (S1 : List AO) (K : AV → List AO → Prop) (k : Option Nat) (S' : List AO) : Prop :=
  ∃ acc vars r y, S' = lo S1 k ++ (acc :: AO.ns vars :: r) ∧ Frz S1.length acc y ∧ K y S1

structure CompIs (ae : AEnv) (gens : List Comprehension) (sc : Scope) : Prop where
  fn : sc.kind = .function
  sync : ∀ g ∈ gens, g.is_async = 0
  free : ∀ x ∈ sc.names, x.2 = .free → (ae.cells.lookup x.1).isSome = true
  names : ∀ x ∈ sc.names, x.2 = .local → sc.names.lookup x.1 = some .local

theorem comp_state {S1 : List AO} {ρ1 T1 : List Addr} {s1 s' : Shared} {k : Option Nat} {ρ' T' : List Addr} {a C : Addr} (R1 : Rep X S1 ρ1 T1 s1) (hK : CompEnd S1 K k S') (st : Step X (lo S1 k) ρ1 T1 s1 S' ρ' T' s') (ha : ρ'[S1.length]? = some a) (hC : ρ'[S1.length + 1]? = some C) :
    ∃ m y, s'.heap.Ns C m ∧ K y S1 ∧ Lp X S1 ρ1 T1 [C] s1 S1 ρ1 (T1 ++ [C]) s' ∧ VR X ρ1 (T1 ++ [C]) s'.heap y (.ref a) ∧ s1.heap.get? C = none := by
  obtain ⟨acc, vars, r, y, rfl, hf, hk⟩ := hK
  have st2 := Step.un R1 st
  rw [un_lo_app] at st2
  have hn := st2.rep.obj (S1.length + 1) (.ns vars) C (by simp) hC
  obtain ⟨m, hm, _⟩ := hn
  obtain ⟨L, _⟩ := st2.backLp R1 app_get ⟨_, Nat.le_succ _, hC⟩
  obtain ⟨mm, e1, e2, hmm⟩ := st2.more
  refine ⟨m, y, hm, hk, L, acc_frozen R1 st2 ha hC hf, hmm C ?_⟩
  rw [e1, List.getElem?_append_right (by rw [R1.len]; omega)] at hC
  exact List.mem_of_getElem? hC

theorem wComp {e t i : Expr} {fs : List Expr} {r : List Comprehension} {sc : Scope} {pos : Pos} (c : IsComp e (⟨t, i, fs, 0⟩ :: r) sc pos) (hc : CompIs ae (⟨t, i, fs, 0⟩ :: r) sc)
    (hsi : ∀ g ∈ (⟨t, i, fs, 0⟩ :: r : List Comprehension), ∀ env x, foldedSetIterable g.iter env x = pure x)
    (h : WpI X n ae S t i fun items k S1 => CompOk X n ae e t fs r sc items k S1 (CompEnd S1 K)) : WpE X n ae S e K := fun A ρ T s env hr hR hE => by
  rw [c.eval]
  have hfree' : ∀ x ∈ sc.names, x.2 = .free → (env.cells.lookup x.1).isSome = true := fun x hx e => by
    obtain ⟨i, hi⟩ := Option.isSome_iff_exists.mp (hc.free x hx e)
    obtain ⟨c, h1, _⟩ := hE.cells _ _ hi
    rw [h1]; rfl
  refine wpAny_comprehension_free c.clauses (fun x => hsi _ (.head _) env x) (closureFor_eq hfree') hc.fn hc.names ?_
  refine h A ρ T s env _ _ _ hr hR hE fun items k S1 ρ1 T1 s1 hK st I fp wr P Md St h0 tk W0 => ?_
  refine comp_core c hc.fn hc.sync hsi hc.free hr st.rep (hE.step st hR) W0 hK fun a C s' S' ρ' T' hK' st' ha hC => ?_
  obtain ⟨m, y, hm, hk, L, hy, hnew⟩ := comp_state st.rep hK' st' ha hC
  refine ⟨m, hm, fun h' hs => ?_⟩
  have hw : ∀ b ∈ [C], s1.heap.get? b = none := fun b hb => by rw [List.mem_singleton.mp hb]; exact hnew
  obtain ⟨T2, st2⟩ := L.fin (h := h') st.rep hw (fun b o hb e => (hs.2 b fun q => hb (by rw [q]; exact .head _)).trans e) s'.toks (Nat.le_refl _)
  obtain ⟨mm, q1, q2, q3⟩ := st2.more
  have : T2 = T1 := by
    have : mm = [] := by
      have := congrArg List.length q1
      simp at this; exact this
    rw [q2, this, List.append_nil]
  subst this
  refine PostG.mk (st.trans hR st2) hk (VR.dr (m := ρ1.length) ⟨fun b o hb e => (hs.2 b fun q => hb (by rw [q]; simp)).trans e, fun a ha => List.mem_append_left _ ha, fun _ _ _ e => e⟩ y (VR.und y hy) hy)

/-- a comprehension stored under a name -/
theorem sAsgComp {x : Str} {p ps : Pos} {e t i : Expr} {fs : List Expr} {r : List Comprehension} {sc : Scope} {pos : Pos} (c : IsComp e (⟨t, i, fs, 0⟩ :: r) sc pos) (hc : CompIs ae (⟨t, i, fs, 0⟩ :: r) sc)
    (hsi : ∀ g ∈ (⟨t, i, fs, 0⟩ :: r : List Comprehension), ∀ env x, foldedSetIterable g.iter env x = pure x)
    (hs : swapsWith e (some (.Name x p)) ps.line (dumb ae.scope) = pure true)
    (h : WpI X n ae S t i fun items k S1 => CompOk X n ae e t fs r sc items k S1 (CompEnd S1 fun y S2 => WpN X n ae S2 x y fun _ S3 => KF .next S3)) : WpS X n ae S (.Assign [.Name x p] e ps) KF := fun A ρ T s env hr hR hE => by
  rw [exec_Assign_Name_used x p e ps (by rw [← hE.scope] at hs; exact hs), c.used]
  have hfree' : ∀ x ∈ sc.names, x.2 = .free → (env.cells.lookup x.1).isSome = true := fun x hx e => by
    obtain ⟨i, hi⟩ := Option.isSome_iff_exists.mp (hc.free x hx e)
    obtain ⟨c, h1, _⟩ := hE.cells _ _ hi
    rw [h1]; rfl
  refine wpAny_bind (wpAny_standAt (wpAny_bind (wpAny_bind (wpAny_comprehension_free c.clauses (fun x => hsi _ (.head _) env x) (closureFor_eq hfree') hc.fn hc.names ?_))))
  refine h A ρ T s env _ _ _ hr hR hE fun items k S1 ρ1 T1 s1 hK st I fp wr P Md St h0 tk W0 => ?_
  refine comp_core c hc.fn hc.sync hsi hc.free hr st.rep (hE.step st hR) W0 hK fun a C s' S' ρ' T' hK' st' ha hC => ?_
  obtain ⟨m, y, hm, hk, L, hy, hnew⟩ := comp_state st.rep hK' st' ha hC
  have hw : ∀ b ∈ [C], s1.heap.get? b = none := fun b hb => by rw [List.mem_singleton.mp hb]; exact hnew
  show wpAny X.M A (assign (.Name x p) env (.ref a)) _ _ s'
  refine wpAny_assign_Name (chain (hk A ρ1 (T1 ++ [C]) s' env (.ref a) hr L.rep ((hE.step st hR)) hy) fun _ S2 ρ2 T2 _ s2 hK2 st2 _ => ?_)
  have L2 := L.step st.rep st2
  refine ⟨m, ?_, fun h' hs => ?_⟩
  · obtain ⟨o, es, ep, ho, rr⟩ := hm
    exact ⟨o, es, ep, st2.keep C o (fun l => by obtain ⟨o', e⟩ := st.rep.low C (st.rep.sub C l.mem); rw [hnew] at e; cases e) ho, rr⟩
  obtain ⟨T3, st3⟩ := L2.fin (h := h') st.rep hw (fun b o hb e => (hs.2 b fun q => hb (by rw [q]; exact .head _)).trans e) s2.toks (Nat.le_refl _)
  exact wpAny_pure (wpAny_pure (PostG.mk (st.trans hR st3) hK2 rfl))
end
end Mine
namespace Mine

noncomputable def TOk (target : Expr) (it : AV) : Prop := match target with
  | .Tuple .. => ∃ xs, it = .tup xs
  | _ => True

theorem KTn {prog : Program} {w : World} {A : Around} {target : Expr} {I : Addr} {fp wr : List Addr} {n m : Nat} {P Md : Nat → Value → Heap → Prop} {St : Nat → Heap → Prop} (e : m = n) (W : KTurns prog w A target I fp wr n P Md St) : KTurns prog w A target I fp wr m P Md St := by subst e; exact W
theorem strKind_key {prog : Program} {w : World} {k : Str} {v : Value} (h : (PySem.strKind prog w).is k v = true) : ∃ t, v = .str k t := Value.isStrOf_shape h

section
variable {X : Cx} {n : Nat} {ae : AEnv} {S S' : List AO} {ρ T : List Addr} {s : Shared} {target : Expr}

theorem VI.ok {h : Heap} {it : AV} {v : Value} (ok : TOk target it) (q : VR X ρ T h it v) : VI X ρ T h target it v := by
  unfold VI TOk at *
  split
  · obtain ⟨xs, rfl⟩ := ok
    simp only [VR] at q
    obtain ⟨a, vs, rfl, _, h1, h2⟩ := q
    exact ⟨xs, a, vs, rfl, rfl, h1, h2⟩
  · exact q

theorem Rep.notLive (R : Rep X S ρ T s) {k : Option Nat} {a : Addr} (h : (∃ i, k = some i ∧ ρ[i]? = some a) ∨ a ∉ T) : ¬ Live (Mine.lo S k) ρ a := by
  rintro ⟨j, ao, e1, e2, e3⟩
  rcases h with ⟨i, rfl, hi⟩ | h
  · obtain ⟨l1, z1⟩ := List.getElem?_eq_some_iff.mp hi
    obtain ⟨l2, z2⟩ := List.getElem?_eq_some_iff.mp e1
    have hij : i = j := (List.getElem_inj R.nodup).mp (z1.trans z2.symm)
    subst hij
    simp only [Mine.lo] at e2
    rw [List.getElem?_set_self (by rw [← R.len]; exact l1)] at e2
    cases e2; exact e3 rfl
  · exact h (R.sub a (List.mem_of_getElem? e1))

theorem src_listAt {k : Option Nat} {xs : List AV} (hok : ∀ it ∈ xs, TOk target it) {A : Around} {Q E : Value → Shared → Prop} (hr : Room n A) (hR : Rep X S ρ T s) {a : Addr} {vs : List Value} (hi : s.heap.IsList a vs.toArray) (hq : VRs X ρ T s.heap xs vs)
    (hl : (∃ i, k = some i ∧ ρ[i]? = some a) ∨ a ∉ T)
    (hQ : ∀ (I : Addr) (fp wr : List Addr) (P Md : Nat → Value → Heap → Prop) (St : Nat → Heap → Prop) (h' : Heap) (tk : Nat), SrcAt X A S k ρ T s target xs I fp wr P Md St h' tk → Q (.ref I) { s with heap := h', toks := tk }) : wpAny X.M A (pyIter (.ref a)) Q E s := by
  refine wpAny_pyIter_list hi ?_
  have hlt : a < s.heap.objs.size := by obtain ⟨o, ho, _⟩ := hi; exact Heap.lt_size ho
  have hlen : xs.length = vs.toArray.size := by rw [List.size_toArray, hq.length]
  refine hQ s.heap.objs.size _ _ _ _ _ _ s.toks { hk := fun b o e => Heap.get?_push_of_some _ e, turns := KTn hlen <| KTurns.ofWalks (Walks.list hr.handled s.heap.objs.size a (Nat.ne_of_lt hlt) vs.toArray) fun i v s Q E st q => letGo_listiter st.1 q, st := ?_, time := Nat.le_refl _, new := ?_, foot := ?_, ex := ?_, item := ?_, self := ?_ }
  · exact ⟨⟨_, Heap.get?_push_size _ rfl, rfl, rfl⟩, hi.at fun o e => Heap.get?_push_of_some _ e⟩
  · intro b hb; rw [List.mem_singleton.mp hb]; exact newAddr _
  · intro b hb
    rcases List.mem_cons.mp hb with rfl | hb
    · exact .inl (by simp)
    · rw [List.mem_singleton.mp hb]
      obtain ⟨o, ho, _⟩ := hi
      exact .inr ⟨hR.notLive hl, o, ho⟩
  · rintro i h ⟨⟨o, ho, _⟩, _⟩ b hb
    rw [List.mem_singleton.mp hb]; exact ⟨o, ho⟩
  · intro j it v h ρ' T' hj hp mv _
    have hp : vs.toArray[j]? = some v := hp
    obtain ⟨u, hu, hv⟩ := hq.get hj
    have : u = v := by rw [List.getElem?_toArray, hu] at hp; exact Option.some.inj hp
    subst this
    exact VI.ok (hok it (List.mem_of_getElem? hj)) (VR.mv mv it hv)
  · intro s' Q' E' st q
    exact (Walks.list (prog := X.prog) (w := X.w) hr.handled s.heap.objs.size a (Nat.ne_of_lt hlt) vs.toArray).self 0 s' Q' E' st q

theorem srcLst {xs : List AV} (hok : ∀ it ∈ xs, TOk target it) : Src X n S none target (.lst xs) xs := fun A ρ T s v Q E hr hR hv hQ => by
  simp only [VR] at hv
  obtain ⟨a, vs, rfl, ha, hi, hq⟩ := hv
  exact src_listAt hok hr hR hi hq (.inr ha) hQ
theorem srcObj {i : Nat} {xs : List AV} (hS : S[i]? = some (.lst xs)) (hok : ∀ it ∈ xs, TOk target it) : Src X n S (some i) target (.obj i) xs := fun A ρ T s v Q E hr hR hv hQ => by
  simp only [VR] at hv
  obtain ⟨a, rfl, ha⟩ := hv
  obtain ⟨vs, hi, hq⟩ := hR.obj _ _ _ hS ha
  exact src_listAt hok hr hR hi.isList hq (.inl ⟨i, rfl, ha⟩) hQ

theorem VRk.get {h : Heap} : ∀ {kvs : List (Str × AV)} {vs : List (Str × Value)}, VRk X ρ T h kvs vs → ∀ {i : Nat} {k : Str} {v : Value}, vs[i]? = some (k, v) → ∃ x, kvs[i]? = some (k, x) ∧ VR X ρ T h x v
  | [], _, q, i, k, v, e => by simp only [VRk] at q; subst q; simp at e
  | (y, x) :: r, _, q, i, k, v, e => by
    simp only [VRk] at q
    obtain ⟨u, vs', rfl, h1, h2⟩ := q
    cases i with
    | zero => simp at e; obtain ⟨rfl, rfl⟩ := e; exact ⟨x, by simp, h1⟩
    | succ i => simp at e; obtain ⟨z, a, b⟩ := VRk.get h2 e; exact ⟨z, by simpa using a, b⟩
theorem VRk.length {h : Heap} : ∀ {kvs : List (Str × AV)} {vs : List (Str × Value)}, VRk X ρ T h kvs vs → vs.length = kvs.length
  | [], _, q => by simp only [VRk] at q; subst q; rfl
  | (y, x) :: r, _, q => by
    simp only [VRk] at q
    obtain ⟨u, vs', rfl, h1, h2⟩ := q
    simp [VRk.length h2]

theorem src_dictAt {x : Str} {p : Pos} {k : Option Nat} {kvs : List (Str × AV)} (hkey : ∀ q ∈ kvs, q.1.length ≤ sizeLine) {A : Around} {Q E : Value → Shared → Prop} (hr : Room n A) (hR : Rep X S ρ T s) {a : Addr} {vs : List (Str × Value)}
    (hi : s.heap.DictOf (PySem.strKind X.prog X.w) a vs) (hq : VRk X ρ T s.heap kvs vs) (hy : (a == sysModules) = false) (hl : (∃ i, k = some i ∧ ρ[i]? = some a) ∨ a ∉ T)
    (hQ : ∀ (I : Addr) (fp wr : List Addr) (P Md : Nat → Value → Heap → Prop) (St : Nat → Heap → Prop) (h' : Heap) (tk : Nat), SrcAt X A S k ρ T s (.Name x p) (kvs.map fun q => .str q.1) I fp wr P Md St h' tk → Q (.ref I) { s with heap := h', toks := tk }) : wpAny X.M A (pyIter (.ref a)) Q E s := by
  obtain ⟨ep, hat⟩ := hi.dictAt
  refine wpAny_pyIter_dict hy hat ?_
  have hlt : a < s.heap.objs.size := by obtain ⟨o, _, ho, _⟩ := hat; exact Heap.lt_size ho
  have hlen : (kvs.map fun q => AV.str q.1).length = vs.length := by rw [List.length_map, hq.length]
  refine hQ s.heap.objs.size _ _ _ _ _ _ s.toks { hk := fun b o e => Heap.get?_push_of_some _ e, turns := KTn hlen <| KTurns.ofWalks (Walks.dictKeys (knd := PySem.strKind X.prog X.w) hr.handled s.heap.objs.size a (Nat.ne_of_lt hlt) vs ep) fun i v s Q E st q => letGo_keyiter st.1 q, st := ?_, time := Nat.le_refl _, new := ?_, foot := ?_, ex := ?_, item := ?_, self := ?_ }
  · exact ⟨⟨_, Heap.get?_push_size _ rfl, rfl, rfl⟩, hat.at' fun o e => Heap.get?_push_of_some _ e⟩
  · intro b hb; rw [List.mem_singleton.mp hb]; exact newAddr _
  · intro b hb
    rcases List.mem_cons.mp hb with rfl | hb
    · exact .inl (by simp)
    · rw [List.mem_singleton.mp hb]
      obtain ⟨o, _, ho, _⟩ := hat
      exact .inr ⟨hR.notLive hl, o, ho⟩
  · rintro i h ⟨⟨o, ho, _⟩, _⟩ b hb
    rw [List.mem_singleton.mp hb]; exact ⟨o, ho⟩
  · intro j it v h ρ' T' hj hp mv _
    obtain ⟨kk, xx, h1, h2⟩ := hp
    obtain ⟨y, h3, _⟩ := hq.get h1
    have : it = .str kk := by rw [List.getElem?_map, h3] at hj; simpa using hj.symm
    subst this
    obtain ⟨t, rfl⟩ := strKind_key h2
    show VR X ρ' T' h (.str kk) _
    exact VR_str.mpr ⟨hkey _ (List.mem_of_getElem? h3), t, rfl⟩
  · intro s' Q' E' st q
    exact (Walks.dictKeys (prog := X.prog) (w := X.w) (knd := PySem.strKind X.prog X.w) hr.handled s.heap.objs.size a (Nat.ne_of_lt hlt) vs ep).self 0 s' Q' E' st q

theorem srcDct {x : Str} {p : Pos} {kvs : List (Str × AV)} (hkey : ∀ q ∈ kvs, q.1.length ≤ sizeLine) : Src X n S none (.Name x p) (.dct kvs) (kvs.map fun q => .str q.1) := fun A ρ T s v Q E hr hR hv hQ => by
  simp only [VR] at hv
  obtain ⟨a, vs, rfl, ha, hy, hi, hq⟩ := hv
  exact src_dictAt hkey hr hR hi hq hy (.inr ha) hQ
noncomputable def signs (x : Str) : List AV := x.cps.toList.map fun c => .str ⟨#[c]⟩
theorem src_strAt {x : Str} {p : Pos} {y : Str} {t : Tok} {A : Around} {Q : Value → Shared → Prop} {ty : String} {St : Nat → Heap → Prop} (W : Walks X.prog X.w A s.heap.objs.size [s.heap.objs.size] [s.heap.objs.size] y.cps.size (SignAt y) St)
    (hst : ∀ i h, St i h → ∃ o, h.get? s.heap.objs.size = some o) {o : Obj} (h0 : St 0 (s.heap.push o))
    (hQ : ∀ (I : Addr) (fp wr : List Addr) (P Md : Nat → Value → Heap → Prop) (St : Nat → Heap → Prop) (h' : Heap) (tk : Nat), SrcAt X A S none ρ T s (.Name x p) (signs y) I fp wr P Md St h' tk → Q (.ref I) { s with heap := h', toks := tk }) :
    Q (.ref s.heap.objs.size) { s with heap := s.heap.push o } := by
  have hlen : (signs y).length = y.cps.size := by simp [signs]
  refine hQ s.heap.objs.size _ _ _ _ _ _ s.toks { hk := fun b o e => Heap.get?_push_of_some _ e, turns := KTn hlen <| KTurns.ofWalks W fun i v s Q E st q => wpAny_pure q, st := h0, time := Nat.le_refl _, new := ?_, foot := ?_, ex := ?_, item := ?_, self := ?_ }
  · intro b hb; rw [List.mem_singleton.mp hb]; exact newAddr _
  · intro b hb; exact .inl hb
  · intro i h st b hb
    rw [List.mem_singleton.mp hb]; exact hst i h st
  · intro j it v h ρ' T' hj hp mv _
    obtain ⟨c, u, h1, rfl⟩ := hp
    have : it = .str ⟨#[c]⟩ := by
      unfold signs at hj
      rw [List.getElem?_map] at hj
      have h1 : y.cps.toList[j]? = some c := by simpa using h1
      rw [h1] at hj; simpa using hj.symm
    subst this
    show VR X ρ' T' h (.str ⟨#[c]⟩) _
    exact VR_str.mpr ⟨by show 1 ≤ sizeLine; rw [sizeLine_eq]; omega, u, rfl⟩
  · intro s' Q' E' st q
    exact W.self 0 s' Q' E' st q
theorem srcStr {x : Str} {p : Pos} {y : Str} : Src X n S none (.Name x p) (.str y) (signs y) := fun A ρ T s v Q E hr hR hv hQ => by
  obtain ⟨hl, t, rfl⟩ := VR_str.mp hv
  cases ha : y.cps.all (· < 128)
  · exact wpAny_pyIter_wide ha (src_strAt (ty := "") (t := t) (Walks.strWide hr.handled _ y t) (fun i h ⟨o, ho, _⟩ => ⟨o, ho⟩) ⟨_, Heap.get?_push_size _ rfl, rfl, rfl⟩ hQ)
  · exact wpAny_pyIter_ascii ha (src_strAt (ty := "") (t := t) (Walks.strAscii hr.handled _ y t) (fun i h ⟨o, ho, _⟩ => ⟨o, ho⟩) ⟨_, Heap.get?_push_size _ rfl, rfl, rfl⟩ hQ)
end
end Mine
namespace Mine

section
variable {X : Cx} {n : Nat} {ae : AEnv} {S S' : List AO} {ρ T : List Addr} {s : Shared} {target : Expr} {K : AV → List AO → Prop} {KB : Bool → List AO → Prop} {KF : AF → List AO → Prop} {KU : Unit → List AO → Prop}

/-! ## stores -/
theorem aName {x : Str} {p : Pos} {v : AV} (h : WpN X n ae S x v KU) : WpA X n ae S (.Name x p) v KU := fun A ρ T s env u hr hR hE hv =>
  wpAny_assign_Name (h A ρ T s env u hr hR hE hv)

noncomputable def WpTs (X : Cx) (n : Nat) (ae : AEnv) : List Expr → List AV → List AO → (Unit → List AO → Prop) → Prop
  | [], [], S, K => K () S
  | t :: ts, x :: xs, S, K => TOk t x ∧ WpA X n ae S t x fun _ S1 => WpTs X n ae ts xs S1 K
  | _, _, _, _ => False

noncomputable def NoStar : Expr → Bool
  | .Starred .. => false
  | _ => true

theorem assignEach_cons {t : Expr} {ts : List Expr} {env : Env} (h : NoStar t = true) : assignEach (t :: ts) env = (false, assign t env) :: assignEach ts env := by
  cases t <;> first | rfl | (simp [NoStar] at h)

theorem ord_sound : ∀ (ts : List Expr) (xs : List AV) {A : Around} {ρ T : List Addr} {s : Shared} {env : Env} {vs : List Value} {S : List AO}, ts.all NoStar = true → Room n A → Rep X S ρ T s → EnvOk ae ρ env → VRs X ρ T s.heap xs vs → WpTs X n ae ts xs S KU →
    wpAny X.M A (assignInOrder ((assignEach ts env).map (·.2)) vs) (PostU X S ρ T s KU) No s
  | [], [], A, ρ, T, s, env, vs, S, _, hr, hR, hE, hv, h => by
    exact assignInOrder_nil (PostG.mk (x := ()) (.refl hR) h trivial)
  | [], _ :: _, A, ρ, T, s, env, vs, S, _, hr, hR, hE, hv, h => by simp only [WpTs] at h
  | _ :: _, [], A, ρ, T, s, env, vs, S, _, hr, hR, hE, hv, h => by simp only [WpTs] at h
  | t :: ts, x :: xs, A, ρ, T, s, env, vs, S, hn, hr, hR, hE, hv, h => by
    simp only [List.all_cons, Bool.and_eq_true] at hn
    rw [assignEach_cons hn.1]
    obtain ⟨v, r, rfl, h1, h2⟩ := VRs_cons.mp hv
    obtain ⟨ok, h⟩ := h
    refine assignInOrder_cons (chain (h A ρ T s env v hr hR hE (VI.ok ok h1)) fun _ S1 ρ1 T1 _ s1 hK st _ => ?_)
    exact thenG hR st (ord_sound ts xs hn.2 hr st.rep (hE.step st hR) (VRs.mv (st.mv hR) _ h2) hK)

theorem assignEach_len : ∀ (ts : List Expr) (env : Env), (assignEach ts env).length = ts.length
  | [], _ => rfl
  | t :: ts, env => by cases t <;> simp [assignEach, assignEach_len ts env]
theorem assignEach_star : ∀ (ts : List Expr) (env : Env), ts.all NoStar = true → (assignEach ts env).findIdx? (·.1) = none
  | [], _, _ => rfl
  | t :: ts, env, h => by
    simp only [List.all_cons, Bool.and_eq_true] at h
    rw [assignEach_cons h.1]
    simp [List.findIdx?_cons, assignEach_star ts env h.2]

theorem Step.old (R : Rep X S ρ T s) {h' : Heap} (he : Heap.ExtBut s.heap.objs.size s.heap h') (k : Nat) (hk : s.toks ≤ k := by first | exact Nat.le_refl _ | omega) : Step X S ρ T s S ρ T { s with heap := h', toks := k } :=
  .ext R (fun b o e => he b o (Nat.ne_of_lt (Heap.lt_size e)) e) ⟨rfl, rfl, rfl⟩ hk

theorem aTup {ts : List Expr} {k : Nat} {p : Pos} {xs : List AV} (hl : ts.length = xs.length) (hn : ts.all NoStar = true) (h : WpTs X n ae ts xs S KU) : WpA X n ae S (.Tuple ts k p) (.tup xs) KU := fun A ρ T s env u hr hR hE hv => by
  obtain ⟨xs', a, vs, e, rfl, ht, hq⟩ := hv
  cases e
  refine assign_Tuple_tuple hr.handled ht (by rw [assignEach_len, hl, List.size_toArray, hq.length]) (assignEach_star _ _ hn) fun h' he => ?_
  have st : Step X S ρ T s S ρ T { s with heap := h' } := Step.old hR he s.toks
  exact thenG hR st (ord_sound ts xs hn hr st.rep (hE.step st hR) (VRs.mv (st.mv hR) _ hq) h)

/-- a, b = .. -/
theorem sAsgT {ts : List Expr} {k : Nat} {tp pos : Pos} {e : Expr} (h : WpE X n ae S e fun a S1 => ∃ xs, a = .tup xs ∧ ts.length = xs.length ∧ WpTs X n ae ts xs S1 fun _ S2 => KF .next S2) (hn : ts.all NoStar = true := by rfl)
    (hs : swapsWithSole [.Tuple ts k tp] e pos.line (dumb ae.scope) = pure false := by rfl) (hw : swappedStores [.Tuple ts k tp] e (dumb ae.scope) = pure none := by rfl) : WpS X n ae S (.Assign [.Tuple ts k tp] e pos) KF := fun A ρ T s env hr hR hE => by
  refine Assign_Tuple (chain (h A ρ T s env hr hR hE) fun a S1 ρ1 T1 v s1 hK st hv => ?_) (by rw [← hE.scope] at hs; exact hs) (by rw [← hE.scope] at hw; exact hw)
  obtain ⟨xs, rfl, hl, hK⟩ := hK
  exact chain (aTup hl hn hK A ρ1 T1 s1 env v hr st.rep (hE.step st hR) (VI.ok ⟨xs, rfl⟩ hv)) fun _ S2 ρ2 T2 _ s2 hK2 st2 _ => PostG.mk (st.trans hR st2) hK2 rfl

/-- stores from the last to the first -/
noncomputable def WpNs (X : Cx) (n : Nat) (ae : AEnv) : List Str → List AV → List AO → (Unit → List AO → Prop) → Prop
  | [], [], S, K => K () S
  | t :: ts, x :: xs, S, K => WpN X n ae S t x fun _ S1 => WpNs X n ae ts xs S1 K
  | _, _, _, _ => False
theorem ns_sound : ∀ (ts : List Str) (xs : List AV) {A : Around} {ρ T : List Addr} {s : Shared} {env : Env} {vs : List Value} {S : List AO}, Room n A → Rep X S ρ T s → EnvOk ae ρ env → VRs X ρ T s.heap xs vs → WpNs X n ae ts xs S KU →
    wpAny X.M A (assignInOrder (ts.map fun n => bindName env n) vs) (PostU X S ρ T s KU) No s
  | [], [], A, ρ, T, s, env, vs, S, hr, hR, hE, hv, h => by
    exact assignInOrder_nil (PostG.mk (x := ()) (.refl hR) h trivial)
  | [], _ :: _, A, ρ, T, s, env, vs, S, hr, hR, hE, hv, h => by simp only [WpNs] at h
  | _ :: _, [], A, ρ, T, s, env, vs, S, hr, hR, hE, hv, h => by simp only [WpNs] at h
  | t :: ts, x :: xs, A, ρ, T, s, env, vs, S, hr, hR, hE, hv, h => by
    obtain ⟨v, r, rfl, h1, h2⟩ := VRs_cons.mp hv
    refine assignInOrder_cons (bindName_ (chain (h A ρ T s env v hr hR hE h1) fun _ S1 ρ1 T1 _ s1 hK st _ => ?_))
    exact thenG hR st (ns_sound ts xs hr st.rep (hE.step st hR) (VRs.mv (st.mv hR) _ h2) hK)
theorem VRs.rev {h : Heap} : ∀ {xs : List AV} {vs : List Value}, VRs X ρ T h xs vs → VRs X ρ T h xs.reverse vs.reverse
  | [], _, q => by rw [VRs_nil.mp q]; simp
  | x :: xs, _, q => by
    obtain ⟨v, r, rfl, h1, h2⟩ := VRs_cons.mp q
    rw [List.reverse_cons, List.reverse_cons]
    exact VRs.app (VRs.rev h2) (VRs.one h1)
theorem sAsgTs {ts : List Expr} {k : Nat} {tp pos : Pos} {e : Expr} {names : List Str} (hw : swappedStores [.Tuple ts k tp] e (dumb ae.scope) = pure (some names)) (h : WpE X n ae S e fun a S1 => ∃ xs, a = .tup xs ∧ names.length = xs.length ∧ WpNs X n ae names.reverse xs.reverse S1 fun _ S2 => KF .next S2)
    (hs : swapsWithSole [.Tuple ts k tp] e pos.line (dumb ae.scope) = pure false := by rfl) : WpS X n ae S (.Assign [.Tuple ts k tp] e pos) KF := fun A ρ T s env hr hR hE => by
  refine Assign_Tuple_swapped (names := names) (chain (h A ρ T s env hr hR hE) fun a S1 ρ1 T1 v s1 hK st hv => ?_) (by rw [← hE.scope] at hs; exact hs) (by rw [← hE.scope] at hw; exact hw)
  obtain ⟨xs, rfl, hl, hK⟩ := hK
  simp only [VR] at hv
  obtain ⟨a, vs, rfl, _, ht, hq⟩ := hv
  have hz : names.length = vs.toArray.size := by rw [List.size_toArray, hq.length, hl]
  rw [hz]
  refine unpackItems_tuple hr.handled ht fun h' he => ?_
  have st2 : Step X S1 ρ1 T1 s1 S1 ρ1 T1 { s1 with heap := h' } := Step.old st.rep he s1.toks
  exact chain (ns_sound names.reverse xs.reverse hr st2.rep (hE.step (st.trans hR st2) hR) (VRs.rev (VRs.mv (st2.mv st.rep) _ hq)) hK) fun _ S3 ρ3 T3 _ s3 hK3 st3 _ => PostG.mk ((st.trans hR st2).trans hR st3) hK3 rfl

/-! ## items -/
/-- a value read at an index -/
noncomputable def WpX (X : Cx) (n : Nat) (S : List AO) (slice : Expr) (a b : AV) (K : AV → List AO → Prop) : Prop :=
  ∀ A ρ T s v u, Room n A → Rep X S ρ T s → VR X ρ T s.heap a v → VR X ρ T s.heap b u → ∃ (Ty id : String), typeLookup (.type Ty) "__getitem__" = pure (some (.builtin id)) ∧ s.TypeIs v Ty ∧ wpAny X.M A (getItem v u) (PostV X S ρ T s K) No s

noncomputable def Plain (slice : Expr) : Prop := ∀ o i, subscripted slice false o i = operate [o, i] (getItem o i)

theorem tail_item {value slice : Expr} {v u : Value} {Ty id : String} {A : Around} {Q : Value → Shared → Prop} {E : Value → Shared → Prop} (hl : typeLookup (.type Ty) "__getitem__" = pure (some (.builtin id))) (hT : s.TypeIs v Ty)
    {held : List Value} (hs : subscripted slice false v u = operate held (getItem v u)) (hg : wpAny X.M A (getItem v u) Q E s) : wpAny X.M A (subscriptTail value slice v u) Q E s := by
  have tail : wpAny X.M A (subscripted slice false v u >>= fun r => letTemporaryGo value v r >>= fun _ => pure r) Q E s := by
    rw [hs]
    exact wpAny_bind (wpAny_operating (wpAny_mono hg (fun r s3 q => wpAny_bind (wpAny_letTemporaryGo (wpAny_pure q))) fun _ _ e => e))
  refine wpAny_bind (m := getitemInPython v) ?_
  rw [getitemInPython_of_ne hT.not_modules]
  exact wpAny_bind (wpAny_specialOf hT hl (wpAny_pure tail))
theorem wSub {value slice : Expr} {pos : Pos} (h : WpE X n ae S value fun a S1 => WpE X n ae S1 slice fun b S2 => WpX X n S2 slice a b K) (hs : Plain slice := by intro _ _; with_unfolding_all rfl) : WpE X n ae S (.Subscript value slice pos) K := fun A ρ T s env hr hR hE => by
  refine Subscript_ (chain (h A ρ T s env hr hR hE) fun a S1 ρ1 T1 v s1 hK st hv => chain (hK A ρ1 T1 s1 env hr st.rep (hE.step st hR)) fun b S2 ρ2 T2 u s2 hK2 st2 hu => ?_)
  obtain ⟨Ty, id, hl, hT, hg⟩ := hK2 A ρ2 T2 s2 v u hr st2.rep (VR.mv (st2.mv st.rep) _ hv) hu
  exact tail_item hl hT (hs v u) (thenG hR (st.trans hR st2) hg)

theorem xStr {slice : Expr} {x : Str} {i : Int} (hr' : fitsSsize i = true) (hin : (Txt.charAt x i).isSome = true) (h : K (.str (Txt.item x i)) S) : WpX X n S slice (.str x) (.int i) K := fun A ρ T s v u hr hR hv hu => by
  obtain ⟨hl, t, rfl⟩ := VR_str.mp hv
  obtain ⟨t', rfl⟩ := VR_int.mp hu
  exact SB.item hr' hin (PostG.mk (.toks hR _) h (VR_str.mpr ⟨by rw [len_item, sizeLine_eq]; omega, _, rfl⟩))

theorem xTup {slice : Expr} {xs : List AV} {i : Int} {j : Nat} {y : AV} (hlo : -(2 ^ 63) ≤ i) (hhi : i < 2 ^ 63) (hj : seqIndex? i xs.length = some j) (hy : xs[j]? = some y) (h : K y S) : WpX X n S slice (.tup xs) (.int i) K := fun A ρ T s v u hr hR hv hu => by
  simp only [VR] at hv
  obtain ⟨a, vs, rfl, ha, ht, hq⟩ := hv
  obtain ⟨t', rfl⟩ := VR_int.mp hu
  obtain ⟨z, hz, hv⟩ := hq.get hy
  refine ⟨"tuple", _, slot_tuple_getitem.lookup, ht.typeIs, PyProof.Rows.getItem_tuple ht hlo hhi (by rw [List.size_toArray, hq.length]; exact hj) (by simpa using hz) (PostG.mk (.refl hR) h hv)⟩

theorem item_listAt {slice : Expr} {A : Around} {xs : List AV} {vs : List Value} {a : Addr} {i : Int} {t : Tok} {j : Nat} {y : AV} (hr : Room n A) (hR : Rep X S ρ T s) (hi : s.heap.IsList a vs.toArray) (hq : VRs X ρ T s.heap xs vs) (hlo : -(2 ^ 63) ≤ i) (hhi : i < 2 ^ 63) (hj : seqIndex? i xs.length = some j) (hy : xs[j]? = some y) (h : K y S) :
    ∃ (Ty id : String), typeLookup (.type Ty) "__getitem__" = pure (some (.builtin id)) ∧ s.TypeIs (.ref a) Ty ∧ wpAny X.M A (getItem (.ref a) (.int i t)) (PostV X S ρ T s K) No s := by
  obtain ⟨z, hz, hv⟩ := hq.get hy
  refine ⟨"list", _, slot_list_getitem.lookup, hi.typeIs, ?_⟩
  have hlen : (vs.toArray.size : Int) = xs.length := by rw [List.size_toArray, hq.length]
  unfold seqIndex? at hj
  by_cases h0 : 0 ≤ i
  · refine wpAny_getItem_list hi h0 hhi (x := z) ?_ (PostG.mk (.refl hR) h hv)
    have : i.toNat = j := by
      have hlt : ¬ i < 0 := by omega
      simp only [hlt, if_false] at hj
      split at hj <;> simp_all
    rw [this]; simpa using hz
  · refine wpAny_getItem_list_neg hi (by omega) ?_ hlo (x := z) ?_ (PostG.mk (.refl hR) h hv)
    · have hlt : i < 0 := by omega
      simp only [hlt, if_true] at hj
      split at hj <;> simp_all
      omega
    · have : (i + vs.toArray.size).toNat = j := by
        have hlt : i < 0 := by omega
        simp only [hlt, if_true] at hj
        split at hj <;> simp_all
      rw [this]; simpa using hz

theorem xLst {slice : Expr} {xs : List AV} {i : Int} {j : Nat} {y : AV} (hj : seqIndex? i xs.length = some j) (hy : xs[j]? = some y) (h : K y S) (hlo : -(2 ^ 63) ≤ i := by omega) (hhi : i < 2 ^ 63 := by omega) : WpX X n S slice (.lst xs) (.int i) K := fun A ρ T s v u hr hR hv hu => by
  simp only [VR] at hv
  obtain ⟨a, vs, rfl, ha, hi, hq⟩ := hv
  obtain ⟨t', rfl⟩ := VR_int.mp hu
  exact item_listAt (slice := slice) hr hR hi hq hlo hhi hj hy h
theorem xObj {slice : Expr} {k : Nat} {xs : List AV} {i : Int} {j : Nat} {y : AV} (hS : S[k]? = some (.lst xs)) (hj : seqIndex? i xs.length = some j) (hy : xs[j]? = some y) (h : K y S) (hlo : -(2 ^ 63) ≤ i := by omega) (hhi : i < 2 ^ 63 := by omega) : WpX X n S slice (.obj k) (.int i) K := fun A ρ T s v u hr hR hv hu => by
  simp only [VR] at hv
  obtain ⟨a, rfl, ha⟩ := hv
  obtain ⟨vs, hi, hq⟩ := hR.obj _ _ _ hS ha
  obtain ⟨t', rfl⟩ := VR_int.mp hu
  exact item_listAt (slice := slice) hr hR hi.isList hq hlo hhi hj hy h
end
end Mine
namespace Mine

section
variable {X : Cx} {n : Nat} {ae : AEnv} {S S' : List AO} {ρ T : List Addr} {s : Shared} {K : AV → List AO → Prop} {KB : Bool → List AO → Prop} {KF : AF → List AO → Prop} {KU : Unit → List AO → Prop} {KL : List AV → List AO → Prop}

noncomputable def Callee (X : Cx) (v : Value) : Prop := ∀ h, X.K.In h → ∃ k, (k = Keeper.frame ∨ k = Keeper.machine ∨ k = Keeper.boundFrame) ∧ Looks X.M h (keeperOf v) k
theorem cBuiltin {id : String} : Callee X (.builtin id) := fun h _ => ⟨.machine, .inr (.inl rfl), Looks.of_pure rfl⟩
theorem cType {id : String} : Callee X (.type id) := fun h _ => ⟨.machine, .inr (.inl rfl), Looks.of_pure rfl⟩
theorem cFn {f : Value} (h : keepIn X.K f = true) : Callee X f := fun hp i => keeps_K h hp i

/-- arguments, one behind the other -/
noncomputable def WpArgs (X : Cx) (n : Nat) (ae : AEnv) : List Expr → List AO → (List AV → List AO → Prop) → Prop
  | [], S, K => K [] S
  | e :: r, S, K => WpE X n ae S e fun a S1 => WpArgs X n ae r S1 fun as S2 => K (a :: as) S2
noncomputable def WpKws (X : Cx) (n : Nat) (ae : AEnv) : List Keyword → List AO → (List (Str × AV) → List AO → Prop) → Prop
  | [], S, K => K [] S
  | ⟨some k, e, _⟩ :: r, S, K => WpE X n ae S e fun a S1 => WpKws X n ae r S1 fun as S2 => K ((k, a) :: as) S2
  | _, _, _ => False

theorem starEach_cons {t : Expr} {ts : List Expr} {env : Env} (h : NoStar t = true) : starEach (t :: ts) env = (false, eval t env) :: starEach ts env := by
  cases t <;> first | rfl | (simp [NoStar] at h)
theorem backTo_star : ∀ (ts : List Expr) (env : Env) (pos : Pos), ts.all NoStar = true → (backTo pos (starEach ts env)).any (·.1) = false
  | [], _, _, _ => rfl
  | t :: ts, env, pos, h => by
    simp only [List.all_cons, Bool.and_eq_true] at h
    rw [starEach_cons h.1]
    have := backTo_star ts env pos h.2
    simpa [backTo] using this

theorem args_sound : ∀ (es : List Expr) {A : Around} {ρ T : List Addr} {s : Shared} {env : Env} {S : List AO} {K : List AV → List AO → Prop} {pos : Pos}, es.all NoStar = true → Room n A → Rep X S ρ T s → EnvOk ae ρ env → WpArgs X n ae es S K →
    wpAny X.M A (spliced (backTo pos (starEach es env))) (PostL X S ρ T s K) No s
  | [], A, ρ, T, s, env, S, K, pos, _, hr, hR, hE, h => Calls.spliced_nil (PostG.mk (x := []) (.refl hR) h (by simp))
  | e :: es, A, ρ, T, s, env, S, K, pos, hn, hr, hR, hE, h => by
    simp only [List.all_cons, Bool.and_eq_true] at hn
    rw [starEach_cons hn.1]
    refine Calls.spliced_cons (chain (h A ρ T s env hr hR hE) fun a S1 ρ1 T1 v s1 hK st hv => ?_)
    refine chain (args_sound es (pos := pos) hn.2 hr st.rep (hE.step st hR) hK) fun as S2 ρ2 T2 vs s2 hK2 st2 hvs => ?_
    exact PostG.mk (x := a :: as) (st.trans hR st2) hK2 (VRs_cons.mpr ⟨v, vs, rfl, VR.mv (st2.mv st.rep) _ hv, hvs⟩)

noncomputable def Named (ks : List Keyword) : Bool := ks.all (·.arg.isSome)
theorem named_all : ∀ (ks : List Keyword) (env : Env) (pos : Pos), Named ks = true → (backToKw pos (keywordEach ks env)).all (·.1.isSome) = true ∧ (backToKw pos (keywordEach ks env)).any (·.1.isNone) = false
  | [], _, _, _ => ⟨rfl, rfl⟩
  | ⟨none, e, p⟩ :: ks, _, _, h => by simp [Named] at h
  | ⟨some k, e, p⟩ :: ks, env, pos, h => by
    have := named_all ks env pos (by simpa [Named] using h)
    simpa [backToKw, keywordEach] using this
noncomputable def KwR (X : Cx) (kws : List Keyword) (env : Env) (pos : Pos) (ρ T : List Addr) (h : Heap) (as : List (Str × AV)) (vs : List Value) : Prop := VRk X ρ T h as (((backToKw pos (keywordEach kws env)).filterMap (·.1)).zip vs)
theorem kws_sound : ∀ (ks : List Keyword) {A : Around} {ρ T : List Addr} {s : Shared} {env : Env} {S : List AO} {K : List (Str × AV) → List AO → Prop} {pos : Pos}, Room n A → Rep X S ρ T s → EnvOk ae ρ env → WpKws X n ae ks S K →
    wpAny X.M A (evalAll ((backToKw pos (keywordEach ks env)).map (·.2))) (PostG (KwR X ks env pos) X S ρ T s K) No s
  | [], A, ρ, T, s, env, S, K, pos, hr, hR, hE, h => wpAny_pure (PostG.mk (x := []) (.refl hR) h (by simp [KwR, VRk, backToKw, keywordEach]))
  | ⟨none, e, p⟩ :: ks, A, ρ, T, s, env, S, K, pos, hr, hR, hE, h => by simp only [WpKws] at h
  | ⟨some k, e, p⟩ :: ks, A, ρ, T, s, env, S, K, pos, hr, hR, hE, h => by
    simp only [WpKws] at h
    show wpAny X.M A (evalAll ((do let v ← eval e env; standAt pos; pure v) :: (backToKw pos (keywordEach ks env)).map (·.2))) _ _ _
    refine wpAny_bind (wpAny_bind (chain (h A ρ T s env hr hR hE) fun a S1 ρ1 T1 v s1 hK st hv => wpAny_bind (wpAny_standAt (wpAny_pure ?_))))
    refine wpAny_bind (wpAny_holding (chain (kws_sound ks (pos := pos) hr st.rep (hE.step st hR) hK) fun as S2 ρ2 T2 vs s2 hK2 st2 hvs => wpAny_pure ?_))
    refine PostG.mk (x := (k, a) :: as) (st.trans hR st2) hK2 ?_
    show VRk X ρ2 T2 s2.heap ((k, a) :: as) ((k, v) :: (((backToKw pos (keywordEach ks env)).filterMap (·.1)).zip vs))
    simp only [VRk]
    exact ⟨v, _, rfl, VR.mv (st2.mv st.rep) _ hv, hvs⟩

theorem evalArgs_any {M : Model} {A : Around} {E : Value → Shared → Prop} {s : Shared} {f : Value} {args : List (Bool × Sem Value)} {keywords : List (Option Str × Sem Value)} {Q : Args → Shared → Prop} (hplain : args.any (·.1) = false) (hall : keywords.all (·.1.isSome) = true)
    (h : wpAny M A (spliced args) (fun vs s₁ => wpAny M A (evalAll (keywords.map (·.2))) (fun kvs s₂ => Q ⟨vs, (keywords.filterMap (·.1)).zip kvs⟩ s₂) E s₁) E s) : wpAny M A (evalArgs f true args keywords) Q E s := by
  match args, hplain with
  | [], _ => exact wpAny_bind (wpAny_mono h (fun vs s1 q => wpAny_holding (by rw [if_pos hall]; exact wpAny_bind (wpAny_mono q (fun _ _ q2 => wpAny_bind (wpAny_pure (wpAny_pure q2))) fun _ _ e => e))) fun _ _ e => e)
  | (false, _) :: _, _ => exact evalArgs_kw hall h

theorem with_sound {args : List Expr} {kws : List Keyword} (hn : args.all NoStar = true) (hk : Named kws = true) {A : Around} {ρ T : List Addr} {s : Shared} {env : Env} {pos : Pos} (hr : Room n A) (hR : Rep X S ρ T s) (hE : EnvOk ae ρ env) {f : Value} {self : List AV} {first : List Value}
    (hs : VRs X ρ T s.heap self first) (hf : Callee X f) (h : WpArgs X n ae args S fun as S2 => WpKws X n ae kws S2 fun ks S3 => WpC X n S3 (.val f) (self ++ as) ks K) :
    wpAny X.M A (callWith pos f first (backTo pos (starEach args env)) (backToKw pos (keywordEach kws env))) (PostV X S ρ T s K) No s := by
  obtain ⟨k1, k2⟩ := named_all kws env pos hk
  refine callWith_of (P := X.K.In) (by rw [backTo_star args env pos hn, k2]; rfl) hf (evalArgs_any (backTo_star args env pos hn) k1 ?_)
  refine chain (args_sound args (pos := pos) hn hr hR hE h) fun as S1 ρ1 T1 vs s1 hK st hvs => ?_
  refine chain (kws_sound kws (pos := pos) hr st.rep (hE.step st hR) hK) fun ks S2 ρ2 T2 kvs s2 hK2 st2 hks => ?_
  refine ⟨st2.rep.kin, thenG hR (st.trans hR st2) (hK2 A ρ2 T2 s2 f _ _ hr st2.rep (by simp) (VRs.app (VRs.mv ((st.trans hR st2).mv hR) _ hs) (VRs.mv (st2.mv st.rep) _ hvs)) hks)⟩

/-- a call of a name -/
theorem wCallN {x : Str} {p pos : Pos} {args : List Expr} {kws : List Keyword} (h : WpE X n ae S (.Name x p) fun f S1 => ∃ fv, f = .val fv ∧ Callee X fv ∧ WpArgs X n ae args S1 fun as S2 => WpKws X n ae kws S2 fun ks S3 => WpC X n S3 (.val fv) as ks K)
    (hn : args.all NoStar = true := by rfl) (hk : Named kws = true := by rfl) : WpE X n ae S (.Call (.Name x p) args kws pos) K := fun A ρ T s env hr hR hE => by
  rw [arm_eval_Call_Name']
  refine wpAny_bind (chain (h A ρ T s env hr hR hE) fun f S1 ρ1 T1 v s1 hK st hv => ?_)
  obtain ⟨fv, rfl, hc, hK⟩ := hK
  cases VR_val.mp hv
  exact thenG hR st (with_sound hn hk hr st.rep (hE.step st hR) (self := []) (by simp) hc hK)

/-- a method looked up -/
noncomputable def MR (X : Cx) (ρ T : List Addr) (h : Heap) (p : Value × List AV) (q : Value × List Value) : Prop := q.1 = p.1 ∧ VRs X ρ T h p.2 q.2
noncomputable def WpM (X : Cx) (n : Nat) (S : List AO) (name : Str) (a : AV) (K : Value × List AV → List AO → Prop) : Prop :=
  ∀ A ρ T s v pl, Room n A → Rep X S ρ T s → VR X ρ T s.heap a v → wpAny X.M A (getMethod v name pl) (PostG (MR X) X S ρ T s K) No s

theorem wCallM {o : Expr} {name : Str} {apos pos : Pos} {args : List Expr} {kws : List Keyword} {pl : Env → Sem Bool}
    (h : WpE X n ae S o fun a S1 => WpM X n S1 name a fun p S2 => Callee X p.1 ∧ WpArgs X n ae args S2 fun as S3 => WpKws X n ae kws S3 fun ks S4 => WpC X n S4 (.val p.1) (p.2 ++ as) ks K)
    (he : ∀ env, eval (.Call (.Attribute o name apos) args kws pos) env = (do
      let ov ← eval o env
      standAt apos.atName
      let (f, first) ← holding [ov] (getMethod ov name (pl env))
      callWith pos f first (backTo pos (starEach args env)) (backToKw pos (keywordEach kws env))) := by intro _; rfl)
    (hn : args.all NoStar = true := by rfl) (hk : Named kws = true := by rfl) : WpE X n ae S (.Call (.Attribute o name apos) args kws pos) K := fun A ρ T s env hr hR hE => by
  refine methodCall_KW (pl := pl env) (chain (h A ρ T s env hr hR hE) fun a S1 ρ1 T1 v s1 hK st hv => chain (hK A ρ1 T1 s1 v (pl env) hr st.rep hv) fun p S2 ρ2 T2 q s2 hK2 st2 hq => ?_) (he env)
  obtain ⟨f, self⟩ := p
  obtain ⟨f', first⟩ := q
  obtain ⟨e1, e2⟩ := hq
  cases e1
  exact thenG hR (st.trans hR st2) (with_sound hn hk hr st2.rep (hE.step (st.trans hR st2) hR) e2 hK2.1 hK2.2)

/-- a method of a built-in type -/
theorem mBuiltin {ty id : String} {name : Str} {a : AV} {KM : Value × List AV → List AO → Prop} (hT : ∀ ρ T s v, Rep X S ρ T s → VR X ρ T s.heap a v → s.TypeIs v ty ∧ ∀ b, v = .ref b → ∃ o, s.heap.get? b = some o ∧ o.dict = none)
    (pa : PlainAttrs ty) (slot : Slot ty name id) (hty : typeOf (.builtin id) = pure (.type "method_descriptor")) (h : KM (.builtin id, [a]) S) : WpM X n S name a KM := fun A ρ T s v pl hr hR hv =>
  let ⟨h1, h2⟩ := hT ρ T s v hR hv
  getMethod_builtin h1 pa slot hty h2 (PostG.mk (x := (.builtin id, [a])) (.refl hR) h ⟨rfl, VRs.one hv⟩)
theorem mStr {id : String} {name : Str} {x : Str} {KM : Value × List AV → List AO → Prop} (slot : Slot "str" name id) (hty : typeOf (.builtin id) = pure (.type "method_descriptor")) (h : KM (.builtin id, [.str x]) S) : WpM X n S name (.str x) KM :=
  mBuiltin (fun ρ T s v _ hv => by
    obtain ⟨_, t, rfl⟩ := VR_str.mp hv
    exact ⟨typeIs_str _ _ _, fun _ e => nomatch e⟩) PySem.F.plainAttrs_str slot hty h
end
end Mine
namespace Mine

section
variable {X : Cx} {n : Nat} {ae : AEnv} {S S' : List AO} {ρ T : List Addr} {s : Shared} {K : AV → List AO → Prop} {KB : Bool → List AO → Prop} {KF : AF → List AO → Prop} {KU : Unit → List AO → Prop}

/-! ## displays -/
theorem Rep.fresh (R : Rep X S ρ T s) : s.heap.objs.size ∉ T := fun q => by
  obtain ⟨o, e⟩ := R.low _ q
  rw [newAddr] at e; cases e

theorem wTup {es : List Expr} {k : Nat} {pos : Pos} (h : WpArgs X n ae es S fun as S1 => as.length ≤ sizeLine ∧ K (.tup as) S1) (hn : es.all NoStar = true := by rfl) : WpE X n ae S (.Tuple es k pos) K := fun A ρ T s env hr hR hE => by
  refine wpAny_Tuple (chain (args_sound es hn hr hR hE h) fun as S1 ρ1 T1 vs s1 hK st hvs => ⟨by rw [hvs.length]; exact hK.1, ?_⟩)
  have st2 : Step X S1 ρ1 T1 s1 S1 ρ1 T1 { s1 with heap := s1.heap.push { cls := .type "tuple", data := .seq vs.toArray }, toks := s1.toks } := Step.push st.rep _ _
  refine PostG.mk (st.trans hR st2) hK.2 ?_
  simp only [VR]
  exact ⟨_, vs, rfl, st.rep.fresh, ⟨_, Heap.get?_push_size _ rfl, rfl, _, rfl⟩, VRs.mv (st2.mv st.rep) _ hvs⟩
/-- a list that will not change -/
theorem wLst {es : List Expr} {pos : Pos} (h : WpArgs X n ae es S fun as S1 => as.length ≤ sizeLine ∧ K (.lst as) S1) (hn : es.all NoStar = true := by rfl) : WpE X n ae S (.List es pos) K := fun A ρ T s env hr hR hE => by
  refine wpAny_List (chain (args_sound es hn hr hR hE h) fun as S1 ρ1 T1 vs s1 hK st hvs => ⟨by rw [hvs.length]; exact hK.1, ?_⟩)
  have st2 : Step X S1 ρ1 T1 s1 S1 ρ1 T1 { s1 with heap := s1.heap.push { cls := .type "list", data := .seq vs.toArray }, toks := s1.toks } := Step.push st.rep _ _
  refine PostG.mk (st.trans hR st2) hK.2 ?_
  simp only [VR]
  exact ⟨_, vs, rfl, st.rep.fresh, ⟨_, Heap.get?_push_size _ rfl, rfl, _, rfl⟩, VRs.mv (st2.mv st.rep) _ hvs⟩
theorem mvNew {a : Addr} {h' : Heap} (R : Rep X S ρ T s) (hk : ∀ b o, s.heap.get? b = some o → h'.get? b = some o) (ha : s.heap.get? a = none) : Mv ρ T s.heap (ρ ++ [a]) (T ++ [a]) h' :=
  ⟨fun b o _ e => hk b o e, fun b hb => by
    rcases List.mem_append.mp hb with q | q
    · exact .inl q
    · rw [List.mem_singleton.mp q]; exact .inr ha, fun i b e => by rw [List.getElem?_append_left (List.getElem?_eq_some_iff.mp e).1]; exact e⟩
/-- a list that may change -/
theorem wLstT {es : List Expr} {pos : Pos} (h : WpArgs X n ae es S fun as S1 => as.length ≤ sizeLine ∧ K (.obj S1.length) (S1 ++ [.lst as])) (hn : es.all NoStar = true := by rfl) : WpE X n ae S (.List es pos) K := fun A ρ T s env hr hR hE => by
  refine wpAny_List (chain (args_sound es hn hr hR hE h) fun as S1 ρ1 T1 vs s1 hK st hvs => ⟨by rw [hvs.length]; exact hK.1, ?_⟩)
  have hp : (s1.heap.push { cls := .type "list", data := .seq vs.toArray }).get? s1.heap.objs.size = some { cls := .type "list", data := .seq vs.toArray } := Heap.get?_push_size _ rfl
  have hk : ∀ b o, s1.heap.get? b = some o → (s1.heap.push { cls := .type "list", data := .seq vs.toArray }).get? b = some o := fun b o e => Heap.get?_push_of_some _ e
  refine PostG.mk (st.trans hR (Step.new (ao := .lst as) st.rep hk (newAddr _) (st.rep.nosysOf (Nat.le_refl _)) ⟨_, hp⟩ ⟨vs, ⟨_, hp⟩, VRs.mv (mvNew st.rep hk (newAddr _)) _ hvs⟩ s1.toks)) hK.2 ?_
  simp only [VR]
  exact ⟨_, rfl, by rw [← st.rep.len]; simp⟩

theorem isDict0 (h : Heap) {K : Type} [DecidableEq K] {prog : Program} {w : World} (knd : KeyKind prog w K) : (h.push { cls := .type "dict", data := .dict #[] }).DictOf knd h.objs.size [] :=
  ⟨_, #[], 0, Heap.get?_push_size _ rfl, ⟨rfl, rfl, rfl⟩, rfl, fun _ he => by simp at he, .nil, by simp⟩
/-- the empty dict, one that may change -/
theorem wDctT {pos : Pos} (h : K (.obj S.length) (S ++ [.dct []])) : WpE X n ae S (.Dict [] [] pos) K := fun A ρ T s env hr hR hE => by
  refine wpAny_Dict_empty ?_
  have hk : ∀ b o, s.heap.get? b = some o → (s.heap.push { cls := .type "dict", data := .dict #[] }).get? b = some o := fun b o e => Heap.get?_push_of_some _ e
  refine PostG.mk (Step.new (ao := .dct []) hR hk (newAddr _) (hR.nosysOf (Nat.le_refl _)) ⟨_, Heap.get?_push_size _ rfl⟩ ⟨[], isDict0 _ _, by simp [VRk]⟩ s.toks) h ?_
  simp only [VR]
  exact ⟨_, rfl, by rw [← hR.len]; simp⟩

/-! ## numbers -/
section
variable {a b : Int}
theorem oMul (hm : IntMulOk a b) (h : K (.int (a * b)) S) : Wp2 X n S (binaryOp .Mult) (.int a) (.int b) K := op2 (fun A ρ T s v u _ _ hv hu Q E hq => by
  obtain ⟨t, rfl⟩ := VR_int.mp hv; obtain ⟨t', rfl⟩ := VR_int.mp hu
  exact AutoIntOps.mul_0 (hq _ _ (by simp)) hm) h
theorem oDiv (hb : (b == 0) = false) (hs : b.natAbs < 1073741824) (h : K (.int (a.fdiv b)) S) : Wp2 X n S (binaryOp .FloorDiv) (.int a) (.int b) K := op2 (fun A ρ T s v u _ _ hv hu Q E hq => by
  obtain ⟨t, rfl⟩ := VR_int.mp hv; obtain ⟨t', rfl⟩ := VR_int.mp hu
  exact AutoIntOps.floordiv_1 (by simp [hb]) (by rw [PyProof.noPylong_small hs]; decide) (hq _ _ (by simp))) h
theorem oPow2 {m : Nat} (hm : m ≤ 60) (h : K (.int (2 ^ m)) S) : Wp2 X n S (binaryOp .Pow) (.int 2) (.int m) K := op2 (fun A ρ T s v u _ _ hv hu Q E hq => by
  obtain ⟨t, rfl⟩ := VR_int.mp hv; obtain ⟨t', rfl⟩ := VR_int.mp hu
  by_cases h0 : m = 0
  · subst h0
    exact AutoIntOps.pow_0 (by decide) (by decide) (hq _ _ (by simp))
  · refine AutoIntOps.pow_4 (by omega) (by simp; omega) (by decide) (by decide) ?_ (hq _ _ (by simp))
    have : ∀ k : Fin 61, Builtin.Int.intTooBig (((Builtin.Int.intBits 2 : Nat) : Int) * ((k.val : Nat) : Int)) = false := by decide +kernel
    have := this ⟨m, by omega⟩
    simp only at this
    rw [this]; decide) h
theorem oPowC {c k : Int} {r : Int} (h1 : k ≥ 0) (h2 : ¬(k == 0) = true) (h3 : ¬(c == 0 || c == 1) = true) (h4 : ¬(c == -1) = true) (h5 : ¬Builtin.Int.intTooBig (((Builtin.Int.intBits c : Nat) : Int) * k) = true) (h : K (.int (c ^ k.toNat)) S) : Wp2 X n S (binaryOp .Pow) (.int c) (.int k) K := op2 (fun A ρ T s v u _ _ hv hu Q E hq => by
  obtain ⟨t, rfl⟩ := VR_int.mp hv; obtain ⟨t', rfl⟩ := VR_int.mp hu
  exact AutoIntOps.pow_4 h1 h2 h3 h4 h5 (hq _ _ (by simp))) h
theorem iAdd (h : K (.int (a + b)) S) : Wp2 X n S (inplaceOp .Add) (.int a) (.int b) K := op2 (fun A ρ T s v u _ _ hv hu Q E hq => by
  obtain ⟨t, rfl⟩ := VR_int.mp hv; obtain ⟨t', rfl⟩ := VR_int.mp hu
  exact AutoIntOps.iadd_0 (hq _ _ (by simp))) h
theorem iSub (h : K (.int (a - b)) S) : Wp2 X n S (inplaceOp .Sub) (.int a) (.int b) K := op2 (fun A ρ T s v u _ _ hv hu Q E hq => by
  obtain ⟨t, rfl⟩ := VR_int.mp hv; obtain ⟨t', rfl⟩ := VR_int.mp hu
  exact AutoIntOps.isub_0 (hq _ _ (by simp))) h
theorem uNeg (h : K (.int (-a)) S) : Wp1 X n S (unaryOp .USub) (.int a) K := fun A ρ T s v hr hR hv => by
  obtain ⟨t, rfl⟩ := VR_int.mp hv
  exact PySem.P.neg_int (PostG.mk (.toks hR _) h (by simp))
end

/-! ## is -/
noncomputable def Imm : AV → Option Value
  | .none => some .none
  | .bool b => some (.bool b)
  | .val v => some v
  | _ => Option.none
theorem Imm.eq {x : AV} {w : Value} (h : Imm x = some w) {ρ T : List Addr} {hp : Heap} {v : Value} (q : VR X ρ T hp x v) : v = w := by
  cases x <;> simp [Imm] at h <;> subst h
  · exact VR_none.mp q
  · exact VR_bool.mp q
  · exact VR_val.mp q
theorem oIs {x y : AV} {v w : Value} (hx : Imm x = some v) (hy : Imm y = some w) (hp : plainIs v w = true) (h : K (.bool (v == w)) S) : Wp2 X n S (compareOp .Is) x y K := fun A ρ T s a b hr hR ha hb => by
  rw [Imm.eq hx ha, Imm.eq hy hb]
  exact wpAny_is_plain hp (PostG.mk (.refl hR) h (by simp))
theorem oIsNot {x y : AV} {v w : Value} (hx : Imm x = some v) (hy : Imm y = some w) (hp : plainIs v w = true) (h : K (.bool (!(v == w))) S) : Wp2 X n S (compareOp .IsNot) x y K := fun A ρ T s a b hr hR ha hb => by
  rw [Imm.eq hx ha, Imm.eq hy hb]
  exact wpAny_isNot_plain hp (PostG.mk (.refl hR) h (by simp))
noncomputable def NotNone : AV → Prop
  | .none => False
  | .val v => v ≠ .none
  | _ => True
theorem NotNone.ne {x : AV} (h : NotNone x) {ρ T : List Addr} {hp : Heap} {v : Value} (q : VR X ρ T hp x v) : (v == Value.none) = false := by
  refine beq_eq_false_iff_ne.mpr fun e => ?_
  subst e
  cases x <;> simp [NotNone] at h <;> simp [VR] at q
  exact h q.symm
theorem oIsNotNone {x : AV} (hx : NotNone x) (h : K (.bool true) S) : Wp2 X n S (compareOp .IsNot) x .none K := fun A ρ T s v u hr hR hv hu => by
  rw [VR_none.mp hu]
  exact isNot_none (by rw [hx.ne hv]; exact PostG.mk (.refl hR) h (by simp))
end
end Mine
namespace Mine

section
variable {X : Cx} {n : Nat} {ae : AEnv} {S S' : List AO} {ρ T : List Addr} {s : Shared} {K : AV → List AO → Prop} {KB : Bool → List AO → Prop} {KF : AF → List AO → Prop} {KU : Unit → List AO → Prop}

/-! ## slices -/
noncomputable def WpPart (X : Cx) (n : Nat) (ae : AEnv) : Option Expr → List AO → (Option Int → List AO → Prop) → Prop
  | none, S, K => K none S
  | some e, S, K => WpE X n ae S e fun a S1 => ∃ i, a = .int i ∧ K (some i) S1
noncomputable def PartR (i : Option Int) (v : Value) : Prop := match i with
  | none => v = .none
  | some i => ∃ t, v = .int i t
theorem part_sound (e : Option Expr) {A : Around} {ρ T : List Addr} {s : Shared} {env : Env} {S : List AO} {K : Option Int → List AO → Prop} (hr : Room n A) (hR : Rep X S ρ T s) (hE : EnvOk ae ρ env) (h : WpPart X n ae e S K) :
    wpAny X.M A (evalPart e env) (PostG (fun _ _ _ => PartR) X S ρ T s K) No s := by
  cases e with
  | none => exact wpAny_pure (PostG.mk (x := none) (.refl hR) h rfl)
  | some e =>
    refine chain (h A ρ T s env hr hR hE) fun a S1 ρ1 T1 v s1 hK st hv => ?_
    obtain ⟨i, rfl, hK⟩ := hK
    exact PostG.mk (x := some i) st hK (VR_int.mp hv)

/-- a value read by a slice -/
noncomputable def WpSl (X : Cx) (n : Nat) (S : List AO) (a : AV) (lo hi : Option Int) (K : AV → List AO → Prop) : Prop :=
  ∀ A ρ T s v vl vu, Room n A → Rep X S ρ T s → VR X ρ T s.heap a v → PartR lo vl → PartR hi vu → ∀ sl, s.heap.get? sl = some { cls := .type "slice", data := .fields #[vl, vu, .none] } →
    ∃ (Ty id : String), typeLookup (.type Ty) "__getitem__" = pure (some (.builtin id)) ∧ s.TypeIs v Ty ∧ wpAny X.M A (getItem v (.ref sl)) (PostV X S ρ T s K) No s

theorem wSlice {value : Expr} {lower upper : Option Expr} {p pos : Pos} (h : WpE X n ae S value fun a S1 => WpPart X n ae lower S1 fun lo S2 => WpPart X n ae upper S2 fun hi S3 => WpSl X n S3 a lo hi K) : WpE X n ae S (.Subscript value (.Slice lower upper none p) pos) K := fun A ρ T s env hr hR hE => by
  refine Subscript_ (chain (h A ρ T s env hr hR hE) fun a S1 ρ1 T1 v s1 hK st hv => wpAny_Slice (chain (part_sound lower hr st.rep (hE.step st hR) hK) fun lo S2 ρ2 T2 vl s2 hK2 st2 hlo =>
    chain (part_sound upper hr st2.rep (hE.step (st.trans hR st2) hR) hK2) fun hi S3 ρ3 T3 vu s3 hK3 st3 hhi => wpAny_pure ?_))
  have st4 : Step X S3 ρ3 T3 s3 S3 ρ3 T3 { s3 with heap := s3.heap.push { cls := .type "slice", data := .fields #[vl, vu, .none] }, toks := s3.toks } := Step.push st3.rep _ _
  have st03 := (st.trans hR st2).trans hR st3
  have st14 := (st2.trans st.rep st3).trans st.rep st4
  have hv3 := VR.mv (st14.mv st.rep) _ hv
  obtain ⟨Ty, id, hl, hT, hg⟩ := hK3 A ρ3 T3 _ v vl vu hr st4.rep hv3 hlo hhi s3.heap.objs.size (Heap.get?_push_size _ rfl)
  exact tail_item (held := _) hl hT (by with_unfolding_all rfl) (thenG hR (st03.trans hR st4) hg)

theorem PartR.isPart {i : Option Int} {v : Value} (h : PartR i v) : IsPart v i := by
  cases i with
  | none => cases h; exact .none
  | some i => obtain ⟨t, rfl⟩ := h; exact .int ..

noncomputable def pickL (xs : List AV) (lo hi : Option Int) : List AV := (sliceRange (sliceBounds lo hi none xs.length).1 (sliceBounds lo hi none xs.length).2.1 (sliceBounds lo hi none xs.length).2.2).filterMap (xs[·]?)
theorem VRs.pick {h : Heap} {xs : List AV} {vs : List Value} (q : VRs X ρ T h xs vs) : ∀ (ix : List Nat), VRs X ρ T h (ix.filterMap (xs[·]?)) (ix.filterMap (vs[·]?))
  | [] => by simp
  | i :: ix => by
    have ih := VRs.pick q ix
    simp only [List.filterMap_cons]
    cases hx : xs[i]? with
    | none =>
      have : vs[i]? = none := by
        rw [List.getElem?_eq_none_iff] at hx ⊢
        rw [q.length]; exact hx
      rw [this]; exact ih
    | some x =>
      obtain ⟨v, hv, hq⟩ := q.get hx
      rw [hv]
      exact VRs_cons.mpr ⟨v, _, rfl, hq, ih⟩

theorem slice_listAt {A : Around} {xs : List AV} {vs : List Value} {a : Addr} {lo hi : Option Int} {vl vu : Value} (hr : Room n A) (hR : Rep X S ρ T s) (hi' : s.heap.IsList a vs.toArray) (hq : VRs X ρ T s.heap xs vs) (hl : xs.length ≤ sizeLine) (h1 : PartR lo vl) (h2 : PartR hi vu) {sl : Addr}
    (hs : s.heap.get? sl = some { cls := .type "slice", data := .fields #[vl, vu, .none] }) (h : K (.lst (pickL xs lo hi)) S) :
    ∃ (Ty id : String), typeLookup (.type Ty) "__getitem__" = pure (some (.builtin id)) ∧ s.TypeIs (.ref a) Ty ∧ wpAny X.M A (getItem (.ref a) (.ref sl)) (PostV X S ρ T s K) No s := by
  refine ⟨"list", _, slot_list_getitem.lookup, hi'.typeIs, wpAny_getItem_list_slice hi' ⟨_, hs, rfl, rfl⟩ h1.isPart h2.isPart .none (by simp) ?_ (by rw [List.size_toArray, hq.length]; exact hl)⟩
  have st2 : Step X S ρ T s S ρ T { s with heap := s.heap.push { cls := .type "list", data := .seq (slicePick vs.toArray lo hi none) }, toks := s.toks } := Step.push hR _ _
  refine PostG.mk st2 h ?_
  simp only [VR]
  refine ⟨_, (slicePick vs.toArray lo hi none).toList, rfl, hR.fresh, ⟨_, Heap.get?_push_size _ rfl, rfl, _, by simp; rfl⟩, VRs.mv (st2.mv hR) _ ?_⟩
  unfold slicePick pickL
  have : vs.toArray.size = xs.length := by rw [List.size_toArray, hq.length]
  rw [this]
  have := VRs.pick hq (sliceRange (sliceBounds lo hi none xs.length).1 (sliceBounds lo hi none xs.length).2.1 (sliceBounds lo hi none xs.length).2.2)
  simpa using this
theorem slLst {xs : List AV} {lo hi : Option Int} (hl : xs.length ≤ sizeLine) (h : K (.lst (pickL xs lo hi)) S) : WpSl X n S (.lst xs) lo hi K := fun A ρ T s v vl vu hr hR hv h1 h2 sl hs => by
  simp only [VR] at hv
  obtain ⟨a, vs, rfl, ha, hi, hq⟩ := hv
  exact slice_listAt hr hR hi hq hl h1 h2 hs h
theorem slStr {x : Str} {lo hi : Option Int} (h : K (.str (Txt.slice x lo hi)) S) : WpSl X n S (.str x) lo hi K := fun A ρ T s v vl vu hr hR hv h1 h2 sl hs => by
  obtain ⟨hl, t, rfl⟩ := VR_str.mp hv
  have key : ∀ l u : Option (Int × Tok), vl = partValue l → vu = partValue u → l.map (·.1) = lo → u.map (·.1) = hi → wpAny X.M A (getItem (.str x t) (.ref sl)) (PostV X S ρ T s K) No s := by
    rintro l u rfl rfl rfl rfl
    refine wpAny_with_toks (Nat.le_refl _) (wpAny_getItem_str_slice (l := l) (u := u) (st := none) ⟨_, hs, rfl, rfl⟩ rfl
      (post_val_or_str ⟨Nat.le_trans (Txt.slice_le x _ _) hl, fun t' k => ?_⟩))
    intro hk
    exact PostG.mk (.toks hR k hk) h (VR_str.mpr ⟨Nat.le_trans (Txt.slice_le x _ _) hl, _, rfl⟩)
  refine ⟨"str", _, PySem.F.slot_str_getitem.lookup, typeIs_str _ _ _, ?_⟩
  cases lo with
  | none =>
    cases h1
    cases hi with
    | none => cases h2; exact key none none rfl rfl rfl rfl
    | some j => obtain ⟨t2, rfl⟩ := h2; exact key none (some (j, t2)) rfl rfl rfl rfl
  | some i =>
    obtain ⟨t1, rfl⟩ := h1
    cases hi with
    | none => cases h2; exact key (some (i, t1)) none rfl rfl rfl rfl
    | some j => obtain ⟨t2, rfl⟩ := h2; exact key (some (i, t1)) (some (j, t2)) rfl rfl rfl rfl

/-! ## lists added -/
/-- a list, one way or another -/
noncomputable def IsL (S : List AO) (a : AV) (xs : List AV) : Prop := a = .lst xs ∨ ∃ i, a = .obj i ∧ S[i]? = some (.lst xs)
theorem IsL.at {a : AV} {xs : List AV} (l : IsL S a xs) (hR : Rep X S ρ T s) {v : Value} (hv : VR X ρ T s.heap a v) : ∃ b vs, v = .ref b ∧ s.heap.IsList b vs.toArray ∧ VRs X ρ T s.heap xs vs := by
  rcases l with rfl | ⟨i, rfl, hS⟩
  · simp only [VR] at hv
    obtain ⟨b, vs, rfl, _, hi, hq⟩ := hv
    exact ⟨b, vs, rfl, hi, hq⟩
  · simp only [VR] at hv
    obtain ⟨b, rfl, hb⟩ := hv
    obtain ⟨vs, hi, hq⟩ := hR.obj _ _ _ hS hb
    exact ⟨b, vs, rfl, hi.isList, hq⟩
theorem oAddL {a b : AV} {xs ys : List AV} (ha : IsL S a xs) (hb : IsL S b ys) (hl : xs.length + ys.length ≤ sizeLine) (h : K (.lst (xs ++ ys)) S) : Wp2 X n S (binaryOp .Add) a b K := fun A ρ T s v u hr hR hv hu => by
  obtain ⟨l, vs, rfl, hi, hq⟩ := ha.at hR hv
  obtain ⟨l2, ws, rfl, hi2, hq2⟩ := hb.at hR hu
  obtain ⟨⟨cls, dd, data, sl⟩, ho, hc, n1, hd⟩ := id hi
  obtain ⟨⟨cls2, dd2, data2, sl2⟩, ho2, hc2, n2, hd2⟩ := id hi2
  simp only at hc hd hc2 hd2
  subst hc hd hc2 hd2
  have e : vs.toArray ++ ws.toArray = (vs ++ ws).toArray := by simp
  refine concat_meets ⟨_, ho, rfl⟩ ⟨_, ho2, rfl⟩ noFill_list_add seq_list_add PySem.F.slot_list_add PySem.F.entry_list_add (PySem.F.args_list_add_2 _ _) (list_addW l l2 vs.toArray ws.toArray n1 n2 dd dd2 sl sl2 (by rw [List.size_toArray, List.size_toArray, hq.length, hq2.length]; exact hl)) ⟨ho, ho2, ?_⟩
  rw [e]
  have st2 : Step X S ρ T s S ρ T { s with heap := s.heap.push { cls := .type "list", data := .seq (vs ++ ws).toArray }, toks := s.toks } := Step.push hR _ _
  refine PostG.mk st2 h ?_
  simp only [VR]
  exact ⟨_, vs ++ ws, rfl, hR.fresh, ⟨_, Heap.get?_push_size _ rfl, rfl, _, rfl⟩, VRs.mv (st2.mv hR) _ (VRs.app hq hq2)⟩

/-! ## dicts -/
noncomputable def IsD (S : List AO) (a : AV) (kvs : List (Str × AV)) : Prop := a = .dct kvs ∨ ∃ i, a = .obj i ∧ S[i]? = some (.dct kvs)
theorem IsD.at {a : AV} {kvs : List (Str × AV)} (l : IsD S a kvs) (hR : Rep X S ρ T s) {v : Value} (hv : VR X ρ T s.heap a v) : ∃ b vs, v = .ref b ∧ (b == sysModules) = false ∧ s.heap.DictOf (PySem.strKind X.prog X.w) b vs ∧ VRk X ρ T s.heap kvs vs := by
  rcases l with rfl | ⟨i, rfl, hS⟩
  · simp only [VR] at hv
    obtain ⟨b, vs, rfl, _, hy, hi, hq⟩ := hv
    exact ⟨b, vs, rfl, hy, hi, hq⟩
  · simp only [VR] at hv
    obtain ⟨b, rfl, hb⟩ := hv
    obtain ⟨vs, hi, hq⟩ := hR.obj _ _ _ hS hb
    exact ⟨b, vs, rfl, hR.nosys b (List.mem_of_getElem? hb), hi, hq⟩

theorem VRk.val {h : Heap} {x : Str} : ∀ {kvs : List (Str × AV)} {vs : List (Str × Value)}, VRk X ρ T h kvs vs → match kvs.lookup x with
    | some y => ∃ v, valueAt vs x = some v ∧ VR X ρ T h y v
    | none => valueAt vs x = none
  | [], _, q => by simp only [VRk] at q; subst q; simp [valueAt]
  | (k, y) :: r, _, q => by
    simp only [VRk] at q
    obtain ⟨v, vs', rfl, h1, h2⟩ := q
    have ih := VRk.val (x := x) h2
    by_cases hx : x = k
    · subst hx
      simp only [List.lookup_cons, beq_self_eq_true]
      exact ⟨v, by simp [valueAt], h1⟩
    · have hk : ¬ k = x := fun e => hx e.symm
      have e1 : (x == k) = false := beq_eq_false_iff_ne.mpr hx
      simp only [List.lookup_cons, e1]
      have e2 : valueAt ((k, v) :: vs') x = valueAt vs' x := by simp [valueAt, List.find?_cons, hk]
      rw [e2]; exact ih

theorem xDct {slice : Expr} {a : AV} {kvs : List (Str × AV)} {x : Str} {y : AV} (hd : IsD S a kvs) (hy : kvs.lookup x = some y) (h : K y S) : WpX X n S slice a (.str x) K := fun A ρ T s v u hr hR hv hu => by
  obtain ⟨b, vs, rfl, _, hi, hq⟩ := hd.at hR hv
  obtain ⟨hl, t, rfl⟩ := VR_str.mp hu
  have := VRk.val (x := x) hq
  rw [hy] at this
  obtain ⟨z, hz, hv⟩ := this
  exact ⟨"dict", _, slot_dict_getitem.lookup, hi.typeIs, wpAny_getItem_of (strKind_is _ _ x t) hi.mapOf hz (PostG.mk (.toks hR _) h hv)⟩

theorem oInD {a : AV} {kvs : List (Str × AV)} {x : Str} (hd : IsD S a kvs) (h : K (.bool (kvs.lookup x).isSome) S) : Wp2 X n S (compareOp .In) (.str x) a K := fun A ρ T s u v hr hR hu hv => by
  obtain ⟨b, vs, rfl, hy, hi, hq⟩ := hd.at hR hv
  obtain ⟨hl, t, rfl⟩ := VR_str.mp hu
  refine wpAny_in_of (strKind_is _ _ x t) hy hi.mapOf (PostG.mk (.toks hR _) h ?_)
  have := VRk.val (x := x) hq
  cases hk : kvs.lookup x with
  | none => rw [hk] at this; simp [this]
  | some y => rw [hk] at this; obtain ⟨z, hz, _⟩ := this; simp [hz]

/-- d[k] = v -/
noncomputable def WpSet (X : Cx) (n : Nat) (S : List AO) (o i v : AV) (K : Unit → List AO → Prop) : Prop :=
  ∀ A ρ T s ov iv vv, Room n A → Rep X S ρ T s → VR X ρ T s.heap o ov → VR X ρ T s.heap i iv → VR X ρ T s.heap v vv → wpAny X.M A (setItem ov iv vv) (PostU X S ρ T s K) No s
theorem sSet {o i value : Expr} {p pos : Pos} (h : WpE X n ae S value fun v S1 => WpE X n ae S1 o fun a S2 => WpE X n ae S2 i fun b S3 => WpSet X n S3 a b v fun _ S4 => KF .next S4)
    (hs : swapsWith value (some (.Subscript o i p)) pos.line (dumb ae.scope) = pure false := by rfl) : WpS X n ae S (.Assign [.Subscript o i p] value pos) KF := fun A ρ T s env hr hR hE => by
  refine wpAny_Assign_Subscript (chain (h A ρ T s env hr hR hE) fun v S1 ρ1 T1 vv s1 hK st hv => chain (hK A ρ1 T1 s1 env hr st.rep (hE.step st hR)) fun a S2 ρ2 T2 av s2 hK2 st2 ha =>
    chain (hK2 A ρ2 T2 s2 env hr st2.rep (hE.step (st.trans hR st2) hR)) fun b S3 ρ3 T3 bv s3 hK3 st3 hb => ?_) (by rw [← hE.scope] at hs; exact hs)
  exact chain (hK3 A ρ3 T3 s3 av bv vv hr st3.rep (VR.mv (st3.mv st2.rep) _ ha) hb (VR.mv ((st2.trans st.rep st3).mv st.rep) _ hv)) fun _ S4 ρ4 T4 _ s4 hK4 st4 _ => PostG.mk (((st.trans hR st2).trans hR st3).trans hR st4) hK4 rfl

theorem setD {i : Nat} {kvs : List (Str × AV)} {x : Str} {y : AV} (hS : S[i]? = some (.dct kvs)) (hl : kvs.length ≤ sizeLine) (h : KU () (S.set i (.dct (put x y kvs)))) : WpSet X n S (.obj i) (.str x) y KU := fun A ρ T s ov iv vv hr hR ho hi hv => by
  simp only [VR] at ho
  obtain ⟨a, rfl, ha⟩ := ho
  obtain ⟨hx, t, rfl⟩ := VR_str.mp hi
  obtain ⟨vs, hd, hq⟩ := hR.obj _ _ _ hS ha
  have hn : (vs.map (·.1)).Nodup := let ⟨_, _, _, _, _, _, _, _, hn⟩ := hd; hn
  refine wpAny_setItem_pairs (strKind_is _ _ x t) hd (fun h' hd' hs => ?_) (by rw [hq.length]; exact hl)
  have mv := hR.mvSelf (List.mem_of_getElem? ha) hs.extBut
  exact PostG.mk (x := ()) (.upd hR hS ha (by intro q; cases q) (by intro q; cases q) hs.extBut (ao' := .dct (put x y kvs)) (putOR (VR.mv mv _ hv) (VRk.mv mv _ hq) hd' hn) (let ⟨o, _, _, ho, _⟩ := hd'; ⟨o, ho⟩) _) h trivial
end
end Mine
namespace Mine

section
variable {X : Cx} {n : Nat} {ae : AEnv} {S S' : List AO} {ρ T : List Addr} {s : Shared} {K : AV → List AO → Prop} {KB : Bool → List AO → Prop} {KF : AF → List AO → Prop} {KU : Unit → List AO → Prop}

theorem VRs.one_inv {h : Heap} {x : AV} {vs : List Value} (q : VRs X ρ T h [x] vs) : ∃ v, vs = [v] ∧ VR X ρ T h x v := by
  obtain ⟨v, r, rfl, h1, h2⟩ := VRs_cons.mp q
  cases VRs_nil.mp h2
  exact ⟨v, rfl, h1⟩
theorem VRs.two_inv {h : Heap} {x y : AV} {vs : List Value} (q : VRs X ρ T h [x, y] vs) : ∃ v u, vs = [v, u] ∧ VR X ρ T h x v ∧ VR X ρ T h y u := by
  obtain ⟨v, r, rfl, h1, h2⟩ := VRs_cons.mp q
  obtain ⟨u, rfl, h3⟩ := h2.one_inv
  exact ⟨v, u, rfl, h1, h3⟩
theorem VRk.nil_inv {h : Heap} {ks : List (Str × Value)} (q : VRk X ρ T h [] ks) : ks = [] := by simpa [VRk] using q

/-- a call with one argument -/
theorem call1 {f : Value} {x : AV} (h : ∀ A ρ T s v, Room n A → Rep X S ρ T s → VR X ρ T s.heap x v → wpAny X.M A (call f [v]) (PostV X S ρ T s K) No s) : WpC X n S (.val f) [x] [] K := fun A ρ T s g vs ks hr hR hg hv hk => by
  cases VR_val.mp hg
  cases hk.nil_inv
  obtain ⟨v, rfl, hq⟩ := hv.one_inv
  exact h A ρ T s v hr hR hq
theorem call2 {f : Value} {x y : AV} (h : ∀ A ρ T s v u, Room n A → Rep X S ρ T s → VR X ρ T s.heap x v → VR X ρ T s.heap y u → wpAny X.M A (call f [v, u]) (PostV X S ρ T s K) No s) : WpC X n S (.val f) [x, y] [] K := fun A ρ T s g vs ks hr hR hg hv hk => by
  cases VR_val.mp hg
  cases hk.nil_inv
  obtain ⟨v, u, rfl, hq, hu⟩ := hv.two_inv
  exact h A ρ T s v u hr hR hq hu

/-! ## strs -/
section
variable {x y : Str}
theorem kLower (hf : Builtin.Str.tooLong (Txt.lower x).length = false) (h : K (.str (Txt.lower x)) S) : WpC X n S (.val (.builtin "str.lower")) [.str x] [] K := call1 fun A ρ T s v hr hR hv => by
  obtain ⟨_, t, rfl⟩ := VR_str.mp hv
  exact SC.lower hf (PostG.mk (.toks hR _) h (VR_str.mpr ⟨fit_le hf, _, rfl⟩))
theorem kUpper (hf : Builtin.Str.tooLong (Txt.upper x).length = false) (h : K (.str (Txt.upper x)) S) : WpC X n S (.val (.builtin "str.upper")) [.str x] [] K := call1 fun A ρ T s v hr hR hv => by
  obtain ⟨_, t, rfl⟩ := VR_str.mp hv
  exact SC.upper hf (PostG.mk (.toks hR _) h (VR_str.mpr ⟨fit_le hf, _, rfl⟩))
theorem kStarts (h : K (.bool (Txt.startswith x y)) S) : WpC X n S (.val (.builtin "str.startswith")) [.str x, .str y] [] K := call2 fun A ρ T s v u hr hR hv hu => by
  obtain ⟨_, t, rfl⟩ := VR_str.mp hv
  obtain ⟨_, t', rfl⟩ := VR_str.mp hu
  exact SC.startswith (PostG.mk (.refl hR) h (by simp))
theorem kEnds (h : K (.bool (Txt.endswith x y)) S) : WpC X n S (.val (.builtin "str.endswith")) [.str x, .str y] [] K := call2 fun A ρ T s v u hr hR hv hu => by
  obtain ⟨_, t, rfl⟩ := VR_str.mp hv
  obtain ⟨_, t', rfl⟩ := VR_str.mp hu
  exact SC.endswith (PostG.mk (.refl hR) h (by simp))

theorem strs_of {h : Heap} : ∀ {ts : List Str} {vs : List Value}, VRs X ρ T h (ts.map .str) vs → ∃ l : List (Str × Tok), vs = strValues l ∧ l.map (·.1) = ts
  | [], vs, q => ⟨[], by simpa [strValues] using q, rfl⟩
  | t :: ts, vs, q => by
    rw [List.map_cons] at q
    obtain ⟨v, r, rfl, h1, h2⟩ := VRs_cons.mp q
    obtain ⟨_, u, rfl⟩ := VR_str.mp h1
    obtain ⟨l, rfl, e⟩ := strs_of h2
    exact ⟨(t, u) :: l, rfl, by simp [e]⟩
theorem VRs_strs {h : Heap} : ∀ {l : List (Str × Tok)}, (∀ p ∈ l, p.1.length ≤ sizeLine) → VRs X ρ T h ((l.map (·.1)).map .str) (strValues l)
  | [], _ => by simp [strValues]
  | p :: l, hl => VRs_cons.mpr ⟨.str p.1 p.2, strValues l, rfl, VR_str.mpr ⟨hl p (.head _), _, rfl⟩, VRs_strs fun q hq => hl q (.tail _ hq)⟩

theorem kJoin {sep : Str} {a : AV} {ts : List Str} (ha : IsL S a (ts.map .str)) (hok : JoinOk sep ts = true) (h : K (.str (Txt.join sep ts)) S) : WpC X n S (.val (.builtin "str.join")) [.str sep, a] [] K := call2 fun A ρ T s v u hr hR hv hu => by
  obtain ⟨_, t, rfl⟩ := VR_str.mp hv
  obtain ⟨b, vs, rfl, hi, hq⟩ := ha.at hR hu
  obtain ⟨l, rfl, e⟩ := strs_of hq
  exact wpAny_with_toks (Nat.le_refl _) (SC.join hi e hok fun t' k hk => PostG.mk (.toks hR k hk) h (VR_str.mpr ⟨joinOk_length hok, _, rfl⟩))

theorem kSplit (hy : (y.length == 0) = false) (hn : (Builtin.Str.partsBetween x (Builtin.Str.occurrences x y 0 x.length (x.length + 1)) y.length).length ≤ sizeLine) (hp : ∀ p ∈ Txt.split x y, p.length ≤ sizeLine) (h : K (.obj S.length) (S ++ [.lst ((Txt.split x y).map .str)])) :
    WpC X n S (.val (.builtin "str.split")) [.str x, .str y] [] K := call2 fun A ρ T s v u hr hR hv hu => by
  obtain ⟨hx, t, rfl⟩ := VR_str.mp hv
  obtain ⟨_, t', rfl⟩ := VR_str.mp hu
  have fin : ∀ (l : List (Str × Tok)) (tk : Nat), l.map (·.1) = Txt.split x y → s.toks ≤ tk → PostV X S ρ T s K (.ref s.heap.objs.size) { s with heap := s.heap.push { cls := .type "list", data := .seq (strValues l).toArray }, toks := tk } := fun l tk e hk => by
    have hpu : (s.heap.push { cls := .type "list", data := .seq (strValues l).toArray }).get? s.heap.objs.size = some { cls := .type "list", data := .seq (strValues l).toArray } := Heap.get?_push_size _ rfl
    have hkp : ∀ b o, s.heap.get? b = some o → (s.heap.push { cls := .type "list", data := .seq (strValues l).toArray }).get? b = some o := fun b o e => Heap.get?_push_of_some _ e
    refine PostG.mk (Step.new (ao := .lst ((Txt.split x y).map .str)) hR hkp (newAddr _) (hR.nosysOf (Nat.le_refl _)) ⟨_, hpu⟩ ⟨strValues l, ⟨_, hpu⟩, ?_⟩ tk hk) h ?_
    · rw [← e]
      exact VRs_strs fun p hp' => hp p.1 (by rw [← e]; exact List.mem_map_of_mem hp')
    · simp only [VR]
      exact ⟨_, rfl, by rw [← hR.len]; simp⟩
  cases h1 : (decide (x.length < y.length) || decide (Builtin.Str.strKind x < Builtin.Str.strKind y))
  · cases hf : (Builtin.Str.occurrences x y 0 x.length (x.length + 1)).isEmpty
    · refine call_meets PySem.F.slot_str_split (typeIs_str _ _ _) PySem.F.entry_str_split (PySem.F.args_str_split_2 _ _) (meets_str_split_sep x y t t' h1 hy hf hx hn) ?_
      show PostV X S ρ T s K _ { s with toks := _, heap := s.heap.push { cls := .type "list", data := .seq (strsFrom s.toks (Builtin.Str.partsBetween x (Builtin.Str.occurrences x y 0 x.length (x.length + 1)) y.length)).toArray } }
      rw [strsFrom_eq]
      exact fin (numbered s.toks _) _ ((numbered_texts _ _).trans ((if_neg (ne_true_of_eq_false h1)).trans (if_neg (ne_true_of_eq_false hf))).symm) (by first | exact Nat.le_refl _ | exact Nat.le_add_right _ _)
    · exact call_meets PySem.F.slot_str_split (typeIs_str _ _ _) PySem.F.entry_str_split (PySem.F.args_str_split_2 _ _) (meets_str_split_not_found x y t t' h1 hy hf)
        (fin [(x, t)] s.toks ((if_neg (ne_true_of_eq_false h1)).trans (if_pos hf)).symm (Nat.le_refl _))
  · exact call_meets PySem.F.slot_str_split (typeIs_str _ _ _) PySem.F.entry_str_split (PySem.F.args_str_split_2 _ _) (meets_str_split_cannot_occur x y t t' h1) (fin [(x, t)] s.toks (if_pos h1).symm (Nat.le_refl _))
end
end
end Mine
namespace Mine

section
variable {X : Cx} {n : Nat} {ae : AEnv} {S S' : List AO} {ρ T : List Addr} {s : Shared} {K : AV → List AO → Prop} {KB : Bool → List AO → Prop} {KF : AF → List AO → Prop} {KU : Unit → List AO → Prop}

/-- text.replace('..', '..') -/
theorem wRepl {o : Expr} {apos pos p1 p2 : Pos} {y z : Str} {k1 k2 : Nat} {pl : Env → Sem Bool} (h : WpE X n ae S o fun a S1 => ∃ x, a = .str x ∧ x.length ≤ 65535 ∧ z.length ≤ 14 ∧ (y == z) = false ∧ (Txt.replace x y z).length ≤ sizeLine ∧ K (.str (Txt.replace x y z)) S1)
    (he : ∀ env, eval (.Call (.Attribute o "replace" apos) [.Constant (.str y) k1 p1, .Constant (.str z) k2 p2] [] pos) env = (do
      let ov ← eval o env
      standAt apos.atName
      let (f, first) ← holding [ov] (getMethod ov "replace" (pl env))
      callWith pos f first (backTo pos (starEach [.Constant (.str y) k1 p1, .Constant (.str z) k2 p2] env)) (backToKw pos (keywordEach [] env))) := by intro _; rfl) :
    WpE X n ae S (.Call (.Attribute o "replace" apos) [.Constant (.str y) k1 p1, .Constant (.str z) k2 p2] [] pos) K := fun A ρ T s env hr hR hE => by
  refine methodCall_KW (pl := pl env) (chain (h A ρ T s env hr hR hE) fun a S1 ρ1 T1 v s1 hK st hv => ?_) (he env)
  obtain ⟨x, rfl, hx, hz, hyz, hlen, hK⟩ := hK
  obtain ⟨_, t, rfl⟩ := VR_str.mp hv
  refine getMethod_builtin (typeIs_str _ _ _) PySem.F.plainAttrs_str PySem.F.slot_str_replace PySem.F.type_str_replace (fun _ e => nomatch e) ?_
  refine callWith_of (P := fun _ => True) rfl (fun _ _ => ⟨.machine, .inr (.inl rfl), Looks.of_pure rfl⟩) (evalArgs_any rfl rfl ?_)
  refine Calls.spliced_cons (Calls.Constant_str (k := k1) (pos := p1) (Calls.spliced_cons (Calls.Constant_str (k := k2) (pos := p2) (Calls.spliced_nil (wpAny_pure ⟨trivial, ?_⟩)))))
  have h1 : 1 ≤ s1.toks := st.rep.toks
  refine wpAny_with_toks (n := s1.toks) (by show s1.toks ≤ s1.toks + 1 + 1; omega) (SC.replaceW (by show s1.toks ≠ 0; omega) (by show s1.toks + 1 ≠ 0; omega) (by show s1.toks ≠ s1.toks + 1; omega) hyz (by omega) hz fun t' k hk => ?_)
  exact PostG.mk (st.trans hR (.toks st.rep k hk)) hK (VR_str.mpr ⟨hlen, _, rfl⟩)

theorem gives_find4 (x y : Str) (i j : Int) (t u v w : Tok) : Gives (Builtin.«str.find» ⟨[.str x t, .str y u, .int i v, .int j w], []⟩)
    (.int (match Builtin.Str.occurrences x y (fromIndex x.length i) (min (fromIndex x.length j) x.length) 1 with | k :: _ => (k : Int) | [] => -1)) := by
  show Gives (match Builtin.Str.occurrences x y (fromIndex x.length i) (min (fromIndex x.length j) x.length) 1 with | k :: _ => retInt k | [] => (do rule "str.find.not-found"; retInt (-1))) _
  cases Builtin.Str.occurrences x y (fromIndex x.length i) (min (fromIndex x.length j) x.length) 1 with
  | nil => exact .rule (.of_eq rfl)
  | cons k _ => exact .of_eq rfl
noncomputable def find4 (x y : Str) (i j : Int) : Int := match Builtin.Str.occurrences x y (fromIndex x.length i) (min (fromIndex x.length j) x.length) 1 with | k :: _ => (k : Int) | [] => -1
theorem kFind4 {x y : Str} {i j : Int} (h : K (.int (find4 x y i j)) S) : WpC X n S (.val (.builtin "str.find")) [.str x, .str y, .int i, .int j] [] K := fun A ρ T s g vs ks hr hR hg hv hk => by
  cases VR_val.mp hg
  cases hk.nil_inv
  obtain ⟨v1, r1, rfl, h1, hv⟩ := VRs_cons.mp hv
  obtain ⟨v2, r2, rfl, h2, hv⟩ := VRs_cons.mp hv
  obtain ⟨v3, v4, rfl, h3, h4⟩ := hv.two_inv
  obtain ⟨_, t, rfl⟩ := VR_str.mp h1
  obtain ⟨_, u, rfl⟩ := VR_str.mp h2
  obtain ⟨t3, rfl⟩ := VR_int.mp h3
  obtain ⟨t4, rfl⟩ := VR_int.mp h4
  exact call_gives PySem.F.slot_str_find (typeIs_str _ _ _) PySem.F.entry_str_find (PySem.F.args_str_find_4 _ _ _ _) (gives_find4 x y i j t u t3 t4) (PostG.mk (.toks hR _) h (VR_int.mpr ⟨_, rfl⟩))

/-! ## methods of lists and dicts -/
theorem mObjL {id : String} {name : Str} {i : Nat} {xs : List AV} {KM : Value × List AV → List AO → Prop} (hS : S[i]? = some (.lst xs)) (slot : Slot "list" name id) (hty : typeOf (.builtin id) = pure (.type "method_descriptor")) (h : KM (.builtin id, [.obj i]) S) : WpM X n S name (.obj i) KM :=
  mBuiltin (fun ρ T s v hR hv => by
    simp only [VR] at hv
    obtain ⟨a, rfl, ha⟩ := hv
    obtain ⟨vs, hi, hq⟩ := hR.obj _ _ _ hS ha
    refine ⟨hi.isList.typeIs, fun b e => ?_⟩
    cases e
    obtain ⟨m, hm⟩ := hi
    exact ⟨_, hm, rfl⟩) PySem.F.plainAttrs_list slot hty h
theorem mDct {id : String} {name : Str} {a : AV} {kvs : List (Str × AV)} {KM : Value × List AV → List AO → Prop} (hd : IsD S a kvs) (slot : Slot "dict" name id) (hty : typeOf (.builtin id) = pure (.type "method_descriptor")) (h : KM (.builtin id, [a]) S) : WpM X n S name a KM :=
  mBuiltin (fun ρ T s v hR hv => by
    obtain ⟨b, vs, rfl, _, hi, hq⟩ := hd.at hR hv
    exact ⟨hi.typeIs, hi.mapOf.noDict⟩) PySem.F.plainAttrs_dict slot hty h
theorem mAppend {i : Nat} {xs : List AV} {KM : Value × List AV → List AO → Prop} (hS : S[i]? = some (.lst xs)) (h : KM (.builtin "list.append", [.obj i]) S) : WpM X n S "append" (.obj i) KM := mObjL hS PySem.slot_list_append type_list_append h

theorem kAppend {i : Nat} {xs : List AV} {y : AV} (hS : S[i]? = some (.lst xs)) (hl : xs.length ≤ sizeLine) (h : K .none (S.set i (.lst (xs ++ [y])))) : WpC X n S (.val (.builtin "list.append")) [.obj i, y] [] K := call2 fun A ρ T s v u hr hR hv hu => by
  simp only [VR] at hv
  obtain ⟨a, rfl, ha⟩ := hv
  obtain ⟨vs, hi, hq⟩ := hR.obj _ _ _ hS ha
  refine wpAny_list_append_plain hi (fun h' hl' hs => ?_) (by rw [List.size_toArray, hq.length]; exact hl)
  have mv := hR.mvSelf (List.mem_of_getElem? ha) hs.extBut
  exact PostG.mk (.upd hR hS ha (by intro q; cases q) (by intro q; cases q) hs.extBut (ao' := .lst (xs ++ [y])) ⟨vs ++ [u], by simpa using hl', VRs.app (VRs.mv mv _ hq) (VRs.one (VR.mv mv _ hu))⟩ (let ⟨_, ho⟩ := hl'; ⟨_, ho⟩) s.toks) h (by simp)

theorem kGet2 {a d : AV} {kvs : List (Str × AV)} {x : Str} (hd : IsD S a kvs) (h : K ((kvs.lookup x).getD d) S) : WpC X n S (.val (.builtin "dict.get")) [a, .str x, d] [] K := fun A ρ T s g vs ks hr hR hg hv hk => by
  cases VR_val.mp hg
  cases hk.nil_inv
  obtain ⟨v1, r1, rfl, h1, hv⟩ := VRs_cons.mp hv
  obtain ⟨v2, v3, rfl, h2, h3⟩ := hv.two_inv
  obtain ⟨b, vs, rfl, hy, hi, hq⟩ := hd.at hR h1
  obtain ⟨_, t, rfl⟩ := VR_str.mp h2
  refine call_meetsIn PySem.F.slot_dict_get hi.typeIs PySem.F.entry_dict_get (PySem.F.args_dict_get_3 _ _ _) (meets_dict_get_default (PySem.strKind X.prog X.w) b (PySem.strKind_is _ _ x t) hy v3) ⟨_, hi.mapOf, PostG.mk (.toks hR _) h ?_⟩
  have := VRk.val (x := x) hq
  cases hk : kvs.lookup x with
  | none => rw [hk] at this; rw [this]; exact h3
  | some y => rw [hk] at this; obtain ⟨z, hz, hv⟩ := this; rw [hz]; exact hv

/-! ## functions -/
theorem kLenL {a : AV} {xs : List AV} (ha : IsL S a xs) (hl : xs.length ≤ sizeLine) (h : K (.int xs.length) S) : WpC X n S (.val (.builtin "len")) [a] [] K := call1 fun A ρ T s v hr hR hv => by
  obtain ⟨b, vs, rfl, hi, hq⟩ := ha.at hR hv
  rw [sizeLine_eq] at hl
  have e : vs.toArray.size = xs.length := by rw [List.size_toArray, hq.length]
  exact Calls.call_len_list hi (by rw [e]; omega) (PostG.mk (.toks hR _) h (VR_int.mpr ⟨_, by rw [e]⟩))
theorem kIntI {i : Int} (h : K (.int i) S) : WpC X n S (.val (.type "int")) [.int i] [] K := call1 fun A ρ T s v hr hR hv => by
  obtain ⟨t, rfl⟩ := VR_int.mp hv
  exact call_int_int (PostG.mk (.refl hR) h (VR_int.mpr ⟨_, rfl⟩))
theorem kStrI {i : Int} (hi : i.natAbs.log2 < 1920) (h : K (.str (toString i)) S) : WpC X n S (.val (.type "str")) [.int i] [] K := call1 fun A ρ T s v hr hR hv => by
  obtain ⟨t, rfl⟩ := VR_int.mp hv
  exact PySem.P.str_of_int hi (PostG.mk (.toks hR _) h (VR_str.mpr ⟨int_text_fits hi, _, rfl⟩))
theorem kTypeS {x : Str} (h : K (.val (.type "str")) S) : WpC X n S (.val (.type "type")) [.str x] [] K := call1 fun A ρ T s v hr hR hv => by
  obtain ⟨_, t, rfl⟩ := VR_str.mp hv
  exact call_type_of (typeIs_str _ _ _) (by decide) (PostG.mk (.refl hR) h (by simp))
theorem kTypeL {a : AV} {xs : List AV} (ha : IsL S a xs) (h : K (.val (.type "list")) S) : WpC X n S (.val (.type "type")) [a] [] K := call1 fun A ρ T s v hr hR hv => by
  obtain ⟨b, vs, rfl, hi, hq⟩ := ha.at hR hv
  exact call_type_of hi.typeIs (by decide) (PostG.mk (.refl hR) h (by simp))

theorem ints_of {h : Heap} : ∀ {ns : List Int} {vs : List Value}, VRs X ρ T h (ns.map AV.int) vs → ∀ (j : Nat) (v : Value), vs[j]? = some v → ∃ t, v = .int (ns.getD j 0) t
  | [], vs, q, j, v, e => by cases VRs_nil.mp q; simp at e
  | i :: ns, vs, q, j, v, e => by
    rw [List.map_cons] at q
    obtain ⟨u, r, rfl, h1, h2⟩ := VRs_cons.mp q
    obtain ⟨t, rfl⟩ := VR_int.mp h1
    cases j with
    | zero => simp at e; subst e; exact ⟨t, by simp⟩
    | succ j => simp at e; obtain ⟨t', h'⟩ := ints_of h2 j v e; exact ⟨t', by simpa using h'⟩

theorem preSum_getD (ns : List Int) : ∀ k, preSum (fun j => ns.getD j 0) k = (ns.take k).sum
  | 0 => by simp [preSum]
  | k + 1 => by
    rw [preSum, preSum_getD ns k]
    rw [List.take_add_one, List.sum_append]
    cases h : ns[k]? <;> simp [List.getD_eq_getElem?_getD, h]

theorem kSum {a : AV} {ns : List Int} (ha : IsL S a (ns.map AV.int)) (h : K (.int ns.sum) S) : WpC X n S (.val (.builtin "sum")) [a] [] K := call1 fun A ρ T s v hr hR hv => by
  obtain ⟨b, vs, rfl, hi, hq⟩ := ha.at hR hv
  have hlt : b < s.heap.objs.size := by obtain ⟨o, ho, _⟩ := hi; exact Heap.lt_size ho
  have hh : A.in1.handled = none := hr.handled
  refine wpAny_with_toks (Nat.le_refl _) (call_sum_walkG (wpAny_pyIter_list hi ⟨s.heap.objs.size, _, _, _, _, _, fun j => ns.getD j 0, rfl, Walks.list hh s.heap.objs.size b (Nat.ne_of_lt hlt) vs.toArray, ⟨⟨_, Heap.get?_push_size _ rfl, rfl, rfl⟩, hi.at fun o e => Heap.get?_push_of_some _ e⟩, ?_, ?_, ?_⟩))
  · intro c hc
    rw [Heap.size_push]
    rcases List.mem_cons.mp hc with rfl | hc
    · exact Nat.lt_succ_self _
    · rw [List.mem_singleton.mp hc]; exact Nat.lt_succ_of_lt hlt
  · intro j v hv
    exact ints_of hq j v (by simpa using hv)
  · intro h' tk t' hk hn
    refine PostG.mk (.ext hR (fun c o e => hk c o (fun q => by rw [List.mem_singleton.mp q] at e; exact absurd (Heap.lt_size e) (Nat.lt_irrefl _)) (Heap.get?_push_of_some _ e)) ⟨rfl, rfl, rfl⟩ hn) h (VR_int.mpr ⟨t', ?_⟩)
    rw [preSum_getD, List.size_toArray, hq.length, List.length_map, List.take_length]
end
end Mine
namespace Mine

/-- stores of the parameters -/
noncomputable def WpBinds (X : Cx) (n : Nat) (ae : AEnv) : List (Str × AV) → List AO → (Unit → List AO → Prop) → Prop
  | [], S, K => K () S
  | (t, x) :: r, S, K => WpN X n ae S t x fun _ S1 => WpBinds X n ae r S1 K
/-- the parameters bound -/
noncomputable def Binds (X : Cx) (n : Nat) (S : List AO) (fd : FuncData) (xs : List AV) (kw : List (Str × AV)) (K : List (Str × AV) → List AO → Prop) : Prop :=
  ∀ A ρ T s vs ks, Room n A → Rep X S ρ T s → VRs X ρ T s.heap xs vs → VRk X ρ T s.heap kw ks → wpAny X.M A (bindArgs fd ⟨vs, ks⟩) (PostG (VRk X) X S ρ T s K) No s

noncomputable def fEnv (scope : Scope) (m : Nat) : AEnv := ⟨scope, m, cellsFrom (m + 1) scope.names []⟩

section
variable {X : Cx} {n : Nat} {ae : AEnv} {S S' : List AO} {ρ T : List Addr} {s : Shared} {K : AV → List AO → Prop} {KB : Bool → List AO → Prop} {KF : AF → List AO → Prop} {KU : Unit → List AO → Prop}

theorem binds_sound {f : Str × Value → PUnit → Sem (ForInStep PUnit)} {env : Env} (hf : ∀ n v u, f (n, v) u = (do storeName env n v; pure (.yield ⟨⟩))) : ∀ (bs : List (Str × AV)) {A : Around} {ρ T : List Addr} {s : Shared} {vs : List (Str × Value)} {S : List AO}, Room n A → Rep X S ρ T s → EnvOk ae ρ env → VRk X ρ T s.heap bs vs → WpBinds X n ae bs S KU →
    wpAny X.M A (forIn vs ⟨⟩ f) (PostG (fun _ _ _ (_ : Unit) (_ : PUnit) => True) X S ρ T s KU) No s
  | [], A, ρ, T, s, vs, S, hr, hR, hE, hv, h => by
    simp only [VRk] at hv; subst hv
    rw [List.forIn_nil]; exact wpAny_pure (PostG.mk (x := ()) (.refl hR) h trivial)
  | (t, x) :: r, A, ρ, T, s, vs, S, hr, hR, hE, hv, h => by
    simp only [VRk] at hv
    obtain ⟨v, vs', rfl, h1, h2⟩ := hv
    rw [List.forIn_cons, hf]
    have h : WpN X n ae S t x fun _ S1 => WpBinds X n ae r S1 KU := h
    refine wpAny_bind (wpAny_bind (chain (h A ρ T s env v hr hR hE h1) fun _ S1 ρ1 T1 _ s1 hK st _ => wpAny_pure ?_))
    exact thenG hR st (binds_sound hf r hr st.rep (hE.step st hR) (VRk.mv (st.mv hR) _ h2) hK)

/-- the frame of a function -/
theorem frame_sound {scope : Scope} {bs : List (Str × AV)} {vs : List (Str × Value)} {A : Around} {qual : Str} {func : Option Addr} {code : Value} {Q : Env → Shared → Prop} {E : Value → Shared → Prop} (hk : scope.kind = .function) (hr : Room n A) (hR : Rep X S ρ T s) (hv : VRk X ρ T s.heap bs vs)
    (h : WpBinds X n (fEnv scope S.length) bs (S ++ (.ns [] :: cellAOs scope.names)) KU)
    (hQ : ∀ env S1 ρ1 T1 s1, KU () S1 → Step X S ρ T s S1 ρ1 T1 s1 → EnvOk (fEnv scope S.length) ρ1 env → Q env s1) : wpAny X.M A (newFunctionEnv scope mainGlobals [] vs qual func code none builtinsNs) Q E s := by
  simp only [newFunctionEnv, Option.isSome_none, Bool.false_eq_true, if_false]
  refine wpAny_bind (wpAny_alloc ?_)
  refine wpAny_bind (wpAny_layCells _ (fun name kind cells => by cases hkc : kind == NameKind.cell <;> simp [hkc]) _ _ _ _ ?_)
  rw [show ({ s with heap := s.heap.push { cls := .type "frame", data := .dict #[] } } : Shared).heap.objs.size = s.heap.objs.size + 1 from Heap.size_push ..]
  have p1 := Heap.Ns.new s.heap (.type "frame")
  have st1 : Step X S ρ T s (S ++ [.ns []]) (ρ ++ [s.heap.objs.size]) (T ++ [s.heap.objs.size]) { s with heap := s.heap.push { cls := .type "frame", data := .dict #[] }, toks := s.toks } :=
    Step.new (ao := .ns []) hR (fun b o e => Heap.get?_push_of_some _ e) (newAddr s.heap) (hR.nosysOf (Nat.le_refl _)) ⟨_, Heap.get?_push_size _ rfl⟩ ⟨_, p1, fun x v e => by simp at e, fun _ _ => rfl⟩ s.toks
  obtain ⟨ρ2, T2, st2, hc2⟩ := cells_step scope.names st1.rep [] [] (fun x i e => by simp at e)
  have st12 := st1.trans hR st2
  have e1 : (ρ ++ [s.heap.objs.size])[S.length]? = some s.heap.objs.size := by
    rw [← hR.len]; simp
  have hE : EnvOk (fEnv scope S.length) ρ2 (newEnv scope s.heap.objs.size mainGlobals (cellsFrom (s.heap.objs.size + 1) scope.names []) qual func code none builtinsNs) := {
    scope := rfl
    fn := hk
    loc := (st2.mv st1.rep).ids _ _ e1
    glob := rfl
    bui := rfl
    cells := fun y j ej => by
      have hl : (S ++ [AO.ns []]).length = S.length + 1 := by simp
      have e' : (cellsFrom (S ++ [AO.ns []]).length scope.names []).lookup y = some j := by rw [hl]; exact ej
      obtain ⟨c, a, b⟩ := hc2 y j e'
      refine ⟨c, ?_, b⟩
      rw [Heap.size_push] at a
      exact a }
  have h' : WpBinds X n (fEnv scope S.length) bs ((S ++ [.ns []]) ++ cellAOs scope.names) KU := by simpa [List.append_assoc] using h
  refine wpAny_bind (chain (binds_sound (env := newEnv scope s.heap.objs.size mainGlobals (cellsFrom (s.heap.objs.size + 1) scope.names []) qual func code none builtinsNs) (fun _ _ _ => rfl) bs hr st2.rep hE (VRk.mv (st12.mv hR) _ hv) h') fun _ S3 ρ3 T3 _ s3 hK3 st3 _ => wpAny_pure ?_)
  exact hQ _ S3 ρ3 T3 s3 hK3 (st12.trans hR st3) (hE.step st3 st2.rep)

noncomputable def afv : AF → AV
  | .ret v => v
  | _ => .none

/-- a call of a function of the program, as a piece of code -/
noncomputable def CdC (X : Cx) (n : Nat) (S : List AO) (a : Addr) (xs : List AV) (kw : List (Str × AV)) (K : AV → List AO → Prop) : Prop :=
  ∀ A ρ T s vs ks, Room n A → Rep X S ρ T s → VRs X ρ T s.heap xs vs → VRk X ρ T s.heap kw ks → codeAny X.M A (.call (.ref a) ⟨vs, ks⟩) (fun r s' => ∃ v, r = .ok (.ret v) ∧ PostV X S ρ T s K v s') s
theorem CdC.call {a : Addr} {xs : List AV} {kw : List (Str × AV)} (h : CdC X n S a xs kw K) : WpC X n S (.val (.ref a)) xs kw K := fun A ρ T s g vs ks hr hR hg hv hkw => by
  cases VR_val.mp hg
  refine wpAny_call (codeAny_mono (h A ρ T s vs ks hr hR hv hkw) fun r s' hq => ?_)
  obtain ⟨v, rfl, hq⟩ := hq
  exact hq
theorem cFnC {a : Addr} {oc ct dV kV doc pm cdv : Value} {od an : Option Addr} {osl : Array (Option Value)} {name qual : Str} {params : Arguments} {body : List Stmt} {scope : Scope} {xs : List AV} {kw : List (Str × AV)}
    (ho : X.K.lookup a = some ⟨oc, od, .func (fnOf name qual params body scope dV kV doc pm an cdv ct), osl⟩) (hcd : codeIn X.K cdv qual = true)
    (hb : Binds X n S (fnOf name qual params body scope dV kV doc pm an cdv ct) xs kw fun bs S1 => WpBinds X n (fEnv scope S1.length) bs (S1 ++ (.ns [] :: cellAOs scope.names)) fun _ S2 => WpSs X n (fEnv scope S1.length) S2 body fun f S3 =>
      ∀ ρ T s ρ3 T3 s3 v, Rep X S ρ T s → Step X S ρ T s S3 ρ3 T3 s3 → VR X ρ3 T3 s3.heap (afv f) v → PostV X S ρ T s K v s3)
    (hk : scope.kind = .function := by rfl) (hco : scope.isCoroutine = false := by rfl) (hgen : scope.isGenerator = false := by rfl) : CdC X (n + 1) S a xs kw K := fun A ρ T s vs ks hr hR hv hkw => by
  have hin : Room n A.in1 := hr.in1
  refine codeAny_call_function (by have := hr.depth; omega) (hR.kin a _ ho) rfl hco hgen rfl (codeRec_of hR.kin hcd) ?_
  refine chain (hb A.in1 ρ T s vs ks hin hR hv hkw) fun bs S1 ρ1 T1 bv s1 hK st hbv => ?_
  refine frame_sound (S := S1) hk hin st.rep hbv hK fun env S2 ρ2 T2 s2 hK2 st2 hE2 => ⟨st2.rep.topR.nolimit, codeAny_func ?_⟩
  have st02 := st.trans hR st2
  refine chain (hK2 (A.deeper env) ρ2 T2 s2 env hr.deeper st2.rep hE2) fun f S3 ρ3 T3 fl s3 hK3 st3 hf => ?_
  have st03 := st02.trans hR st3
  cases f with
  | next => cases hf; exact ⟨.none, rfl, hK3 ρ T s ρ3 T3 s3 .none hR st03 (by simp [afv])⟩
  | brk => cases hf; exact ⟨.none, rfl, hK3 ρ T s ρ3 T3 s3 .none hR st03 (by simp [afv])⟩
  | cont => cases hf; exact ⟨.none, rfl, hK3 ρ T s ρ3 T3 s3 .none hR st03 (by simp [afv])⟩
  | ret x => obtain ⟨v, rfl, hx⟩ := hf; exact ⟨v, rfl, hK3 ρ T s ρ3 T3 s3 v hR st03 hx⟩
end
end Mine
namespace Mine

/-! ## a function is left -/
mutual
/-- what a value is behind the function: what is kept is at ks, m were there before -/
noncomputable def Fz (S : List AO) (m : Nat) (ks : List Nat) : AV → AV → Prop
  | .tup xs, y => ∃ ys, y = .tup ys ∧ Fzs S m ks xs ys
  | .obj j, y => m ≤ j ∧ j ∉ ks ∧ ((∃ xs, S[j]? = some (.lst xs) ∧ AV.unds m xs ∧ y = .lst xs) ∨ (∃ kvs, S[j]? = some (.dct kvs) ∧ AV.undk m kvs ∧ y = .dct kvs))
  | .hdr j, y => (∃ p, ks[p]? = some j ∧ y = .hdr (m + p)) ∨ (j < m ∧ y = .hdr j)
  | x, y => x.und m ∧ y = x
noncomputable def Fzs (S : List AO) (m : Nat) (ks : List Nat) : List AV → List AV → Prop
  | [], ys => ys = []
  | x :: xs, ys => ∃ y r, ys = y :: r ∧ Fz S m ks x y ∧ Fzs S m ks xs r
end

section
variable {X : Cx} {S1 S2 S1' : List AO} {ρ1 T1 ρ2 T2 : List Addr} {s s2 : Shared} {ks : List Nat} {aos : List AO}

structure Left (X : Cx) (S1 : List AO) (ρ1 T1 : List Addr) (s : Shared) (S2 : List AO) (ρ2 T2 : List Addr) (s2 : Shared) (S1' : List AO) (ks : List Nat) (aos : List AO) (as : List Addr) : Prop where
  st : Step X S1 ρ1 T1 s (S1' ++ aos) (ρ1 ++ as) (T1 ++ as) s2
  at_ : ∀ (p k : Nat), ks[p]? = some k → ∃ a, as[p]? = some a ∧ ρ2[k]? = some a
  mem : ∀ a ∈ as, ∃ k ∈ ks, ρ2[k]? = some a
  dr : Dr S1.length ρ2 T2 s2.heap (ρ1 ++ as) (T1 ++ as) s2.heap

theorem pick_addrs (ρ2 : List Addr) : ∀ (ks : List Nat), (∀ k ∈ ks, k < ρ2.length) → ∃ as : List Addr, as.length = ks.length ∧ (∀ (p k : Nat), ks[p]? = some k → ∃ a, as[p]? = some a ∧ ρ2[k]? = some a) ∧ ∀ (p : Nat) (a : Addr), as[p]? = some a → ∃ k, ks[p]? = some k ∧ ρ2[k]? = some a
  | [], _ => ⟨[], rfl, fun p k e => by simp at e, fun p a e => by simp at e⟩
  | k :: ks, h => by
    obtain ⟨as, hl, h1, h2⟩ := pick_addrs ρ2 ks fun k hk => h k (.tail _ hk)
    have hk := h k (.head _)
    refine ⟨ρ2[k] :: as, by simp [hl], fun p k' e => ?_, fun p a e => ?_⟩
    · cases p with
      | zero => simp at e; subst e; exact ⟨ρ2[k], by simp, List.getElem?_eq_getElem hk⟩
      | succ p => simp at e; obtain ⟨a, x, y⟩ := h1 p k' e; exact ⟨a, by simpa using x, y⟩
    · cases p with
      | zero => simp at e; subst e; exact ⟨k, by simp, List.getElem?_eq_getElem hk⟩
      | succ p => simp at e; obtain ⟨k', x, y⟩ := h2 p a e; exact ⟨k', by simpa using x, y⟩

theorem left_sound (R : Rep X S1 ρ1 T1 s) (st : Step X S1 ρ1 T1 s S2 ρ2 T2 s2) (hlen : S1'.length = S1.length)
    (h1 : ∀ (i : Nat) (ao : AO), S1'[i]? = some ao → S2[i]? = some ao ∧ ao.und S1.length) (hl : aos.length = ks.length)
    (h2 : ∀ (p k : Nat), ks[p]? = some k → S1.length ≤ k ∧ ∃ ao, S2[k]? = some ao ∧ aos[p]? = some ao ∧ ao.und S1.length) (hnd : ks.Nodup) :
    ∃ as, Left X S1 ρ1 T1 s S2 ρ2 T2 s2 S1' ks aos as := by
  have hlt : ∀ k ∈ ks, k < ρ2.length := fun k hk => by
    obtain ⟨p, hp⟩ := List.getElem?_of_mem hk
    obtain ⟨_, ao, e, _⟩ := h2 p k hp
    rw [st.rep.len]; exact (List.getElem?_eq_some_iff.mp e).1
  obtain ⟨as, ha, hat, hat'⟩ := pick_addrs ρ2 ks hlt
  obtain ⟨mm, e1, e2, hm⟩ := st.more
  have hmem : ∀ a ∈ as, ∃ k ∈ ks, ρ2[k]? = some a := fun a haa => by
    obtain ⟨p, hp⟩ := List.getElem?_of_mem haa
    obtain ⟨k, x, y⟩ := hat' p a hp
    exact ⟨k, List.mem_of_getElem? x, y⟩
  have hmm : ∀ a ∈ as, a ∈ mm := fun a haa => by
    obtain ⟨k, hk, y⟩ := hmem a haa
    obtain ⟨p, hp⟩ := List.getElem?_of_mem hk
    have hge := (h2 p k hp).1
    rw [e1, List.getElem?_append_right (by rw [R.len]; exact hge)] at y
    exact List.mem_of_getElem? y
  have hT2 : ∀ a ∈ T1 ++ as, a ∈ T2 := fun a haa => by
    rw [e2]
    rcases List.mem_append.mp haa with q | q
    · exact List.mem_append_left _ q
    · exact List.mem_append_right _ (hmm a q)
  have d : Dr S1.length ρ2 T2 s2.heap (ρ1 ++ as) (T1 ++ as) s2.heap := ⟨fun b o _ e => e, hT2, fun i a hi e => by
    rw [e1, List.getElem?_append_left (by rw [R.len]; exact hi)] at e
    rw [List.getElem?_append_left (by rw [R.len]; exact hi)]; exact e⟩
  have hnda : as.Nodup := by
    rw [List.nodup_iff_pairwise_ne, List.pairwise_iff_getElem]
    intro i j hi hj hij e
    obtain ⟨ki, x1, y1⟩ := hat' i as[i] (List.getElem?_eq_getElem hi)
    obtain ⟨kj, x2, y2⟩ := hat' j as[j] (List.getElem?_eq_getElem hj)
    rw [← e] at y2
    obtain ⟨l1, z1⟩ := List.getElem?_eq_some_iff.mp y1
    obtain ⟨l2, z2⟩ := List.getElem?_eq_some_iff.mp y2
    have hk : ki = kj := (List.getElem_inj st.rep.nodup).mp (z1.trans z2.symm)
    subst hk
    obtain ⟨l3, z3⟩ := List.getElem?_eq_some_iff.mp x1
    obtain ⟨l4, z4⟩ := List.getElem?_eq_some_iff.mp x2
    have := (List.getElem_inj hnd).mp (z3.trans z4.symm)
    omega
  have hnold : ∀ a ∈ as, a ∉ T1 := fun a haa q => by
    obtain ⟨o, e⟩ := R.low a q
    rw [hm a (hmm a haa)] at e; cases e
  refine ⟨as, ⟨⟨?_, ⟨as, rfl, rfl, fun a haa => hm a (hmm a haa)⟩, st.keep, fun i e => ?_⟩, hat, hmem, d⟩⟩
  · exact {
      keep := st.rep.keep
      len := by simp [ha, hl, hlen, R.len]
      obj := fun i ao a f1 f2 => by
        by_cases hi : i < S1.length
        · rw [List.getElem?_append_left (by rw [hlen]; exact hi)] at f1
          rw [List.getElem?_append_left (by rw [R.len]; exact hi)] at f2
          obtain ⟨g1, g2⟩ := h1 i ao f1
          exact (st.rep.obj i ao a g1 ((st.mv R).ids _ _ f2)).dr d (fun o e => e) g2
        · rw [List.getElem?_append_right (by rw [hlen]; omega), hlen] at f1
          rw [List.getElem?_append_right (by rw [R.len]; omega), R.len] at f2
          obtain ⟨k, x, y⟩ := hat' _ a f2
          obtain ⟨_, ao', g1, g2, g3⟩ := h2 _ k x
          rw [f1] at g2; cases g2
          exact (st.rep.obj k ao a g1 y).dr d (fun o e => e) g3
      nodup := List.nodup_append.mpr ⟨R.nodup, hnda, fun x hx y hy e => hnold y hy (e ▸ R.sub x hx)⟩
      nosys := fun b hb => by
        rcases List.mem_append.mp hb with q | q
        · exact R.nosys b q
        · exact st.rep.nosys b (by obtain ⟨k, _, y⟩ := hmem b q; exact List.mem_of_getElem? y)
      sub := fun b hb => by
        rcases List.mem_append.mp hb with q | q
        · exact List.mem_append_left _ (R.sub b q)
        · exact List.mem_append_right _ q
      new := fun b hb => st.rep.new b (hT2 b hb)
      low := fun b hb => st.rep.low b (hT2 b hb)
      rest := st.rep.rest
      toks := st.rep.toks }
  · have h3 := st.loans i e
    have hi : i < S1.length := (List.getElem?_eq_some_iff.mp e).1
    have hi' : i < S1'.length := by rw [hlen]; exact hi
    rw [List.getElem?_append_left hi', List.getElem?_eq_getElem hi']
    have := (h1 i _ (List.getElem?_eq_getElem hi')).1
    rw [h3] at this
    exact this.symm

mutual
theorem Fz.vr {as : List Addr} (R : Rep X S1 ρ1 T1 s) (st : Step X S1 ρ1 T1 s S2 ρ2 T2 s2) (L : Left X S1 ρ1 T1 s S2 ρ2 T2 s2 S1' ks aos as) : ∀ (x : AV) {y : AV} {v : Value}, Fz S2 S1.length ks x y → VR X ρ2 T2 s2.heap x v → VR X (ρ1 ++ as) (T1 ++ as) s2.heap y v
  | .none, _, _, f, q => by simp only [Fz] at f; obtain ⟨b, rfl⟩ := f; exact VR.dr L.dr _ b q
  | .bool _, _, _, f, q => by simp only [Fz] at f; obtain ⟨b, rfl⟩ := f; exact VR.dr L.dr _ b q
  | .int _, _, _, f, q => by simp only [Fz] at f; obtain ⟨b, rfl⟩ := f; exact VR.dr L.dr _ b q
  | .str _, _, _, f, q => by simp only [Fz] at f; obtain ⟨b, rfl⟩ := f; exact VR.dr L.dr _ b q
  | .val _, _, _, f, q => by simp only [Fz] at f; obtain ⟨b, rfl⟩ := f; exact VR.dr L.dr _ b q
  | .lst _, _, _, f, q => by simp only [Fz] at f; obtain ⟨b, rfl⟩ := f; exact VR.dr L.dr _ b q
  | .inst _, _, _, f, q => by simp only [Fz] at f; obtain ⟨b, rfl⟩ := f; exact VR.dr L.dr _ b q
  | .dct _, _, _, f, q => by simp only [Fz] at f; obtain ⟨b, rfl⟩ := f; exact VR.dr L.dr _ b q
  | .tup xs, _, _, f, q => by
    simp only [Fz] at f
    obtain ⟨ys, rfl, fs⟩ := f
    simp only [VR] at q ⊢
    obtain ⟨a, vs, rfl, ha, ht, hv⟩ := q
    exact ⟨a, vs, rfl, fun z => ha (L.dr.trk a z), ht, Fzs.vr R st L xs fs hv⟩
  | .obj j, _, _, f, q => by
    simp only [Fz] at f
    simp only [VR] at q
    obtain ⟨a, rfl, ha⟩ := q
    obtain ⟨hj, hjk, f⟩ := f
    obtain ⟨mm, e1, e2, hm⟩ := st.more
    have ham : a ∈ mm := by
      rw [e1, List.getElem?_append_right (by rw [R.len]; exact hj)] at ha
      exact List.mem_of_getElem? ha
    have haT : a ∉ T1 ++ as := fun z => by
      rcases List.mem_append.mp z with z | z
      · obtain ⟨o, e⟩ := R.low a z; rw [hm a ham] at e; cases e
      · obtain ⟨k, hk, y⟩ := L.mem a z
        obtain ⟨l1, z1⟩ := List.getElem?_eq_some_iff.mp ha
        obtain ⟨l2, z2⟩ := List.getElem?_eq_some_iff.mp y
        have : j = k := (List.getElem_inj st.rep.nodup).mp (z1.trans z2.symm)
        exact hjk (this ▸ hk)
    rcases f with ⟨xs, h1, h2, rfl⟩ | ⟨kvs, h1, h2, rfl⟩
    · obtain ⟨vs, hi, hq⟩ := st.rep.obj _ _ _ h1 ha
      simp only [VR]
      exact ⟨a, vs, rfl, haT, hi.isList, VRs.dr L.dr xs h2 hq⟩
    · obtain ⟨vs, hi, hq⟩ := st.rep.obj _ _ _ h1 ha
      simp only [VR]
      exact ⟨a, vs, rfl, haT, st.rep.nosys a (List.mem_of_getElem? ha), hi, VRk.dr L.dr kvs h2 hq⟩
  | .hdr j, _, _, f, q => by
    simp only [Fz] at f
    simp only [VR] at q
    obtain ⟨x, dx, l, rfl, hx, hd, e, hh⟩ := q
    rcases f with ⟨p, hp, rfl⟩ | ⟨hj, rfl⟩
    · obtain ⟨a, h1, h2⟩ := L.at_ p j hp
      rw [e] at h2; cases h2
      simp only [VR]
      exact ⟨x, dx, l, rfl, fun z => hx (L.dr.trk _ z), fun z => hd (L.dr.trk _ z), by rw [List.getElem?_append_right (by rw [R.len]; omega), R.len]; simpa using h1, hh⟩
    · simp only [VR]
      exact ⟨x, dx, l, rfl, fun z => hx (L.dr.trk _ z), fun z => hd (L.dr.trk _ z), L.dr.ids _ _ hj e, hh⟩
theorem Fzs.vr {as : List Addr} (R : Rep X S1 ρ1 T1 s) (st : Step X S1 ρ1 T1 s S2 ρ2 T2 s2) (L : Left X S1 ρ1 T1 s S2 ρ2 T2 s2 S1' ks aos as) : ∀ (xs : List AV) {ys : List AV} {vs : List Value}, Fzs S2 S1.length ks xs ys → VRs X ρ2 T2 s2.heap xs vs → VRs X (ρ1 ++ as) (T1 ++ as) s2.heap ys vs
  | [], _, _, f, q => by simp only [Fzs] at f; subst f; simpa using q
  | x :: xs, _, _, f, q => by
    simp only [Fzs] at f
    obtain ⟨y, r, rfl, f1, f2⟩ := f
    obtain ⟨v, vr, rfl, q1, q2⟩ := VRs_cons.mp q
    exact VRs_cons.mpr ⟨v, vr, rfl, Fz.vr R st L x f1 q1, Fzs.vr R st L xs f2 q2⟩
end

/-- the end of a function: what stood stands as S1', aos are kept, x is handed out as y -/
noncomputable def Leave (S1 : List AO) (K : AV → List AO → Prop) (x : AV) (S2 : List AO) : Prop :=
  ∃ S1' ks aos y, S1'.length = S1.length ∧ (∀ (i : Nat) (ao : AO), S1'[i]? = some ao → S2[i]? = some ao ∧ ao.und S1.length) ∧ aos.length = ks.length ∧
    (∀ (p k : Nat), ks[p]? = some k → S1.length ≤ k ∧ ∃ ao, S2[k]? = some ao ∧ aos[p]? = some ao ∧ ao.und S1.length) ∧ ks.Nodup ∧ Fz S2 S1.length ks x y ∧ K y (S1' ++ aos)
theorem Leave.post {K : AV → List AO → Prop} {x : AV} {v : Value} (h : Leave S1 K x S2) (R : Rep X S1 ρ1 T1 s) (st : Step X S1 ρ1 T1 s S2 ρ2 T2 s2) (q : VR X ρ2 T2 s2.heap x v) : PostV X S1 ρ1 T1 s K v s2 := by
  obtain ⟨S1', ks, aos, y, hlen, h1, hl, h2, hnd, hf, hK⟩ := h
  obtain ⟨as, L⟩ := left_sound R st hlen h1 hl h2 hnd
  exact PostG.mk L.st hK (hf.vr R st L x q)
end
end Mine
namespace Mine

mutual
noncomputable def AV.sh (k : Nat) : AV → AV
  | .none => .none
  | .bool b => .bool b
  | .int i => .int i
  | .str x => .str x
  | .val v => .val v
  | .tup xs => .tup (AV.shs k xs)
  | .lst xs => .lst (AV.shs k xs)
  | .dct kvs => .dct (AV.shk k kvs)
  | .obj i => .obj (k + i)
  | .hdr i => .hdr (k + i)
  | .inst i => .inst (k + i)
noncomputable def AV.shs (k : Nat) : List AV → List AV
  | [] => []
  | x :: xs => AV.sh k x :: AV.shs k xs
noncomputable def AV.shk (k : Nat) : List (Str × AV) → List (Str × AV)
  | [] => []
  | (y, x) :: xs => (y, AV.sh k x) :: AV.shk k xs
end
mutual
theorem AV.sh_und (k : Nat) : ∀ (x : AV), x.und 0 → x.sh k = x
  | .none, _ => by simp [AV.sh]
  | .bool _, _ => by simp [AV.sh]
  | .int _, _ => by simp [AV.sh]
  | .str _, _ => by simp [AV.sh]
  | .val _, _ => by simp [AV.sh]
  | .tup xs, h => by simp only [AV.und] at h; simp only [AV.sh]; rw [AV.shs_und k xs h]
  | .lst xs, h => by simp only [AV.und] at h; simp only [AV.sh]; rw [AV.shs_und k xs h]
  | .dct xs, h => by simp only [AV.und] at h; simp only [AV.sh]; rw [AV.shk_und k xs h]
  | .obj i, h => by simp [AV.und] at h
  | .hdr i, h => by simp [AV.und] at h
  | .inst i, h => by simp [AV.und] at h
theorem AV.shs_und (k : Nat) : ∀ (xs : List AV), AV.unds 0 xs → AV.shs k xs = xs
  | [], _ => by simp [AV.shs]
  | x :: xs, h => by simp only [AV.unds] at h; simp only [AV.shs]; rw [AV.sh_und k x h.1, AV.shs_und k xs h.2]
theorem AV.shk_und (k : Nat) : ∀ (xs : List (Str × AV)), AV.undk 0 xs → AV.shk k xs = xs
  | [], _ => by simp [AV.shk]
  | (y, x) :: xs, h => by simp only [AV.undk] at h; simp only [AV.shk]; rw [AV.sh_und k x h.1, AV.shk_und k xs h.2]
end

section
variable {X : Cx} {n : Nat} {S : List AO} {ρ T ρ2 : List Addr} {s : Shared} {h : Heap} {k : Nat} {K : AV → List AO → Prop}
mutual
theorem VR.sh (hρ : ∀ (i : Nat) (a : Addr), ρ[i]? = some a → ρ2[k + i]? = some a) : ∀ (x : AV) {v : Value}, VR X ρ T h x v → VR X ρ2 T h (x.sh k) v
  | .none, _, q => by simp only [AV.sh, VR] at q ⊢; exact q
  | .bool _, _, q => by simp only [AV.sh, VR] at q ⊢; exact q
  | .int _, _, q => by simp only [AV.sh, VR] at q ⊢; exact q
  | .str _, _, q => by simp only [AV.sh, VR] at q ⊢; exact q
  | .val _, _, q => by simp only [AV.sh, VR] at q ⊢; exact q
  | .tup xs, _, q => by
    simp only [AV.sh, VR] at q ⊢
    obtain ⟨a, vs, rfl, ha, ht, hv⟩ := q
    exact ⟨a, vs, rfl, ha, ht, VRs.sh hρ xs hv⟩
  | .lst xs, _, q => by
    simp only [AV.sh, VR] at q ⊢
    obtain ⟨a, vs, rfl, ha, ht, hv⟩ := q
    exact ⟨a, vs, rfl, ha, ht, VRs.sh hρ xs hv⟩
  | .dct xs, _, q => by
    simp only [AV.sh, VR] at q ⊢
    obtain ⟨a, vs, rfl, ha, hy, ht, hv⟩ := q
    exact ⟨a, vs, rfl, ha, hy, ht, VRk.sh hρ xs hv⟩
  | .obj i, _, q => by
    simp only [AV.sh, VR] at q ⊢
    obtain ⟨a, rfl, e⟩ := q
    exact ⟨a, rfl, hρ _ _ e⟩
  | .hdr i, _, q => by
    simp only [AV.sh, VR] at q ⊢
    obtain ⟨x, dx, l, rfl, hx, hd, e, r⟩ := q
    exact ⟨x, dx, l, rfl, hx, hd, hρ _ _ e, r⟩
  | .inst i, _, q => by
    simp only [AV.sh, VR] at q ⊢
    obtain ⟨x, dx, rfl, hx, e, r⟩ := q
    exact ⟨x, dx, rfl, hx, hρ _ _ e, r⟩
theorem VRs.sh (hρ : ∀ (i : Nat) (a : Addr), ρ[i]? = some a → ρ2[k + i]? = some a) : ∀ (xs : List AV) {vs : List Value}, VRs X ρ T h xs vs → VRs X ρ2 T h (AV.shs k xs) vs
  | [], _, q => by simpa [AV.shs] using q
  | x :: xs, _, q => by
    simp only [AV.shs, VRs] at q ⊢
    obtain ⟨v, r, rfl, h1, h2⟩ := q
    exact ⟨v, r, rfl, VR.sh hρ x h1, VRs.sh hρ xs h2⟩
theorem VRk.sh (hρ : ∀ (i : Nat) (a : Addr), ρ[i]? = some a → ρ2[k + i]? = some a) : ∀ (xs : List (Str × AV)) {vs : List (Str × Value)}, VRk X ρ T h xs vs → VRk X ρ2 T h (AV.shk k xs) vs
  | [], _, q => by simpa [AV.shk, VRk] using q
  | (y, x) :: xs, _, q => by
    simp only [AV.shk, VRk] at q ⊢
    obtain ⟨v, r, rfl, h1, h2⟩ := q
    exact ⟨v, r, rfl, VR.sh hρ x h1, VRk.sh hρ xs h2⟩
end

theorem Dr.zero {ρ' : List Addr} : Dr 0 ρ T h ρ' T h := ⟨fun _ _ _ e => e, fun _ x => x, fun i a hi _ => absurd hi (Nat.not_lt_zero _)⟩

/-- a call that touches nothing of what is tracked -/
theorem frm0 {g : Value} {xs : List AV} {kw : List (Str × AV)} {K0 : AV → List AO → Prop} (hx : AV.unds 0 xs) (hk : AV.undk 0 kw) (h : WpC X n [] (.val g) xs kw K0) (hK : ∀ x aos, K0 x aos → (∀ ao ∈ aos, ao.und 0) ∧ K (x.sh S.length) (S ++ aos)) :
    WpC X n S (.val g) xs kw K := fun A ρ T s f vs ks hr R hf hv hks => by
  have R0 : Rep X [] [] T s := {
    keep := R.keep
    len := rfl
    obj := fun i ao a e _ => by simp at e
    nodup := .nil
    nosys := fun _ h => nomatch h
    sub := fun _ h => nomatch h
    new := R.new
    low := R.low
    rest := R.rest
    toks := R.toks }
  refine wpAny_mono (h A [] T s f vs ks hr R0 (by simpa using hf) (VRs.dr .zero xs hx hv) (VRk.dr .zero kw hk hks)) ?_ fun _ _ f => f
  rintro v s' ⟨x, aos, ρ', T', hK0, st, hv'⟩
  obtain ⟨hu, hK'⟩ := hK x aos hK0
  obtain ⟨m, e1, e2, hm⟩ := st.more
  rw [List.nil_append] at e1
  subst e1
  have hkp : ∀ b o, s.heap.get? b = some o → s'.heap.get? b = some o := fun b o e => st.keep b o (fun ⟨i, ao, f1, _⟩ => by simp at f1) e
  have hmT : ∀ a ∈ ρ', a ∉ T := fun a ha q => by obtain ⟨o, e⟩ := R.low a q; rw [hm a ha] at e; cases e
  refine PostG.mk (ρ' := ρ ++ ρ') (T' := T') ?_ hK' (VR.sh (fun i a e => ?_) x hv')
  · refine ⟨?_, ⟨ρ', rfl, e2, hm⟩, fun b o _ e => hkp b o e, fun i e => by rw [List.getElem?_append_left (List.getElem?_eq_some_iff.mp e).1]; exact e⟩
    exact {
      keep := st.rep.keep
      len := by simp [R.len, st.rep.len]
      obj := fun i ao a f1 f2 => by
        by_cases hi : i < S.length
        · rw [List.getElem?_append_left hi] at f1
          rw [List.getElem?_append_left (by rw [R.len]; exact hi)] at f2
          refine (R.obj i ao a f1 f2).mv ⟨fun b o _ e => hkp b o e, fun b hb => ?_, fun j b e => by rw [List.getElem?_append_left (List.getElem?_eq_some_iff.mp e).1]; exact e⟩ fun o e => hkp a o e
          rw [e2] at hb
          exact (List.mem_append.mp hb).imp id fun q => hm b q
        · rw [List.getElem?_append_right (by omega)] at f1
          rw [List.getElem?_append_right (by rw [R.len]; omega), R.len] at f2
          exact (st.rep.obj _ ao a f1 f2).dr .zero (fun o e => e) (hu ao (List.mem_of_getElem? f1))
      nodup := List.nodup_append.mpr ⟨R.nodup, st.rep.nodup, fun x hx y hy e => hmT y hy (e ▸ R.sub x hx)⟩
      nosys := fun b hb => by
        rcases List.mem_append.mp hb with q | q
        · exact R.nosys b q
        · exact st.rep.nosys b q
      sub := fun b hb => by
        rcases List.mem_append.mp hb with q | q
        · rw [e2]; exact List.mem_append_left _ (R.sub b q)
        · exact st.rep.sub b q
      new := st.rep.new
      low := st.rep.low
      rest := st.rep.rest
      toks := st.rep.toks }
  · rw [← R.len, List.getElem?_append_right (by omega)]
    simpa using e

/-- the arguments with the tracked object i named 0 -/
noncomputable def Sels (i : Nat) : List AV → List AV → Prop
  | [], ys => ys = []
  | x :: xs, ys => ∃ y r, ys = y :: r ∧ ((x = .hdr 0 ∧ y = .hdr i) ∨ (x.und 0 ∧ y = x)) ∧ Sels i xs r
theorem Sels.vr {i : Nat} {a : Addr} (ha : ρ[i]? = some a) : ∀ {xs ys : List AV} {vs : List Value}, Sels i xs ys → VRs X ρ T h ys vs → VRs X [a] T h xs vs
  | [], _, _, q, e => by simp only [Sels] at q; subst q; simpa using e
  | x :: xs, _, _, q, e => by
    simp only [Sels] at q
    obtain ⟨y, r, rfl, q1, q2⟩ := q
    obtain ⟨v, vr, rfl, e1, e2⟩ := VRs_cons.mp e
    refine VRs_cons.mpr ⟨v, vr, rfl, ?_, Sels.vr ha q2 e2⟩
    rcases q1 with ⟨rfl, rfl⟩ | ⟨b, rfl⟩
    · simp only [VR] at e1 ⊢
      obtain ⟨z, dx, l, rfl, hx, hd, e, r⟩ := e1
      rw [ha] at e; cases e
      exact ⟨z, dx, a, rfl, hx, hd, rfl, r⟩
    · exact VR.dr .zero _ b e1

/-- a call that touches one of the tracked objects -/
theorem frm1 {g : Value} {i : Nat} {ao : AO} {xs ys : List AV} {kw : List (Str × AV)} {K0 : AV → List AO → Prop} (hS : S[i]? = some ao) (hn : ao ≠ .loan) (hao : ao.und 0) (hsel : Sels i xs ys) (hk : AV.undk 0 kw) (h : WpC X n [ao] (.val g) xs kw K0)
    (hK : ∀ x aos, K0 x aos → ∃ ao', aos = [ao'] ∧ ao' ≠ .loan ∧ ao'.und 0 ∧ x.und 0 ∧ K x (S.set i ao')) : WpC X n S (.val g) ys kw K := fun A ρ T s f vs ks hr R hf hv hks => by
  have hi : i < S.length := (List.getElem?_eq_some_iff.mp hS).1
  obtain ⟨a, ha⟩ : ∃ a, ρ[i]? = some a := ⟨_, List.getElem?_eq_getElem (by rw [R.len]; exact hi)⟩
  have haT : a ∈ T := R.sub a (List.mem_of_getElem? ha)
  have R0 : Rep X [ao] [a] T s := {
    keep := R.keep
    len := rfl
    obj := fun j oj b e1 e2 => by
      cases j with
      | zero => simp at e1 e2; subst e1; subst e2; exact (R.obj i _ _ hS ha).dr .zero (fun o e => e) hao
      | succ j => simp at e1
    nodup := by simp
    nosys := fun b hb => by rw [List.mem_singleton.mp hb]; exact R.nosys a (List.mem_of_getElem? ha)
    sub := fun b hb => by rw [List.mem_singleton.mp hb]; exact haT
    new := R.new
    low := R.low
    rest := R.rest
    toks := R.toks }
  refine wpAny_mono (h A [a] T s f vs ks hr R0 (by simpa using hf) (hsel.vr ha hv) (VRk.dr .zero kw hk hks)) ?_ fun _ _ f => f
  rintro v s' ⟨x, aos, ρ', T', hK0, st, hv'⟩
  obtain ⟨ao', rfl, hn', hao', hx, hK'⟩ := hK x aos hK0
  obtain ⟨m, e1, e2, hm⟩ := st.more
  have hm0 : m = [] := by
    have := st.rep.len
    rw [e1] at this; simpa using this
  subst hm0
  simp only [List.append_nil] at e1 e2
  subst e1 e2
  have hkp : ∀ b o, b ≠ a → s.heap.get? b = some o → s'.heap.get? b = some o := fun b o hb e => st.keep b o (fun ⟨j, oj, f1, f2, _⟩ => by
    cases j with
    | zero => simp at f1; exact hb f1.symm
    | succ j => simp at f1) e
  have mv : Mv ρ T' s.heap ρ T' s'.heap := ⟨fun b o hb e => hkp b o (fun q => hb (q ▸ haT)) e, fun b hb => .inl hb, fun _ _ e => e⟩
  refine PostG.mk (ρ' := ρ) (T' := T') ?_ hK' (VR.dr .zero x hx hv')
  refine ⟨?_, ⟨[], by simp, by simp, fun _ h => nomatch h⟩, fun b o hb e => hkp b o (fun q => hb ⟨i, ao, q ▸ ha, hS, hn⟩) e, fun j e => ?_⟩
  · exact {
      keep := st.rep.keep
      len := by simpa using R.len
      obj := fun j oj b f1 f2 => by
        by_cases hij : i = j
        · subst hij
          rw [List.getElem?_set_self hi] at f1
          rw [ha] at f2
          cases f1; cases f2
          exact (st.rep.obj 0 ao' a rfl rfl).dr .zero (fun o e => e) hao'
        · rw [List.getElem?_set_ne hij] at f1
          have hb : b ≠ a := fun q => by
            subst q
            obtain ⟨l1, z1⟩ := List.getElem?_eq_some_iff.mp ha
            obtain ⟨l2, z2⟩ := List.getElem?_eq_some_iff.mp f2
            exact hij ((List.getElem_inj R.nodup).mp (z1.trans z2.symm))
          exact (R.obj j oj b f1 f2).mv mv fun o e => hkp b o hb e
      nodup := R.nodup
      nosys := R.nosys
      sub := R.sub
      new := R.new
      low := st.rep.low
      rest := st.rep.rest
      toks := st.rep.toks }
  · by_cases hij : i = j
    · subst hij; rw [hS] at e; exact absurd (Option.some.inj e) hn
    · rw [List.getElem?_set_ne hij]; exact e
end
end Mine
namespace Mine

theorem noneAt (h : Heap) {a : Addr} (ha : h.objs.size ≤ a) : h.get? a = none := by
  cases e : h.get? a with
  | none => rfl
  | some o => exact absurd (Heap.lt_size e) (Nat.not_lt.mpr ha)

section
variable {X : Cx} {n : Nat} {ae : AEnv} {S S' : List AO} {ρ T : List Addr} {s : Shared} {target : Expr} {K : AV → List AO → Prop} {KB : Bool → List AO → Prop} {KF : AF → List AO → Prop} {KU : Unit → List AO → Prop}

/-- a call whose value is iterated at once -/
noncomputable def RawI (X : Cx) (n : Nat) (S : List AO) (target : Expr) (fv : Value) (as : List AV) (K : List AV → Option Nat → List AO → Prop) : Prop :=
  ∀ (A : Around) (ρ T : List Addr) (s : Shared) (vs : List Value) (Q E E' : Value → Shared → Prop), Room n A → Rep X S ρ T s → VRs X ρ T s.heap as vs →
    (∀ items, K items none S → ∀ (I : Addr) (fp wr : List Addr) (P Md : Nat → Value → Heap → Prop) (St : Nat → Heap → Prop) (h' : Heap) (tk : Nat), SrcAt X A S none ρ T s target items I fp wr P Md St h' tk → Q (.ref I) { s with heap := h', toks := tk }) →
    wpAny X.M A (call fv vs) (fun v s' => wpAny X.M A (pyIter v) Q E s') E' s

theorem iCallN {x : Str} {p pos : Pos} {args : List Expr} {KI : List AV → Option Nat → List AO → Prop} (h : WpE X n ae S (.Name x p) fun f S1 => ∃ fv, f = .val fv ∧ Callee X fv ∧ WpArgs X n ae args S1 fun as S2 => RawI X n S2 target fv as KI)
    (hn : args.all NoStar = true := by rfl) : WpI X n ae S target (.Call (.Name x p) args [] pos) KI := fun A ρ T s env Q E E' hr hR hE hQ => by
  rw [arm_eval_Call_Name']
  refine wpAny_bind (chain (h A ρ T s env hr hR hE) fun f S1 ρ1 T1 v s1 hK st hv => ?_)
  obtain ⟨fv, rfl, hc, hK⟩ := hK
  cases VR_val.mp hv
  refine callWith_of (P := X.K.In) (by rw [backTo_star args env pos hn]; rfl) hc (evalArgs_any (backTo_star args env pos hn) rfl ?_)
  refine chain (args_sound args (pos := pos) hn hr st.rep (hE.step st hR) hK) fun as S2 ρ2 T2 vs s2 hK2 st2 hvs => ?_
  refine wpAny_pure ⟨st2.rep.kin, ?_⟩
  have := hK2 A ρ2 T2 s2 vs Q E E' hr st2.rep hvs fun items hi I fp wr P Md St h' tk W => hQ items none S2 ρ2 T2 s2 hi (st.trans hR st2) I fp wr P Md St h' tk W
  simpa using this

theorem range_src {A : Around} {a b : Int} {x : Str} {p : Pos} (hr : Room n A) (hR : Rep X S ρ T s) {t u v : Tok} (ha : -(2 ^ 62) ≤ a) (ha' : a < 2 ^ 62) (hb : -(2 ^ 62) ≤ b) (hb' : b < 2 ^ 62) {tk : Nat} (htk : s.toks ≤ tk) {Q E : Value → Shared → Prop}
    (hQ : ∀ (I : Addr) (fp wr : List Addr) (P Md : Nat → Value → Heap → Prop) (St : Nat → Heap → Prop) (h' : Heap) (tk : Nat), SrcAt X A S none ρ T s (.Name x p) ((List.range (b - a).toNat).map fun (i : Nat) => AV.int (a + i)) I fp wr P Md St h' tk → Q (.ref I) { s with heap := h', toks := tk }) :
    wpAny X.M A (pyIter (.ref s.heap.objs.size)) Q E { s with heap := s.heap.push { cls := .type "range", data := .fields #[.int a t, .int b u, .int 1 v] }, toks := tk } := by
  refine wpAny_pyIter_range (IsRange.new s.heap a b 1 t u v) (small_one ha ha' hb hb') ?_
  have hsz : (s.heap.push { cls := .type "range", data := .fields #[.int a t, .int b u, .int 1 v] }).objs.size = s.heap.objs.size + 1 := Heap.size_push ..
  show Q (.ref (s.heap.push _).objs.size) _
  rw [hsz]
  have hrs : Builtin.Range.rangeSize a b 1 = ((b - a).toNat : Int) := by rw [rangeSize_one]; split <;> omega
  have hlen : ((List.range (b - a).toNat).map fun (i : Nat) => AV.int (a + i)).length = (b - a).toNat := by simp
  have hI : ∀ (h : Heap) (o : Obj), o.isFreed = false → (h.push o).get? h.objs.size = some o := fun h o ho => Heap.get?_push_size _ ho
  refine hQ (s.heap.objs.size + 1) _ _ _ _ _ _ tk { hk := fun b o e => Heap.get?_push_of_some _ (Heap.get?_push_of_some _ e), turns := KTn hlen <| KTurns.ofWalks (Walks.range hr.handled (s.heap.objs.size + 1) a 1 (b - a).toNat) fun i v s Q E st q => wpAny_pure q, st := ?_, time := htk, new := ?_, foot := ?_, ex := ?_, item := ?_, self := ?_ }
  · have := hI (s.heap.push { cls := .type "range", data := .fields #[.int a t, .int b u, .int 1 v] }) { cls := .type "range_iterator", data := .fields #[rawInt a, rawInt (Builtin.Range.rangeSize a b 1), rawInt 1] } rfl
    rw [hsz, hrs] at this
    show IsRangeIter _ _ (a + ((0 : Nat) : Int) * 1) (((b - a).toNat : Int) - ((0 : Nat) : Int)) 1
    rw [hrs]
    have e1 : a + ((0 : Nat) : Int) * 1 = a := by omega
    have e2 : (((b - a).toNat : Int) - ((0 : Nat) : Int)) = ((b - a).toNat : Int) := by omega
    rw [e1, e2]
    exact this
  · intro c hc; rw [List.mem_singleton.mp hc]; exact noneAt _ (Nat.le_succ _)
  · intro c hc; exact .inl hc
  · intro i h st c hc
    rw [List.mem_singleton.mp hc]; exact ⟨_, st⟩
  · intro j it v h ρ' T' hj hp mv _
    obtain ⟨t, rfl⟩ := hp
    have : it = .int (a + (j : Nat) * 1) := by
      rw [List.getElem?_map] at hj
      cases hq : (List.range (b - a).toNat)[j]? with
      | none => rw [hq] at hj; simp at hj
      | some i =>
        rw [hq] at hj
        have hi : i = j := by
          have := (List.getElem?_eq_some_iff.mp hq).2
          simpa using this.symm
        subst hi
        simp at hj; rw [← hj]; simp
    subst this
    show VR X ρ' T' h (.int _) _
    exact VR_int.mpr ⟨t, rfl⟩
  · intro s' Q' E' st q
    exact (Walks.range (prog := X.prog) (w := X.w) hr.handled (s.heap.objs.size + 1) a 1 (b - a).toNat).self 0 s' Q' E' st q

theorem rRange1 {x : Str} {p : Pos} {N : Int} {KI : List AV → Option Nat → List AO → Prop} (h0 : -(2 ^ 62) ≤ N) (h1 : N < 2 ^ 62) (h : KI ((List.range N.toNat).map fun (i : Nat) => .int i) none S) : RawI X n S (.Name x p) (.type "range") [.int N] KI := fun A ρ T s vs Q E E' hr hR hv hQ => by
  obtain ⟨v, rfl, hq⟩ := hv.one_inv
  obtain ⟨t, rfl⟩ := VR_int.mp hq
  refine call_range_1 (range_src (x := x) (p := p) hr hR (by decide) (by decide) h0 h1 (by omega) fun I fp wr P Md St h' tk W => ?_)
  have e : (N - 0).toNat = N.toNat := by omega
  rw [e] at W
  have e2 : ((List.range N.toNat).map fun (i : Nat) => AV.int (0 + i)) = (List.range N.toNat).map fun (i : Nat) => AV.int i := List.map_congr_left fun i _ => by rw [Int.zero_add]
  rw [e2] at W
  exact hQ _ h I fp wr P Md St h' tk W
noncomputable def numbered' (x : Str) : List AV := (x.cps.toList.zipIdx).map fun p => .tup [.int p.2, .str ⟨#[p.1]⟩]
theorem enum_src {A : Around} {elts : List Expr} {k : Nat} {p : Pos} {y : Str} (hr : Room n A) (hR : Rep X S ρ T s) {st0 : Nat → Heap → Prop} (D : Draws X.prog X.w A.in1 s.heap.objs.size [s.heap.objs.size] y.cps.size (fun i v => ∃ c u, y.cps[i]? = some c ∧ v = .str ⟨#[c]⟩ u) st0) {h' : Heap} (hk : ∀ b o, s.heap.get? b = some o → h'.get? b = some o)
    (he : IsEnum h' (s.heap.objs.size + 1) s.heap.objs.size 0 .none) (hst : st0 0 h') {Q : Value → Shared → Prop}
    (hQ : ∀ (I : Addr) (fp wr : List Addr) (P Md : Nat → Value → Heap → Prop) (St : Nat → Heap → Prop) (h' : Heap) (tk : Nat), SrcAt X A S none ρ T s (.Tuple elts k p) (numbered' y) I fp wr P Md St h' tk → Q (.ref I) { s with heap := h', toks := tk }) :
    Q (.ref (s.heap.objs.size + 1)) { s with heap := h' } := by
  have hlen : (numbered' y).length = y.cps.size := by simp [numbered']
  have W := WalksT.enumerateD D (s.heap.objs.size + 1) (Nat.succ_ne_self _) (by simp) (by simp)
  refine hQ (s.heap.objs.size + 1) _ _ _ _ _ h' s.toks { hk := hk, turns := KTn hlen <| KTurns.ofWalksU W.toU, st := ⟨⟨.none, he⟩, hst⟩, time := Nat.le_refl _, new := ?_, foot := ?_, ex := ?_, item := ?_, self := ?_ }
  · intro c hc
    rcases List.mem_cons.mp hc with rfl | hc
    · exact noneAt _ (Nat.le_succ _)
    · rw [List.mem_singleton.mp hc]; exact newAddr _
  · intro c hc; exact .inl hc
  · rintro i h ⟨⟨old, he⟩, hs⟩ c hc
    rcases List.mem_cons.mp hc with rfl | hc
    · exact ⟨_, he⟩
    · rw [List.mem_singleton.mp hc]; exact D.live _ _ hs
  · intro j it v h ρ' T' hj hp mv _
    obtain ⟨Tt, vals, rfl, ⟨t, z, ⟨c, u, hc, rfl⟩, rfl⟩, hT⟩ := hp
    have : it = .tup [.int j, .str ⟨#[c]⟩] := by
      unfold numbered' at hj
      rw [List.getElem?_map] at hj
      have hc' : y.cps.toList[j]? = some c := by simpa using hc
      rw [List.getElem?_zipIdx, hc'] at hj
      simpa using hj.symm
    subst this
    refine ⟨_, Tt, [.int j t, .str ⟨#[c]⟩ u], rfl, rfl, hT, VRs_cons.mpr ⟨_, _, rfl, VR_int.mpr ⟨t, rfl⟩, VRs.one (VR_str.mpr ⟨?_, u, rfl⟩)⟩⟩
    show 1 ≤ sizeLine; rw [sizeLine_eq]; omega
  · intro s' Q' E' st q
    exact W.self 0 s' Q' E' st q

theorem rEnum {elts : List Expr} {k : Nat} {p : Pos} {y : Str} {KI : List AV → Option Nat → List AO → Prop} (h : KI (numbered' y) none S) : RawI X n S (.Tuple elts k p) (.type "enumerate") [.str y] KI := fun A ρ T s vs Q E E' hr hR hv hQ => by
  obtain ⟨v, rfl, hq⟩ := hv.one_inv
  obtain ⟨hl, t, rfl⟩ := VR_str.mp hq
  refine call_enumerate_str fun h' he hst hsz hk => wpAny_pyIter_enum he ?_
  have hh : A.in1.handled = none := hr.handled
  unfold strIterType at hst
  cases ha : y.cps.all (· < 128)
  · rw [ha] at hst
    exact enum_src hr hR (Draws.strWide hh _ y t) hk he hst (hQ _ h)
  · rw [ha] at hst
    exact enum_src hr hR (Draws.strAscii hh _ y t) hk he hst (hQ _ h)
end
end Mine
namespace Mine

section
variable {X : Cx} {n : Nat} {ae : AEnv} {S S' : List AO} {ρ T : List Addr} {s : Shared} {K : AV → List AO → Prop} {KB : Bool → List AO → Prop} {KF : AF → List AO → Prop} {KU : Unit → List AO → Prop}

theorem lookIn_ns {h : Heap} {a : Addr} {m : Str → Option Value} (hn : h.Ns a m) : ∃ o, h.get? a = some o ∧ ∀ name, lookIn name o = some (m name) := by
  obtain ⟨o, es, ep, ho, hd, hk, hf⟩ := hn
  refine ⟨o, ho, fun name => ?_⟩
  unfold lookIn
  rw [hd]
  dsimp only
  have h1 := hf name
  unfold nsFind findBy at h1
  rw [← Array.find?_toList] at h1
  cases h2 : es.toList.find? (·.key.isStr name) with
  | some e => rw [h2] at h1; dsimp only; rw [← h1]; rfl
  | none =>
    rw [h2] at h1
    have h3 : es.toList.any (·.refKey) = false := by
      rw [List.any_eq_false]
      intro e he
      obtain ⟨k, t, hkk⟩ := hk e (Array.mem_toList_iff.mp he)
      unfold DictEntry.refKey
      rw [hkk]
      exact Bool.false_ne_true
    dsimp only
    rw [h3, ← h1]; rfl

/-- an object of an own class, with what stands in its dict -/
theorem inst_at {x dx : Addr} {h : Heap} {C : Addr} {m : Str → Option Value} (hx : h.get? x = some (instObj C dx)) (hn : h.Ns dx m) : ∃ od, InstAt h x (instObj C dx) C (some od) ∧ ∀ name, lookIn name od = some (m name) := by
  obtain ⟨o, ho, hl⟩ := lookIn_ns hn
  exact ⟨o, ⟨hx, rfl, rfl, ho⟩, hl⟩

noncomputable def hName : Str := Str.ofString "_headers"
theorem dict1_look {hs : Int} {t : Tok} {u : Value} {n : Nat} (name : Str) : lookIn name (dictOf [⟨hs, .str hName t, u⟩] n) = some (if name = hName then some u else none) := by
  rw [lookIn_dict]
  unfold getL
  by_cases h : name = hName
  · subst h; simp [Value.isStr]
  · have : ¬ hName = name := fun e => h e.symm
    simp [Value.isStr, h, this, DictEntry.refKey]
theorem dict1_ns {h : Heap} {dx : Addr} {hs : Int} {t : Tok} {u : Value} {n : Nat} (e : h.get? dx = some (dictOf [⟨hs, .str hName t, u⟩] n)) : h.Ns dx (fun y => if y = hName then some u else none) := by
  refine ⟨_, _, n, e, rfl, fun en he => ?_, fun name => ?_⟩
  · have : en = ⟨hs, .str hName t, u⟩ := by simpa using he
    exact ⟨hName, t, by rw [this]⟩
  · unfold nsFind findBy
    by_cases h : name = hName
    · subst h; simp [Value.isStr]
    · have : ¬ hName = name := fun e => h e.symm
      simp [Value.isStr, h, this]

/-- what such an object's dict holds under a name -/
noncomputable def Holds1 (S : List AO) (a : AV) (name : Str) (r : Option AV) : Prop :=
  (∃ i, a = .hdr i ∧ r = if name = hName then some (.obj i) else none) ∨ (∃ i r', a = .inst i ∧ S[i]? = some (.inst r') ∧ r = if name = hName then r' else none)
theorem Holds1.at {a : AV} {name : Str} {r : Option AV} (l : Holds1 S a name r) (hR : Rep X S ρ T s) {v : Value} (hv : VR X ρ T s.heap a v) :
    ∃ x dx od u, v = .ref x ∧ InstAt s.heap x (instObj X.C dx) X.C (some od) ∧ lookIn name od = some u ∧ VRo X ρ T s.heap r u := by
  rcases l with ⟨i, rfl, rfl⟩ | ⟨i, r', rfl, hS, rfl⟩
  · simp only [VR] at hv
    obtain ⟨x, dx, l', rfl, hx, hd, e, h1, m, hn, h2, h3⟩ := hv
    obtain ⟨od, I, hlk⟩ := inst_at h1 hn
    refine ⟨x, dx, od, m name, rfl, I, hlk name, ?_⟩
    by_cases h : name = hName
    · subst h
      have h2 : m hName = some (.ref l') := h2
      rw [h2, if_pos rfl]; show VR X ρ T s.heap (.obj i) _; simp only [VR]; exact ⟨l', rfl, e⟩
    · rw [if_neg h, h3 _ h]; trivial
  · simp only [VR] at hv
    obtain ⟨x, dx, rfl, hx, e, h1⟩ := hv
    have ho := hR.obj _ _ _ hS e
    cases r' with
    | none =>
      have ho : s.heap.get? dx = some emptyDict := ho
      refine ⟨x, dx, emptyDict, none, rfl, ⟨h1, rfl, rfl, ho⟩, rfl, ?_⟩
      split <;> trivial
    | some y =>
      obtain ⟨hs, t, n, u, ho, hq⟩ := ho
      refine ⟨x, dx, _, _, rfl, ⟨h1, rfl, rfl, ho⟩, dict1_look name, ?_⟩
      by_cases h : name = hName
      · rw [if_pos h, if_pos h]; exact hq
      · rw [if_neg h, if_neg h]; trivial

/-- a method of the class -/
theorem mOwn {a : AV} {name : Str} {f : Addr} {KM : Value × List AV → List AO → Prop} (l : Holds1 S a name none) (hg : plainGet X.K X.C name = true) (hf : findIn X.K (.ref X.C) name = some (some (.ref f))) (ht : isFn X.K (.ref f) = true) (h : KM (.ref f, [a]) S) : WpM X n S name a KM := fun A ρ T s v pl hr hR hv => by
  obtain ⟨x, dx, od, u, rfl, I, hl, hu⟩ := l.at hR hv
  have hun : u = none := by cases u with
    | none => rfl
    | some _ => exact hu.elim
  subst hun
  refine method_fn hR.kin I (plainGet_of hg).1 (plainGet_of hg).2 hf (beq_iff_eq.mp ht) ?_ (PostG.mk (x := (.ref f, [a])) (.refl hR) h ⟨rfl, VRs.one hv⟩)
  show (lookIn name od).map _ = _
  rw [hl]; rfl

/-- o.name -/
noncomputable def WpG (X : Cx) (n : Nat) (S : List AO) (name : Str) (a : AV) (K : AV → List AO → Prop) : Prop :=
  ∀ A ρ T s v, Room n A → Rep X S ρ T s → VR X ρ T s.heap a v → wpAny X.M A (getAttr v name true) (PostV X S ρ T s K) No s
theorem wAttr {value : Expr} {name : Str} {pos : Pos} (h : WpE X n ae S value fun a S1 => WpG X n S1 name a K)
    (he : ∀ env, eval (.Attribute value name pos) env = (do
      let o ← eval value env
      standAt pos.atName
      let r ← holding [o] (getAttr o name true)
      letTemporaryGo value o r
      pure r) := by intro _; with_unfolding_all rfl) : WpE X n ae S (.Attribute value name pos) K := fun A ρ T s env hr hR hE => by
  exact Attribute_any_ (chain (h A ρ T s env hr hR hE) fun a S1 ρ1 T1 v s1 hK st hv => thenG hR st (hK A ρ1 T1 s1 v hr st.rep hv)) (he env)
theorem gOwn {a y : AV} {name : Str} {attr : Option Value} (l : Holds1 S a name (some y)) (hg : plainGet X.K X.C name = true) (hh : hasDictIn X.K X.C = true) (ha : findIn X.K (.ref X.C) name = some attr) (hn : noGet X.K attr = true)
    (hy : ∀ ρ T h v, VR X ρ T h y v → handedIn v = true) (h : K y S) : WpG X n S name a K := fun A ρ T s v hr hR hv => by
  obtain ⟨x, dx, od, u, rfl, I, hl, hu⟩ := l.at hR hv
  cases u with
  | none => exact hu.elim
  | some u => exact get_value hR.kin I (plainGet_of hg).1 (findObj_own hh ha hn hl) (hy _ _ _ _ hu) (PostG.mk (.toks hR _) h hu)
theorem obj_handed {i : Nat} {h : Heap} {v : Value} (q : VR X ρ T h (.obj i) v) : handedIn v = true := by
  simp only [VR] at q
  obtain ⟨a, rfl, _⟩ := q
  rfl

/-- self._headers = value -/
theorem sSelf {o value : Expr} {p pos : Pos} (h : WpE X n ae S value fun v S1 => WpE X n ae S1 o fun a S2 => ∃ i, a = .inst i ∧ S2[i]? = some (.inst none) ∧ findIn X.K (.ref X.C) "__setattr__" = some (some (.builtin "object.__setattr__")) ∧ plainOver X.K X.C = true ∧
      takerIn X.K X.C hName = some none ∧ hasDictIn X.K X.C = true ∧ KF .next (S2.set i (.inst (some v))))
    (hs : swapsWith value (some (.Attribute o hName p)) pos.line (dumb ae.scope) = pure false := by rfl) : WpS X n ae S (.Assign [.Attribute o hName p] value pos) KF := fun A ρ T s env hr hR hE => by
  refine plainObj_wpAny_Assign_Attribute (chain (h A ρ T s env hr hR hE) fun y S1 ρ1 T1 v s1 hK st hv => chain (hK A ρ1 T1 s1 env hr st.rep (hE.step st hR)) fun a S2 ρ2 T2 av s2 hK2 st2 hav => ?_) (by rw [← hE.scope] at hs; exact hs)
  obtain ⟨i, rfl, hS, h1, h2, h3, h4, hKF⟩ := hK2
  simp only [VR] at hav
  obtain ⟨x, dx, rfl, hx, hdx, hxo⟩ := hav
  have D : s2.heap.get? dx = some emptyDict := st2.rep.obj _ _ _ hS hdx
  have I : InstAt s2.heap x (instObj X.C dx) X.C (some emptyDict) := ⟨hxo, rfl, rfl, D⟩
  refine set_plain st2.rep.kin I h1 (osa_open (s := { s2 with toks := s2.toks + 1 }) st2.rep.kin I h2 h3 fun b => ?_)
  obtain ⟨cd, hc, hd'⟩ := any_some h4
  refine wpAny_bind (wpAny_pure (wpAny_bind (wpAny_bind (wpAny_loadPart hxo (wpAny_bind (Looks.here (s := { s2 with toks := s2.toks + 1 }) (looks_clsIn st2.rep.kin hc) ?_))))))
  rw [hd']
  refine wpAny_pure (a := some dx) (wpAny_bind (wpAny_pure (wpAny_bind ?_)))
  unfold nsSet
  have hput : Obj.putName hName (PyData.keyHash X.w.params hName) (.str hName (s2.toks + 1)) v emptyDict = dictOf [⟨PyData.keyHash X.w.params hName, .str hName (s2.toks + 1), v⟩] 1 := putName_dict hName _ _ v [] 0
  have D' : (s2.heap.update dx (Obj.putName hName (PyData.keyHash X.w.params hName) (.str hName (s2.toks + 1)) v)).get? dx = some (dictOf [⟨PyData.keyHash X.w.params hName, .str hName (s2.toks + 1), v⟩] 1) := by
    rw [← hput]; exact Heap.get?_update_self _ D (by rw [hput]; rfl)
  refine wpAny_bind (wpAny_bind (wpAny_askSetting (wpAny_pure (wpAny_bind (wpAny_mkText (wpAny_bind (wpAny_loadPart D ?_)))))))
  rw [show emptyDict.data = Data.dict #[] 0 from rfl]
  dsimp only
  rw [aRefKeyMayBeTheName_at]
  simp only [List.any_toArray, List.any_nil, Bool.not_false, Bool.and_false, Bool.false_eq_true, if_false, Array.any_empty]
  refine wpAny_updatePart (s := { s2 with toks := s2.toks + 1 + 1 }) D ?_
  refine wpAny_bind (wpAny_lookBehind D' (pastItsLine_dict (by rw [sizeLine_eq]; show 1 ≤ _; omega)) ?_)
  have hsb : Heap.SameBut dx s2.heap (s2.heap.update dx (Obj.putName hName (PyData.keyHash X.w.params hName) (.str hName (s2.toks + 1)) v)) := Heap.SameBut.update ..
  have hmv : Mv ρ2 T2 s2.heap ρ2 T2 (s2.heap.update dx (Obj.putName hName (PyData.keyHash X.w.params hName) (.str hName (s2.toks + 1)) v)) := ⟨fun b o hb e => (hsb.2 b (fun q => hb (q ▸ st2.rep.sub _ (List.mem_of_getElem? hdx)))).trans e, fun a ha => .inl ha, fun _ _ e => e⟩
  refine wpAny_pure ?_
  exact PostG.mk ((st.trans hR st2).trans hR (.upd st2.rep hS hdx (by intro q; cases q) (by intro q; cases q) hsb.extBut (ao' := .inst (some y)) ⟨_, _, _, v, D', VR.mv hmv _ (VR.mv (st2.mv st.rep) _ hv)⟩ ⟨_, D'⟩ (s2.toks + 1 + 1))) hKF rfl
end
end Mine
namespace Mine

section
variable {X : Cx} {n : Nat} {ae : AEnv} {S S' : List AO} {ρ T : List Addr} {s : Shared} {K : AV → List AO → Prop} {KB : Bool → List AO → Prop} {KF : AF → List AO → Prop} {KU : Unit → List AO → Prop}

theorem WpBinds.mono : ∀ {bs : List (Str × AV)} {S : List AO} {K K' : Unit → List AO → Prop}, WpBinds X n ae bs S K → (∀ x S', K x S' → K' x S') → WpBinds X n ae bs S K'
  | [], S, K, K', h, hk => hk _ _ h
  | (t, x) :: r, S, K, K', h, hk => fun A ρ T s env u hr hR hE hv => wpAny_mono (h A ρ T s env u hr hR hE hv) (fun _ _ p => p.mono fun _ S1 h1 => WpBinds.mono h1 hk) fun _ _ f => f

/-- a contract of a function -/
theorem fnC {a : Addr} {oc ct dV kV doc pm cdv : Value} {od an : Option Addr} {osl : Array (Option Value)} {name qual : Str} {params : Arguments} {body : List Stmt} {scope : Scope} {xs : List AV} {kw : List (Str × AV)}
    (ho : X.K.lookup a = some ⟨oc, od, .func (fnOf name qual params body scope dV kV doc pm an cdv ct), osl⟩) (hcd : codeIn X.K cdv qual = true)
    (hb : Binds X n S (fnOf name qual params body scope dV kV doc pm an cdv ct) xs kw fun bs S1 => WpBinds X n (fEnv scope S1.length) bs (S1 ++ (.ns [] :: cellAOs scope.names)) fun _ S2 => WpSs X n (fEnv scope S1.length) S2 body fun f S3 => Leave S K (afv f) S3)
    (hk : scope.kind = .function := by rfl) (hco : scope.isCoroutine = false := by rfl) (hgen : scope.isGenerator = false := by rfl) : CdC X (n + 1) S a xs kw K :=
  cFnC ho hcd (fun A ρ T s vs ks hr hR hv hkw => wpAny_mono (hb A ρ T s vs ks hr hR hv hkw) (fun _ _ p => p.mono fun bs S1 h => WpBinds.mono h fun _ S2 h2 => WpSs.mono h2 fun f S3 h3 ρ T s ρ3 T3 s3 v R st q => h3.post R st q) fun _ _ f => f) hk hco hgen

/-- a pure binding -/
theorem bindPure {fd : FuncData} {xs : List AV} {kw : List (Str × AV)} {names : List Str} {KB' : List (Str × AV) → List AO → Prop} (hl : names.length = xs.length) (hb : ∀ vs : List Value, vs.length = xs.length → bindArgs fd ⟨vs, []⟩ = pure (names.zip vs)) (hkw : kw = []) (h : KB' (names.zip xs) S) : Binds X n S fd xs kw KB' := fun A ρ T s vs ks hr hR hv hks => by
  subst hkw
  cases hks.nil_inv
  rw [hb vs hv.length]
  refine wpAny_pure (PostG.mk (.refl hR) h ?_)
  have : ∀ (ns : List Str) (xs : List AV) (vs : List Value), VRs X ρ T s.heap xs vs → VRk X ρ T s.heap (ns.zip xs) (ns.zip vs) := by
    intro ns
    induction ns with
    | nil => intro xs vs _; simp [VRk]
    | cons n ns ih =>
      intro xs vs q
      cases xs with
      | nil => rw [VRs_nil.mp q]; simp [VRk]
      | cons x xs =>
        obtain ⟨v, r, rfl, h1, h2⟩ := VRs_cons.mp q
        simp only [List.zip_cons_cons, VRk]
        exact ⟨v, _, rfl, h1, ih xs r h2⟩
  exact this names xs vs hv

/-- an object of an own class made over a list -/
theorem kMake {fI : Addr} {i : Nat} {rows : List AV} (hm : makesIn X.K X.C = true) (hi : findIn X.K (.ref X.C) "__init__" = some (some (.ref fI))) (hf : typeIn X.K (.ref fI) = some (.type "function")) (hS : S[i]? = some (.lst rows)) (hu : AV.unds 0 rows)
    (hc : CdC X n [.lst rows, .inst none] fI [.inst 1, .obj 0] [] fun x S' => x = .none ∧ S' = [.lst rows, .inst (some (.obj 0))]) (h : K (.hdr i) S) : WpC X (n + 1) S (.val (.ref X.C)) [.obj i] [] K := fun A ρ T s g vs ks hr R hg hv hks => by
  cases VR_val.mp hg
  cases hks.nil_inv
  obtain ⟨v, rfl, hq⟩ := hv.one_inv
  simp only [VR] at hq
  obtain ⟨l, rfl, hl⟩ := hq
  have hil : i < S.length := (List.getElem?_eq_some_iff.mp hS).1
  have hlT : l ∈ T := R.sub l (List.mem_of_getElem? hl)
  obtain ⟨ol, hol⟩ := R.low l hlT
  have hlt : l < s.heap.objs.size := Heap.lt_size hol
  have hk : ∀ b o, s.heap.get? b = some o → ((s.heap.push emptyDict).push (instObj X.C s.heap.objs.size)).get? b = some o := fun b o e => Heap.get?_push_of_some _ (Heap.get?_push_of_some _ e)
  have hsz : (s.heap.push emptyDict).objs.size = s.heap.objs.size + 1 := Heap.size_push ..
  have hdx : ((s.heap.push emptyDict).push (instObj X.C s.heap.objs.size)).get? s.heap.objs.size = some emptyDict := Heap.get?_push_of_some _ (Heap.get?_push_size _ rfl)
  have hx : ((s.heap.push emptyDict).push (instObj X.C s.heap.objs.size)).get? (s.heap.objs.size + 1) = some (instObj X.C s.heap.objs.size) := by
    have := Heap.get?_push_size (s.heap.push emptyDict) (o := instObj X.C s.heap.objs.size) rfl
    rw [hsz] at this; exact this
  have hdT : s.heap.objs.size ∉ T := R.fresh
  have hxT : s.heap.objs.size + 1 ∉ T := fun q => by obtain ⟨o, e⟩ := R.low _ q; exact absurd (Heap.lt_size e) (Nat.not_lt.mpr (Nat.le_succ _))
  have hnone : ∀ b, s.heap.objs.size ≤ b → X.r.heap.get? b = none := fun b hb => by
    cases e : X.r.heap.get? b with
    | none => rfl
    | some o => have := R.keep b o e; exact absurd (Heap.lt_size this) (Nat.not_lt.mpr hb)
  have R0 : Rep X [.lst rows, .inst none] [l, s.heap.objs.size] (T ++ [s.heap.objs.size]) { s with heap := (s.heap.push emptyDict).push (instObj X.C s.heap.objs.size) } := {
    keep := fun b o e => hk b o (R.keep b o e)
    len := rfl
    obj := fun j oj b e1 e2 => by
      match j with
      | 0 =>
        simp at e1 e2; subst e1; subst e2
        have h1 := (R.obj i _ _ hS hl).mv (mvNew (a := s.heap.objs.size) R hk (newAddr _)) (fun o e => hk l o e)
        exact h1.dr .zero (fun o e => e) hu
      | 1 => simp at e1 e2; subst e1; subst e2; exact hdx
      | j + 2 => simp at e1
    nodup := by simpa using Nat.ne_of_lt hlt
    nosys := fun b hb => by
      rcases List.mem_cons.mp hb with rfl | hb
      · exact R.nosys _ (List.mem_of_getElem? hl)
      · rw [List.mem_singleton.mp hb]; exact R.nosysOf (Nat.le_refl _)
    sub := fun b hb => by
      rcases List.mem_cons.mp hb with rfl | hb
      · exact List.mem_append_left _ hlT
      · rw [List.mem_singleton.mp hb]; simp
    new := fun b hb => by
      rcases List.mem_append.mp hb with hb | hb
      · exact R.new b hb
      · rw [List.mem_singleton.mp hb]; exact hnone _ (Nat.le_refl _)
    low := fun b hb => by
      rcases List.mem_append.mp hb with hb | hb
      · obtain ⟨o, e⟩ := R.low b hb; exact ⟨o, hk b o e⟩
      · rw [List.mem_singleton.mp hb]; exact ⟨_, hdx⟩
    rest := R.rest
    toks := R.toks }
  have hr' : Room n (A.under (.builtin "type.__call__" ⟨.ref X.C :: [.ref l], []⟩)) := ⟨by show A.depth + 1 + n < _; have := hr.depth; omega, by show A.units + 1 + 8 * n < _; have := hr.units; omega, hr.handled⟩
  refine wpAny_call ?_
  obtain ⟨hh, gg, dd, tt, oo⟩ := s
  refine make_core (makes_of R.kin hm) (looks_findIn R.kin hi) (fun self => bind_fn R.kin self hf) (.inl rfl) ?_
  refine codeAny_mono (hc _ [l, hh.objs.size] (T ++ [hh.objs.size]) _ [.ref (hh.objs.size + 1), .ref l] [] hr' R0 ?_ (by simp [VRk])) fun r s' hp => ?_
  · refine VRs_cons.mpr ⟨_, _, rfl, ?_, VRs.one ?_⟩
    · simp only [VR]
      exact ⟨_, _, rfl, fun q => by
        rcases List.mem_append.mp q with q | q
        · exact hxT q
        · have := List.mem_singleton.mp q; simp at this, rfl, hx⟩
    · simp only [VR]; exact ⟨l, rfl, rfl⟩
  obtain ⟨v, rfl, x, S2, ρ', T', ⟨rfl, rfl⟩, st, hvn⟩ := hp
  obtain ⟨m, e1, e2, hm'⟩ := st.more
  have hm0 : m = [] := by
    have := st.rep.len
    rw [e1] at this; simpa using this
  subst hm0
  simp only [List.append_nil] at e1 e2
  subst e1 e2
  refine ⟨VR_none.mp hvn, ?_⟩
  have hkp : ∀ b o, b ≠ l → hh.get? b = some o → s'.heap.get? b = some o := fun b o hb e => st.keep b o (fun ⟨j, oj, f1, f2, _⟩ => by
    match j with
    | 0 => simp at f1; exact hb f1.symm
    | 1 => simp at f1; subst f1; exact absurd (Heap.lt_size e) (Nat.lt_irrefl _)
    | j + 2 => simp at f1) (hk b o e)
  have mv : Mv ρ T hh ρ T s'.heap := ⟨fun b o hb e => hkp b o (fun q => hb (q ▸ hlT)) e, fun b hb => .inl hb, fun _ _ e => e⟩
  have d0 : Dr 0 [l, hh.objs.size] (T ++ [hh.objs.size]) s'.heap ρ T s'.heap := ⟨fun b o _ e => e, fun a ha => List.mem_append_left _ ha, fun i a hi _ => absurd hi (Nat.not_lt_zero _)⟩
  refine PostG.mk (x := .hdr i) (ρ' := ρ) (T' := T) ⟨?_, ⟨[], by simp, by simp, fun _ h => nomatch h⟩, fun b o hb e => hkp b o (fun q => hb ⟨i, _, q ▸ hl, hS, by intro q; cases q⟩) e, fun j e => e⟩ h ?_
  · exact {
      keep := st.rep.keep
      len := R.len
      obj := fun j oj b f1 f2 => by
        by_cases hij : i = j
        · subst hij
          rw [hS] at f1; rw [hl] at f2
          cases f1; cases f2
          exact (st.rep.obj 0 _ l rfl rfl).dr d0 (fun o e => e) hu
        · have hb : b ≠ l := fun q => by
            subst q
            obtain ⟨l1, z1⟩ := List.getElem?_eq_some_iff.mp hl
            obtain ⟨l2, z2⟩ := List.getElem?_eq_some_iff.mp f2
            exact hij ((List.getElem_inj R.nodup).mp (z1.trans z2.symm))
          exact (R.obj j oj b f1 f2).mv mv fun o e => hkp b o hb e
      nodup := R.nodup
      nosys := R.nosys
      sub := R.sub
      new := R.new
      low := fun b hb => st.rep.low b (List.mem_append_left _ hb)
      rest := st.rep.rest
      toks := st.rep.toks }
  · simp only [VR]
    obtain ⟨hs, t, n', u, hdd, hu'⟩ := st.rep.obj 1 _ _ rfl rfl
    simp only [VR] at hu'
    obtain ⟨l2, rfl, hl2⟩ := hu'
    have : l2 = l := by simpa using hl2.symm
    subst this
    refine ⟨hh.objs.size + 1, hh.objs.size, l2, rfl, hxT, hdT, hl, st.keep _ _ (fun ⟨j, oj, f1, f2, _⟩ => ?_) hx, _, dict1_ns hdd, by rw [if_pos (show Str.ofString "_headers" = hName from rfl)], fun y hy => by rw [if_neg (show ¬ y = hName from hy)]⟩
    match j with
    | 0 => simp at f1; exact absurd f1 (Nat.ne_of_lt (Nat.lt_succ_of_lt hlt))
    | 1 => simp at f1
    | j + 2 => simp at f1
end
end Mine
namespace Mine

namespace RF
theorem plainAttrs : PlainAttrs "re.Pattern" :=
  ⟨⟨"object.__getattribute__", by rw [typeLookup_type, builtinLookup_eq_fast]; kernel_rfl, by decide +kernel⟩, by rw [typeLookup_type, builtinLookup_eq_fast]; kernel_rfl⟩
theorem slot : Slot "re.Pattern" "search" "re.Pattern.search" :=
  .of (owner := "re.Pattern") (n := "search") (by rw [typeLookup_type, builtinLookup_eq_fast]; kernel_rfl) (by decide +kernel) (by decide +kernel) (by decide +kernel)
    (by first | exact .inl (by decide +kernel) | exact .inr (by decide +kernel)) (by rw [isSubtype_type]; kernel_rfl)
theorem type : typeOf (.builtin "re.Pattern.search") = pure (.type "method_descriptor") := by show builtinType _ = _; rw [builtinType_eq_fast]; kernel_rfl
theorem entry : entryFor table "re.Pattern.search" = some Builtin.«re.Pattern.search» := entryFor_of_tree (by kernel_rfl)
theorem args (a b : Value) : argsOk "re.Pattern.search" ⟨[a, b], []⟩ := by
  unfold argsOk; kernel_rfl
end RF

/-- the set of a code admits no sign of a text -/
noncomputable def NoSet (code : Array Nat) (c : Nat) : Prop := ∀ seen, ∃ seen', Sre.inSet code c code.size 5 true seen = .ok (false, seen')

theorem admitted_none (m : Sre.M) : ∀ (fuel s : Nat) (seen : Sre.Seen), (∀ i, s ≤ i → i < m.lim → NoSet m.code (m.text.getD i 0)) → ∃ seen', Sre.M.admitted m fuel s seen = .ok (none, seen')
  | 0, s, seen, _ => ⟨seen, rfl⟩
  | fuel + 1, s, seen, h => by
    unfold Sre.M.admitted
    by_cases hs : s ≥ m.lim
    · rw [if_pos hs]; exact ⟨seen, rfl⟩
    · rw [if_neg hs]
      obtain ⟨seen', e⟩ := h s (Nat.le_refl _) (by omega) seen
      rw [e]
      exact admitted_none m fuel (s + 1) seen' fun i hi => h i (by omega)

theorem search_none {code text : Array Nat} {groups lim : Nat} (h0 : Sre.ops[code.getD 0 0]? = some .INFO) (h2 : code.getD 2 0 = 4) (hn : ∀ i, i < lim → NoSet code (text.getD i 0)) :
    ∃ m : Sre.M, Sre.forSearch code text groups 0 lim false = m ∧ m.answer = some false ∧ m.frames = [] ∧ m.outcome = none := by
  unfold Sre.forSearch
  dsimp only
  split
  · exact ⟨_, rfl, rfl, rfl, rfl⟩
  · generalize hm : ({ (_ : Sre.M) with lastStart := _ } : Sre.M) = m
    have e1 : m.code = code := by rw [← hm]; rfl
    have e2 : m.text = text := by rw [← hm]; rfl
    have e3 : m.lim = lim := by rw [← hm]; rfl
    have e4 : m.frames = [] := by rw [← hm]; rfl
    have e5 : m.outcome = none := by rw [← hm]; rfl
    refine ⟨_, rfl, ?_⟩
    unfold Sre.M.attemptFrom
    have hf : m.hasFirstSet = true := by
      unfold Sre.M.hasFirstSet
      rw [e1, h0, h2]; rfl
    rw [hf]
    obtain ⟨seen', e⟩ := admitted_none m (m.lim + 1 - 0) 0 m.seen (fun i _ hi => by rw [e1, e2]; exact hn i (e3 ▸ hi))
    simp only [Bool.not_true, Bool.false_eq_true, if_false]
    rw [e]
    exact ⟨rfl, e4, e5⟩

section
variable {M : Model} {A : Around} {E : Value → Shared → Prop} {s : Shared}
theorem drive_none {m : Sre.M} {Q : Option Sre.M → Shared → Prop} (h1 : m.answer = some false) (h2 : m.frames = []) (h3 : m.outcome = none) (h : Q none s) : wpAny M A (Builtin.Re.reRunToEnd m) Q E s := by
  have hd : ∃ m' : Sre.M, Builtin.Re.reDrive (2 ^ 64) m = pure m' ∧ m'.outcome = some .failed := by
    have e : (2 ^ 64 : Nat) = (2 ^ 64 - 1) + 1 := by decide
    rw [e]
    unfold Builtin.Re.reDrive
    have hs : m.step = { m with outcome := some .failed } := by
      unfold Sre.M.step
      rw [h3, h1, h2]; rfl
    have hr : m.runFor Builtin.Re.reTurnSteps = { m with outcome := some .failed } := by
      show Sre.M.runFor 4 m = _
      unfold Sre.M.runFor
      rw [h3, if_neg (by decide), hs]
      rfl
    rw [hr]
    exact ⟨_, rfl, rfl⟩
  obtain ⟨m', hd, ho⟩ := hd
  unfold Builtin.Re.reRunToEnd
  rw [hd]
  refine wpAny_bind (wpAny_pure (wpAny_bind ?_))
  refine wpAny_forIn_list _ (fun _ _ s' => s' = s) _ (fun x rest b s' hs => ?_) (fun b s' hs => ?_) _ _ rfl
  · subst hs
    refine wpAny_ite ?_
    split
    · exact wpAny_bind (wpAny_rule (wpAny_pure rfl))
    · exact wpAny_pure rfl
  · subst hs
    rw [ho]
    exact wpAny_pure h
end

/-- the pattern object of a compiled character class -/
noncomputable def PatAt (h : Heap) (q : Addr) (code : Array Nat) : Prop := ∃ (o : Obj) (vs : Array Value) (T : Addr) (oT : Obj) (ws : Array Value) (nT : Nat), h.get? q = some o ∧ o.data = .fields vs ∧ vs.getD 5 .none = .ref T ∧ vs.getD 6 .none = .int 0 0 ∧
  h.get? T = some oT ∧ oT.data = .seq ws nT ∧ (ws.map Builtin.Re.reRawOf).map (·.toNat) = code

theorem gives_search {q : Addr} {x : Str} {t : Tok} {code : Array Nat} (h0 : Sre.ops[code.getD 0 0]? = some .INFO) (h2 : code.getD 2 0 = 4) (hn : ∀ c ∈ x.cps, NoSet code c) :
    GivesAt (fun s => PatAt s.heap q code) (Builtin.«re.Pattern.search» ⟨[.ref q, .str x t], []⟩) (.val .none) := by
  intro prog w A R s ⟨o, vs, T, oT, ws, nT, ho, hd, h5, h6, hT, hTd, hc⟩ hR
  have e1 : Builtin.Re.reNamed "re.Pattern.search" "search" ["string", "pos", "endpos"] 1 [.str x t] [] = pure [some (.str x t), none, none] := rfl
  unfold Builtin.«re.Pattern.search»
  refine wpAny_bind ?_
  unfold Builtin.Re.reTarget
  dsimp only
  rw [e1]
  refine wpAny_bind (wpAny_pure ?_)
  dsimp only
  refine wpAny_bind (wpAny_pure (wpAny_bind (wpAny_pure (wpAny_bind (wpAny_fieldsOf ho hd ?_)))))
  have e2 : Builtin.Re.reTextOf (.str x t) = pure (x.cps, 0) := rfl
  rw [e2]
  refine wpAny_bind (wpAny_pure ?_)
  rw [h5, h6]
  dsimp only
  rw [if_neg (by decide), if_neg (by decide)]
  refine wpAny_bind (wpAny_pure (wpAny_bind ?_))
  unfold Builtin.Re.reRawItems
  refine wpAny_bind (wpAny_seqItems hT hTd (wpAny_pure ?_))
  refine wpAny_pure ?_
  dsimp only [Option.getD_some]
  rw [hc]
  have hl : min (2 ^ 63 - 1 : Int).toNat x.cps.size ≤ x.cps.size := Nat.min_le_right _ _
  obtain ⟨m, em, a1, a2, a3⟩ := search_none (code := code) (text := x.cps) (groups := Builtin.Re.reRawNat (vs.getD 2 .none)) (lim := min (2 ^ 63 - 1 : Int).toNat x.cps.size) h0 h2
    (fun i hi => hn _ (by
      have : i < x.cps.size := Nat.lt_of_lt_of_le hi hl
      simp [Array.getD, this]))
  have em' : Sre.forSearch code x.cps (Builtin.Re.reRawNat (vs.getD 2 .none)) (min (Int.toNat 0) x.cps.size) (min (2 ^ 63 - 1 : Int).toNat x.cps.size) false = m := by
    rw [← em]; congr 1
  rw [em']
  unfold Builtin.Re.reAnswer
  exact wpAny_bind (drive_none a1 a2 a3 (wpAny_pure hR))

section
variable {X : Cx} {n : Nat} {S : List AO}
theorem kSearch {q : Addr} {x : Str} {code : Array Nat} {K : AV → List AO → Prop} (h0 : Sre.ops[code.getD 0 0]? = some .INFO) (h2 : code.getD 2 0 = 4) (hn : ∀ c ∈ x.cps, NoSet code c)
    (hT : ∀ ρ T s, Rep X S ρ T s → s.TypeIs (.ref q) "re.Pattern" ∧ PatAt s.heap q code)
    (h : K .none S) : WpC X n S (.val (.builtin "re.Pattern.search")) [.val (.ref q), .str x] [] K := call2 fun A ρ T s v u hr hR hv hu => by
  cases VR_val.mp hv
  obtain ⟨_, t, rfl⟩ := VR_str.mp hu
  obtain ⟨h1, h3⟩ := hT ρ T s hR
  exact call_givesAt RF.slot h1 RF.entry (RF.args _ _) (gives_search h0 h2 hn) h3 (PostG.mk (.refl hR) h (by simp))
end
end Mine
namespace Mine
section
variable {X : Cx} {n : Nat} {ae : AEnv} {S S' : List AO} {K : AV → List AO → Prop} {KB : Bool → List AO → Prop} {KF : AF → List AO → Prop} {KU : Unit → List AO → Prop}

/-- a try whose body raises nothing -/
theorem sTry {body orelse : List Stmt} {h₀ : ExceptHandler} {hs : List ExceptHandler} {pos : Pos} (h : WpSs X n ae S body (Seq X n ae orelse KF)) : WpS X n ae S (.Try body (h₀ :: hs) orelse [] pos) KF := fun A ρ T s env hr hR hE =>
  wpAny_Try_except (wpAny_mono (h A ρ T s env hr hR hE) (fun f s1 p => by
    obtain ⟨x, S1, ρ1, T1, hK, st, hv⟩ := p
    cases x with
    | next => cases hv; exact thenG hR st (hK A ρ1 T1 s1 env hr st.rep (hE.step st hR))
    | brk => cases hv; exact PostG.mk st hK rfl
    | cont => cases hv; exact PostG.mk st hK rfl
    | ret x => obtain ⟨u, rfl, hu⟩ := hv; exact PostG.mk st hK ⟨u, rfl, hu⟩) fun _ _ f => f.elim)

theorem EnvOk.nint {ρ : List Addr} {env : Env} (E : EnvOk ae ρ env) : interactive env = false := by
  unfold interactive; rw [E.fnk]; rfl

theorem sExpr {e : Expr} {pos : Pos} (h : WpE X n ae S e fun _ S1 => KF .next S1) (hs : ∀ env, swapsWith e none pos.line env = pure false := by intro _; rfl) : WpS X n ae S (.Expr e pos) KF := fun A ρ T s env hr hR hE =>
  wpAny_Expr_any (chain (h A ρ T s env hr hR hE) fun a S1 ρ1 T1 v s1 hK st hv => PostG.mk st hK rfl) hE.nint (hs env)

theorem VRs.erase {ρ T : List Addr} {h : Heap} : ∀ {xs : List AV} {vs : List Value}, VRs X ρ T h xs vs → ∀ d : Nat, VRs X ρ T h (xs.eraseIdx d) (vs.eraseIdx d)
  | [], vs, q, d => by cases VRs_nil.mp q; simp
  | x :: xs, vs, q, 0 => by
    obtain ⟨v, r, rfl, h1, h2⟩ := VRs_cons.mp q
    exact h2
  | x :: xs, vs, q, d + 1 => by
    obtain ⟨v, r, rfl, h1, h2⟩ := VRs_cons.mp q
    exact VRs_cons.mpr ⟨v, _, rfl, h1, VRs.erase h2 d⟩

/-- del xs[i] -/
theorem sDel {o i : Expr} {p pos : Pos} (h : WpE X n ae S o fun a S1 => WpE X n ae S1 i fun b S2 => ∃ k xs j d, a = .obj k ∧ S2[k]? = some (.lst xs) ∧ b = .int j ∧ Builtin.List.listFitsIndex j = true ∧ xs.length ≤ sizeLine ∧ seqIndex? j xs.length = some d ∧
    KF .next (S2.set k (.lst (xs.eraseIdx d)))) : WpS X n ae S (.Delete [.Subscript o i p] pos) KF := fun A ρ T s env hr hR hE => by
  refine wpAny_Delete (wpAny_deleteEach_cons (wpAny_delete_Subscript (chain (h A ρ T s env hr hR hE) fun a S1 ρ1 T1 v s1 hK st hv => chain (hK A ρ1 T1 s1 env hr st.rep (hE.step st hR)) fun b S2 ρ2 T2 u s2 hK2 st2 hu => ?_)))
  obtain ⟨k, xs, j, d, rfl, hS, rfl, hf, hl, hd, hK2⟩ := hK2
  have hv2 := VR.mv (st2.mv st.rep) _ hv
  simp only [VR] at hv2
  obtain ⟨a, rfl, ha⟩ := hv2
  obtain ⟨t, rfl⟩ := VR_int.mp hu
  obtain ⟨vs, hi, hq⟩ := st2.rep.obj _ _ _ hS ha
  have hsz : vs.toArray.size = xs.length := by simpa using hq.length
  refine wpAny_delItem_plain hi hf (by rw [hsz]; exact hd) (fun h' hh hs => wpAny_deleteEach_nil ?_) (by rw [hsz]; exact hl)
  have mv := st2.rep.mvSelf (List.mem_of_getElem? ha) hs.extBut
  have hk3 : vs.toArray.eraseIdxIfInBounds d = (vs.eraseIdx d).toArray := by
    unfold Array.eraseIdxIfInBounds
    split
    · simp
    · rename_i hh; simp at hh; rw [List.eraseIdx_of_length_le hh]
  rw [hk3] at hh
  exact PostG.mk ((st.trans hR st2).trans hR (.upd st2.rep hS ha (by intro q; cases q) (by intro q; cases q) hs.extBut (ao' := .lst (xs.eraseIdx d)) ⟨_, hh, VRs.erase (VRs.mv mv _ hq) d⟩ (let ⟨_, ho⟩ := hh; ⟨_, ho⟩) _)) hK2 rfl
end

set_option maxHeartbeats 2000000 in
open PySem.Builtin PySem.Builtin.Str in
theorem pct2_meets {b : Addr} {x y : Str} {t0 t u : Tok} (hx : x.length ≤ 100000) (hy : y.length ≤ 100000) : ∃ T : Str, T = x ++ (Str.ofString ": ") ++ y ∧
    Meets («str.__mod__» ⟨[.str ⟨#[37, 115, 58, 32, 37, 115]⟩ t0, .ref b], []⟩) (fun _ R s => IsTup s.heap b #[.str x t, .str y u] ∧ ∀ t' k, R (.ok (.ret (.str T t'))) { s with toks := k }) := by
  refine ⟨?_, ?_, ?_⟩
  rotate_left 2
  · kpt_run
  exact rfl

theorem pct2 {prog : Program} {w : World} {A : Around} {E : Value → Shared → Prop} {s : Shared} {t0 : Tok} {b : Addr} {x y : Str} {t u : Tok} {Q : Value → Shared → Prop} (hb : IsTup s.heap b #[.str x t, .str y u]) (hx : x.length ≤ 100000) (hy : y.length ≤ 100000)
    (h : ∀ t' k, Q (.str (x ++ (Str.ofString ": ") ++ y) t') { s with toks := k }) : wpAny (model prog w) A (binaryOp .Mod (.str ⟨#[37, 115, 58, 32, 37, 115]⟩ t0) (.ref b)) Q E s := by
  have hT : s.TypeIs (.ref b) "tuple" := by
    obtain ⟨o, ho, hc, _⟩ := hb
    exact ⟨o, ho, hc⟩
  obtain ⟨T, rfl, hm⟩ := pct2_meets (b := b) (t0 := t0) (t := t) (u := u) hx hy
  exact KPt.bin_left (T := "str") (U := "tuple") (op := .Mod) (by decide) (typeIs_str s _ _) hT F.fills_str_mod KPt.fills_tuple F.slot_str_mod
    (call_meets F.slot_str_mod (typeIs_str s _ _) F.entry_str_mod (F.args_str_mod_2 _ _) hm ⟨hb, fun t' k => ⟨(fun e => nomatch e), h t' k⟩⟩)

section
variable {X : Cx} {n : Nat} {S : List AO} {K : AV → List AO → Prop}
theorem oPct2 {x y : Str} (hx : x.length ≤ 100000) (hy : y.length ≤ 100000) (h : K (.str (x ++ (Str.ofString ": ") ++ y)) S) :
    Wp2 X n S (binaryOp .Mod) (.str (Str.ofString "%s: %s")) (.tup [.str x, .str y]) K := fun A ρ T s v u hr hR hv hu => by
  have e : Str.ofString "%s: %s" = ⟨#[37, 115, 58, 32, 37, 115]⟩ := by decide +kernel
  rw [e] at hv
  obtain ⟨_, t0, rfl⟩ := VR_str.mp hv
  simp only [VR] at hu
  obtain ⟨b, vs, rfl, _, hb, hq⟩ := hu
  obtain ⟨v1, v2, rfl, h1, h2⟩ := hq.two_inv
  obtain ⟨_, t, rfl⟩ := VR_str.mp h1
  obtain ⟨_, u, rfl⟩ := VR_str.mp h2
  have e2 : (Str.ofString ": ").length = 2 := by decide +kernel
  have hl : (x ++ (Str.ofString ": ") ++ y).length ≤ sizeLine := by rw [Str.length_append, Str.length_append, e2, sizeLine_eq]; omega
  exact wpAny_with_toks (Nat.le_refl _) (pct2 hb hx hy fun t' k hk => PostG.mk (.toks hR k hk) h (VR_str.mpr ⟨hl, _, rfl⟩))
end
end Mine
namespace Mine
section
variable {X : Cx} {n : Nat} {ae : AEnv} {S S' : List AO} {ρ T : List Addr} {h : Heap} {K : AV → List AO → Prop} {KB : Bool → List AO → Prop} {KF : AF → List AO → Prop} {KU : Unit → List AO → Prop}

/-- the end of a function; what stands unchanged asks nothing -/
noncomputable def LeaveG (S1 : List AO) (K : AV → List AO → Prop) (x : AV) (S2 : List AO) : Prop :=
  ∃ S1' ks aos y, S1'.length = S1.length ∧ (∀ (i : Nat) (ao : AO), S1'[i]? = some ao → S2[i]? = some ao ∧ (S1[i]? = some ao ∨ ao.und S1.length)) ∧ aos.length = ks.length ∧
    (∀ (p k : Nat), ks[p]? = some k → S1.length ≤ k ∧ ∃ ao, S2[k]? = some ao ∧ aos[p]? = some ao ∧ ao.und S1.length) ∧ ks.Nodup ∧ Fz S2 S1.length ks x y ∧ K y (S1' ++ aos)
theorem LeaveG.post {S1 S2 : List AO} {ρ1 T1 ρ2 T2 : List Addr} {s s2 : Shared} {x : AV} {v : Value} (h : LeaveG S1 K x S2) (R : Rep X S1 ρ1 T1 s) (st : Step X S1 ρ1 T1 s S2 ρ2 T2 s2) (q : VR X ρ2 T2 s2.heap x v) : PostV X S1 ρ1 T1 s K v s2 := by
  obtain ⟨S1', ks, aos, y, hlen, h1, hl, h2, hnd, hf, hK⟩ := h
  exact Leave.post ⟨S1', ks, aos, y, hlen, fun i ao e => ⟨(h1 i ao e).1, (h1 i ao e).2.elim (fun q => R.und _ _ q) id⟩, hl, h2, hnd, hf, hK⟩ R st q

/-- a contract of a function -/
theorem fnG {a : Addr} {oc ct dV kV doc pm cdv : Value} {od an : Option Addr} {osl : Array (Option Value)} {name qual : Str} {params : Arguments} {body : List Stmt} {scope : Scope} {xs : List AV} {kw : List (Str × AV)}
    (ho : X.K.lookup a = some ⟨oc, od, .func (fnOf name qual params body scope dV kV doc pm an cdv ct), osl⟩) (hcd : codeIn X.K cdv qual = true)
    (hb : Binds X n S (fnOf name qual params body scope dV kV doc pm an cdv ct) xs kw fun bs S1 => WpBinds X n (fEnv scope S1.length) bs (S1 ++ (.ns [] :: cellAOs scope.names)) fun _ S2 => WpSs X n (fEnv scope S1.length) S2 body fun f S3 => LeaveG S K (afv f) S3)
    (hk : scope.kind = .function := by rfl) (hco : scope.isCoroutine = false := by rfl) (hgen : scope.isGenerator = false := by rfl) : CdC X (n + 1) S a xs kw K :=
  cFnC ho hcd (fun A ρ T s vs ks hr hR hv hkw => wpAny_mono (hb A ρ T s vs ks hr hR hv hkw) (fun _ _ p => p.mono fun bs S1 h => WpBinds.mono h fun _ S2 h2 => WpSs.mono h2 fun f S3 h3 ρ T s ρ3 T3 s3 v R st q => h3.post R st q) fun _ _ f => f) hk hco hgen

theorem fzStr {m : Nat} {ks : List Nat} {x : Str} : Fz S m ks (.str x) (.str x) := by simp [Fz, AV.und]
theorem fzBool {m : Nat} {ks : List Nat} {x : Bool} : Fz S m ks (.bool x) (.bool x) := by simp [Fz, AV.und]
theorem fzNone {m : Nat} {ks : List Nat} : Fz S m ks .none .none := by simp [Fz, AV.und]
theorem fzLst {m : Nat} {ks : List Nat} {xs : List AV} (h : AV.unds m xs) : Fz S m ks (.lst xs) (.lst xs) := by simp [Fz, AV.und, h]
theorem fzObjD {m : Nat} {ks : List Nat} {j : Nat} {xs : List (Str × AV)} (hj : S[j]? = some (.dct xs)) (hm : m ≤ j) (hk : j ∉ ks) (h : AV.undk m xs) : Fz S m ks (.obj j) (.dct xs) := by
  simp only [Fz]; exact ⟨hm, hk, .inr ⟨xs, hj, h, rfl⟩⟩
theorem fzHdr {m : Nat} {ks : List Nat} {j p : Nat} (h : ks[p]? = some j) : Fz S m ks (.hdr j) (.hdr (m + p)) := by
  simp only [Fz]; exact .inl ⟨p, h, rfl⟩
/-- nothing tracked is touched or handed out -/
theorem leaveU {S1 S2 : List AO} {x y : AV} (h1 : ∀ (i : Nat) (ao : AO), S1[i]? = some ao → S2[i]? = some ao) (hf : Fz S2 S1.length [] x y) (hK : K y S1) : LeaveG S1 K x S2 :=
  ⟨S1, [], [], y, rfl, fun i ao e => ⟨h1 i ao e, .inl e⟩, rfl, by simp, List.nodup_nil, hf, by simpa using hK⟩
theorem leaveE {x y : AV} {S2 : List AO} (hf : Fz S2 0 [] x y) (hK : K y []) : Leave [] K x S2 :=
  ⟨[], [], [], y, rfl, by simp, rfl, by simp, List.nodup_nil, hf, hK⟩

theorem put_same {v : Str} {a : AV} : ∀ {ns : List (Str × AV)}, ns.lookup v = some a → put v a ns = ns
  | [], h => by simp at h
  | (k, b) :: ns, h => by
    unfold put
    by_cases e : v = k
    · subst e; simp at h; subst h; simp
    · have e1 : (v == k) = false := by simpa using e
      rw [List.lookup_cons, e1] at h
      simp only at h
      rw [if_neg e, put_same h]
theorem set_same {α : Type} {a : α} : ∀ {l : List α} {i : Nat}, l[i]? = some a → l.set i a = l
  | [], i, h => by simp at h
  | x :: l, 0, h => by simp at h; subst h; rfl
  | x :: l, i + 1, h => by simp at h; rw [List.set_cons_succ, set_same h]
end
end Mine
namespace Mine
section
variable {X : Cx} {n : Nat} {ae : AEnv} {S S' : List AO} {ρ T : List Addr} {h : Heap} {K : AV → List AO → Prop} {KB : Bool → List AO → Prop} {KF : AF → List AO → Prop} {KU : Unit → List AO → Prop}

noncomputable def PatIn (K : Frag) (q : Addr) (code : Array Nat) : Prop := ∃ (o : Obj) (vs : Array Value) (T : Addr) (oT : Obj) (ws : Array Value) (nT : Nat), K.lookup q = some o ∧ o.cls = .type "re.Pattern" ∧ o.dict = none ∧ o.data = .fields vs ∧ vs.getD 5 .none = .ref T ∧ vs.getD 6 .none = .int 0 0 ∧
  K.lookup T = some oT ∧ oT.data = .seq ws nT ∧ (ws.map Builtin.Re.reRawOf).map (·.toNat) = code

theorem PatIn.at {q : Addr} {code : Array Nat} (hq : PatIn X.K q code) {s : Shared} (R : Rep X S ρ T s) : s.TypeIs (.ref q) "re.Pattern" ∧ (∃ o, s.heap.get? q = some o ∧ o.dict = none) ∧ PatAt s.heap q code := by
  obtain ⟨o, vs, T', oT, ws, nT, h1, h2, h3, h4, h5, h6, h7, h8, h9⟩ := hq
  have g1 := R.kin _ _ h1
  exact ⟨⟨o, g1, h2⟩, ⟨o, g1, h3⟩, o, vs, T', oT, ws, nT, g1, h4, h5, h6, R.kin _ _ h7, h8, h9⟩

/-- regex.search(text), nothing found -/
theorem wSearch {o e : Expr} {apos pos : Pos} {q : Addr} {code : Array Nat} {pl : Env → Sem Bool} (hq : PatIn X.K q code) (h0 : Sre.ops[code.getD 0 0]? = some .INFO) (h2 : code.getD 2 0 = 4)
    (h : WpE X n ae S o fun a S1 => a = .val (.ref q) ∧ WpE X n ae S1 e fun b S2 => ∃ x, b = .str x ∧ (∀ c ∈ x.cps, NoSet code c) ∧ K .none S2) (hn : NoStar e = true)
    (he : ∀ env, eval (.Call (.Attribute o "search" apos) [e] [] pos) env = (do
      let ov ← eval o env
      standAt apos.atName
      let (f, first) ← holding [ov] (getMethod ov "search" (pl env))
      callWith pos f first (backTo pos (starEach [e] env)) (backToKw pos (keywordEach [] env))) := by intro _; rfl) :
    WpE X n ae S (.Call (.Attribute o "search" apos) [e] [] pos) K :=
  wCallM (pl := pl) (h.mono fun a S1 ⟨ea, hb⟩ => by
    subst ea
    refine mBuiltin (ty := "re.Pattern") (fun ρ T s v R hv => ?_) RF.plainAttrs RF.slot RF.type ⟨cBuiltin, ?_⟩
    · cases VR_val.mp hv
      obtain ⟨g1, g2, _⟩ := hq.at R
      exact ⟨g1, fun b e => by cases e; exact g2⟩
    · refine hb.mono fun b S2 ⟨x, eb, hx, hK⟩ => ?_
      subst eb
      exact kSearch h0 h2 hx (fun ρ T s R => let ⟨g1, _, g3⟩ := hq.at R; ⟨g1, g3⟩) hK) he (by simp [hn]) rfl
end
end Mine
namespace Mine
section
variable {X : Cx} {n : Nat} {ae : AEnv} {S S' : List AO} {K : AV → List AO → Prop} {KB : Bool → List AO → Prop} {KF : AF → List AO → Prop} {KU : Unit → List AO → Prop}

theorem WpA.mono {target : Expr} {it : AV} {K' : Unit → List AO → Prop} (h : WpA X n ae S target it KU) (hk : ∀ x S', KU x S' → K' x S') : WpA X n ae S target it K' :=
  fun A ρ T s env v hr hR hE hv => wpAny_mono (h A ρ T s env v hr hR hE hv) (fun _ _ p => p.mono hk) fun _ _ f => f

/-- a loop with an invariant over what is left -/
theorem loopInv {target : Expr} {body : List Stmt} (Inv : List AV → List AO → Prop) (done : ∀ S, Inv [] S → KF .next S)
    (step : ∀ it r S, Inv (it :: r) S → WpA X n ae S target it fun _ S1 => WpSs X n ae S1 body fun f S2 => match f with
      | .next => Inv r S2
      | .cont => Inv r S2
      | .brk => KF .next S2
      | .ret v => KF (.ret v) S2) : ∀ (items : List AV) (S : List AO), Inv items S → WpLoop X n ae target body items S KF
  | [], S, h => done S h
  | it :: r, S, h => (step it r S h).mono fun _ S1 h1 => WpSs.mono h1 fun f S2 h2 => by
    cases f with
    | next => exact loopInv Inv done step r S2 h2
    | cont => exact loopInv Inv done step r S2 h2
    | brk => exact h2
    | ret v => exact h2
/-- a binding that reads nothing tracked -/
theorem bindTo {fd : FuncData} {xs : List AV} {kw bs : List (Str × AV)} {KB' : List (Str × AV) → List AO → Prop}
    (hb : ∀ (s : Shared) (ρ T : List Addr) (vs : List Value) (ks : List (Str × Value)), X.K.In s.heap → VRs X ρ T s.heap xs vs → VRk X ρ T s.heap kw ks → ∃ bv, BindsTo s fd ⟨vs, ks⟩ bv ∧ VRk X ρ T s.heap bs bv)
    (h : KB' bs S) : Binds X n S fd xs kw KB' := fun A ρ T s vs ks hr hR hv hks => by
  obtain ⟨bv, h1, h2⟩ := hb s ρ T vs ks hR.kin hv hks
  exact h1 _ _ _ _ (PostG.mk (.refl hR) h h2)
end
end Mine
namespace Mine
section
variable {X : Cx} {n : Nat} {ae : AEnv} {S S' : List AO} {K : AV → List AO → Prop} {KB : Bool → List AO → Prop} {KF : AF → List AO → Prop} {KU : Unit → List AO → Prop}

theorem WpTests.mono : ∀ {fs : List Expr} {S : List AO} {KB KB' : Bool → List AO → Prop}, WpTests X n ae fs S KB → (∀ b S', KB b S' → KB' b S') → WpTests X n ae fs S KB'
  | [], S, _, _, h, hk => hk _ _ h
  | c :: r, S, _, _, h, hk => WpB.mono h fun b S1 h1 => by
    split at h1
    · rename_i e; rw [if_pos e]; exact WpTests.mono h1 hk
    · rename_i e; rw [if_neg e]; exact hk _ _ h1

/-- what one turn of a list comprehension does -/
noncomputable def Turn (X : Cx) (n : Nat) (ce : AEnv) (t : Expr) (fs : List Expr) (elt : Expr) (L : List AO) (f : AV → Option AV) (it : AV) : Prop :=
  ∀ xs vars, WpA X n ce (L ++ [.lst xs, .ns vars]) t it fun _ S2 => WpTests X n ce fs S2 fun b S3 =>
    if b = true then WpE X n ce S3 elt fun v S4 => ∃ vars', S4 = L ++ [.lst xs, .ns vars'] ∧ f it = some v else ∃ vars', S3 = L ++ [.lst xs, .ns vars'] ∧ f it = none

theorem turn0 {ce : AEnv} {t elt : Expr} {L : List AO} {f : AV → Option AV} {it : AV} (h : ∀ xs vars, WpA X n ce (L ++ [.lst xs, .ns vars]) t it fun _ S2 => WpE X n ce S2 elt fun v S4 => ∃ vars', S4 = L ++ [.lst xs, .ns vars'] ∧ f it = some v) :
    Turn X n ce t [] elt L f it := fun xs vars => (h xs vars).mono fun _ S2 h2 => by
  unfold WpTests
  dsimp only; rw [if_pos rfl]; exact h2
theorem turn1 {ce : AEnv} {t elt c : Expr} {L : List AO} {f : AV → Option AV} {it : AV} (h : ∀ xs vars, WpA X n ce (L ++ [.lst xs, .ns vars]) t it fun _ S2 => WpB X n ce S2 c fun b S3 =>
    if b = true then WpE X n ce S3 elt fun v S4 => ∃ vars', S4 = L ++ [.lst xs, .ns vars'] ∧ f it = some v else ∃ vars', S3 = L ++ [.lst xs, .ns vars'] ∧ f it = none) :
    Turn X n ce t [c] elt L f it := fun xs vars => (h xs vars).mono fun _ S2 h2 => WpB.mono h2 fun b S3 h3 => by
  cases b with
  | true => rw [if_pos rfl] at h3 ⊢; unfold WpTests; dsimp only; rw [if_pos rfl]; exact h3
  | false => rw [if_neg (by decide)] at h3 ⊢; dsimp only; rw [if_neg (by decide)]; exact h3

theorem turns_list {ce : AEnv} {t elt : Expr} {fs : List Expr} {gens : List Comprehension} {sc : Scope} {pos : Pos} {L : List AO} {f : AV → Option AV} {m : Nat} (hm : L.length = m) {K : List AO → Prop} : ∀ (items : List AV) (xs : List AV) (vars : List (Str × AV)), (xs.length + items.length ≤ sizeLine) →
    (∀ it ∈ items, Turn X n ce t fs elt L f it) → (∀ vars', K (L ++ [.lst (xs ++ items.filterMap f), .ns vars'])) →
    WpItems (WpIn X n ce t fs (WpGens X n ce (emitW X n ce m (.ListComp elt gens sc pos)) [])) items (L ++ [.lst xs, .ns vars]) K
  | [], xs, vars, _, _, h => by have := h vars; simpa [WpItems] using this
  | it :: r, xs, vars, hl, ht, h => by
    have hl : xs.length + (r.length + 1) ≤ sizeLine := hl
    refine WpA.mono (ht it (.head _) xs vars) fun _ S2 h2 => WpTests.mono h2 fun b S3 h3 => ?_
    split at h3
    · rename_i e
      rw [if_pos e]
      refine WpE.mono h3 fun v S4 ⟨vars', e4, ef⟩ => ?_
      subst e4
      have hg : (L ++ [AO.lst xs, .ns vars'])[m]? = some (.lst xs) := by rw [← hm]; simp
      refine ⟨xs, hg, by omega, ?_⟩
      have hs : (L ++ [AO.lst xs, .ns vars']).set m (.lst (xs ++ [v])) = L ++ [.lst (xs ++ [v]), .ns vars'] := by
        rw [← hm, List.set_append_right _ _ (Nat.le_refl _)]; simp
      rw [hs]
      refine turns_list hm r (xs ++ [v]) vars' (by simp; omega) (fun it' hi => ht it' (.tail _ hi)) fun vars2 => ?_
      have := h vars2
      rw [List.filterMap_cons, ef] at this
      simpa using this
    · rename_i e
      rw [if_neg e]
      obtain ⟨vars', e4, ef⟩ := h3
      subst e4
      refine turns_list hm r xs vars' (by omega) (fun it' hi => ht it' (.tail _ hi)) fun vars2 => ?_
      have := h vars2
      rw [List.filterMap_cons, ef] at this
      exact this

theorem unds_filterMap {m : Nat} {f : AV → Option AV} : ∀ (items : List AV), (∀ it ∈ items, ∀ v, f it = some v → v.und m) → AV.unds m (items.filterMap f)
  | [], _ => trivial
  | it :: r, h => by
    rw [List.filterMap_cons]
    cases e : f it with
    | none => exact unds_filterMap r fun i hi => h i (.tail _ hi)
    | some v => exact ⟨h it (.head _) v e, unds_filterMap r fun i hi => h i (.tail _ hi)⟩

/-- [elt for t in i if ..] -/
theorem wLC {elt t i : Expr} {fs : List Expr} {sc : Scope} {pos : Pos} (hc : CompIs ae [⟨t, i, fs, 0⟩] sc) (hsi : ∀ env x, foldedSetIterable i env x = pure x) (hcell : cellAOs sc.names = [])
    (h : WpI X n ae S t i fun items k S1 => ∃ f : AV → Option AV, items.length ≤ sizeLine ∧ (∀ it ∈ items, ∀ v, f it = some v → v.und S1.length) ∧ (∀ it ∈ items, Turn X n (cEnv ae sc S1.length) t fs elt (lo S1 k) f it) ∧ K (.lst (items.filterMap f)) S1) :
    WpE X n ae S (.ListComp elt [⟨t, i, fs, 0⟩] sc pos) K :=
  wComp (.list ..) hc (fun g hg => by cases List.mem_singleton.mp hg; exact hsi) (fun A ρ T s env Q E E' hr hR hE hQ => h A ρ T s env Q E E' hr hR hE fun items k S1 ρ1 T1 s1 ⟨f, hl, hu, ht, hK⟩ st => hQ items k S1 ρ1 T1 s1 (by
    unfold CompOk
    rw [hcell]
    refine turns_list (lo_length S1 k) items [] [] (by simpa using hl) ht fun vars' => ?_
    exact ⟨_, vars', [], _, rfl, .lst (by simpa using unds_filterMap items hu), by simpa using hK⟩) st)
theorem compIs0 {g : Comprehension} {sc : Scope} (h1 : sc.kind = .function) (h2 : g.is_async = 0) (h3 : ∀ x ∈ sc.names, x.2 ≠ .free) (h4 : ∀ x ∈ sc.names, x.2 = .local → sc.names.lookup x.1 = some .local) : CompIs ae [g] sc :=
  ⟨h1, fun g' hg => by cases List.mem_singleton.mp hg; exact h2, fun x hx e => absurd e (h3 x hx), h4⟩
end
end Mine
namespace Mine
section
variable {X : Cx} {n : Nat} {ae : AEnv} {S S' : List AO} {ρ T : List Addr} {s : Shared} {target : Expr} {K : AV → List AO → Prop} {KB : Bool → List AO → Prop} {KF : AF → List AO → Prop} {KU : Unit → List AO → Prop}

/-- a method call whose value is iterated at once -/
theorem iCallM {o : Expr} {name : Str} {apos pos : Pos} {args : List Expr} {pl : Env → Sem Bool} {KI : List AV → Option Nat → List AO → Prop}
    (h : WpE X n ae S o fun a S1 => WpM X n S1 name a fun p S2 => Callee X p.1 ∧ WpArgs X n ae args S2 fun as S3 => RawI X n S3 target p.1 (p.2 ++ as) KI)
    (he : ∀ env, eval (.Call (.Attribute o name apos) args [] pos) env = (do
      let ov ← eval o env
      standAt apos.atName
      let (f, first) ← holding [ov] (getMethod ov name (pl env))
      callWith pos f first (backTo pos (starEach args env)) (backToKw pos (keywordEach [] env))) := by intro _; rfl)
    (hn : args.all NoStar = true := by rfl) : WpI X n ae S target (.Call (.Attribute o name apos) args [] pos) KI := fun A ρ T s env Q E E' hr hR hE hQ => by
  refine methodCall_KW (pl := pl env) (chain (h A ρ T s env hr hR hE) fun a S1 ρ1 T1 v s1 hK st hv => chain (hK A ρ1 T1 s1 v (pl env) hr st.rep hv) fun p S2 ρ2 T2 q s2 hK2 st2 hq => ?_) (he env)
  obtain ⟨f, self⟩ := p
  obtain ⟨f', first⟩ := q
  obtain ⟨e1, e2⟩ := hq
  cases e1
  have st02 := st.trans hR st2
  refine callWith_of (P := X.K.In) (by rw [backTo_star args env pos hn]; rfl) hK2.1 (evalArgs_any (backTo_star args env pos hn) rfl ?_)
  refine chain (args_sound args (pos := pos) hn hr st2.rep (hE.step st02 hR) hK2.2) fun as S3 ρ3 T3 vs s3 hK3 st3 hvs => ?_
  refine wpAny_pure ⟨st3.rep.kin, ?_⟩
  have := hK3 A ρ3 T3 s3 (first ++ vs) Q E E' hr st3.rep (VRs.app (VRs.mv (st3.mv st2.rep) _ e2) hvs) fun items hi I fp wr P Md St h' tk W => hQ items none S3 ρ3 T3 s3 hi (st02.trans hR st3) I fp wr P Md St h' tk W
  simpa using this

theorem entry_itemiter : entryFor table "dict_itemiterator.__iter__" = some Builtin.«dict_keyiterator.__iter__» :=
  entryFor_alias (id' := "dict_keyiterator.__iter__") (by kernel_rfl) (by decide +kernel) (by decide +kernel) (by kernel_rfl)
theorem pyIter_itemiter {prog : Program} {w : World} {A : Around} {E : Value → Shared → Prop} {s : Shared} {it d : Addr} {i m ep : Nat} {ok ov : Value} {Q : Value → Shared → Prop} (hit : IsItemIter s.heap it d i m ep ok ov) (h : Q (.ref it) s) : wpAny (model prog w) A (pyIter (.ref it)) Q E s := by
  have hT : s.TypeIs (.ref it) "dict_itemiterator" := ⟨_, hit, rfl⟩
  refine wpAny_pyIter_slot hT F.slot_dict_itemiterator_iter (wpAny_call_entry F.slot_dict_itemiterator_iter hT entry_itemiter ?_ (F.args_dict_itemiterator_iter_1 _))
  show wpAny _ _ (ret (.ref it)) _ _ s
  exact wpAny_pure ⟨_, rfl, "dict_itemiterator", _, hT, F.slot_dict_itemiterator_next.lookup, h⟩

/-- d.items() of an empty dict -/
theorem rItems0 {elts : List Expr} {kk : Nat} {pos : Pos} {K : List AV → Option Nat → List AO → Prop} (h : K [] none S) : RawI X n S (.Tuple elts kk pos) (.builtin "dict.items") [.dct []] K := fun A ρ T s vs Q E E' hr hR hv hQ => by
  obtain ⟨v, rfl, hq⟩ := hv.one_inv
  simp only [VR] at hq
  obtain ⟨d, kvs, rfl, hd, hy, hi, hk⟩ := hq
  cases kvs with
  | cons _ _ => simp [VRk] at hk
  | nil =>
  refine PySem.call_meetsIn F.slot_dict_items hi.typeIs F.entry_dict_items (F.args_dict_items_1 _) (meets_dict_items (strKind X.prog X.w) d hy) ⟨⟨_, hi⟩, ?_⟩
  obtain ⟨ep, hat⟩ := hi.dictAt
  have hat2 : (s.heap.push { cls := .type "dict_items", data := .fields #[.ref d] }).DictAt (PySem.strKind X.prog X.w) d [] ep := hat.at' fun o e => Heap.get?_push_of_some _ e
  show wpAny X.M A (pyIter (.ref s.heap.objs.size)) Q E { s with heap := s.heap.push { cls := .type "dict_items", data := .fields #[.ref d] } }
  refine wpAny_pyIter_items (v := s.heap.objs.size) ⟨_, Heap.get?_push_size _ rfl, rfl, rfl⟩ hat2 ?_
  have hsz : (s.heap.push { cls := .type "dict_items", data := .fields #[.ref d] }).objs.size = s.heap.objs.size + 1 := Heap.size_push ..
  have hlt : d < s.heap.objs.size := hat.lt_size
  have hne : d ≠ s.heap.objs.size + 1 := Nat.ne_of_lt (Nat.lt_succ_of_lt hlt)
  have hI := Heap.get?_push_size (s.heap.push { cls := .type "dict_items", data := .fields #[.ref d] }) (o := { cls := .type "dict_itemiterator", data := .fields #[.none, .bool false, .ref d, .int 0 0, .int 0 0, .int ep 0, .none, .none] }) rfl
  rw [hsz] at hI
  show Q (.ref (s.heap.push { cls := .type "dict_items", data := .fields #[.ref d] }).objs.size) _
  rw [hsz]
  refine hQ [] h (s.heap.objs.size + 1) _ _ _ _ _ _ s.toks { hk := fun b o e => Heap.get?_push_of_some _ (Heap.get?_push_of_some _ e), turns := kti_itemsTurns (knd := PySem.strKind X.prog X.w) hr.handled (s.heap.objs.size + 1) d hne [] ep, st := ⟨⟨_, _, hI⟩, hat2.at' fun o e => Heap.get?_push_of_some _ e⟩, time := Nat.le_refl _, new := ?_, foot := ?_, ex := ?_, item := ?_, self := ?_ }
  · intro b hb; rw [List.mem_singleton.mp hb]; exact noneAt _ (Nat.le_succ _)
  · intro b hb
    rcases List.mem_cons.mp hb with rfl | hb
    · exact .inl (by simp)
    · rw [List.mem_singleton.mp hb]
      obtain ⟨o, _, ho, _⟩ := hat
      exact .inr ⟨hR.notLive (.inr hd), o, ho⟩
  · rintro i h ⟨⟨_, _, ho⟩, _⟩ b hb
    rw [List.mem_singleton.mp hb]; exact ⟨_, ho⟩
  · intro j it v h ρ' T' hj
    simp at hj
  · rintro s' Q' E' ⟨⟨_, _, ho⟩, _⟩ q
    exact pyIter_itemiter ho q
end
end Mine
namespace Mine
section
variable {X : Cx} {n : Nat} {ae : AEnv} {S S' : List AO} {ρ T : List Addr} {s : Shared} {K : AV → List AO → Prop} {KB : Bool → List AO → Prop} {KF : AF → List AO → Prop} {KU : Unit → List AO → Prop}

/-- the accumulator stays, what was made behind it is let go -/
theorem keepAcc {S1 : List AO} {ρ1 T1 ρ' T' : List Addr} {s1 s' : Shared} {acc : AO} {vars : List (Str × AV)} {r : List AO} {a C : Addr} {h' : Heap} (R1 : Rep X S1 ρ1 T1 s1)
    (st : Step X S1 ρ1 T1 s1 (S1 ++ (acc :: AO.ns vars :: r)) ρ' T' s') (ha : ρ'[S1.length]? = some a) (hC : ρ'[S1.length + 1]? = some C) (hu : acc.und S1.length) (hs : ∀ b, b ≠ C → h'.get? b = s'.heap.get? b) :
    Step X S1 ρ1 T1 s1 (S1 ++ [acc]) (ρ1 ++ [a]) (T1 ++ [a]) { s' with heap := h' } := by
  have hu2 : ∀ (i : Nat) (ao : AO), (S1 ++ [acc])[i]? = some ao → ao.und S1.length := fun i ao e => by
    by_cases hi : i < S1.length
    · rw [List.getElem?_append_left hi] at e; exact R1.und i ao e
    · rw [List.getElem?_append_right (by omega)] at e
      obtain ⟨q, e⟩ := List.getElem?_eq_some_iff.mp e
      have : i - S1.length = 0 := by simpa using q
      simp [this] at e; subst e; exact hu
  obtain ⟨as, L⟩ := left_sound (S1' := S1) (ks := [S1.length]) (aos := [acc]) R1 st rfl (fun i ao e => ⟨app_get i ao e, R1.und i ao e⟩) rfl
    (fun p k e => by
      match p with
      | 0 => simp at e; subst e; exact ⟨Nat.le_refl _, acc, by simp, rfl, hu⟩
      | p + 1 => simp at e) (by simp)
  obtain ⟨a', e1, e2⟩ := L.at_ 0 _ rfl
  have : a' = a := by rw [e2] at ha; exact Option.some.inj ha
  subst this
  have hl := L.st.rep.len
  have has : as = [a'] := by
    have h1 : as.length = 1 := by
      have h0 := R1.len
      simp at hl; omega
    match as, h1 with
    | [b], _ => simp at e1; rw [e1]
  subst has
  obtain ⟨mm, q1, q2, q3⟩ := st.more
  have hCm : C ∈ mm := by
    rw [q1, List.getElem?_append_right (by rw [R1.len]; omega)] at hC
    exact List.mem_of_getElem? hC
  have hac : a' ≠ C := fun e => by
    subst e
    obtain ⟨l1, z1⟩ := List.getElem?_eq_some_iff.mp ha
    obtain ⟨l2, z2⟩ := List.getElem?_eq_some_iff.mp hC
    have := (List.getElem_inj st.rep.nodup).mp (z1.trans z2.symm)
    omega
  have hCT : C ∉ T1 ++ [a'] := fun q => by
    rcases List.mem_append.mp q with q | q
    · obtain ⟨o, e⟩ := R1.low C q; rw [q3 C hCm] at e; cases e
    · exact hac (List.mem_singleton.mp q).symm
  have hCT' : C ∈ T' := by rw [q2]; exact List.mem_append_right _ hCm
  have d : Dr S1.length ρ' T' s'.heap (ρ1 ++ [a']) (T1 ++ [a']) h' := ⟨fun b o hb e => (hs b fun q => hb (q ▸ hCT')).trans e, L.dr.trk, L.dr.ids⟩
  have hat : ∀ (i : Nat) (b : Addr), (ρ1 ++ [a'])[i]? = some b → ρ'[i]? = some b := fun i b e => by
    by_cases hi : i < ρ1.length
    · rw [List.getElem?_append_left hi] at e
      rw [q1, List.getElem?_append_left hi]; exact e
    · have hi2 := (List.getElem?_eq_some_iff.mp e).1
      have : i = ρ1.length := by simp at hi2; omega
      subst this
      simp at e; subst e
      rw [R1.len]; exact ha
  have hg : ∀ (i : Nat) (ao : AO), (S1 ++ [acc])[i]? = some ao → (S1 ++ (acc :: AO.ns vars :: r))[i]? = some ao := fun i ao e => by
    have := app_get (r := AO.ns vars :: r) i ao e
    simpa [List.append_assoc] using this
  exact {
    rep := {
      keep := fun b o e => (hs b fun q => by subst q; have := L.st.keep b o; have := R1.keep b o e; rw [q3 b hCm] at this; cases this).trans (st.rep.keep b o e)
      len := L.st.rep.len
      obj := fun i ao b f1 f2 => (st.rep.obj i ao b (hg i ao f1) (hat i b f2)).dr d (fun o e => (hs b fun q => by
        subst q
        exact hCT (L.st.rep.sub _ (List.mem_of_getElem? f2))).trans e) (hu2 i ao f1)
      nodup := L.st.rep.nodup
      nosys := L.st.rep.nosys
      sub := L.st.rep.sub
      new := L.st.rep.new
      low := fun b hb => by
        obtain ⟨o, e⟩ := L.st.rep.low b hb
        exact ⟨o, (hs b fun q => hCT (q ▸ hb)).trans e⟩
      rest := st.rep.rest
      toks := st.rep.toks }
    more := ⟨[a'], rfl, rfl, fun b hb => by
      rw [List.mem_singleton.mp hb]
      rw [q1, List.getElem?_append_right (by rw [R1.len]; exact Nat.le_refl _)] at ha
      exact q3 _ (List.mem_of_getElem? ha)⟩
    keep := fun b o hb e => (hs b fun q => by subst q; rw [q3 b hCm] at e; cases e).trans (st.keep b o hb e)
    loans := fun i e => by rw [List.getElem?_append_left (List.getElem?_eq_some_iff.mp e).1]; exact e }

/-- a comprehension whose value stays tracked -/
theorem wCompT {e t i : Expr} {fs : List Expr} {r : List Comprehension} {sc : Scope} {pos : Pos} (c : IsComp e (⟨t, i, fs, 0⟩ :: r) sc pos) (hc : CompIs ae (⟨t, i, fs, 0⟩ :: r) sc)
    (hsi : ∀ g ∈ (⟨t, i, fs, 0⟩ :: r : List Comprehension), ∀ env x, foldedSetIterable g.iter env x = pure x)
    (h : WpI X n ae S t i fun items k S1 => CompOk X n ae e t fs r sc items k S1 fun k S' => ∃ acc vars rr, S' = lo S1 k ++ (acc :: AO.ns vars :: rr) ∧ acc.und S1.length ∧ K (.obj S1.length) (S1 ++ [acc])) : WpE X n ae S e K := fun A ρ T s env hr hR hE => by
  rw [c.eval]
  have hfree' : ∀ x ∈ sc.names, x.2 = .free → (env.cells.lookup x.1).isSome = true := fun x hx e => by
    obtain ⟨i, hi⟩ := Option.isSome_iff_exists.mp (hc.free x hx e)
    obtain ⟨c, h1, _⟩ := hE.cells _ _ hi
    rw [h1]; rfl
  refine wpAny_comprehension_free c.clauses (fun x => hsi _ (.head _) env x) (closureFor_eq hfree') hc.fn hc.names ?_
  refine h A ρ T s env _ _ _ hr hR hE fun items k S1 ρ1 T1 s1 hK st I fp wr P Md St h0 tk W0 => ?_
  refine comp_core c hc.fn hc.sync hsi hc.free hr st.rep (hE.step st hR) W0 hK fun a C s' S' ρ' T' hK' st' ha hC => ?_
  obtain ⟨acc, vars, rr, rfl, hu, hk⟩ := hK'
  have st2 := Step.un st.rep st'
  rw [un_lo_app] at st2
  have hn := st2.rep.obj (S1.length + 1) (.ns vars) C (by simp) hC
  obtain ⟨m, hm, _⟩ := hn
  refine ⟨m, hm, fun h' hs => ?_⟩
  have st3 := keepAcc st.rep st2 ha hC hu (h' := h') fun b hb => hs.2 b hb
  refine PostG.mk (st.trans hR st3) hk ?_
  simp only [VR]
  refine ⟨a, rfl, ?_⟩
  rw [← st.rep.len]; simp

theorem wLCT {elt t i : Expr} {fs : List Expr} {sc : Scope} {pos : Pos} (hc : CompIs ae [⟨t, i, fs, 0⟩] sc) (hsi : ∀ env x, foldedSetIterable i env x = pure x) (hcell : cellAOs sc.names = [])
    (h : WpI X n ae S t i fun items k S1 => ∃ f : AV → Option AV, items.length ≤ sizeLine ∧ (∀ it ∈ items, ∀ v, f it = some v → v.und S1.length) ∧ (∀ it ∈ items, Turn X n (cEnv ae sc S1.length) t fs elt (lo S1 k) f it) ∧ K (.obj S1.length) (S1 ++ [.lst (items.filterMap f)])) :
    WpE X n ae S (.ListComp elt [⟨t, i, fs, 0⟩] sc pos) K :=
  wCompT (.list ..) hc (fun g hg => by cases List.mem_singleton.mp hg; exact hsi) (fun A ρ T s env Q E E' hr hR hE hQ => h A ρ T s env Q E E' hr hR hE fun items k S1 ρ1 T1 s1 ⟨f, hl, hu, ht, hK⟩ st => hQ items k S1 ρ1 T1 s1 (by
    unfold CompOk
    rw [hcell]
    refine turns_list (lo_length S1 k) items [] [] (by simpa using hl) ht fun vars' => ?_
    exact ⟨_, vars', [], rfl, show AV.unds _ _ by simpa using unds_filterMap items hu, by simpa using hK⟩) st)

/-- str(x), x of an own class -/
theorem kStrH {f : Addr} {i : Nat} {ao : AO} {y : Str} (hs : findIn X.K (.ref X.C) "__str__" = some (some (.ref f))) (hf : isFn X.K (.ref f) = true) (hS : S[i]? = some ao) (hn : ao ≠ .loan) (hao : ao.und 0)
    (hc : CdC X n [ao] f [.hdr 0] [] fun v S' => v = .str y ∧ S' = [ao]) (h : K (.str y) S) : WpC X (n + 1) S (.val (.type "str")) [.hdr i] [] K := call1 fun A ρ T s v hr hR hv => by
  have hq := hv
  simp only [VR] at hq
  obtain ⟨x, dx, l, rfl, hx, hdx, hl, hx2, m, hm, _⟩ := hq
  obtain ⟨od, I, _⟩ := inst_at hx2 hm
  have hr2 : Room n A.in1.in1 := ⟨by have := hr.depth; show A.depth + n < _; omega, by have := hr.units; show A.units + 1 + 1 + 8 * n < _; omega, hr.handled⟩
  have hcall := frm1 (K := fun v S' => v = .str y ∧ S' = S) (ys := [.hdr i]) (xs := [.hdr 0]) hS hn hao (by simp [Sels]) (by simp [AV.undk]) hc.call (fun x aos hk => ⟨ao, hk.2, hn, hao, by rw [hk.1]; trivial, hk.1, set_same hS⟩)
  refine kso_call (by have := hr2.units; omega) hR.kin I hs hf (wpAny_mono (hcall A.in1.in1 ρ T s (.ref f) [.ref x] [] hr2 hR (VR_val.mpr rfl) (VRs.one hv) (by simp [VRk])) (fun r s' hp => ?_) fun _ _ f => f.elim)
  obtain ⟨v, S2, ρ2, T2, ⟨rfl, rfl⟩, st, hv2⟩ := hp
  obtain ⟨hl2, t, rfl⟩ := VR_str.mp hv2
  exact PostG.mk st h hv2
end
end Mine
namespace Mine
section
variable {X : Cx} {n : Nat} {ae : AEnv} {S S' : List AO} {ρ T : List Addr} {s : Shared} {K : AV → List AO → Prop} {KB : Bool → List AO → Prop} {KF : AF → List AO → Prop} {KU : Unit → List AO → Prop}

theorem kLenS {x : Str} (h : K (.int x.length) S) : WpC X n S (.val (.builtin "len")) [.str x] [] K := call1 fun A ρ T s v hr hR hv => by
  obtain ⟨hl, t, rfl⟩ := VR_str.mp hv
  exact P.len_str (by rw [sizeLine_eq] at hl; omega) (PostG.mk (.toks hR _) h (VR_int.mpr ⟨_, rfl⟩))

/-- a function that touches nothing tracked -/
theorem frmS {g : Value} {xs : List AV} {y : Str} (hx : AV.unds 0 xs) (h : ∀ K0 : AV → List AO → Prop, K0 (.str y) [] → WpC X n [] (.val g) xs [] K0) (hK : K (.str y) S) : WpC X n S (.val g) xs [] K :=
  frm0 (K0 := fun x aos => x = .str y ∧ aos = []) hx (by simp [AV.undk]) (h _ ⟨rfl, rfl⟩) fun x aos ⟨e1, e2⟩ => by
    subst e1 e2
    exact ⟨fun _ h => (nomatch h), by rw [List.append_nil]; exact hK⟩
/-- a function of one tracked list behind a Headers -/
theorem frmH {g : Value} {i : Nat} {rows : List AV} {rows' : List AV} {y : AV} {xs ys : List AV} (hS : S[i]? = some (.lst rows)) (hr : AV.unds 0 rows) (hr' : AV.unds 0 rows') (hy : y.und 0) (hsel : Sels i xs ys)
    (h : ∀ K0 : AV → List AO → Prop, K0 y [.lst rows'] → WpC X n [.lst rows] (.val g) xs [] K0) (hK : K y (S.set i (.lst rows'))) : WpC X n S (.val g) ys [] K :=
  frm1 (K0 := fun x aos => x = y ∧ aos = [.lst rows']) hS (by intro q; cases q) hr hsel (by simp [AV.undk]) (h _ ⟨rfl, rfl⟩) fun x aos ⟨e1, e2⟩ => by
    subst e1 e2
    exact ⟨_, rfl, (by intro q; cases q), hr', hy, hK⟩
end
end Mine
namespace Mine
section
variable {X : Cx} {n : Nat} {ae : AEnv} {S S' : List AO} {ρ T : List Addr} {s : Shared} {K : AV → List AO → Prop} {KB : Bool → List AO → Prop} {KF : AF → List AO → Prop} {KU : Unit → List AO → Prop}

noncomputable def puts (kvs more : List (Str × AV)) : List (Str × AV) := more.foldl (fun acc p => put p.1 p.2 acc) kvs

theorem stored_nodup {kvs : List (Str × Value)} {k : Str} {v : Value} (h : (kvs.map (·.1)).Nodup) : ((stored kvs k v).map (·.1)).Nodup := by
  unfold stored
  split
  · rename_i hc
    have : (kvs.map fun kv => if kv.1 = k then (kv.1, v) else kv).map (·.1) = kvs.map (·.1) := by
      rw [List.map_map]
      refine List.map_congr_left fun p _ => ?_
      simp only [Function.comp]
      split <;> rfl
    rw [this]; exact h
  · rename_i hc
    rw [List.map_append]
    refine List.nodup_append.mpr ⟨h, by simp, fun a ha b hb e => ?_⟩
    obtain ⟨p, hp, rfl⟩ := List.mem_map.mp ha
    simp at hb
    subst hb
    exact hc (List.any_eq_true.mpr ⟨p, hp, by simpa using e⟩)

theorem VRk.puts {ρ T : List Addr} {h : Heap} : ∀ {more : List (Str × AV)} {us : List (Str × Value)} {kvs : List (Str × AV)} {vs : List (Str × Value)}, VRk X ρ T h more us → VRk X ρ T h kvs vs → (vs.map (·.1)).Nodup → VRk X ρ T h (Mine.puts kvs more) (merged vs us)
  | [], us, kvs, vs, q, q2, _ => by
    have : us = [] := by simpa [VRk] using q
    subst this; exact q2
  | (k, x) :: r, us, kvs, vs, q, q2, hn => by
    simp only [VRk] at q
    obtain ⟨v, us', rfl, h1, h2⟩ := q
    exact VRk.puts (more := r) (us := us') h2 (VRk.lookup_put h1 q2 hn) (stored_nodup hn)

/-- the pairs of a dict display -/
noncomputable def WpPairs (X : Cx) (n : Nat) (ae : AEnv) : List (Option Expr) → List Expr → List AO → (List (Str × AV) → List AO → Prop) → Prop
  | [], [], S, K => K [] S
  | some k :: ks, v :: vs, S, K => WpE X n ae S k fun a S1 => WpE X n ae S1 v fun b S2 => ∃ x, a = .str x ∧ WpPairs X n ae ks vs S2 fun r S3 => K ((x, b) :: r) S3
  | _, _, _, _ => False

noncomputable def PairsR (X : Cx) (ρ T : List Addr) (h : Heap) (kvs : List (Str × AV)) (vs : List (Value × Value)) : Prop := ∃ us, Carries (strKind X.prog X.w) vs us ∧ VRk X ρ T h kvs us

theorem pairs_sound : ∀ (ks : List (Option Expr)) (vs : List Expr) {A : Around} {ρ T : List Addr} {s : Shared} {env : Env} {S : List AO} {K : List (Str × AV) → List AO → Prop} {pos : Pos}, Room n A → Rep X S ρ T s → EnvOk ae ρ env → WpPairs X n ae ks vs S K →
    wpAny X.M A (evalPairs (pairTrees ks vs env pos)) (PostG (PairsR X) X S ρ T s K) No s
  | [], [], A, ρ, T, s, env, S, K, pos, hr, hR, hE, h => pairTrees_nil_walk (PostG.mk (x := []) (.refl hR) h ⟨[], trivial, by simp [VRk]⟩)
  | some k :: ks, v :: vs, A, ρ, T, s, env, S, K, pos, hr, hR, hE, h => by
    simp only [WpPairs] at h
    refine pairTrees_cons_walk (chain (h A ρ T s env hr hR hE) fun a S1 ρ1 T1 kv s1 hK st hv => chain (hK A ρ1 T1 s1 env hr st.rep (hE.step st hR)) fun b S2 ρ2 T2 vv s2 hK2 st2 hvv => ?_)
    obtain ⟨x, rfl, hK2⟩ := hK2
    have st02 := st.trans hR st2
    obtain ⟨hx, t, rfl⟩ := VR_str.mp hv
    refine chain (pairs_sound ks vs hr st2.rep (hE.step st02 hR) hK2) fun r S3 ρ3 T3 us s3 hK3 st3 ⟨us', hc, hus⟩ => ?_
    refine PostG.mk (x := (x, b) :: r) (st02.trans hR st3) hK3 ⟨(x, vv) :: us', ⟨strKind_is _ _ x t, rfl, hc⟩, ?_⟩
    simp only [VRk]
    exact ⟨vv, us', rfl, VR.mv (st3.mv st2.rep) _ hvv, hus⟩
  | [], _ :: _, _, _, _, _, _, _, _, _, _, _, _, h => h.elim
  | none :: _, _, _, _, _, _, _, _, _, _, _, _, _, h => by simp [WpPairs] at h
  | some _ :: _, [], _, _, _, _, _, _, _, _, _, _, _, h => h.elim

/-- {k: v, ..}, tracked -/
theorem wDctP {ks : List (Option Expr)} {vs : List Expr} {pos : Pos} (h : WpPairs X n ae ks vs (S ++ [.dct []]) fun kvs S2 => S2[S.length]? = some (.dct []) ∧ K (.obj S.length) (S2.set S.length (.dct (puts [] kvs))))
    (hall : ks.all (·.isSome) = true := by rfl) (hl : ks.length = vs.length := by rfl) (h0 : ks ≠ [] := by intro q; cases q) (hlen : ks.length ≤ 15 := by decide) : WpE X n ae S (.Dict ks vs pos) K := fun A ρ T s env hr hR hE => by
  refine wpAny_Dict_walk (knd := strKind X.prog X.w) hall hl h0 hlen ?_
  have hk : ∀ b o, s.heap.get? b = some o → (s.heap.push { cls := .type "dict", data := .dict #[] }).get? b = some o := fun b o e => Heap.get?_push_of_some _ e
  have st := Step.new (ao := .dct []) hR hk (newAddr _) (hR.nosysOf (Nat.le_refl _)) ⟨_, Heap.get?_push_size _ rfl⟩ ⟨[], isDict0 _ _, by simp [VRk]⟩ s.toks
  refine chain (pairs_sound ks vs hr st.rep (hE.step st hR) h) fun kvs S2 ρ2 T2 us s2 ⟨hS2, hK⟩ st2 ⟨us', hc, hus⟩ => ?_
  have ha : ρ2[S.length]? = some s.heap.objs.size := (st2.mv st.rep).ids _ _ (by rw [← hR.len]; simp)
  obtain ⟨ws, hd, hq⟩ := st2.rep.obj _ _ _ hS2 ha
  have : ws = [] := by simpa [VRk] using hq
  subst this
  refine ⟨us', hc, hd, fun h' hd' hs => ?_⟩
  have mv := st2.rep.mvSelf (List.mem_of_getElem? ha) hs.extBut
  refine PostG.mk (x := .obj S.length) ((st.trans hR st2).trans hR (Step.upd st2.rep hS2 ha (by intro q; cases q) (by intro q; cases q) hs.extBut (ao' := .dct (puts [] kvs)) ⟨_, hd', VRk.puts (VRk.mv mv _ hus) (by simp [VRk]) List.nodup_nil⟩ (let ⟨o, _, _, ho, _⟩ := hd'; ⟨o, ho⟩) _)) hK ?_
  simp only [VR]
  exact ⟨_, rfl, ha⟩
end
end Mine
namespace Mine
section
variable {X : Cx} {n : Nat} {ae : AEnv} {S S' : List AO} {ρ T : List Addr} {s : Shared} {K : AV → List AO → Prop} {KB : Bool → List AO → Prop} {KF : AF → List AO → Prop} {KU : Unit → List AO → Prop}

theorem VRk.keys {h : Heap} : ∀ {kvs : List (Str × AV)} {vs : List (Str × Value)}, VRk X ρ T h kvs vs → vs.map (·.1) = kvs.map (·.1)
  | [], vs, q => by
    have : vs = [] := by simpa [VRk] using q
    subst this; rfl
  | (k, x) :: r, vs, q => by
    simp only [VRk] at q
    obtain ⟨v, vs', rfl, _, h2⟩ := q
    simp [VRk.keys h2]

theorem strs_VRs {h : Heap} : ∀ {ss : List Str} {vs : List Value}, StrsAre vs ss → (∀ x ∈ ss, x.length ≤ sizeLine) → VRs X ρ T h (ss.map .str) vs
  | _, _, .nil, _ => VRs_nil.mpr rfl
  | _, _, .cons x t r, h => VRs_cons.mpr ⟨_, _, rfl, VR_str.mpr ⟨h _ (.head _), t, rfl⟩, strs_VRs r fun y hy => h y (.tail _ hy)⟩

theorem kSortedD {a : AV} {kvs : List (Str × AV)} (hd : IsD S a kvs) (hl : kvs.length < 64) (hkey : ∀ q ∈ kvs, q.1.length ≤ sizeLine) (h : ∀ ss' : List Str, ss'.Perm (kvs.map (·.1)) → K (.lst (ss'.map .str)) S) : WpC X n S (.val (.builtin "sorted")) [a] [] K := call1 fun A ρ T s v hr hR hv => by
  obtain ⟨b, vs, rfl, hy, hD, hq⟩ := hd.at hR hv
  obtain ⟨ep, hat⟩ := hD.dictAt
  have hlen : vs.length = kvs.length := by have := congrArg List.length hq.keys; simpa using this
  refine wpAny_mono (wpAny_toks (Q := fun v s' => ∃ (L : Addr) (hh : Heap) (tk : Nat) (us : List Value) (ss' : List Str), v = .ref L ∧ s' = { s with heap := hh, toks := tk } ∧ (∀ b o, s.heap.get? b = some o → hh.get? b = some o ∧ b ≠ L) ∧ hh.IsList L us.toArray ∧ StrsAre us ss' ∧ ss'.Perm (kvs.map (·.1))) ?_) (fun v s' hp => ?_) fun _ _ f => f.2
  rotate_left 1
  · obtain ⟨htk, L, hh, tk, us, ss', rfl, rfl, hkp, hil, hst, hpm⟩ := hp
    have st : Step X S ρ T s S ρ T { s with heap := hh, toks := tk } := .ext hR (fun b o e => (hkp b o e).1) ⟨rfl, rfl, rfl⟩ htk
    refine PostG.mk st (h ss' hpm) ?_
    simp only [VR]
    refine ⟨L, us, rfl, fun q => ?_, hil, strs_VRs hst fun x hx => ?_⟩
    · obtain ⟨o, e⟩ := hR.low L q
      exact (hkp L o e).2 rfl
    · obtain ⟨q, hq', rfl⟩ := List.mem_map.mp (hpm.mem_iff.mp hx)
      exact hkey q hq'
  refine call_function_entry kind_sorted plain_sorted entry_sorted (args_sorted1 _) ?_
  unfold Builtin.«sorted»
  refine wpAny_bind (m := checkCount "sorted" 1 1 _) (wpAny_pure ?_)
  refine wpAny_bind (kdu_collect (A := A.in1) (kdl_dict (knd := PySem.strKind X.prog X.w) (kvs := vs) (ep := ep) hy) hr.handled hat (by rw [sizeLine_eq]; omega) fun h' tk acc hk hacc => ?_)
  have hal : acc.toList.length = vs.length := by rw [Array.length_toList]; exact hacc.1
  refine wpAny_bind (wpAny_newList ?_ (by rw [hal, sizeLine_eq]; omega))
  have hacc2 : ∀ (j : Nat) (u : Value), acc.toList[j]? = some u → ∃ k x, vs[j]? = some (k, x) ∧ (PySem.strKind X.prog X.w).is k u = true := fun j u e => hacc.2 j u (by rw [← Array.getElem?_toList]; exact e)
  have hS : StrsAre acc.toList (acc.toList.map strOf) := strsAre_map _ fun u hu => by
    obtain ⟨j, hj⟩ := List.getElem?_of_mem hu
    obtain ⟨k, x, _, hk2⟩ := hacc2 j u hj
    obtain ⟨t, rfl⟩ := strKind_key hk2
    exact ⟨k, t, rfl⟩
  have hkeys : acc.toList.map strOf = kvs.map (·.1) := by
    rw [← hq.keys]
    apply List.ext_getElem?
    intro j
    rw [List.getElem?_map, List.getElem?_map]
    cases e : acc.toList[j]? with
    | none =>
      have : vs[j]? = none := List.getElem?_eq_none_iff.mpr (by have := List.getElem?_eq_none_iff.mp e; omega)
      rw [this]; rfl
    | some u =>
      obtain ⟨k, x, e2, hk2⟩ := hacc2 j u e
      obtain ⟨t, rfl⟩ := strKind_key hk2
      rw [e2]; rfl
  have hoL : (h'.push (seqObj "list" acc.toList.toArray 0)).get? h'.objs.size = some (seqObj "list" acc.toList.toArray 0) := Heap.get?_push_size _ rfl
  show wpAny _ _ _ _ _ { s with heap := h'.push (seqObj "list" acc.toList.toArray 0), toks := tk }
  have hsz : h'.objs.size < (h'.push (seqObj "list" acc.toList.toArray 0)).objs.size := Heap.lt_size hoL
  refine wpAny_bind (wpAny_holding (wpAny_call_entry slot_list_sort ⟨_, hoL, rfl⟩ entry_list_sort (list_sort_treeK strKind_oneLt hoL hS.keysOf (fun v₁ v₂ rest e => keyKind_strs (ss := acc.toList.map strOf) (by rw [← e]; exact hS)) (by rw [hal, hlen]; exact hl) fun st' hp hs => ⟨_, rfl, ?_⟩) (args_list_sort _)))
  obtain ⟨ss', h1, h2, h3⟩ := sorted_out_str hS hp hs
  refine wpAny_pure ⟨_, rfl, ?_⟩
  rw [hkeys] at h2
  obtain ⟨e1, he1⟩ := sortedHeap_at (out := (arrOf st').map (·.2)) hoL
  have hkeep : ∀ b o, s.heap.get? b = some o → (sortedHeap (h'.push (seqObj "list" acc.toList.toArray 0)) h'.objs.size acc.toList ((arrOf st').map (·.2))).get? b = some o := fun b o e => by
    have e2 := hk b o e
    have e3 := Heap.lt_size e2
    rw [sortedHeap_old (Nat.ne_of_lt e3) (Nat.lt_trans e3 hsz)]
    exact Heap.get?_push_of_some _ e2
  refine ⟨_, _, tk, ((arrOf st').map (·.2)).toList, ss', rfl, rfl, fun b o e => ⟨hkeep b o e, Nat.ne_of_lt (Heap.lt_size (hk b o e))⟩, ⟨_, he1, rfl, ?_⟩, h1, h2⟩
  exact ⟨_, rfl⟩
end
end Mine
namespace Mine
section
variable {X : Cx} {n : Nat} {ae : AEnv} {S S' : List AO} {ρ T : List Addr} {s : Shared} {K : AV → List AO → Prop} {KB : Bool → List AO → Prop} {KF : AF → List AO → Prop} {KU : Unit → List AO → Prop}

theorem bools_of {h : Heap} : ∀ {bs : List Bool} {vs : List Value}, VRs X ρ T h (bs.map AV.bool) vs → vs = bs.map Value.bool
  | [], _, q => VRs_nil.mp q
  | b :: bs, _, q => by
    obtain ⟨v, r, rfl, h1, h2⟩ := VRs_cons.mp q
    rw [VR_bool.mp h1, bools_of h2]; rfl

theorem all_range (bs : List Bool) : (List.range bs.length).all (fun j => bs.getD j true) = bs.all id := by
  rw [Bool.eq_iff_iff, List.all_eq_true, List.all_eq_true]
  constructor
  · intro h x hx
    obtain ⟨j, hj⟩ := List.getElem?_of_mem hx
    have := h j (List.mem_range.mpr (List.getElem?_eq_some_iff.mp hj).1)
    rw [List.getD_eq_getElem?_getD, hj] at this
    exact this
  · intro h j hj
    have hj := List.mem_range.mp hj
    rw [List.getD_eq_getElem?_getD, List.getElem?_eq_getElem hj]
    exact h _ (List.getElem_mem hj)

theorem kAll {a : AV} {bs : List Bool} (ha : IsL S a (bs.map AV.bool)) (h : K (.bool (bs.all id)) S) : WpC X n S (.val (.builtin "all")) [a] [] K := call1 fun A ρ T s v hr hR hv => by
  obtain ⟨b, vs, rfl, hi, hq⟩ := ha.at hR hv
  have hlt : b < s.heap.objs.size := by obtain ⟨o, ho, _⟩ := hi; exact Heap.lt_size ho
  have hh : A.in1.handled = none := hr.handled
  have hvs := bools_of hq
  subst hvs
  refine wpAny_with_toks (Nat.le_refl _) (call_all_walk (wpAny_pyIter_list hi ⟨s.heap.objs.size, _, _, _, _, _, fun j => bs.getD j true, rfl, Walks.list hh s.heap.objs.size b (Nat.ne_of_lt hlt) (bs.map Value.bool).toArray, ⟨⟨_, Heap.get?_push_size _ rfl, rfl, rfl⟩, hi.at fun o e => Heap.get?_push_of_some _ e⟩, ?_, ?_⟩))
  · intro j v s' Q E hp hq'
    have hp : (bs.map Value.bool).toArray[j]? = some v := hp
    have : v = .bool (bs.getD j true) := by
      rw [List.getElem?_toArray, List.getElem?_map] at hp
      cases e : bs[j]? with
      | none => rw [e] at hp; cases hp
      | some b => rw [e] at hp; cases hp; rw [List.getD_eq_getElem?_getD, e]; rfl
    subst this
    exact wpAny_pure hq'
  · intro h' tk hk hn
    refine PostG.mk (.ext hR (fun c o e => hk c o (fun q => by rw [List.mem_singleton.mp q] at e; exact absurd (Heap.lt_size e) (Nat.lt_irrefl _)) (Heap.get?_push_of_some _ e)) ⟨rfl, rfl, rfl⟩ hn) (x := .bool (bs.all id)) h ?_
    rw [VR_bool, List.size_toArray, List.length_map, all_range]

theorem oEqStrs {a b : AV} {xs ys : List Str} (ha : IsL S a (xs.map AV.str)) (hb : IsL S b (ys.map AV.str)) (h : K (.bool (decide (xs = ys))) S) : Wp2 X n S (compareOp .Eq) a b K := fun A ρ T s v u hr hR hv hu => by
  obtain ⟨a1, vs, rfl, hi, hq⟩ := ha.at hR hv
  obtain ⟨a2, us, rfl, hi2, hq2⟩ := hb.at hR hu
  have l1 : vs.length = xs.length := by rw [hq.length, List.length_map]
  have l2 : us.length = ys.length := by rw [hq2.length, List.length_map]
  have hun : A.units < cLine := by have := hr.units; omega
  by_cases hl : xs.length = ys.length
  · refine SeqAt.RcAt.lists (e := fun j => decide (xs[j]? = ys[j]?)) hi hi2 (by simp; omega) hun (fun j j1 j2 => ?_) X.prog X.w No _ ?_
    · have j1' : j < vs.length := by simpa using j1
      have j2' : j < us.length := by simpa using j2
      have h1 : xs[j]? = some (xs[j]'(by omega)) := List.getElem?_eq_getElem (by omega)
      have h2 : ys[j]? = some (ys[j]'(by omega)) := List.getElem?_eq_getElem (by omega)
      obtain ⟨v1, e1, q1⟩ := hq.get (i := j) (x := .str (xs[j]'(by omega))) (by rw [List.getElem?_map, h1]; rfl)
      obtain ⟨v2, e2, q2⟩ := hq2.get (i := j) (x := .str (ys[j]'(by omega))) (by rw [List.getElem?_map, h2]; rfl)
      obtain ⟨_, t1, rfl⟩ := VR_str.mp q1
      obtain ⟨_, t2, rfl⟩ := VR_str.mp q2
      have f1 : vs.toArray[j] = .str (xs[j]'(by omega)) t1 := by
        have := (List.getElem?_eq_some_iff.mp e1).2; simpa using this
      have f2 : us.toArray[j] = .str (ys[j]'(by omega)) t2 := by
        have := (List.getElem?_eq_some_iff.mp e2).2; simpa using this
      rw [f1, f2, h1, h2]
      have := SeqAt.EqAt.str_str (A := A.in1) (s := s) (xs[j]'(by omega)) t1 (ys[j]'(by omega)) t2
      have e3 : decide (some (xs[j]'(by omega)) = some (ys[j]'(by omega))) = ((xs[j]'(by omega)) == (ys[j]'(by omega))) := by
        rw [Bool.eq_iff_iff, decide_eq_true_iff, beq_iff_eq, Option.some.injEq]
      rw [e3]; exact this
    · refine PostG.mk (x := .bool (decide (xs = ys))) (.refl hR) h ?_
      rw [VR_bool]
      congr 1
      rw [Bool.eq_iff_iff, List.all_eq_true, decide_eq_true_iff]
      constructor
      · intro q
        refine List.ext_getElem? fun j => ?_
        by_cases hj : j < xs.length
        · have := q j (List.mem_range.mpr (by simp; omega))
          simpa using this
        · rw [List.getElem?_eq_none_iff.mpr (by omega), List.getElem?_eq_none_iff.mpr (by omega)]
      · intro q j _
        rw [q]; simp
  · refine SeqAt.RcAt.lists_lengths hi hi2 (by simp; omega) hun X.prog X.w No _ ?_
    have : decide (xs = ys) = false := by
      rw [decide_eq_false_iff_not]; intro q; exact hl (by rw [q])
    rw [this] at h
    exact PostG.mk (x := .bool false) (.refl hR) h rfl
end
end Mine
namespace Mine
section
variable {X : Cx} {n : Nat} {ae : AEnv} {S S' : List AO} {ρ T : List Addr} {s : Shared} {K : AV → List AO → Prop} {KB : Bool → List AO → Prop} {KF : AF → List AO → Prop} {KU : Unit → List AO → Prop}

theorem compOkL {elt t i : Expr} {fs : List Expr} {sc : Scope} {pos : Pos} {S1 : List AO} {k : Option Nat} {items : List AV} {f : AV → Option AV} (hcell : cellAOs sc.names = []) (hl : items.length ≤ sizeLine) (hu : ∀ it ∈ items, ∀ v, f it = some v → v.und S1.length)
    (ht : ∀ it ∈ items, Turn X n (cEnv ae sc S1.length) t fs elt (lo S1 k) f it) (hK : K (.lst (items.filterMap f)) S1) :
    CompOk X n ae (.ListComp elt [⟨t, i, fs, 0⟩] sc pos) t fs [] sc items k S1 (CompEnd S1 K) := by
  unfold CompOk
  rw [hcell]
  refine turns_list (lo_length S1 k) items [] [] (by simpa using hl) ht fun vars' => ?_
  exact ⟨_, vars', [], _, rfl, .lst (by simpa using unds_filterMap items hu), by simpa using hK⟩

/-- x = [elt for t in i ..] -/
theorem sLC {x : Str} {p ps : Pos} {elt t i : Expr} {fs : List Expr} {sc : Scope} {pos : Pos} (hc : CompIs ae [⟨t, i, fs, 0⟩] sc) (hsi : ∀ env x, foldedSetIterable i env x = pure x) (hcell : cellAOs sc.names = [])
    (hs : swapsWith (.ListComp elt [⟨t, i, fs, 0⟩] sc pos) (some (.Name x p)) ps.line (dumb ae.scope) = pure true)
    (h : WpI X n ae S t i fun items k S1 => ∃ f : AV → Option AV, items.length ≤ sizeLine ∧ (∀ it ∈ items, ∀ v, f it = some v → v.und S1.length) ∧ (∀ it ∈ items, Turn X n (cEnv ae sc S1.length) t fs elt (lo S1 k) f it) ∧ WpN X n ae S1 x (.lst (items.filterMap f)) fun _ S3 => KF .next S3) :
    WpS X n ae S (.Assign [.Name x p] (.ListComp elt [⟨t, i, fs, 0⟩] sc pos) ps) KF :=
  sAsgComp (.list ..) hc (fun g hg => by cases List.mem_singleton.mp hg; exact hsi) hs (fun A ρ T s env Q E E' hr hR hE hQ => h A ρ T s env Q E E' hr hR hE fun items k S1 ρ1 T1 s1 ⟨f, hl, hu, ht, hK⟩ st => hQ items k S1 ρ1 T1 s1 (compOkL (K := fun y S2 => WpN X n ae S2 x y fun _ S3 => KF .next S3) hcell hl hu ht hK) st)

/-- a turn of a dict comprehension -/
noncomputable def TurnD (X : Cx) (n : Nat) (ce : AEnv) (t : Expr) (ke ve : Expr) (L : List AO) (f : AV → Str × AV) (it : AV) : Prop :=
  ∀ kvs vars, WpA X n ce (L ++ [.dct kvs, .ns vars]) t it fun _ S2 => WpE X n ce S2 ke fun kv S3 => WpE X n ce S3 ve fun vv S4 => kv = .str (f it).1 ∧ vv = (f it).2 ∧ ∃ vars', S4 = L ++ [.dct kvs, .ns vars']

theorem put_length (x : Str) (v : AV) : ∀ d : List (Str × AV), (put x v d).length ≤ d.length + 1
  | [] => Nat.le_refl _
  | (k, w) :: r => by
    unfold put
    split
    · simp
    · have := put_length x v r; simp; omega
theorem put_und {m : Nat} {x : Str} {v : AV} (hv : v.und m) : ∀ {d : List (Str × AV)}, AV.undk m d → AV.undk m (put x v d)
  | [], _ => ⟨hv, trivial⟩
  | (k, w) :: r, h => by
    unfold put
    split
    · exact ⟨hv, h.2⟩
    · exact ⟨h.1, put_und hv h.2⟩
theorem puts_und {m : Nat} : ∀ {more d : List (Str × AV)}, AV.undk m more → AV.undk m d → AV.undk m (puts d more)
  | [], _, _, h => h
  | (k, v) :: r, d, hm, h => puts_und (more := r) hm.2 (put_und hm.1 h)

theorem turns_dict {ce : AEnv} {t ke ve : Expr} {gens : List Comprehension} {sc : Scope} {pos : Pos} {L : List AO} {f : AV → Str × AV} {m : Nat} (hm : L.length = m) {K : List AO → Prop} : ∀ (items : List AV) (kvs : List (Str × AV)) (vars : List (Str × AV)), (kvs.length + items.length ≤ sizeLine) →
    (∀ it ∈ items, TurnD X n ce t ke ve L f it) → (∀ vars', K (L ++ [.dct (puts kvs (items.map f)), .ns vars'])) →
    WpItems (WpIn X n ce t [] (WpGens X n ce (emitW X n ce m (.DictComp ke ve gens sc pos)) [])) items (L ++ [.dct kvs, .ns vars]) K
  | [], kvs, vars, _, _, h => h vars
  | it :: r, kvs, vars, hl, ht, h => by
    have hl : kvs.length + (r.length + 1) ≤ sizeLine := hl
    refine WpA.mono (ht it (.head _) kvs vars) fun _ S2 h2 => ?_
    unfold WpTests
    dsimp only
    rw [if_pos rfl]
    refine WpE.mono h2 fun kv S3 h3 => WpE.mono h3 fun vv S4 ⟨e1, e2, vars', e4⟩ => ?_
    subst e4
    have hg : (L ++ [AO.dct kvs, .ns vars'])[m]? = some (.dct kvs) := by rw [← hm]; simp
    refine ⟨kvs, _, hg, e1, by omega, ?_⟩
    have hs : (L ++ [AO.dct kvs, .ns vars']).set m (.dct (put (f it).1 vv kvs)) = L ++ [.dct (put (f it).1 vv kvs), .ns vars'] := by
      rw [← hm, List.set_append_right _ _ (Nat.le_refl _)]; simp
    rw [hs, e2]
    have := put_length (f it).1 (f it).2 kvs
    exact turns_dict hm r (put (f it).1 (f it).2 kvs) vars' (by omega) (fun it' hi => ht it' (.tail _ hi)) h

theorem compOkD {ke ve t i : Expr} {sc : Scope} {pos : Pos} {S1 : List AO} {k : Option Nat} {items : List AV} {f : AV → Str × AV} (hcell : cellAOs sc.names = []) (hl : items.length ≤ sizeLine) (hu : AV.undk S1.length (items.map f))
    (ht : ∀ it ∈ items, TurnD X n (cEnv ae sc S1.length) t ke ve (lo S1 k) f it) (hK : K (.dct (puts [] (items.map f))) S1) :
    CompOk X n ae (.DictComp ke ve [⟨t, i, [], 0⟩] sc pos) t [] [] sc items k S1 (CompEnd S1 K) := by
  unfold CompOk
  rw [hcell]
  refine turns_dict (lo_length S1 k) items [] [] (by simpa using hl) ht fun vars' => ?_
  exact ⟨_, vars', [], _, rfl, .dct (puts_und hu trivial), hK⟩

theorem wDC {ke ve t i : Expr} {sc : Scope} {pos : Pos} (hc : CompIs ae [⟨t, i, [], 0⟩] sc) (hsi : ∀ env x, foldedSetIterable i env x = pure x) (hcell : cellAOs sc.names = [])
    (h : WpI X n ae S t i fun items k S1 => ∃ f : AV → Str × AV, items.length ≤ sizeLine ∧ AV.undk S1.length (items.map f) ∧ (∀ it ∈ items, TurnD X n (cEnv ae sc S1.length) t ke ve (lo S1 k) f it) ∧ K (.dct (puts [] (items.map f))) S1) :
    WpE X n ae S (.DictComp ke ve [⟨t, i, [], 0⟩] sc pos) K :=
  wComp (.dict ..) hc (fun g hg => by cases List.mem_singleton.mp hg; exact hsi) (fun A ρ T s env Q E E' hr hR hE hQ => h A ρ T s env Q E E' hr hR hE fun items k S1 ρ1 T1 s1 ⟨f, hl, hu, ht, hK⟩ st => hQ items k S1 ρ1 T1 s1 (compOkD hcell hl hu ht hK) st)
end
end Mine
namespace Mine

theorem range_pick {α : Type} (ys : List α) : ∀ m : Nat, (List.range m).filterMap (ys[·]?) = ys.take m
  | 0 => by simp
  | m + 1 => by
    rw [List.range_succ, List.filterMap_append, range_pick ys m, List.take_add_one]
    cases h : ys[m]? <;> simp [h]
theorem range_pick2 {α : Type} (xs : List α) (a b : Nat) : ((List.range (b - a)).map (a + ·)).filterMap (xs[·]?) = (xs.drop a).take (b - a) := by
  rw [List.filterMap_map, ← range_pick]
  congr 1
  funext k
  simp
theorem pickL_eq (xs : List AV) (lo hi : Option Int) (a b : Nat) (h1 : (sliceBounds lo hi none xs.length).1 = a) (h2 : (sliceBounds lo hi none xs.length).2.1 = b) (h3 : (sliceBounds lo hi none xs.length).2.2 = 1) : pickL xs lo hi = (xs.drop a).take (b - a) := by
  unfold pickL
  rw [h1, h2, h3, sliceRange_one, range_pick2]
theorem pickL_take (xs : List AV) (j : Nat) : pickL xs none (some j) = xs.take j := by
  rw [pickL_eq xs none (some j) 0 (min j xs.length)]
  · rw [List.drop_zero, Nat.sub_zero]
    by_cases h : j ≤ xs.length
    · rw [Nat.min_eq_left h]
    · rw [Nat.min_eq_right (by omega), List.take_of_length_le (Nat.le_refl _), List.take_of_length_le (by omega)]
  · simp [sliceBounds]
  · simp only [sliceBounds, Option.getD_none]
    rw [if_neg (by omega : ¬ ((j : Int) < 0)), if_pos (by decide)]; omega
  · rfl
theorem pickL_drop (xs : List AV) (i : Nat) : pickL xs (some i) none = xs.drop i := by
  rw [pickL_eq xs (some i) none (min i xs.length) xs.length]
  · by_cases h : i ≤ xs.length
    · rw [Nat.min_eq_left h, List.take_of_length_le (by simp)]
    · rw [Nat.min_eq_right (by omega), List.drop_of_length_le (Nat.le_refl _), List.drop_of_length_le (by omega)]; simp
  · simp only [sliceBounds, Option.getD_none]
    rw [if_neg (by omega : ¬ ((i : Int) < 0)), if_pos (by decide)]; omega
  · simp [sliceBounds]
  · rfl
theorem pickL_mid (xs : List AV) (i j : Nat) (hij : i ≤ j) (hj : j ≤ xs.length) : pickL xs (some i) (some j) = (xs.drop i).take (j - i) := by
  rw [pickL_eq xs (some i) (some j) i j]
  · simp only [sliceBounds, Option.getD_none]
    rw [if_neg (by omega : ¬ ((i : Int) < 0)), if_pos (by decide)]; omega
  · simp only [sliceBounds, Option.getD_none]
    rw [if_neg (by omega : ¬ ((j : Int) < 0)), if_pos (by decide)]; omega
  · rfl
end Mine
namespace Mine
section
variable {X : Cx} {n : Nat} {ae : AEnv} {S S' : List AO} {s : Shared} {K : AV → List AO → Prop}

/-- a state one token later -/
noncomputable def bump (s : Shared) : Shared := { s with toks := s.toks + 1 }

/-- the call of the law: the token that binds its argument is the first one that is sure -/
theorem entryC {A : Around} {a : Addr} {oc ct dV kV doc pm cdv : Value} {od an : Option Addr} {osl : Array (Option Value)} {name qual : Str} {params : Arguments} {body : List Stmt} {scope : Scope} {x : Str} {av : AV} {v : Value}
    (ho : X.K.lookup a = some ⟨oc, od, .func (fnOf name qual params body scope dV kV doc pm an cdv ct), osl⟩) (hcd : codeIn X.K cdv qual = true)
    (hbind : ∀ s, BindsTo s (fnOf name qual params body scope dV kV doc pm an cdv ct) ⟨[v], []⟩ [(x, v)]) (hx : scope.names.lookup x = some .local)
    (hR : Rep X [] [] [] (bump s)) (hv : VR X [] [] s.heap av v) (hr : Room (n + 1) A)
    (hb : WpSs X n (fEnv scope 0) (.ns (put x av []) :: cellAOs scope.names) body fun f S3 => LeaveG [] K (afv f) S3)
    (hk : scope.kind = .function := by rfl) (hco : scope.isCoroutine = false := by rfl) (hgen : scope.isGenerator = false := by rfl) :
    codeAny X.M A (.call (.ref a) ⟨[v], []⟩) (fun r s' => ∃ u, r = .ok (.ret u) ∧ PostV X [] [] [] (bump s) K u s') s := by
  have hin : Room n A.in1 := hr.in1
  refine codeAny_call_function (by have := hr.depth; omega) (hR.kin a _ ho) rfl hco hgen rfl (codeRec_of hR.kin hcd) ?_
  refine hbind s _ _ _ _ ?_
  simp only [newFunctionEnv, Option.isSome_none, Bool.false_eq_true, if_false]
  refine wpAny_bind (wpAny_alloc ?_)
  refine wpAny_bind (wpAny_layCells _ (fun name kind cells => by cases hkc : kind == NameKind.cell <;> simp [hkc]) _ _ _ _ ?_)
  rw [show ({ s with heap := s.heap.push { cls := .type "frame", data := .dict #[] } } : Shared).heap.objs.size = s.heap.objs.size + 1 from Heap.size_push ..]
  have p1 := Heap.Ns.new s.heap (.type "frame")
  have st1 : Step X [] [] [] (bump s) ([] ++ [.ns []]) ([] ++ [s.heap.objs.size]) ([] ++ [s.heap.objs.size]) { bump s with heap := s.heap.push { cls := .type "frame", data := .dict #[] }, toks := s.toks + 1 } :=
    Step.new (ao := .ns []) hR (fun b o e => Heap.get?_push_of_some _ e) (newAddr s.heap) (hR.nosysOf (Nat.le_refl _)) ⟨_, Heap.get?_push_size _ rfl⟩ ⟨_, p1, fun x v e => by simp at e, fun _ _ => rfl⟩ (s.toks + 1)
  obtain ⟨ρ2, T2, st2, hc2⟩ := cells_step scope.names st1.rep [] [] (fun x i e => by simp at e)
  have st12 := st1.trans hR st2
  have hE : ∀ env : Env, env.scope = scope → env.locals = s.heap.objs.size → env.globals = mainGlobals → env.builtins = builtinsNs → env.cells = cellsFrom (s.heap.objs.size + 1) scope.names [] → EnvOk (fEnv scope 0) ρ2 env := fun env q1 q2 q3 q4 q5 => {
    scope := q1
    fn := hk
    loc := by rw [q2]; exact (st2.mv st1.rep).ids _ _ rfl
    glob := q3
    bui := q4
    cells := fun y j ej => by
      have e' : (cellsFrom ([] ++ [AO.ns []]).length scope.names []).lookup y = some j := ej
      obtain ⟨c, a, b⟩ := hc2 y j e'
      refine ⟨c, ?_, b⟩
      rw [show ({ bump s with heap := s.heap.push { cls := .type "frame", data := .dict #[] }, toks := s.toks + 1 } : Shared).heap.objs.size = s.heap.objs.size + 1 from Heap.size_push ..] at a
      rw [q5]; exact a }
  have hloc : ρ2[0]? = some s.heap.objs.size := (st2.mv st1.rep).ids _ _ rfl
  rw [List.forIn_cons]
  obtain ⟨m, hm, hq, hq'⟩ := st2.rep.obj 0 (.ns []) _ rfl hloc
  refine wpAny_bind (wpAny_bind (wpAny_bind (wpAny_storeName_local hx hm (fun h' hn hs => ?_) (by show (scope.kind == ScopeKind.class || _) = false; rw [hk]; rfl))))
  have hmv : Mv ρ2 T2 (pushCells (s.heap.push { cls := .type "frame", data := .dict #[] }) scope.names) ρ2 T2 h' := ⟨fun b o hb e => (hs.2 b (fun q => hb (q ▸ st2.rep.sub _ (List.mem_of_getElem? hloc)))).trans e, fun a ha => .inl ha, fun _ _ e => e⟩
  have st3 := Step.upd (h' := h') (ao' := .ns (put x av [])) st2.rep (i := 0) rfl hloc (by intro q; cases q) (by intro q; cases q) hs.extBut (show OR X ρ2 T2 h' _ (.ns (put x av [])) from ⟨_, hn, fun y w e => by
      rw [put_lookup] at e
      by_cases hy : y = x
      · rw [if_pos hy] at e; cases e
        exact ⟨v, by rw [if_pos hy], VR.mv hmv _ (VR.mv (st12.mv hR) _ hv)⟩
      · rw [if_neg hy] at e; simp at e, fun y e => by
      rw [put_lookup] at e
      by_cases hy : y = x
      · rw [if_pos hy] at e; cases e
      · rw [if_neg hy]; exact hq' y rfl⟩) (let ⟨o, _, _, ho, _⟩ := hn; ⟨o, ho⟩) (s.toks + 1) (Nat.le_refl _)
  have st13 := st12.trans hR st3
  refine wpAny_pure (wpAny_pure (wpAny_pure ⟨st3.rep.topR.nolimit, codeAny_func ?_⟩))
  refine chain (hb (A.deeper _) ρ2 T2 _ _ hr.deeper st3.rep (hE _ rfl rfl rfl rfl rfl)) fun f S3 ρ3 T3 fl s3 hK3 st4 hf => ?_
  have st14 := st13.trans hR st4
  cases f with
  | next => cases hf; exact ⟨.none, rfl, hK3.post hR st14 (by simp [afv])⟩
  | brk => cases hf; exact ⟨.none, rfl, hK3.post hR st14 (by simp [afv])⟩
  | cont => cases hf; exact ⟨.none, rfl, hK3.post hR st14 (by simp [afv])⟩
  | ret x => obtain ⟨v, rfl, hx⟩ := hf; exact ⟨v, rfl, hK3.post hR st14 hx⟩
end
end Mine
set_option maxHeartbeats 8000000
namespace Mine
open_top hd for PySem.Challenge.rw_tc0046_03
end Mine
set_option maxHeartbeats 4000000
namespace Mine
section
variable {X : Cx} {P : Params} {n : Nat} {ae : AEnv} {S : List AO} {K : AV → List AO → Prop} {KF : AF → List AO → Prop} {KU : Unit → List AO → Prop}

noncomputable def escOne (y z : Str) (x : Str) : Str := if Txt.contains x y = true then Txt.replace x y z else x

/-- if y in text: text = text.replace(y, z) -/
theorem escStep {v y z x : Str} {k1 k2 k3 : Nat} {p1 p2 p3 p4 p5 p6 p7 p8 p9 p10 p11 : Pos} {pl : Env → Sem Bool} {ns : List (Str × AV)} (hk : ae.scope.names.lookup v = some .local) (hS : S[ae.loc]? = some (.ns ns)) (hv : ns.lookup v = some (.str x))
    (hx : x.length ≤ 65535) (hz : z.length ≤ 14) (hyz : (y == z) = false) (hl : (escOne y z x).length ≤ 65535) (hd : (v == ("__debug__" : Str)) = false)
    (hs : swapsWith (.Call (.Attribute (.Name v p5) "replace" p6) [.Constant (.str y) k2 p7, .Constant (.str z) k3 p8] [] p9) (some (.Name v p4)) p10.line (dumb ae.scope) = pure false)
    (he : ∀ env, eval (.Call (.Attribute (.Name v p5) "replace" p6) [.Constant (.str y) k2 p7, .Constant (.str z) k3 p8] [] p9) env = (do
      let ov ← eval (.Name v p5) env
      standAt p6.atName
      let (f, first) ← holding [ov] (getMethod ov "replace" (pl env))
      callWith p9 f first (backTo p9 (starEach [.Constant (.str y) k2 p7, .Constant (.str z) k3 p8] env)) (backToKw p9 (keywordEach [] env))))
    (hy : y.length ≤ sizeLine) (h : KF .next (S.set ae.loc (.ns (put v (.str (escOne y z x)) ns)))) :
    WpS X n ae S (.If (.Compare (.Constant (.str y) k1 p1) [.In] [.Name v p2] p3) [.Assign [.Name v p4] (.Call (.Attribute (.Name v p5) "replace" p6) [.Constant (.str y) k2 p7, .Constant (.str z) k3 p8] [] p9) p10] [] p11) KF := by
  refine sIf (bCmp (wStr (wName hk hS hv (oInS (tBool ?_)) hd) hy))
  unfold escOne at hl h
  split
  · rename_i e
    rw [if_pos e] at hl h
    exact sCons (sAsg (wRepl (wName hk hS hv ⟨x, rfl, hx, hz, hyz, by rw [sizeLine_eq]; omega, nLoc hk hS (sNil h)⟩ hd) he) hs)
  · rename_i e
    rw [if_neg e] at hl h
    refine sNil ?_
    have e2 : S.set ae.loc (.ns (put v (.str x) ns)) = S := by
      have : put v (.str x) ns = ns := put_same hv
      rw [this]
      exact set_same hS
    rw [← e2]; exact h

noncomputable def escs : List (Str × Str) := [("&", "&amp;"), ("<", "&lt;"), (">", "&gt;"), ("\"", "&quot;"), ("\r", "&#13;"), ("\n", "&#10;"), ("\t", "&#09;")]
noncomputable def escUpto (k : Nat) (x : Str) : Str := (escs.take k).foldl (fun x p => escOne p.1 p.2 x) x

theorem escape_contract (hK : X.K = hd.heap_39 P) {x : Str} (hx : ∀ k, k ≤ 7 → (escUpto k x).length ≤ 65535) (h : K (.str (escUpto 7 x)) []) : CdC X (n + 1) [] 52 [.str x] [] K := by
  refine fnC (by rw [hK]; rfl) (by rw [hK]; rfl) (bindPure (names := ["text"]) rfl (fun vs hv => ?_) rfl ?_)
  · obtain ⟨v, rfl⟩ : ∃ v, vs = [v] := by
      match vs, hv with
      | [v], _ => exact ⟨v, rfl⟩
    rfl
  · refine nLoc (by rfl) (by rfl) ?_
    refine sCons (sTry (sCons ?_))
    refine escStep (by rfl) (by rfl) (by rfl) (hx 0 (by decide)) (by decide +kernel) (by decide +kernel) (hx 1 (by decide)) (by decide +kernel) (by rfl) (by intro _; rfl) (by decide +kernel) ?_
    refine sCons ?_
    refine escStep (by rfl) (by rfl) (by rw [put_lookup, if_pos rfl]; rfl) (hx 1 (by decide)) (by decide +kernel) (by decide +kernel) (hx 2 (by decide)) (by decide +kernel) (by rfl) (by intro _; rfl) (by decide +kernel) ?_
    refine sCons ?_
    refine escStep (by rfl) (by rfl) (by rw [put_lookup, if_pos rfl]; rfl) (hx 2 (by decide)) (by decide +kernel) (by decide +kernel) (hx 3 (by decide)) (by decide +kernel) (by rfl) (by intro _; rfl) (by decide +kernel) ?_
    refine sCons ?_
    refine escStep (by rfl) (by rfl) (by rw [put_lookup, if_pos rfl]; rfl) (hx 3 (by decide)) (by decide +kernel) (by decide +kernel) (hx 4 (by decide)) (by decide +kernel) (by rfl) (by intro _; rfl) (by decide +kernel) ?_
    refine sCons ?_
    refine escStep (by rfl) (by rfl) (by rw [put_lookup, if_pos rfl]; rfl) (hx 4 (by decide)) (by decide +kernel) (by decide +kernel) (hx 5 (by decide)) (by decide +kernel) (by rfl) (by intro _; rfl) (by decide +kernel) ?_
    refine sCons ?_
    refine escStep (by rfl) (by rfl) (by rw [put_lookup, if_pos rfl]; rfl) (hx 5 (by decide)) (by decide +kernel) (by decide +kernel) (hx 6 (by decide)) (by decide +kernel) (by rfl) (by intro _; rfl) (by decide +kernel) ?_
    refine sCons ?_
    refine escStep (by rfl) (by rfl) (by rw [put_lookup, if_pos rfl]; rfl) (hx 6 (by decide)) (by decide +kernel) (by decide +kernel) (hx 7 (by decide)) (by decide +kernel) (by rfl) (by intro _; rfl) (by decide +kernel) ?_
    exact sCons (sRet (wName (by rfl) (by rfl) (by rw [put_lookup, if_pos rfl]; rfl) (leaveE fzStr h)))

noncomputable def c14s : List (Str × Str) := [("&", "&amp;"), ("<", "&lt;"), ("\"", "&quot;"), ("\t", "&#x9;"), ("\n", "&#xA;"), ("\r", "&#xD;")]
noncomputable def c14Upto (k : Nat) (x : Str) : Str := (c14s.take k).foldl (fun x p => escOne p.1 p.2 x) x

theorem c14_contract (hK : X.K = hd.heap_39 P) {x : Str} (hx : ∀ k, k ≤ 6 → (c14Upto k x).length ≤ 65535) (h : K (.str (c14Upto 6 x)) []) : CdC X (n + 1) [] 59 [.str x] [] K := by
  refine fnC (by rw [hK]; rfl) (by rw [hK]; rfl) (bindPure (names := ["text"]) rfl (fun vs hv => ?_) rfl ?_)
  · obtain ⟨v, rfl⟩ : ∃ v, vs = [v] := by
      match vs, hv with
      | [v], _ => exact ⟨v, rfl⟩
    rfl
  · refine nLoc (by rfl) (by rfl) ?_
    refine sCons (sTry (sCons ?_))
    refine escStep (by rfl) (by rfl) (by rfl) (hx 0 (by decide)) (by decide +kernel) (by decide +kernel) (hx 1 (by decide)) (by decide +kernel) (by rfl) (by intro _; rfl) (by decide +kernel) ?_
    refine sCons ?_
    refine escStep (by rfl) (by rfl) (by rw [put_lookup, if_pos rfl]; rfl) (hx 1 (by decide)) (by decide +kernel) (by decide +kernel) (hx 2 (by decide)) (by decide +kernel) (by rfl) (by intro _; rfl) (by decide +kernel) ?_
    refine sCons ?_
    refine escStep (by rfl) (by rfl) (by rw [put_lookup, if_pos rfl]; rfl) (hx 2 (by decide)) (by decide +kernel) (by decide +kernel) (hx 3 (by decide)) (by decide +kernel) (by rfl) (by intro _; rfl) (by decide +kernel) ?_
    refine sCons ?_
    refine escStep (by rfl) (by rfl) (by rw [put_lookup, if_pos rfl]; rfl) (hx 3 (by decide)) (by decide +kernel) (by decide +kernel) (hx 4 (by decide)) (by decide +kernel) (by rfl) (by intro _; rfl) (by decide +kernel) ?_
    refine sCons ?_
    refine escStep (by rfl) (by rfl) (by rw [put_lookup, if_pos rfl]; rfl) (hx 4 (by decide)) (by decide +kernel) (by decide +kernel) (hx 5 (by decide)) (by decide +kernel) (by rfl) (by intro _; rfl) (by decide +kernel) ?_
    refine sCons ?_
    refine escStep (by rfl) (by rfl) (by rw [put_lookup, if_pos rfl]; rfl) (hx 5 (by decide)) (by decide +kernel) (by decide +kernel) (hx 6 (by decide)) (by decide +kernel) (by rfl) (by intro _; rfl) (by decide +kernel) ?_
    exact sCons (sRet (wName (by rfl) (by rfl) (by rw [put_lookup, if_pos rfl]; rfl) (leaveE fzStr h)))
end
end Mine
set_option maxHeartbeats 4000000
namespace Mine
section
variable {X : Cx} {P : Params} {n : Nat} {ae : AEnv} {S : List AO} {K : AV → List AO → Prop} {KF : AF → List AO → Prop} {KU : Unit → List AO → Prop}

noncomputable def nameCode : Array Nat := #[14, 10, 4, 1, 1, 22, 0, 31, 16, 127, 0, 13, 7, 22, 0, 31, 16, 127, 0, 1]
noncomputable def valueCode : Array Nat := #[14, 14, 4, 1, 1, 9, 4294966783, 0, 0, 2147483648, 0, 0, 0, 0, 0, 13, 11, 9, 4294966783, 0, 0, 2147483648, 0, 0, 0, 0, 0, 1]

theorem name_pat (hK : X.K = hd.heap_39 P) : PatIn X.K 76 nameCode := by
  rw [hK]; exact ⟨_, _, 75, _, _, _, rfl, rfl, rfl, rfl, rfl, rfl, rfl, rfl, by decide +kernel⟩
theorem value_pat (hK : X.K = hd.heap_39 P) : PatIn X.K 81 valueCode := by
  rw [hK]; exact ⟨_, _, 80, _, _, _, rfl, rfl, rfl, rfl, rfl, rfl, rfl, rfl, by decide +kernel⟩

theorem app_at {r : List AO} : ∀ (i : Nat) (ao : AO), S[i]? = some ao → (S ++ r)[i]? = some ao := fun i ao e => by
  rw [List.getElem?_append_left (List.getElem?_eq_some_iff.mp e).1]; exact e
theorem at_end {x : AO} : (S ++ [x])[S.length]? = some x := by simp
theorem set_end {x y : AO} : (S ++ [x]).set S.length y = S ++ [y] := by
  rw [List.set_append_right _ _ (Nat.le_refl _)]; simp

theorem convert_contract (hK : X.K = hd.heap_39 P) {a : AV} {v : Str} {b : Bool} (hn : ∀ c ∈ v.cps, NoSet (if b = true then nameCode else valueCode) c) (h : K (.str v) S) : CdC X (n + 1) S 111 [a, .str v] [("name", .bool b)] K := by
  refine fnG (by rw [hK]; rfl) (by rw [hK]; rfl) (fun A ρ T s vs ks hr hR hv hks => ?_)
  · obtain ⟨v1, v2, rfl, h1, h2⟩ := hv.two_inv
    obtain ⟨v3, rfl, h3⟩ : ∃ v3, ks = [(Str.ofString "name", v3)] ∧ VR X ρ T s.heap (.bool b) v3 := by
      simp only [VRk] at hks
      obtain ⟨v3, r, rfl, h3, h4⟩ := hks
      subst h4
      exact ⟨v3, rfl, h3⟩
    refine wpAny_of_eq (a := [(Str.ofString "self", v1), (Str.ofString "value", v2), (Str.ofString "name", v3)]) (by kernel_rfl) (PostG.mk (x := [(Str.ofString "self", a), (Str.ofString "value", .str v), (Str.ofString "name", .bool b)]) (.refl hR) ?_ ?_)
    rotate_left 1
    · simp only [VRk]
      exact ⟨_, _, rfl, h1, _, _, rfl, h2, _, _, rfl, h3, rfl⟩
    show WpBinds X n _ _ (S ++ [.ns []]) _
    refine nLoc (by rfl) at_end ?_
    rw [show (fEnv _ S.length).loc = S.length from rfl, set_end]
    refine nLoc (by rfl) at_end ?_
    rw [show (fEnv _ S.length).loc = S.length from rfl, set_end]
    refine nLoc (by rfl) at_end ?_
    rw [show (fEnv _ S.length).loc = S.length from rfl, set_end]
    refine sCons (sIf (bCmp (wCallN (wBoot (by rfl) (by rw [hK]; rfl) rfl ⟨_, rfl, cType, ?_⟩) (by rfl) (by rfl))))
    refine wName (v := .str v) (by rfl) at_end (by kernel_rfl) ?_
    refine kTypeS (wBoot (by rfl) (by rw [hK]; rfl) rfl (oIs rfl rfl (by rfl) (tBool ?_)))
    rw [if_pos (by decide +kernel)]
    refine sCons (sAsg (wIf (bVal (wName (v := .bool b) (by rfl) at_end (by kernel_rfl) (tBool ?_)))) (by rfl))
    cases b
    · rw [if_neg (by decide)] at hn ⊢
      refine wGlob (v := .ref 81) (av := .val (.ref 81)) (by rfl) (by rw [hK]; rfl) (fun _ _ _ => by simp) ?_
      refine nLoc (by rfl) at_end ?_
      rw [show (fEnv _ S.length).loc = S.length from rfl, set_end]
      refine sCons (sIf (bVal (wSearch (value_pat hK) (by rfl) (by decide +kernel) (wName (v := .val (.ref 81)) (by rfl) at_end (by kernel_rfl) ⟨rfl, wName (v := .str v) (by rfl) at_end (by kernel_rfl) ⟨v, rfl, hn, tNone ?_⟩⟩) rfl)))
      rw [if_neg (by decide)]
      exact sNil (sCons (sRet (wName (v := .str v) (by rfl) at_end (by kernel_rfl) (leaveU app_at fzStr h))))
    · rw [if_pos rfl] at hn ⊢
      refine wGlob (v := .ref 76) (av := .val (.ref 76)) (by rfl) (by rw [hK]; rfl) (fun _ _ _ => by simp) ?_
      refine nLoc (by rfl) at_end ?_
      rw [show (fEnv _ S.length).loc = S.length from rfl, set_end]
      refine sCons (sIf (bVal (wSearch (name_pat hK) (by rfl) (by decide +kernel) (wName (v := .val (.ref 76)) (by rfl) at_end (by kernel_rfl) ⟨rfl, wName (v := .str v) (by rfl) at_end (by kernel_rfl) ⟨v, rfl, hn, tNone ?_⟩⟩) rfl)))
      rw [if_neg (by decide)]
      exact sNil (sCons (sRet (wName (v := .str v) (by rfl) at_end (by kernel_rfl) (leaveU app_at fzStr h))))
end
end Mine
set_option maxHeartbeats 4000000
namespace Mine
section
variable {X : Cx} {P : Params} {n : Nat} {ae : AEnv} {S : List AO} {K : AV → List AO → Prop} {KF : AF → List AO → Prop} {KU : Unit → List AO → Prop}

/-- a row of a Headers object: a name and a value that both may stand there -/
noncomputable def okName (k : Str) : Prop := ∀ c ∈ k.cps, NoSet nameCode c
noncomputable def okVal (v : Str) : Prop := ∀ c ∈ v.cps, NoSet valueCode c
noncomputable def rowAV (p : Str × Str) : AV := .tup [.str p.1, .str p.2]

theorem init_contract (hK : X.K = hd.heap_39 P) (hC : X.C = 210) {rows : List (Str × Str)} (hr : ∀ p ∈ rows, okName p.1 ∧ okVal p.2) (hl : rows.length ≤ 65535) :
    CdC X (n + 2) [.lst (rows.map rowAV), .inst none] 104 [.inst 1, .obj 0] [] fun x S' => x = .none ∧ S' = [.lst (rows.map rowAV), .inst (some (.obj 0))] := by
  refine fnG (by rw [hK]; rfl) (by rw [hK]; rfl) (bindTo (bs := [(Str.ofString "self", .inst 1), (Str.ofString "headers", .obj 0)]) (fun s ρ T vs ks hin hv hks => ?_) ?_)
  · obtain ⟨v1, v2, rfl, h1, h2⟩ := hv.two_inv
    cases hks.nil_inv
    refine ⟨[(Str.ofString "self", v1), (Str.ofString "headers", v2)], binds_K hin rfl (by rw [hK]; rfl) rfl rfl rfl, ?_⟩
    simp only [VRk]
    exact ⟨_, _, rfl, h1, _, _, rfl, h2, rfl⟩
  · refine nLoc (by rfl) (by rfl) ?_
    refine nLoc (by rfl) (by rfl) ?_
    refine sCons (sAsg (wIf (bCmp (wName (v := .obj 0) (by rfl) (by rfl) (by kernel_rfl) (wNone (oIsNotNone trivial (tBool ?_)))))) (by rfl))
    rw [if_pos rfl]
    refine wName (v := .obj 0) (by rfl) (by rfl) (by kernel_rfl) (nLoc (by rfl) (by rfl) ?_)
    refine sCons (sIf (bCmp (wCallN (wBoot (by rfl) (by rw [hK]; rfl) rfl ⟨_, rfl, cType, ?_⟩) (by rfl) (by rfl))))
    refine wName (v := .obj 0) (by rfl) (by rfl) (by kernel_rfl) ?_
    refine kTypeL (.inr ⟨0, rfl, rfl⟩) (wBoot (by rfl) (by rw [hK]; rfl) rfl (oIsNot rfl rfl (by rfl) (tBool ?_)))
    rw [if_neg (by decide +kernel)]
    refine sNil (sCons (sSelf (wName (v := .obj 0) (by rfl) (by rfl) (by kernel_rfl) (wName (v := .inst 1) (by rfl) (by rfl) (by kernel_rfl) ⟨1, rfl, rfl, by rw [hK, hC]; rfl, by rw [hK, hC]; rfl, by rw [hK, hC]; rfl, by rw [hK, hC]; rfl, ?_⟩)) (by rfl)))
    refine sCons (sIf (bVal (wBool (tBool ?_))))
    rw [if_pos rfl]
    refine sCons (sFor (iE (wName (v := .obj 0) (by rfl) (by rfl) (by kernel_rfl) ⟨rows.map rowAV, some 0, srcObj rfl ?_, ?_⟩)))
    · intro it hit
      obtain ⟨p, _, rfl⟩ := List.mem_map.mp hit
      exact ⟨_, rfl⟩
    refine loopInv (fun items S => ∃ (vars : List (Str × AV)) (rest : List (Str × Str)), S = [.loan, .inst (some (.obj 0)), .ns vars] ∧ vars.lookup (Str.ofString "self") = some (.inst 1) ∧ items = rest.map rowAV ∧ ∀ p ∈ rest, okName p.1 ∧ okVal p.2)
      ?_ ?_ _ _ ⟨_, rows, rfl, by kernel_rfl, rfl, hr⟩
    · intro S ⟨vars, rest, hS, _⟩
      subst hS
      refine sNil (sNil ?_)
      refine ⟨[.lst (rows.map rowAV), .inst (some (.obj 0))], [], [], .none, rfl, fun i ao e => ?_, rfl, by simp, List.nodup_nil, fzNone, rfl, rfl⟩
      match i with
      | 0 => exact ⟨e, .inl e⟩
      | 1 => cases e; exact ⟨rfl, .inr (by simp [AO.und, AV.und])⟩
      | _ + 2 => cases e
    · intro it r S ⟨vars, rest, hS, hself, hit, hok⟩
      subst hS
      cases rest with
      | nil => simp at hit
      | cons p rest =>
        cases hit
        have hp := hok p (by simp)
        have hok' : ∀ q ∈ rest, okName q.1 ∧ okVal q.2 := fun q hq => hok q (by simp [hq])
        refine aTup rfl rfl ⟨trivial, aName (nLoc (by rfl) (by rfl) ⟨trivial, aName (nLoc (by rfl) (by rfl) ?_)⟩)⟩
        have e1 : (put (Str.ofString "v") (AV.str p.2) (put (Str.ofString "k") (AV.str p.1) vars)).lookup (Str.ofString "self") = some (.inst 1) := by
          rw [put_lookup, if_neg (by decide +kernel), put_lookup, if_neg (by decide +kernel)]; exact hself
        have e2 : (put (Str.ofString "v") (AV.str p.2) (put (Str.ofString "k") (AV.str p.1) vars)).lookup (Str.ofString "k") = some (.str p.1) := by
          rw [put_lookup, if_neg (by decide +kernel), put_lookup, if_pos rfl]
        have e3 : (put (Str.ofString "v") (AV.str p.2) (put (Str.ofString "k") (AV.str p.1) vars)).lookup (Str.ofString "v") = some (.str p.2) := by
          rw [put_lookup, if_pos rfl]
        refine sCons (sExpr (wCallM (wName (v := .inst 1) (by rfl) (by rfl) e1 (mOwn (f := 111) (.inr ⟨1, _, rfl, rfl, by rw [if_neg (by decide +kernel)]⟩) (by rw [hK, hC]; rfl) (by rw [hK, hC]; rfl) (by rw [hK]; rfl)
          ⟨cFn (by rw [hK]; rfl), wName (by rfl) (by rfl) e2 (wBool (convert_contract hK (b := true) (v := p.1) hp.1 ?_).call)⟩))) )
        refine sCons (sExpr (wCallM (wName (v := .inst 1) (by rfl) (by rfl) e1 (mOwn (f := 111) (.inr ⟨1, _, rfl, rfl, by rw [if_neg (by decide +kernel)]⟩) (by rw [hK, hC]; rfl) (by rw [hK, hC]; rfl) (by rw [hK]; rfl)
          ⟨cFn (by rw [hK]; rfl), wName (by rfl) (by rfl) e3 (wBool (convert_contract hK (b := false) (v := p.2) hp.2 ?_).call)⟩))) )
        exact sNil ⟨_, rest, rfl, e1, rfl, hok'⟩
end
end Mine
set_option maxHeartbeats 4000000
namespace Mine
section
variable {X : Cx} {P : Params} {n : Nat} {ae : AEnv} {S : List AO} {K : AV → List AO → Prop} {KF : AF → List AO → Prop} {KU : Unit → List AO → Prop}

/-- self._headers of an object of the class -/
theorem gHdr (hK : X.K = hd.heap_39 P) (hC : X.C = 210) {i : Nat} (h : K (.obj i) S) : WpG X n S (Str.ofString "_headers") (.hdr i) K := by
  refine gOwn (.inl ⟨i, rfl, by rw [if_pos (by rfl)]⟩) (by rw [hK, hC]; rfl) (by rw [hK, hC]; rfl) (by rw [hK, hC]; rfl) (by rw [hK]; rfl) (fun _ _ _ _ q => obj_handed q) h

theorem filterMap_rows {f : AV → Option AV} {g : Str × Str → AV} : ∀ (rows : List (Str × Str)), (∀ p ∈ rows, f (rowAV p) = some (g p)) → (rows.map rowAV).filterMap f = rows.map g
  | [], _ => rfl
  | p :: r, h => by
    rw [List.map_cons, List.filterMap_cons, h p (.head _), filterMap_rows r fun q hq => h q (.tail _ hq)]; rfl
theorem unds_map {α : Type} {m : Nat} {g : α → AV} (h : ∀ p, (g p).und m) : ∀ (rows : List α), AV.unds m (rows.map g)
  | [] => trivial
  | p :: r => ⟨h p, unds_map h r⟩

theorem keys_contract (hK : X.K = hd.heap_39 P) (hC : X.C = 210) {rows : List (Str × Str)} (hl : rows.length ≤ 65535) (h : K (.lst (rows.map fun p => .str p.1)) [.lst (rows.map rowAV)]) :
    CdC X (n + 1) [.lst (rows.map rowAV)] 162 [.hdr 0] [] K := by
  refine fnG (by rw [hK]; rfl) (by rw [hK]; rfl) (bindTo (bs := [(Str.ofString "self", .hdr 0)]) (fun s ρ T vs ks hin hv hks => ?_) ?_)
  · obtain ⟨v1, rfl, h1⟩ := hv.one_inv
    cases hks.nil_inv
    exact ⟨[(Str.ofString "self", v1)], .of_eq rfl, by simp only [VRk]; exact ⟨_, _, rfl, h1, rfl⟩⟩
  · refine nLoc (by rfl) (by rfl) ?_
    refine sCons (sRet (wLC (compIs0 rfl rfl (by decide +kernel) (by decide +kernel)) (by intro _ _; rfl) (by rfl) ?_))
    refine iE (wAttr (wName (v := .hdr 0) (by rfl) (by rfl) (by kernel_rfl) (gHdr hK hC ⟨rows.map rowAV, some 0, srcObj rfl ?_, ?_⟩)))
    · intro it hit
      obtain ⟨p, _, rfl⟩ := List.mem_map.mp hit
      exact ⟨_, rfl⟩
    refine ⟨fun it => match it with | .tup [.str a, _] => some (.str a) | _ => none, by rw [sizeLine_eq]; simp; omega, ?_, ?_, ?_⟩
    · intro it hit v e
      obtain ⟨p, _, rfl⟩ := List.mem_map.mp hit
      cases e; trivial
    · intro it hit
      obtain ⟨p, _, rfl⟩ := List.mem_map.mp hit
      refine turn0 fun xs vars => ?_
      refine aTup rfl rfl ⟨trivial, aName (nLoc (by rfl) (by rfl) ⟨trivial, aName (nLoc (by rfl) (by rfl) ?_)⟩)⟩
      exact wName (by rfl) (by rfl) (by rw [put_lookup, if_neg (by decide +kernel), put_lookup, if_pos rfl]) ⟨_, rfl, rfl⟩
    · rw [filterMap_rows (g := fun p => .str p.1) rows fun p _ => rfl]
      exact leaveU app_at (fzLst (unds_map (g := fun p : Str × Str => AV.str p.1) (fun _ => trivial) _)) h
end
end Mine
set_option maxHeartbeats 4000000
namespace Mine
section
variable {X : Cx} {P : Params} {n : Nat} {ae : AEnv} {S : List AO} {K : AV → List AO → Prop} {KF : AF → List AO → Prop} {KU : Unit → List AO → Prop}

noncomputable def lineOf (p : Str × Str) : Str := p.1 ++ Str.ofString ": " ++ p.2
noncomputable def linesOf (rows : List (Str × Str)) : List Str := rows.map lineOf ++ [Str.ofString "", Str.ofString ""]
noncomputable def pageOf (rows : List (Str × Str)) : Str := Txt.join (Str.ofString "\r\n") (linesOf rows)

theorem str_contract (hK : X.K = hd.heap_39 P) (hC : X.C = 210) {rows : List (Str × Str)} (hl : rows.length ≤ 65535) (hw : ∀ p ∈ rows, p.1.length ≤ 100000 ∧ p.2.length ≤ 100000) (hj : JoinOk (Str.ofString "\r\n") (linesOf rows) = true) (h : K (.str (pageOf rows)) [.lst (rows.map rowAV)]) :
    CdC X (n + 1) [.lst (rows.map rowAV)] 186 [.hdr 0] [] K := by
  refine fnG (by rw [hK]; rfl) (by rw [hK]; rfl) (bindTo (bs := [(Str.ofString "self", .hdr 0)]) (fun s ρ T vs ks hin hv hks => ?_) ?_)
  · obtain ⟨v1, rfl, h1⟩ := hv.one_inv
    cases hks.nil_inv
    exact ⟨[(Str.ofString "self", v1)], .of_eq rfl, by simp only [VRk]; exact ⟨_, _, rfl, h1, rfl⟩⟩
  · refine nLoc (by rfl) (by rfl) ?_
    refine sCons (sRet (wCallM (wStr (mStr F.slot_str_join F.type_str_join ⟨cBuiltin, ?_⟩)) (by intro _; rfl)))
    refine wBin (wLC (compIs0 rfl rfl (by decide +kernel) (by decide +kernel)) (by intro _ _; rfl) (by rfl) ?_)
    refine iE (wAttr (wName (v := .hdr 0) (by rfl) (by rfl) (by kernel_rfl) (gHdr hK hC ⟨rows.map rowAV, some 0, srcObj rfl ?_, ?_⟩)))
    · intro it hit
      exact trivial
    refine ⟨fun it => match it with | .tup [.str a, .str b] => some (.str (lineOf (a, b))) | _ => none, by rw [sizeLine_eq]; simp; omega, ?_, ?_, ?_⟩
    · intro it hit v e
      obtain ⟨p, _, rfl⟩ := List.mem_map.mp hit
      cases e; trivial
    · intro it hit
      obtain ⟨p, hp, rfl⟩ := List.mem_map.mp hit
      refine turn0 fun xs vars => ?_
      refine aName (nLoc (by rfl) (by rfl) ?_)
      exact wBin (wStr (wName (v := rowAV p) (by rfl) (by rfl) (by rw [put_lookup, if_pos rfl]) (oPct2 (hw p hp).1 (hw p hp).2 ⟨_, rfl, rfl⟩)))
    · rw [filterMap_rows (g := fun p => .str (lineOf p)) rows fun p _ => rfl]
      refine wLst (wStr (wStr ⟨by decide +kernel, oAddL (.inl rfl) (.inl rfl) (by rw [sizeLine_eq]; simp; omega) ?_⟩))
      have e : (rows.map fun p => AV.str (lineOf p)) ++ [AV.str (Str.ofString ""), AV.str (Str.ofString "")] = (linesOf rows).map .str := by
        simp [linesOf, Function.comp_def]
      rw [e]
      exact kJoin (.inl rfl) hj (leaveU app_at fzStr h)
end
end Mine
set_option maxHeartbeats 4000000
namespace Mine
section
variable {X : Cx} {P : Params} {n : Nat} {ae : AEnv} {S : List AO} {K : AV → List AO → Prop} {KF : AF → List AO → Prop} {KU : Unit → List AO → Prop}

theorem filterMap_rowsIf {f : AV → Option AV} {g : Str × Str → AV} {c : Str × Str → Bool} : ∀ (rows : List (Str × Str)), (∀ p ∈ rows, f (rowAV p) = if c p = true then some (g p) else none) → (rows.map rowAV).filterMap f = (rows.filter c).map g
  | [], _ => rfl
  | p :: r, h => by
    rw [List.map_cons, List.filterMap_cons, h p (.head _), filterMap_rowsIf r fun q hq => h q (.tail _ hq)]
    cases e : c p <;> simp [List.filter_cons, e]

theorem getall_contract (hK : X.K = hd.heap_39 P) (hC : X.C = 210) {rows : List (Str × Str)} {x : Str} (hl : rows.length ≤ 65535) (hx : okName (Txt.lower x)) (hf : Builtin.Str.tooLong (Txt.lower x).length = false) (hfr : ∀ p ∈ rows, Builtin.Str.tooLong (Txt.lower p.1).length = false)
    (h : K (.lst ((rows.filter fun p => (Txt.lower p.1).cps.toList == (Txt.lower x).cps.toList).map fun p => .str p.2)) [.lst (rows.map rowAV)]) :
    CdC X (n + 2) [.lst (rows.map rowAV)] 149 [.hdr 0, .str x] [] K := by
  refine fnG (by rw [hK]; rfl) (by rw [hK]; rfl) (bindTo (bs := [(Str.ofString "self", .hdr 0), (Str.ofString "name", .str x)]) (fun s ρ T vs ks hin hv hks => ?_) ?_)
  · obtain ⟨v1, v2, rfl, h1, h2⟩ := hv.two_inv
    cases hks.nil_inv
    exact ⟨[(Str.ofString "self", v1), (Str.ofString "name", v2)], .of_eq rfl, by simp only [VRk]; exact ⟨_, _, rfl, h1, _, _, rfl, h2, rfl⟩⟩
  · refine nLoc (by rfl) (by rfl) ?_
    refine nCell (i := 2) (v0 := none) (by rfl) (by rfl) (by rfl) ?_
    refine sCons (sAsg (wCallM (wName (v := .hdr 0) (by rfl) (by rfl) (by kernel_rfl) (mOwn (f := 111) (.inl ⟨0, rfl, by rw [if_neg (by decide +kernel)]⟩) (by rw [hK, hC]; rfl) (by rw [hK, hC]; rfl) (by rw [hK]; rfl)
          ⟨cFn (by rw [hK]; rfl), ?_⟩))) (by rfl))
    refine wCallM (wCell (i := 2) (v := .str x) (.inl (by rfl)) (by rfl) (by rfl) (mStr F.slot_str_lower F.type_str_lower ⟨cBuiltin, ?_⟩)) (by intro _; rfl)
    refine kLower hf (wBool (convert_contract hK (b := true) (v := Txt.lower x) hx ?_).call)
    refine nCell (i := 2) (v0 := some (.str x)) (by rfl) (by rfl) (by rfl) ?_
    refine sCons (sRet (wLC ⟨rfl, (fun g hg => by cases List.mem_singleton.mp hg; rfl), ?_, by decide +kernel⟩ (by intro _ _; rfl) (by rfl) ?_))
    · intro y hy e
      simp at hy
      rcases hy with rfl | rfl | rfl
      · cases e
      · cases e
      · rfl
    refine iE (wAttr (wName (v := .hdr 0) (by rfl) (by rfl) (by kernel_rfl) (gHdr hK hC ⟨rows.map rowAV, some 0, srcObj rfl ?_, ?_⟩)))
    · intro it hit
      exact trivial
    refine ⟨fun it => match it with | .tup [.str a, .str b] => if (Txt.lower a).cps.toList == (Txt.lower x).cps.toList then some (.str b) else none | _ => none, by rw [sizeLine_eq]; simp; omega, ?_, ?_, ?_⟩
    · intro it hit v e
      obtain ⟨p, _, rfl⟩ := List.mem_map.mp hit
      simp only [rowAV] at e
      split at e
      · cases e; trivial
      · cases e
    · intro it hit
      obtain ⟨p, hp, rfl⟩ := List.mem_map.mp hit
      refine turn1 fun xs vars => ?_
      refine aName (nLoc (by rfl) (by rfl) ?_)
      refine bCmp (wCallM (wSub (wName (v := rowAV p) (by rfl) (by rfl) (by rw [put_lookup, if_pos rfl]) (wInt (xTup (j := 0) (by decide) (by decide) (by rfl) rfl (mStr F.slot_str_lower F.type_str_lower ⟨cBuiltin, kLower (hfr p hp) ?_⟩))))) (by intro _; rfl))
      refine wCell (i := 2) (v := .str (Txt.lower x)) (by first | exact .inl (by rfl) | exact .inr (by kernel_rfl) | exact .inl (by kernel_rfl)) (by first | rfl | kernel_rfl) (by rfl) (oEqS (tBool ?_))
      split
      · rename_i e
        refine wSub (wName (v := rowAV p) (by rfl) (by rfl) (by rw [put_lookup, if_pos rfl]) (wInt (xTup (j := 1) (by decide) (by decide) (by rfl) rfl ⟨_, rfl, ?_⟩)))
        simp only [rowAV]; rw [if_pos e]
      · rename_i e
        refine ⟨_, rfl, ?_⟩
        simp only [rowAV]; rw [if_neg e]
    · rw [filterMap_rowsIf (c := fun p => (Txt.lower p.1).cps.toList == (Txt.lower x).cps.toList) (g := fun p => .str p.2) rows fun p _ => rfl]
      refine leaveU (fun i ao e => ?_) (fzLst (unds_map (g := fun p : Str × Str => AV.str p.2) (fun _ => trivial) _)) h
      match i with
      | 0 => exact e
      | _ + 1 => cases e
end
end Mine
set_option maxHeartbeats 4000000
namespace Mine
section
variable {X : Cx} {P : Params} {n : Nat} {ae : AEnv} {S : List AO} {K : AV → List AO → Prop} {KF : AF → List AO → Prop} {KU : Unit → List AO → Prop}

theorem bindKw0 {fd : FuncData} {xs : List AV} {names : List Str} {last : Str} {KB' : List (Str × AV) → List AO → Prop} (hl : names.length = xs.length)
    (hb : ∀ vs : List Value, vs.length = xs.length → bindArgs fd ⟨vs, []⟩ = (do let d ← alloc { cls := .type "dict", data := .dict #[] }; pure (names.zip vs ++ [(last, .ref d)])))
    (h : KB' (names.zip xs ++ [(last, .dct [])]) S) : Binds X n S fd xs [] KB' := fun A ρ T s vs ks hr hR hv hks => by
  cases hks.nil_inv
  rw [hb vs hv.length]
  refine wpAny_bind (wpAny_alloc (wpAny_pure ?_))
  have st : Step X S ρ T s S ρ T { s with heap := s.heap.push { cls := .type "dict", data := .dict #[] }, toks := s.toks } := Step.push hR _ _
  refine PostG.mk st h ?_
  have hv2 := VRs.mv (st.mv hR) _ hv
  have hd : VR X ρ T (s.heap.push { cls := .type "dict", data := .dict #[] }) (.dct []) (.ref s.heap.objs.size) := by
    simp only [VR]
    refine ⟨_, [], rfl, hR.fresh, hR.nosysOf (Nat.le_refl _), ⟨_, #[], 0, Heap.get?_push_size _ rfl, ⟨rfl, rfl, rfl⟩, rfl, fun _ he => by simp at he, .nil, by simp⟩, by simp [VRk]⟩
  have go : ∀ (ns : List Str) (xs : List AV) (vs : List Value) (h : Heap), VRs X ρ T h xs vs → VR X ρ T h (.dct []) (.ref s.heap.objs.size) → VRk X ρ T h (ns.zip xs ++ [(last, .dct [])]) (ns.zip vs ++ [(last, .ref s.heap.objs.size)]) := by
    intro ns
    induction ns with
    | nil => intro xs vs h _ q; simp only [List.zip_nil_left, List.nil_append, VRk]; exact ⟨_, _, rfl, q, rfl⟩
    | cons n ns ih =>
      intro xs vs h q q2
      cases xs with
      | nil => rw [VRs_nil.mp q]; simp only [List.zip_nil_right, List.nil_append, VRk]; exact ⟨_, _, rfl, q2, rfl⟩
      | cons x xs =>
        obtain ⟨v, r, rfl, h1, h2⟩ := VRs_cons.mp q
        simp only [List.zip_cons_cons, List.cons_append, VRk]
        exact ⟨v, _, rfl, h1, ih xs r h h2 q2⟩
  exact go names xs vs _ hv2 hd

theorem addheader_contract (hK : X.K = hd.heap_39 P) (hC : X.C = 210) {rows : List (Str × Str)} {x y : Str} (hl : rows.length ≤ 65535) (hx : okName x) (hy : okVal y) (hyl : y.length ≤ 65535)
    (h : K .none [.lst ((rows ++ [(x, y)]).map rowAV)]) :
    CdC X (n + 2) [.lst (rows.map rowAV)] 207 [.hdr 0, .str x, .str y] [] K := by
  refine fnG (by rw [hK]; rfl) (by rw [hK]; rfl) (bindKw0 (names := [Str.ofString "self", Str.ofString "_name", Str.ofString "_value"]) (last := Str.ofString "_params") rfl (fun vs hv => ?_) ?_)
  · obtain ⟨a, b, c, rfl⟩ : ∃ a b c, vs = [a, b, c] := by
      match vs, hv with
      | [a, b, c], _ => exact ⟨a, b, c, rfl⟩
    kernel_rfl
  · refine nLoc (by rfl) (by rfl) ?_
    refine nLoc (by rfl) (by rfl) ?_
    refine nLoc (by rfl) (by rfl) ?_
    refine nLoc (by rfl) (by rfl) ?_
    refine sCons (sAsg (wLstT ?_) (by rfl))
    refine ⟨by decide +kernel, nLoc (by rfl) (by rfl) ?_⟩
    refine sCons (sIf (bCmp (wName (v := .str y) (by rfl) (by rfl) (by kernel_rfl) (wNone (oIsNotNone trivial (tBool ?_))))))
    rw [if_pos rfl]
    refine sCons (sAsg (wCallM (wName (v := .hdr 0) (by rfl) (by rfl) (by kernel_rfl) (mOwn (f := 111) (.inl ⟨0, rfl, by rw [if_neg (by decide +kernel)]⟩) (by rw [hK, hC]; rfl) (by rw [hK, hC]; rfl) (by rw [hK]; rfl)
          ⟨cFn (by rw [hK]; rfl), wName (v := .str y) (by rfl) (by rfl) (by kernel_rfl) (wBool (convert_contract hK (b := false) (v := y) hy ?_).call)⟩))) (by rfl))
    refine nLoc (by rfl) (by rfl) ?_
    refine sCons (sExpr (wCallM (wName (v := .obj 2) (by rfl) (by rfl) (by kernel_rfl) (mAppend (xs := []) (by rfl) ⟨cBuiltin, wName (v := .str y) (by rfl) (by rfl) (by kernel_rfl) (kAppend (xs := []) (by rfl) (by decide +kernel) ?_)⟩))) )
    refine sNil ?_
    refine sCons (sFor (iCallM (wName (v := .dct []) (by rfl) (by rfl) (by kernel_rfl) (mDct (kvs := []) (.inl rfl) F.slot_dict_items F.type_dict_items ⟨cBuiltin, ?_⟩))))
    unfold WpArgs
    refine rItems0 ?_
    refine sCons (sExpr (wCallM (wAttr (wName (v := .hdr 0) (by rfl) (by rfl) (by kernel_rfl) (gHdr hK hC (mAppend (xs := rows.map rowAV) (by rfl) ⟨cBuiltin, ?_⟩))))))
    refine wTup ?_
    unfold WpArgs
    refine wCallM (wName (v := .hdr 0) (by rfl) (by rfl) (by kernel_rfl) (mOwn (f := 111) (.inl ⟨0, rfl, by rw [if_neg (by decide +kernel)]⟩) (by rw [hK, hC]; rfl) (by rw [hK, hC]; rfl) (by rw [hK]; rfl)
          ⟨cFn (by rw [hK]; rfl), ?_⟩))
    refine wName (v := .str x) (by rfl) (by rfl) (by kernel_rfl) (wBool (convert_contract hK (b := true) (v := x) hx ?_).call)
    unfold WpArgs
    refine wCallM (wStr (mStr F.slot_str_join F.type_str_join ⟨cBuiltin, ?_⟩)) (by intro _; rfl)
    refine wName (v := .obj 2) (by rfl) (by rfl) (by kernel_rfl) ?_
    unfold WpArgs
    unfold WpKws
    refine kJoin (ts := [y]) (.inr ⟨2, rfl, rfl⟩) ?_ ?_
    · refine joinOk_of ?_
      have : (Str.ofString "; ").length = 2 := by decide +kernel
      simp [this]; omega
    unfold WpArgs
    refine ⟨by rw [sizeLine_eq]; simp, ?_⟩
    unfold WpArgs
    unfold WpKws
    refine kAppend (xs := rows.map rowAV) (by rfl) (by rw [sizeLine_eq]; simp; omega) ?_
    refine sNil ?_
    have e : rows.map rowAV ++ [AV.tup [.str x, .str (Txt.join (Str.ofString "; ") [y])]] = (rows ++ [(x, y)]).map rowAV := by
      have : Txt.join (Str.ofString "; ") [y] = y := PyProof.Rows.join_one (Str.ofString "; ") y
      rw [this]; simp [rowAV]
    rw [e]
    refine ⟨[.lst ((rows ++ [(x, y)]).map rowAV)], [], [], .none, rfl, fun i ao ei => ?_, rfl, by simp, List.nodup_nil, fzNone, h⟩
    match i with
    | 0 =>
      cases ei
      exact ⟨by rfl, .inr (show AV.unds _ _ from unds_map (g := rowAV) (fun _ => ⟨trivial, trivial, trivial⟩) _)⟩
    | _ + 1 => cases ei
end
end Mine
set_option maxHeartbeats 4000000
namespace Mine
section
variable {X : Cx} {P : Params} {n : Nat} {ae : AEnv} {S : List AO} {K : AV → List AO → Prop} {KF : AF → List AO → Prop} {KU : Unit → List AO → Prop}

noncomputable def one (c : Nat) : Str := ⟨#[c]⟩
noncomputable def rowsOf (names value : Str) : List (Str × Str) := names.cps.toList.map fun c => (one c, value)

theorem filterMap_map {α : Type} {f : AV → Option AV} {e : α → AV} {g : α → AV} : ∀ (l : List α), (∀ p ∈ l, f (e p) = some (g p)) → (l.map e).filterMap f = l.map g
  | [], _ => rfl
  | p :: r, h => by
    rw [List.map_cons, List.filterMap_cons, h p (.head _), filterMap_map r fun q hq => h q (.tail _ hq)]; rfl

structure PgOk (names value : Str) : Prop where
  len : names.length ≤ 16
  vlen : value.length ≤ 100
  nm : ∀ c ∈ names.cps.toList, NoSet nameCode c
  vl : okVal value

theorem PgOk.join {names value : Str} (h : PgOk names value) : JoinOk (Str.ofString "\r\n") (linesOf (rowsOf names value)) = true := by
  refine joinOk_of ?_
  have e : (Str.ofString "\r\n").length = 2 := by decide +kernel
  have e2 : (Str.ofString ": ").length = 2 := by decide +kernel
  have e3 : (Str.ofString "").length = 0 := by decide +kernel
  have hl : names.cps.toList.length ≤ 16 := h.len
  have : ∀ l : List Nat, ((l.map fun c => (one c, value)).map lineOf |>.map (·.length)).sum = l.length * (3 + value.length) := by
    intro l
    induction l with
    | nil => simp
    | cons c l ih =>
      simp only [List.map_cons, List.sum_cons, List.length_cons, ih]
      have : (lineOf (one c, value)).length = 3 + value.length := by
        unfold lineOf
        simp only [Str.length_append, e2]
        show 1 + 2 + value.length = _
        omega
      rw [this, Nat.add_mul]; omega
  have h1 := this names.cps.toList
  unfold linesOf
  rw [List.map_append, List.sum_append]
  unfold rowsOf
  rw [h1]
  simp only [List.map_cons, List.map_nil, List.sum_cons, List.sum_nil, e, e3, List.length_append, List.length_map, List.length_cons, List.length_nil]
  have h2 : names.cps.toList.length * (3 + value.length) ≤ 16 * 103 := Nat.mul_le_mul hl (by have := h.vlen; omega)
  omega

theorem page_contract (hK : X.K = hd.heap_39 P) (hC : X.C = 210) {names value : Str} (hp : PgOk names value) (h : K (.str (pageOf (rowsOf names value))) []) :
    CdC X (n + 4) [] 219 [.str names, .str value] [] K := by
  have hrl : (rowsOf names value).length ≤ 65535 := by
    have := hp.len
    have e : (rowsOf names value).length = names.length := by simp [rowsOf]; rfl
    omega
  refine fnG (by rw [hK]; rfl) (by rw [hK]; rfl) (bindTo (bs := [(Str.ofString "names", .str names), (Str.ofString "value", .str value)]) (fun s ρ T vs ks hin hv hks => ?_) ?_)
  · obtain ⟨v1, v2, rfl, h1, h2⟩ := hv.two_inv
    cases hks.nil_inv
    exact ⟨[(Str.ofString "names", v1), (Str.ofString "value", v2)], .of_eq rfl, by simp only [VRk]; exact ⟨_, _, rfl, h1, _, _, rfl, h2, rfl⟩⟩
  · refine nLoc (by rfl) (by rfl) ?_
    refine nCell (i := 1) (v0 := none) (by rfl) (by rfl) (by rfl) ?_
    refine sCons (sRet (wCallN (wBoot (by rfl) (by rw [hK]; rfl) rfl ⟨_, rfl, cType, ?_⟩) (by rfl) (by rfl)))
    unfold WpArgs
    refine wCallN (wGlob (v := .ref 210) (av := .val (.ref 210)) (by rfl) (by rw [hK]; rfl) (fun _ _ _ => by simp) ⟨_, rfl, cFn (by rw [hK]; rfl), ?_⟩) (by rfl) (by rfl)
    unfold WpArgs
    refine wLCT ⟨rfl, (fun g hg => by cases List.mem_singleton.mp hg; rfl), ?_, by decide +kernel⟩ (by intro _ _; rfl) (by rfl) ?_
    · intro y hy e
      simp at hy
      rcases hy with rfl | rfl | rfl
      · cases e
      · cases e
      · rfl
    refine iE (wName (v := .str names) (by rfl) (by rfl) (by kernel_rfl) ⟨signs names, none, srcStr, ?_⟩)
    refine ⟨fun it => match it with | .str a => some (rowAV (a, value)) | _ => none, ?_, ?_, ?_, ?_⟩
    · rw [sizeLine_eq]; have := hp.len; simp [signs]; show names.cps.size ≤ _; have e : names.cps.size = names.length := rfl; omega
    · intro it hit v e
      obtain ⟨p, _, rfl⟩ := List.mem_map.mp hit
      cases e; exact ⟨trivial, trivial, trivial⟩
    · intro it hit
      obtain ⟨c, hc, rfl⟩ := List.mem_map.mp hit
      refine turn0 fun xs vars => ?_
      refine aName (nLoc (by rfl) (by rfl) ?_)
      refine wTup ?_
      unfold WpArgs
      refine wName (v := .str ⟨#[c]⟩) (by rfl) (by rfl) (by rw [put_lookup, if_pos rfl]) ?_
      unfold WpArgs
      refine wCell (i := 1) (v := .str value) (by first | exact .inl (by rfl) | exact .inr (by kernel_rfl) | exact .inl (by kernel_rfl)) (by first | rfl | kernel_rfl) (by rfl) ?_
      unfold WpArgs
      exact ⟨by rw [sizeLine_eq]; simp, _, rfl, rfl⟩
    · unfold WpArgs
      unfold WpKws
      have e : (signs names).filterMap (fun it => match it with | .str a => some (rowAV (a, value)) | _ => none) = (rowsOf names value).map rowAV := by
        unfold signs rowsOf
        refine (filterMap_map (e := fun c => AV.str ⟨#[c]⟩) (g := fun c => rowAV (one c, value)) _ fun p _ => rfl).trans ?_
        rw [List.map_map]; rfl
      rw [e]
      rw [← hC]
      refine kMake (rows := (rowsOf names value).map rowAV) (fI := 104) (by rw [hK, hC]; rfl) (by rw [hK, hC]; rfl) (by rw [hK]; rfl) (by rfl) ?_ (init_contract hK hC ?_ hrl) ?_
      · exact unds_map (g := rowAV) (fun _ => ⟨trivial, trivial, trivial⟩) _
      · intro p hq
        obtain ⟨c, hc, rfl⟩ := List.mem_map.mp hq
        refine ⟨fun d hd => ?_, hp.vl⟩
        have : d = c := by simpa [one] using hd
        subst this
        exact hp.nm _ hc
      unfold WpArgs
      unfold WpKws
      refine kStrH (f := 186) (y := pageOf (rowsOf names value)) (by rw [hK, hC]; rfl) (by rw [hK]; rfl) (by rfl) (by intro q; cases q) ?_ (str_contract hK hC hrl ?_ hp.join ⟨rfl, rfl⟩) ?_
      · exact unds_map (g := rowAV) (fun _ => ⟨trivial, trivial, trivial⟩) _
      · intro p hq
        obtain ⟨c, hc, rfl⟩ := List.mem_map.mp hq
        have := hp.vlen
        exact ⟨by show 1 ≤ _; decide, by show value.length ≤ _; omega⟩
      exact leaveU (fun i ao e => by cases i <;> cases e) fzStr h
end
end Mine
set_option maxHeartbeats 4000000
namespace Mine
section
variable {X : Cx} {P : Params} {n : Nat} {ae : AEnv} {S : List AO} {K : AV → List AO → Prop} {KF : AF → List AO → Prop} {KU : Unit → List AO → Prop}

noncomputable def bit (k m : Nat) : Bool := (k / 2 ^ m) % 2 != 0
noncomputable def chosenL (l : List Nat) (k : Nat) : List Nat := (l.zipIdx.filter fun p => bit k p.2).map (·.1)
noncomputable def chosenOf (names : Str) (k : Nat) : Str := ⟨(chosenL names.cps.toList k).toArray⟩

theorem fdm (k m : Nat) : (((k : Int).fdiv ((2 : Int) ^ m)).fmod 2) = ((k / 2 ^ m % 2 : Nat) : Int) := by
  have e : ((2 : Int) ^ m) = ((2 ^ m : Nat) : Int) := by simp
  rw [e, ← Int.ofNat_fdiv]
  rw [Int.fmod_eq_emod_of_nonneg _ (by decide)]; rfl

theorem filterMap_mapIf {α : Type} {f : AV → Option AV} {e : α → AV} {g : α → AV} {c : α → Bool} : ∀ (l : List α), (∀ p ∈ l, f (e p) = if c p = true then some (g p) else none) → (l.map e).filterMap f = (l.filter c).map g
  | [], _ => rfl
  | p :: r, h => by
    rw [List.map_cons, List.filterMap_cons, h p (.head _), filterMap_mapIf r fun q hq => h q (.tail _ hq)]
    cases e : c p <;> simp [List.filter_cons, e]

theorem join_one_list (l : List Nat) : Txt.join (Str.ofString "") (l.map one) = ⟨l.toArray⟩ := by
  have e : Str.ofString "" = ⟨#[]⟩ := by decide +kernel
  rw [e]; exact (StrLaws.glued_eq_join _ _).trans (PyProof.Rows.join_ones l)

noncomputable def selC (k : Nat) : AV → Option AV
  | .tup [.int i, .str a] => if bit k i.toNat = true then some (.str a) else none
  | _ => none

theorem chosen_contract (hK : X.K = hd.heap_39 P) {names : Str} {k : Nat} (hl : names.length ≤ 16) (h : K (.str (chosenOf names k)) []) :
    CdC X (n + 1) [] 224 [.str names, .int k] [] K := by
  refine fnG (by rw [hK]; rfl) (by rw [hK]; rfl) (bindTo (bs := [(Str.ofString "names", .str names), (Str.ofString "choice", .int k)]) (fun s ρ T vs ks hin hv hks => ?_) ?_)
  · obtain ⟨v1, v2, rfl, h1, h2⟩ := hv.two_inv
    cases hks.nil_inv
    exact ⟨[(Str.ofString "names", v1), (Str.ofString "choice", v2)], .of_eq rfl, by simp only [VRk]; exact ⟨_, _, rfl, h1, _, _, rfl, h2, rfl⟩⟩
  · refine nLoc (by rfl) (by rfl) ?_
    refine nCell (i := 1) (v0 := none) (by rfl) (by rfl) (by rfl) ?_
    refine sCons (sRet (wCallM (wStr (mStr F.slot_str_join F.type_str_join ⟨cBuiltin, ?_⟩)) (by intro _; rfl)))
    unfold WpArgs
    refine wLC ⟨rfl, (fun g hg => by cases List.mem_singleton.mp hg; rfl), ?_, by decide +kernel⟩ (by intro _ _; rfl) (by rfl) ?_
    · intro y hy e
      simp at hy
      rcases hy with rfl | rfl | rfl | rfl
      · cases e
      · cases e
      · cases e
      · rfl
    refine iCallN (wBoot (by rfl) (by rw [hK]; rfl) rfl ⟨_, rfl, cType, wName (v := .str names) (by rfl) (by rfl) (by kernel_rfl) ?_⟩)
    unfold WpArgs
    refine rEnum ?_
    have hz : names.cps.toList.length ≤ 16 := hl
    refine ⟨selC k, ?_, ?_, ?_, ?_⟩
    · rw [sizeLine_eq]; simp [numbered']; have e : names.cps.toList.length = names.cps.size := by simp
      omega
    · intro it hit v e
      obtain ⟨p, _, rfl⟩ := List.mem_map.mp hit
      simp only [selC] at e
      split at e
      · cases e; trivial
      · cases e
    · intro it hit
      obtain ⟨⟨c, m⟩, hc, rfl⟩ := List.mem_map.mp hit
      have hm : m < 16 := by
        have := (List.mem_zipIdx hc).2.1
        omega
      refine turn1 fun xs vars => ?_
      refine aTup rfl rfl ⟨trivial, aName (nLoc (by rfl) (by rfl) ⟨trivial, aName (nLoc (by rfl) (by rfl) ?_)⟩)⟩
      refine bVal (wBin (wBin (wCell (i := 1) (v := .int k) (by first | exact .inl (by rfl) | exact .inr (by kernel_rfl) | exact .inl (by kernel_rfl)) (by first | rfl | kernel_rfl) (by rfl) (wBin (wInt (wName (v := .int m) (by rfl) (by rfl) (by rw [put_lookup, if_neg (by decide +kernel), put_lookup, if_pos rfl]) (oPow2 (by omega) ?_)))))))
      have hb : ((2 : Int) ^ m == 0) = false := by
        have : (2 : Int) ^ m ≠ 0 := by
          have := Int.pow_pos (n := 2) (m := m) (by decide)
          omega
        simpa using this
      have hs : ((2 : Int) ^ m).natAbs < 1073741824 := by
        rw [Int.natAbs_pow]
        exact Nat.lt_of_lt_of_le (Nat.pow_lt_pow_right (a := 2) (by decide) hm) (by decide)
      refine oDiv hb hs (wInt (oMod (by decide) (tInt ?_)))
      rw [fdm]
      have e : ((((k / 2 ^ m % 2 : Nat) : Int) != 0) = bit k m) := by
        unfold bit
        cases h2 : k / 2 ^ m % 2 with
        | zero => rfl
        | succ j => rfl
      rw [e]
      cases hbit : bit k m with
      | true =>
        rw [if_pos rfl]
        refine wName (v := .str ⟨#[c]⟩) (by rfl) (by rfl) (by rw [put_lookup, if_pos rfl]) ⟨_, rfl, ?_⟩
        show (if bit k m = true then _ else _) = _
        rw [if_pos hbit]
      | false =>
        rw [if_neg (by decide)]
        refine ⟨_, rfl, ?_⟩
        show (if bit k m = true then _ else _) = _
        rw [if_neg (by rw [hbit]; decide)]
    · have e : (numbered' names).filterMap (selC k) = (((names.cps.toList.zipIdx.filter fun p => bit k p.2).map (·.1)).map one).map AV.str := by
        unfold numbered'
        refine (filterMap_mapIf (c := fun p => bit k p.2) (g := fun p => AV.str (one p.1)) _ fun p _ => rfl).trans ?_
        rw [List.map_map, List.map_map]; rfl
      rw [e]
      unfold WpArgs
      unfold WpKws
      refine kJoin (.inl rfl) (joinOk_of ?_) ?_
      · have h1 : ∀ l : List Nat, ((l.map one).map (·.length)).sum = l.length := by
          intro l
          induction l with
          | nil => rfl
          | cons a l ih => simp only [List.map_cons, List.sum_cons, ih, List.length_cons]; show 1 + _ = _; omega
        rw [h1]
        have h2 : (Str.ofString "").length = 0 := by decide +kernel
        rw [h2]
        have h3 : ((names.cps.toList.zipIdx.filter fun p => bit k p.2).map (·.1)).length ≤ 16 := by
          rw [List.length_map]
          exact Nat.le_trans (List.length_filter_le _ _) (by simpa using hz)
        omega
      · rw [join_one_list]
        exact leaveU (fun i ao e => by cases i <;> cases e) fzStr h
end
end Mine
set_option maxHeartbeats 4000000
namespace Mine
section
variable {X : Cx} {P : Params} {n : Nat} {ae : AEnv} {S : List AO} {K : AV → List AO → Prop} {KF : AF → List AO → Prop} {KU : Unit → List AO → Prop}

noncomputable def numStr (k : Nat) : Str := Str.ofString (toString (k : Int))
noncomputable def escPage (names value : Str) : Str := escUpto 7 (pageOf (rowsOf names value))
noncomputable def tallyRow (names value : Str) (k : Nat) : Str × Str := (escPage (chosenOf names k) value, numStr k)
noncomputable def tallyRows (names value : Str) : List (Str × Str) := (List.range (2 ^ names.length)).map (tallyRow names value)

structure TlOk (names value : Str) : Prop where
  len : names.length ≤ 5
  pg : ∀ k, PgOk (chosenOf names k) value
  esc : ∀ k j, j ≤ 7 → (escUpto j (pageOf (rowsOf (chosenOf names k) value))).length ≤ 65535
  nm : ∀ k, okName (escPage (chosenOf names k) value)
  num : ∀ k, k < 2 ^ names.length → okVal (numStr k) ∧ (numStr k).length ≤ 65535

theorem rows_und (l : List (Str × Str)) (m : Nat) : AV.unds m (l.map rowAV) := unds_map (g := rowAV) (fun _ => ⟨trivial, trivial, trivial⟩) l

theorem range_split {N : Nat} {L1 L2 : List Nat} (h : L1 ++ L2 = List.range N) {k : Nat} (hk : k ∈ L1 ∨ k ∈ L2) : k < N := by
  have : k ∈ L1 ++ L2 := by simpa using hk
  rw [h] at this
  simpa using this

theorem tally_contract (hK : X.K = hd.heap_39 P) (hC : X.C = 210) {names value : Str} (hp : TlOk names value) (h : K (.hdr 0) [.lst ((tallyRows names value).map rowAV)]) :
    CdC X (n + 6) [] 231 [.str names, .str value] [] K := by
  refine fnG (by rw [hK]; rfl) (by rw [hK]; rfl) (bindTo (bs := [(Str.ofString "names", .str names), (Str.ofString "value", .str value)]) (fun s ρ T vs ks hin hv hks => ?_) ?_)
  · obtain ⟨v1, v2, rfl, h1, h2⟩ := hv.two_inv
    cases hks.nil_inv
    exact ⟨[(Str.ofString "names", v1), (Str.ofString "value", v2)], .of_eq rfl, by simp only [VRk]; exact ⟨_, _, rfl, h1, _, _, rfl, h2, rfl⟩⟩
  · refine nLoc (by rfl) (by rfl) ?_
    refine nLoc (by rfl) (by rfl) ?_
    refine sCons (sAsg (wCallN (wGlob (v := .ref 210) (av := .val (.ref 210)) (by rfl) (by rw [hK]; rfl) (fun _ _ _ => by simp) ⟨_, rfl, cFn (by rw [hK]; rfl), ?_⟩) (by rfl) (by rfl)) (by rfl))
    unfold WpArgs
    refine wLstT ?_
    unfold WpArgs
    refine ⟨by decide +kernel, ?_⟩
    unfold WpArgs WpKws
    rw [← hC]
    refine kMake (rows := []) (fI := 104) (by rw [hK, hC]; rfl) (by rw [hK, hC]; rfl) (by rw [hK]; rfl) (by rfl) trivial (init_contract (rows := []) hK hC (by simp) (by decide)) ?_
    refine nLoc (by rfl) (by rfl) ?_
    have hN : 2 ^ names.length ≤ 32 := (Nat.pow_le_pow_right (show 0 < 2 by decide) hp.len : 2 ^ names.length ≤ 2 ^ 5)
    refine sCons (sFor (iCallN (wBoot (by rfl) (by rw [hK]; rfl) rfl ⟨_, rfl, cType, wBin (wInt (wCallN (wBoot (by rfl) (by rw [hK]; rfl) rfl ⟨_, rfl, cBuiltin, ?_⟩) (by rfl) (by rfl)))⟩)))
    refine wName (v := .str names) (by rfl) (by rfl) (by kernel_rfl) ?_
    unfold WpArgs WpKws
    refine kLenS (oPow2 (m := names.length) (by have := hp.len; omega) ?_)
    unfold WpArgs
    have hN2 : (2 : Int) ^ names.length = ((2 ^ names.length : Nat) : Int) := by simp
    rw [hN2]
    have hN3 : ∀ N : Nat, N ≤ 32 → -(2 ^ 62) ≤ (N : Int) ∧ (N : Int) < 2 ^ 62 := by intro N h; omega
    refine rRange1 (hN3 _ hN).1 (hN3 _ hN).2 ?_
    rw [Int.toNat_natCast]
    refine loopInv (fun items S => ∃ (vars : List (Str × AV)) (L1 L2 : List Nat), S = [.ns vars, .lst ((L1.map (tallyRow names value)).map rowAV)] ∧ vars.lookup (Str.ofString "names") = some (.str names) ∧ vars.lookup (Str.ofString "value") = some (.str value) ∧ vars.lookup (Str.ofString "tally") = some (.hdr 1)
      ∧ items = L2.map (fun (i : Nat) => AV.int i) ∧ L1 ++ L2 = List.range (2 ^ names.length)) ?_ ?_ _ _ ⟨_, [], _, rfl, by kernel_rfl, by kernel_rfl, by kernel_rfl, rfl, rfl⟩
    · intro S ⟨vars, L1, L2, hS, h1, h2, h3, hi, hr⟩
      subst hS
      cases L2 with
      | cons a b => simp at hi
      | nil =>
      rw [List.append_nil] at hr
      subst hr
      refine sCons (sRet (wName (v := .hdr 1) (by rfl) (by rfl) h3 ?_))
      refine ⟨[], [1], [.lst ((tallyRows names value).map rowAV)], .hdr 0, rfl, by simp, rfl, fun p k e => ?_, by simp, fzHdr (p := 0) rfl, h⟩
      match p with
      | 0 => simp at e; subst e; exact ⟨by decide, _, rfl, rfl, rows_und _ _⟩
      | p + 1 => simp at e
    · intro it r S ⟨vars, L1, L2, hS, h1, h2, h3, hi, hr⟩
      subst hS
      cases L2 with
      | nil => simp at hi
      | cons k L2 =>
      cases hi
      have hk : k < 2 ^ names.length := range_split hr (.inr (.head _))
      have e0 : ∀ x : Str, (x == Str.ofString "choice") = false → (put (Str.ofString "choice") (.int (k : Int)) vars).lookup x = vars.lookup x := fun x hx => by
        rw [put_lookup, if_neg (by intro q; subst q; simp at hx)]
      refine aName (nLoc (by rfl) (by rfl) ?_)
      refine sCons (sAsg (wCallN (wGlob (v := .ref 219) (av := .val (.ref 219)) (by rfl) (by rw [hK]; rfl) (fun _ _ _ => by simp) ⟨_, rfl, cFn (by rw [hK]; rfl), ?_⟩) (by rfl) (by rfl)) (by rfl))
      unfold WpArgs
      refine wCallN (wGlob (v := .ref 224) (av := .val (.ref 224)) (by rfl) (by rw [hK]; rfl) (fun _ _ _ => by simp) ⟨_, rfl, cFn (by rw [hK]; rfl), ?_⟩) (by rfl) (by rfl)
      refine wName (v := .str names) (by rfl) (by rfl) ((e0 _ (by decide +kernel)).trans h1) ?_
      unfold WpArgs
      refine wName (v := .int k) (by rfl) (by rfl) (by rw [put_lookup, if_pos rfl]) ?_
      unfold WpArgs WpKws
      refine frmS (y := chosenOf names k) (by simp [AV.unds, AV.und]) (fun K0 h0 => (chosen_contract hK (by have := hp.len; omega) h0).call) ?_
      unfold WpArgs
      refine wName (v := .str value) (by rfl) (by rfl) ((e0 _ (by decide +kernel)).trans h2) ?_
      unfold WpArgs WpKws
      refine frmS (y := pageOf (rowsOf (chosenOf names k) value)) (by simp [AV.unds, AV.und]) (fun K0 h0 => (page_contract hK hC (hp.pg k) h0).call) ?_
      refine nLoc (by rfl) (by rfl) ?_
      have e1 : ∀ x : Str, (x == Str.ofString "page") = false → (put (Str.ofString "page") (.str (pageOf (rowsOf (chosenOf names k) value))) (put (Str.ofString "choice") (.int (k : Int)) vars)).lookup x = (put (Str.ofString "choice") (.int (k : Int)) vars).lookup x := fun x hx => by
        rw [put_lookup, if_neg (by intro q; subst q; simp at hx)]
      refine sCons (sExpr (wCallM (wName (v := .hdr 1) (by rfl) (by rfl) ((e1 _ (by decide +kernel)).trans ((e0 _ (by decide +kernel)).trans h3)) (mOwn (f := 207) (.inl ⟨1, rfl, by rw [if_neg (by decide +kernel)]⟩) (by rw [hK, hC]; rfl) (by rw [hK, hC]; rfl) (by rw [hK]; rfl)
          ⟨cFn (by rw [hK]; rfl), ?_⟩))))
      unfold WpArgs
      refine wCallN (wGlob (v := .ref 52) (av := .val (.ref 52)) (by rfl) (by rw [hK]; rfl) (fun _ _ _ => by simp) ⟨_, rfl, cFn (by rw [hK]; rfl), ?_⟩) (by rfl) (by rfl)
      refine wName (v := .str (pageOf (rowsOf (chosenOf names k) value))) (by rfl) (by rfl) (by rw [put_lookup, if_pos rfl]) ?_
      unfold WpArgs WpKws
      refine frmS (y := escPage (chosenOf names k) value) (by simp [AV.unds, AV.und]) (fun K0 h0 => (escape_contract hK (hp.esc k) h0).call) ?_
      unfold WpArgs
      refine wCallN (wBoot (by rfl) (by rw [hK]; rfl) rfl ⟨_, rfl, cType, ?_⟩) (by rfl) (by rfl)
      refine wName (v := .int k) (by rfl) (by rfl) ((e1 _ (by decide +kernel)).trans (by rw [put_lookup, if_pos rfl])) ?_
      unfold WpArgs WpKws
      refine kStrI ?_ ?_
      · have : k < 2 ^ 1920 := by
          have : (32 : Nat) ≤ 2 ^ 1920 := by decide +kernel
          omega
        by_cases hz : k = 0
        · subst hz; decide
        · exact (Nat.log2_lt (by simpa using hz)).mpr (by simpa using this)
      unfold WpArgs WpKws
      have hL : (L1.map (tallyRow names value)).length ≤ 65535 := by
        have : (L1 ++ k :: L2).length = 2 ^ names.length := by rw [hr]; simp
        simp at this
        rw [List.length_map]; omega
      have eR : (L1.map (tallyRow names value)) ++ [(escPage (chosenOf names k) value, numStr k)] = (L1 ++ [k]).map (tallyRow names value) := by simp [tallyRow]
      refine frmH (i := 1) (rows := (L1.map (tallyRow names value)).map rowAV) (xs := [.hdr 0, .str (escPage (chosenOf names k) value), .str (numStr k)]) (rows' := ((L1 ++ [k]).map (tallyRow names value)).map rowAV) (y := .none) (by rfl) (rows_und _ _) (rows_und _ _) trivial
        ⟨_, _, rfl, .inl ⟨rfl, rfl⟩, _, _, rfl, .inr ⟨trivial, rfl⟩, _, _, rfl, .inr ⟨trivial, rfl⟩, rfl⟩ (fun K0 h0 => (addheader_contract hK hC hL (hp.nm k) (hp.num k hk).1 (hp.num k hk).2 (by rw [eR]; exact h0)).call) ?_
      refine sNil ?_
      refine ⟨_, L1 ++ [k], L2, rfl, ?_, ?_, ?_, rfl, by simpa using hr⟩
      · exact (e1 _ (by decide +kernel)).trans ((e0 _ (by decide +kernel)).trans h1)
      · exact (e1 _ (by decide +kernel)).trans ((e0 _ (by decide +kernel)).trans h2)
      · exact (e1 _ (by decide +kernel)).trans ((e0 _ (by decide +kernel)).trans h3)
end
end Mine
set_option maxHeartbeats 4000000
namespace Mine

/-- a plain dict -/
noncomputable def putG {α : Type} (x : Str) (v : α) : List (Str × α) → List (Str × α)
  | [] => [(x, v)]
  | (k, w) :: r => if x = k then (x, v) :: r else (k, w) :: putG x v r
noncomputable def dctOf {α : Type} (f : α → AV) (d : List (Str × α)) : List (Str × AV) := d.map fun p => (p.1, f p.2)
theorem dctOf_put {α : Type} (f : α → AV) (x : Str) (v : α) : ∀ d : List (Str × α), put x (f v) (dctOf f d) = dctOf f (putG x v d)
  | [] => rfl
  | (k, w) :: r => by
    unfold dctOf putG
    rw [List.map_cons, put]
    by_cases e : x = k
    · simp [e]
    · rw [if_neg e, if_neg e, List.map_cons]
      exact congrArg _ (dctOf_put f x v r)
theorem dctOf_lookup {α : Type} (f : α → AV) (x : Str) : ∀ d : List (Str × α), (dctOf f d).lookup x = (d.lookup x).map f
  | [] => rfl
  | (k, w) :: r => by
    unfold dctOf
    rw [List.map_cons, List.lookup_cons, List.lookup_cons]
    cases x == k
    · exact dctOf_lookup f x r
    · rfl
theorem dctOf_und {α : Type} {f : α → AV} {m : Nat} (h : ∀ v, (f v).und m) : ∀ d : List (Str × α), AV.undk m (dctOf f d)
  | [] => trivial
  | (k, w) :: r => ⟨h w, dctOf_und h r⟩
theorem putG_length {α : Type} (x : Str) (v : α) : ∀ d : List (Str × α), (putG x v d).length ≤ d.length + 1
  | [] => Nat.le_refl _
  | (k, w) :: r => by
    unfold putG
    split
    · simp
    · have := putG_length x v r; simp; omega

section
variable {X : Cx} {P : Params} {n : Nat} {ae : AEnv} {S : List AO} {K : AV → List AO → Prop} {KF : AF → List AO → Prop} {KU : Unit → List AO → Prop}

noncomputable def strsAV (l : List Str) : AV := .lst (l.map .str)
theorem strs_und (l : List Str) (m : Nat) : AV.unds m (l.map AV.str) := unds_map (g := AV.str) (fun _ => trivial) l

noncomputable def spellOne (names : Str) (d : List (Str × List Str)) (k : Nat) : List (Str × List Str) := putG (chosenOf names k) (((d.lookup (chosenOf names k)).getD []) ++ [numStr k]) d
noncomputable def spelledOf (names : Str) (L : List Nat) : List (Str × List Str) := L.foldl (spellOne names) []

theorem spell_len (names : Str) (L : List Nat) : (spelledOf names L).length ≤ L.length := by
  have : ∀ (L : List Nat) (d : List (Str × List Str)), (L.foldl (spellOne names) d).length ≤ d.length + L.length := by
    intro L
    induction L with
    | nil => intro d; simp
    | cons k L ih =>
      intro d
      have h1 := ih (spellOne names d k)
      have h2 : (spellOne names d k).length ≤ d.length + 1 := putG_length _ _ _
      simp only [List.foldl_cons, List.length_cons]; omega
  simpa [spelledOf] using this L []
theorem putG_lookup {α : Type} (x : Str) (v : α) (y : Str) : ∀ d : List (Str × α), (putG x v d).lookup y = if y = x then some v else d.lookup y
  | [] => by
    simp only [putG, List.lookup_cons, List.lookup_nil]
    by_cases h : y = x
    · subst h; simp
    · have : (y == x) = false := by simpa using h
      rw [this, if_neg h]
  | (k, w) :: r => by
    unfold putG
    by_cases e : x = k
    · subst e
      rw [if_pos rfl, List.lookup_cons, List.lookup_cons]
      by_cases h : y = x
      · subst h; simp
      · have : (y == x) = false := by simpa using h
        rw [this, if_neg h]
    · rw [if_neg e, List.lookup_cons, List.lookup_cons, putG_lookup x v y r]
      by_cases h : y = x
      · subst h
        have : (y == k) = false := by simpa using e
        rw [this, if_pos rfl]
      · rw [if_neg h, if_neg h]
theorem spell_val (names : Str) (L : List Nat) (x : Str) : (((spelledOf names L).lookup x).getD []).length ≤ L.length := by
  have : ∀ (L : List Nat) (d : List (Str × List Str)) (B : Nat), ((d.lookup x).getD []).length ≤ B → (((L.foldl (spellOne names) d).lookup x).getD []).length ≤ B + L.length := by
    intro L
    induction L with
    | nil => intro d B h; simpa using h
    | cons k L ih =>
      intro d B h
      have h1 := ih (spellOne names d k) (B + 1) (by
        unfold spellOne
        rw [putG_lookup]
        split
        · rename_i e; subst e; simp; omega
        · omega)
      simp only [List.foldl_cons, List.length_cons]; omega
  have := this L [] 0 (by simp)
  simpa [spelledOf] using this

theorem spelled_contract (hK : X.K = hd.heap_39 P) {names : Str} (hlen : names.length ≤ 5) (h : K (.dct (dctOf strsAV (spelledOf names (List.range (2 ^ names.length))))) []) :
    CdC X (n + 3) [] 238 [.str names] [] K := by
  refine fnG (by rw [hK]; rfl) (by rw [hK]; rfl) (bindTo (bs := [(Str.ofString "names", .str names)]) (fun s ρ T vs ks hin hv hks => ?_) ?_)
  · obtain ⟨v1, rfl, h1⟩ := hv.one_inv
    cases hks.nil_inv
    exact ⟨[(Str.ofString "names", v1)], .of_eq rfl, by simp only [VRk]; exact ⟨_, _, rfl, h1, rfl⟩⟩
  · refine nLoc (by rfl) (by rfl) ?_
    refine sCons (sAsg (wDctT ?_) (by rfl))
    refine nLoc (by rfl) (by rfl) ?_
    have hN : 2 ^ names.length ≤ 32 := (Nat.pow_le_pow_right (show 0 < 2 by decide) hlen : 2 ^ names.length ≤ 2 ^ 5)
    refine sCons (sFor (iCallN (wBoot (by rfl) (by rw [hK]; rfl) rfl ⟨_, rfl, cType, wBin (wInt (wCallN (wBoot (by rfl) (by rw [hK]; rfl) rfl ⟨_, rfl, cBuiltin, ?_⟩) (by rfl) (by rfl)))⟩)))
    refine wName (v := .str names) (by rfl) (by rfl) (by kernel_rfl) ?_
    unfold WpArgs WpKws
    refine kLenS (oPow2 (m := names.length) (by omega) ?_)
    unfold WpArgs
    have hN2 : (2 : Int) ^ names.length = ((2 ^ names.length : Nat) : Int) := by simp
    rw [hN2]
    have hN3 : ∀ N : Nat, N ≤ 32 → -(2 ^ 62) ≤ (N : Int) ∧ (N : Int) < 2 ^ 62 := by intro N h; omega
    refine rRange1 (hN3 _ hN).1 (hN3 _ hN).2 ?_
    rw [Int.toNat_natCast]
    refine loopInv (fun items S => ∃ (vars : List (Str × AV)) (L1 L2 : List Nat), S = [.ns vars, .dct (dctOf strsAV (spelledOf names L1))] ∧ vars.lookup (Str.ofString "names") = some (.str names) ∧ vars.lookup (Str.ofString "spelled") = some (.obj 1)
      ∧ items = L2.map (fun (i : Nat) => AV.int i) ∧ L1 ++ L2 = List.range (2 ^ names.length)) ?_ ?_ _ _ ⟨_, [], _, rfl, by kernel_rfl, by kernel_rfl, rfl, rfl⟩
    · intro S ⟨vars, L1, L2, hS, h1, h2, hi, hr⟩
      subst hS
      cases L2 with
      | cons a b => simp at hi
      | nil =>
      rw [List.append_nil] at hr
      subst hr
      refine sCons (sRet (wName (v := .obj 1) (by rfl) (by rfl) h2 ?_))
      exact leaveU (fun i ao e => by cases i <;> cases e) (fzObjD (by rfl) (by decide) (by decide) (dctOf_und (f := strsAV) (fun l => show AV.unds _ _ from strs_und l _) _)) h
    · intro it r S ⟨vars, L1, L2, hS, h1, h2, hi, hr⟩
      subst hS
      cases L2 with
      | nil => simp at hi
      | cons k L2 =>
      cases hi
      have hk : k < 2 ^ names.length := range_split hr (.inr (.head _))
      have hL1 : L1.length ≤ 32 := by
        have : (L1 ++ k :: L2).length = 2 ^ names.length := by rw [hr]; simp
        simp at this; omega
      have e0 : ∀ x : Str, (x == Str.ofString "choice") = false → (put (Str.ofString "choice") (.int (k : Int)) vars).lookup x = vars.lookup x := fun x hx => by
        rw [put_lookup, if_neg (by intro q; subst q; simp at hx)]
      have e1 : ∀ x : Str, (x == Str.ofString "word") = false → (put (Str.ofString "word") (.str (chosenOf names k)) (put (Str.ofString "choice") (.int (k : Int)) vars)).lookup x = (put (Str.ofString "choice") (.int (k : Int)) vars).lookup x := fun x hx => by
        rw [put_lookup, if_neg (by intro q; subst q; simp at hx)]
      refine aName (nLoc (by rfl) (by rfl) ?_)
      refine sCons (sAsg (wCallN (wGlob (v := .ref 224) (av := .val (.ref 224)) (by rfl) (by rw [hK]; rfl) (fun _ _ _ => by simp) ⟨_, rfl, cFn (by rw [hK]; rfl), ?_⟩) (by rfl) (by rfl)) (by rfl))
      refine wName (v := .str names) (by rfl) (by rfl) ((e0 _ (by decide +kernel)).trans h1) ?_
      unfold WpArgs
      refine wName (v := .int k) (by rfl) (by rfl) (by rw [put_lookup, if_pos rfl]) ?_
      unfold WpArgs WpKws
      refine frmS (y := chosenOf names k) (by simp [AV.unds, AV.und]) (fun K0 h0 => (chosen_contract hK (by omega) h0).call) ?_
      refine nLoc (by rfl) (by rfl) ?_
      have hw : (put (Str.ofString "word") (.str (chosenOf names k)) (put (Str.ofString "choice") (.int (k : Int)) vars)).lookup (Str.ofString "word") = some (.str (chosenOf names k)) := by rw [put_lookup, if_pos rfl]
      have hs : (put (Str.ofString "word") (.str (chosenOf names k)) (put (Str.ofString "choice") (.int (k : Int)) vars)).lookup (Str.ofString "spelled") = some (.obj 1) := (e1 _ (by decide +kernel)).trans ((e0 _ (by decide +kernel)).trans h2)
      have hnm : (put (Str.ofString "word") (.str (chosenOf names k)) (put (Str.ofString "choice") (.int (k : Int)) vars)).lookup (Str.ofString "names") = some (.str names) := (e1 _ (by decide +kernel)).trans ((e0 _ (by decide +kernel)).trans h1)
      refine sCons (sSet (wBin (wCallM (wName (v := .obj 1) (by rfl) (by rfl) hs (mDct (kvs := dctOf strsAV (spelledOf names L1)) (.inr ⟨1, rfl, rfl⟩) F.slot_dict_get F.type_dict_get ⟨cBuiltin, ?_⟩)))) (by rfl))
      refine wName (v := .str (chosenOf names k)) (by rfl) (by rfl) hw ?_
      unfold WpArgs
      refine wLst ?_
      unfold WpArgs
      refine ⟨by decide +kernel, ?_⟩
      unfold WpArgs WpKws
      refine kGet2 (.inr ⟨1, rfl, rfl⟩) ?_
      have hv : (((dctOf strsAV (spelledOf names L1)).lookup (chosenOf names k)).getD (.lst [])) = strsAV (((spelledOf names L1).lookup (chosenOf names k)).getD []) := by
        rw [dctOf_lookup]
        cases (spelledOf names L1).lookup (chosenOf names k) <;> rfl
      rw [hv]
      refine wLst ?_
      unfold WpArgs
      refine wCallN (wBoot (by rfl) (by rw [hK]; rfl) rfl ⟨_, rfl, cType, ?_⟩) (by rfl) (by rfl)
      refine wName (v := .int k) (by rfl) (by rfl) ((e1 _ (by decide +kernel)).trans (by rw [put_lookup, if_pos rfl])) ?_
      unfold WpArgs WpKws
      refine kStrI ?_ ?_
      · have : k < 2 ^ 1920 := by
          have : (32 : Nat) ≤ 2 ^ 1920 := by decide +kernel
          omega
        by_cases hz : k = 0
        · subst hz; decide
        · exact (Nat.log2_lt (by simpa using hz)).mpr (by simpa using this)
      unfold WpArgs
      refine ⟨by rw [sizeLine_eq]; simp, ?_⟩
      have hlv := spell_val names L1 (chosenOf names k)
      refine oAddL (xs := (((spelledOf names L1).lookup (chosenOf names k)).getD []).map .str) (ys := [.str (numStr k)]) (.inl rfl) (.inl rfl) (by rw [sizeLine_eq]; simp; omega) ?_
      refine wName (v := .obj 1) (by rfl) (by rfl) hs ?_
      refine wName (v := .str (chosenOf names k)) (by rfl) (by rfl) hw ?_
      refine setD (kvs := dctOf strsAV (spelledOf names L1)) (by rfl) (by have := spell_len names L1; rw [sizeLine_eq]; simp [dctOf]; omega) ?_
      refine sNil ?_
      have ee : put (chosenOf names k) (AV.lst ((((spelledOf names L1).lookup (chosenOf names k)).getD []).map .str ++ [.str (numStr k)])) (dctOf strsAV (spelledOf names L1)) = dctOf strsAV (spelledOf names (L1 ++ [k])) := by
        have := dctOf_put strsAV (chosenOf names k) ((((spelledOf names L1).lookup (chosenOf names k)).getD []) ++ [numStr k]) (spelledOf names L1)
        unfold spelledOf at this ⊢
        rw [List.foldl_append]
        simp only [strsAV, List.map_append, List.map_cons, List.map_nil] at this
        exact this
      rw [ee]
      exact ⟨_, L1 ++ [k], L2, rfl, hnm, hs, rfl, by simpa using hr⟩
end
end Mine
set_option maxHeartbeats 4000000
namespace Mine
section
variable {X : Cx} {P : Params} {n : Nat} {ae : AEnv} {S : List AO} {K : AV → List AO → Prop} {KF : AF → List AO → Prop} {KU : Unit → List AO → Prop}

noncomputable def marks : List (Str × Str) := [(Str.ofString "&", Str.ofString "&amp;"), (Str.ofString "<", Str.ofString "&lt;"), (Str.ofString ">", Str.ofString "&gt;"), (Str.ofString "\"", Str.ofString "&quot;"), (Str.ofString "\t", Str.ofString "&#09;"), (Str.ofString "\n", Str.ofString "&#10;"), (Str.ofString "\x0d", Str.ofString "&#13;")]
noncomputable def markOf (c : Nat) : Str := (marks.lookup (one c)).getD (one c)
noncomputable def markedOf (text : Str) : Str := Txt.join (Str.ofString "") (text.cps.toList.map markOf)

theorem mark_len (c : Nat) : (markOf c).length ≤ 6 := by
  unfold markOf
  have hall : ∀ p ∈ marks, p.2.length ≤ 6 := by decide +kernel
  cases e : marks.lookup (one c) with
  | none => show (one c).length ≤ 6; show 1 ≤ 6; decide
  | some v =>
    have : ∀ (l : List (Str × Str)), l.lookup (one c) = some v → ∃ p ∈ l, p.2 = v := by
      intro l
      induction l with
      | nil => intro h; simp at h
      | cons p r ih =>
        intro h
        obtain ⟨k, w⟩ := p
        rw [List.lookup_cons] at h
        cases hb : one c == k
        · rw [hb] at h
          obtain ⟨p, hp, e⟩ := ih h
          exact ⟨p, .tail _ hp, e⟩
        · rw [hb] at h; cases h; exact ⟨_, .head _, rfl⟩
    obtain ⟨p, hp, rfl⟩ := this marks e
    exact hall p hp

theorem putsMarks : puts [] [(Str.ofString "&", AV.str (Str.ofString "&amp;")), (Str.ofString "<", AV.str (Str.ofString "&lt;")), (Str.ofString ">", AV.str (Str.ofString "&gt;")), (Str.ofString "\"", AV.str (Str.ofString "&quot;")), (Str.ofString "\t", AV.str (Str.ofString "&#09;")), (Str.ofString "\n", AV.str (Str.ofString "&#10;")), (Str.ofString "\x0d", AV.str (Str.ofString "&#13;"))] = dctOf AV.str marks := by kernel_rfl
theorem marked_contract (hK : X.K = hd.heap_39 P) {text : Str} (hlen : text.length ≤ 60000) (h : K (.str (markedOf text)) []) :
    CdC X (n + 2) [] 243 [.str text] [] K := by
  refine fnG (by rw [hK]; rfl) (by rw [hK]; rfl) (bindTo (bs := [(Str.ofString "text", .str text)]) (fun s ρ T vs ks hin hv hks => ?_) ?_)
  · obtain ⟨v1, rfl, h1⟩ := hv.one_inv
    cases hks.nil_inv
    exact ⟨[(Str.ofString "text", v1)], .of_eq rfl, by simp only [VRk]; exact ⟨_, _, rfl, h1, rfl⟩⟩
  · refine nLoc (by rfl) (by rfl) ?_
    refine sCons ?_
    refine sAsg ?_ ?_
    rotate_left 1
    · kernel_rfl
    refine wDctP ?_
    unfold WpPairs
    refine wStr (wStr ⟨_, rfl, ?_⟩)
    unfold WpPairs
    refine wStr (wStr ⟨_, rfl, ?_⟩)
    unfold WpPairs
    refine wStr (wStr ⟨_, rfl, ?_⟩)
    unfold WpPairs
    refine wStr (wStr ⟨_, rfl, ?_⟩)
    unfold WpPairs
    refine wStr (wStr ⟨_, rfl, ?_⟩)
    unfold WpPairs
    refine wStr (wStr ⟨_, rfl, ?_⟩)
    unfold WpPairs
    refine wStr (wStr ⟨_, rfl, ?_⟩)
    unfold WpPairs
    refine ⟨by rfl, ?_⟩
    rw [putsMarks]
    refine nCell (i := 1) (v0 := none) (by rfl) (by rfl) (by rfl) ?_
    refine sCons (sRet (wCallM (wStr (mStr F.slot_str_join F.type_str_join ⟨cBuiltin, ?_⟩)) (by intro _; rfl)))
    unfold WpArgs
    refine wLC ⟨rfl, (fun g hg => by cases List.mem_singleton.mp hg; rfl), ?_, by decide +kernel⟩ (by intro _ _; rfl) (by rfl) ?_
    · intro y hy e
      simp at hy
      rcases hy with rfl | rfl | rfl
      · cases e
      · cases e
      · rfl
    refine iE (wName (v := .str text) (by rfl) (by rfl) (by kernel_rfl) ⟨signs text, none, srcStr, ?_⟩)
    refine ⟨fun it => match it with | .str a => some (.str ((marks.lookup a).getD a)) | _ => none, ?_, ?_, ?_, ?_⟩
    · rw [sizeLine_eq]; simp [signs]; have e : text.cps.size = text.length := rfl; omega
    · intro it hit v e
      obtain ⟨p, _, rfl⟩ := List.mem_map.mp hit
      cases e; trivial
    · intro it hit
      obtain ⟨c, hc, rfl⟩ := List.mem_map.mp hit
      refine turn0 fun xs vars => ?_
      refine aName (nLoc (by rfl) (by rfl) ?_)
      refine wCallM (wCell (i := 1) (v := .obj 2) (by first | exact .inl (by rfl) | exact .inr (by kernel_rfl) | exact .inl (by kernel_rfl)) (by first | rfl | kernel_rfl) (by rfl) (mDct (kvs := dctOf AV.str marks) (.inr ⟨2, rfl, by rfl⟩) F.slot_dict_get F.type_dict_get ⟨cBuiltin, ?_⟩))
      refine wName (v := .str ⟨#[c]⟩) (by rfl) (by rfl) (by rw [put_lookup, if_pos rfl]) ?_
      unfold WpArgs
      refine wName (v := .str ⟨#[c]⟩) (by rfl) (by rfl) (by rw [put_lookup, if_pos rfl]) ?_
      unfold WpArgs WpKws
      refine kGet2 (kvs := dctOf AV.str marks) (.inr ⟨2, rfl, by rfl⟩) ⟨_, rfl, ?_⟩
      rw [dctOf_lookup]
      show some (AV.str ((marks.lookup (⟨#[c]⟩ : Str)).getD ⟨#[c]⟩)) = some (((marks.lookup (⟨#[c]⟩ : Str)).map AV.str).getD (.str ⟨#[c]⟩))
      cases marks.lookup (⟨#[c]⟩ : Str) <;> rfl
    · have e : (signs text).filterMap (fun it => match it with | .str a => some (.str ((marks.lookup a).getD a)) | _ => none) = (text.cps.toList.map markOf).map AV.str := by
        unfold signs
        refine (filterMap_map (e := fun c => AV.str ⟨#[c]⟩) (g := fun c => AV.str (markOf c)) _ fun p _ => rfl).trans ?_
        rw [List.map_map]; rfl
      rw [e]
      unfold WpArgs WpKws
      refine kJoin (.inl rfl) (joinOk_of ?_) ?_
      · have h1 : ∀ l : List Nat, ((l.map markOf).map (·.length)).sum ≤ 6 * l.length := by
          intro l
          induction l with
          | nil => simp
          | cons a l ih =>
            simp only [List.map_cons, List.sum_cons, List.length_cons]
            have := mark_len a
            omega
        have h2 : (Str.ofString "").length = 0 := by decide +kernel
        rw [h2]
        have h3 : text.cps.toList.length ≤ 60000 := hlen
        have := h1 text.cps.toList
        omega
      · exact leaveU (fun i ao e => by cases i <;> cases e) fzStr h
end
end Mine
set_option maxHeartbeats 4000000
namespace Mine
section
variable {X : Cx} {P : Params} {n : Nat} {ae : AEnv} {S : List AO} {K : AV → List AO → Prop} {KF : AF → List AO → Prop} {KU : Unit → List AO → Prop}

noncomputable def initS (x : Str) : Str := ⟨(x.cps.toList.take (x.length - 1)).toArray⟩
noncomputable def lastS (x : Str) : Str := one (x.cps.getD (x.length - 1) 0)
noncomputable def emp (x : Str) : Bool := x.cps.toList == (Str.ofString "").cps.toList
noncomputable def sameS (x y : Str) : Bool := x.cps.toList == y.cps.toList

theorem emp_iff (x : Str) : emp x = true ↔ x.length = 0 := by
  have e : (Str.ofString "").cps.toList = [] := by decide +kernel
  unfold emp
  rw [e, beq_iff_eq]
  constructor
  · intro h; show x.cps.size = 0; rw [← Array.length_toList, h]; rfl
  · intro h; exact List.eq_nil_of_length_eq_zero (by rw [Array.length_toList]; exact h)
theorem initS_len (x : Str) : (initS x).length = x.length - 1 := by
  show (List.toArray _).size = _
  rw [List.size_toArray, List.length_take, Array.length_toList]
  show min (x.length - 1) x.length = _
  omega
theorem slice_init {x : Str} (h : 0 < x.length) : Txt.slice x none (some (-1)) = initS x := by
  have h1 := slice_closes_to_neg (x := x) (j := -1) (k := -1 + x.length) (by decide) (by omega) rfl
  have h2 := eq_of_beq h1
  rw [h2]
  unfold initS
  have e : ((-1 + (x.length : Int)) - 0).toNat = x.length - 1 := by omega
  rw [e]; rfl
theorem charAt_last {x : Str} (h : 0 < x.length) : Txt.charAt x (-1) = some (x.cps.getD (x.length - 1) 0) := by
  unfold Txt.charAt
  have e : seqIndex? (-1) x.length = some (x.length - 1) := by
    rw [seqIndex_neg (by decide) (by omega)]
    congr 1
    omega
  rw [e]
  show x.cps[x.length - 1]? = _
  have : x.length - 1 < x.cps.size := by show _ < x.length; omega
  rw [Array.getElem?_eq_getElem this]
  simp [Array.getD, this]
theorem item_last {x : Str} (h : 0 < x.length) : Txt.item x (-1) = lastS x := by
  unfold Txt.item lastS
  rw [charAt_last h]; rfl

noncomputable def mixIn (b : List (Str × Int)) (c : Str) (t : List (Str × Int)) (w : Str) : List (Str × Int) := putG (w ++ c) (((t.lookup (w ++ c)).getD 0) + ((b.lookup w).getD 0)) t
noncomputable def waysOf (l r : Str) : List (Str × Str × Str) := (initS l, r, lastS l) :: (l, initS r, lastS r) :: (if sameS (lastS l) (lastS r) = true then [(initS l, initS r, lastS l)] else [])
noncomputable def mixWay (M : Str → Str → List (Str × Int)) (t : List (Str × Int)) (w : Str × Str × Str) : List (Str × Int) := ((M w.1 w.2.1).map (·.1)).foldl (mixIn (M w.1 w.2.1) w.2.2) t
noncomputable def mixP : Nat → Str → Str → List (Str × Int)
  | 0, l, r => [(l ++ r, 1)]
  | f + 1, l, r => if (emp l || emp r) = true then [(l ++ r, 1)] else (waysOf l r).foldl (mixWay (mixP f)) []

theorem ways_len (l r : Str) : (waysOf l r).length ≤ 3 := by
  unfold waysOf; split <;> simp
theorem mixWay_len {M : Str → Str → List (Str × Int)} {B : Nat} (t : List (Str × Int)) (w : Str × Str × Str) (h : (M w.1 w.2.1).length ≤ B) : (mixWay M t w).length ≤ t.length + B := by
  have : ∀ (ks : List Str) (t : List (Str × Int)), (ks.foldl (mixIn (M w.1 w.2.1) w.2.2) t).length ≤ t.length + ks.length := by
    intro ks
    induction ks with
    | nil => intro t; simp
    | cons k ks ih =>
      intro t
      have h1 := ih (mixIn (M w.1 w.2.1) w.2.2 t k)
      have h2 : (mixIn (M w.1 w.2.1) w.2.2 t k).length ≤ t.length + 1 := putG_length _ _ _
      simp only [List.foldl_cons, List.length_cons]; omega
  have := this ((M w.1 w.2.1).map (·.1)) t
  rw [List.length_map] at this
  exact Nat.le_trans this (by omega)
theorem mixP_len : ∀ (f : Nat) (l r : Str), (mixP f l r).length ≤ 3 ^ f
  | 0, l, r => by simp [mixP]
  | f + 1, l, r => by
    unfold mixP
    split
    · have : 0 < 3 ^ (f + 1) := Nat.pow_pos (by decide)
      simp; omega
    · have : ∀ (ws : List (Str × Str × Str)) (t : List (Str × Int)), (ws.foldl (mixWay (mixP f)) t).length ≤ t.length + ws.length * 3 ^ f := by
        intro ws
        induction ws with
        | nil => intro t; simp
        | cons w ws ih =>
          intro t
          have h1 := ih (mixWay (mixP f) t w)
          have h2 := mixWay_len (M := mixP f) t w (mixP_len f _ _)
          simp only [List.foldl_cons, List.length_cons, Nat.add_mul]; omega
      have h1 := this (waysOf l r) []
      have h2 := Nat.mul_le_mul_right (3 ^ f) (ways_len l r)
      rw [Nat.pow_succ]
      simp at h1; omega
theorem putG_keys {α : Type} {x : Str} {v : α} : ∀ {d : List (Str × α)} {p : Str × α}, p ∈ putG x v d → p.1 = x ∨ ∃ q ∈ d, q.1 = p.1
  | [], p, h => by simp [putG] at h; exact .inl (by rw [h])
  | (k, w) :: r, p, h => by
    unfold putG at h
    split at h
    · rcases List.mem_cons.mp h with rfl | h
      · exact .inl rfl
      · exact .inr ⟨p, .tail _ h, rfl⟩
    · rcases List.mem_cons.mp h with rfl | h
      · exact .inr ⟨_, .head _, rfl⟩
      · rcases putG_keys h with e | ⟨q, hq, e⟩
        · exact .inl e
        · exact .inr ⟨q, .tail _ hq, e⟩
theorem mixP_key : ∀ (f : Nat) (l r : Str), ∀ p ∈ mixP f l r, p.1.length ≤ l.length + r.length + f
  | 0, l, r, p, h => by simp [mixP] at h; subst h; simp [Str.length_append]
  | f + 1, l, r, p, h => by
    unfold mixP at h
    split at h
    · simp at h; subst h; simp only [Str.length_append]; omega
    · have hin : ∀ (b : List (Str × Int)) (c : Str) (N : Nat) (ks : List Str) (t : List (Str × Int)), c.length ≤ 1 → (∀ k ∈ ks, k.length + 1 ≤ N) → (∀ q ∈ t, q.1.length ≤ N) → ∀ q ∈ ks.foldl (mixIn b c) t, q.1.length ≤ N := by
        intro b c N ks
        induction ks with
        | nil => intro t _ _ ht; simpa using ht
        | cons k ks ih =>
          intro t hc hk ht
          rw [List.foldl_cons]
          refine ih _ hc (fun k' hk' => hk k' (.tail _ hk')) fun q hq => ?_
          rcases putG_keys hq with e | ⟨q', hq', e⟩
          · rw [e, Str.length_append]; have := hk k (.head _); omega
          · rw [← e]; exact ht q' hq'
      have hout : ∀ (N : Nat) (ws : List (Str × Str × Str)) (t : List (Str × Int)), (∀ w ∈ ws, w.2.2.length ≤ 1 ∧ ∀ k ∈ mixP f w.1 w.2.1, k.1.length + 1 ≤ N) → (∀ q ∈ t, q.1.length ≤ N) → ∀ q ∈ ws.foldl (mixWay (mixP f)) t, q.1.length ≤ N := by
        intro N ws
        induction ws with
        | nil => intro t _ ht; simpa using ht
        | cons w ws ih =>
          intro t hw ht
          rw [List.foldl_cons]
          refine ih _ (fun w' hw' => hw w' (.tail _ hw')) ?_
          have h1 := hw w (.head _)
          exact hin _ _ N _ t h1.1 (fun k hk => by
            obtain ⟨q, hq, rfl⟩ := List.mem_map.mp hk
            exact h1.2 q hq) ht
      refine hout (l.length + r.length + (f + 1)) _ [] (fun w hw => ?_) (by simp) p h
      have i1 := initS_len l
      have i2 := initS_len r
      have hk := mixP_key f w.1 w.2.1
      unfold waysOf at hw
      rcases List.mem_cons.mp hw with rfl | hw
      · exact ⟨Nat.le_refl _, fun k hk' => by have := hk k hk'; simp only at this; omega⟩
      rcases List.mem_cons.mp hw with rfl | hw
      · exact ⟨Nat.le_refl _, fun k hk' => by have := hk k hk'; simp only at this; omega⟩
      split at hw
      · rw [List.mem_singleton.mp hw] at hk ⊢
        exact ⟨Nat.le_refl _, fun k hk' => by have := hk k hk'; simp only at this; omega⟩
      · cases hw
end
end Mine
set_option maxHeartbeats 4000000
namespace Mine
section
variable {X : Cx} {P : Params} {n : Nat} {ae : AEnv} {S : List AO} {K : AV → List AO → Prop} {KF : AF → List AO → Prop} {KU : Unit → List AO → Prop}

noncomputable def wayAV (w : Str × Str × Str) : AV := .tup [.str w.1, .str w.2.1, .str w.2.2]

theorem wInit {e : Expr} {p q : Pos} {kk : Nat} {pp pos : Pos} {x : Str} (hx : 0 < x.length) (h : WpE X n ae S e fun a S1 => a = .str x ∧ K (.str (initS x)) S1) : WpE X n ae S (.Subscript e (.Slice none (some (.UnaryOp .USub (.Constant (.int 1) kk p) q)) none pp) pos) K := by
  refine wSlice (WpE.mono h fun a S1 ⟨e, hK⟩ => ?_)
  subst e
  unfold WpPart
  exact wOp1 (wInt (uNeg ⟨_, rfl, slStr (by rw [show (-1 : Int) = -1 from rfl, slice_init hx]; exact hK)⟩))
theorem wLast {e : Expr} {p q : Pos} {kk : Nat} {pos : Pos} {x : Str} (hx : 0 < x.length) (h : WpE X n ae S e fun a S1 => a = .str x ∧ K (.str (lastS x)) S1) : WpE X n ae S (.Subscript e (.UnaryOp .USub (.Constant (.int 1) kk p) q) pos) K := by
  refine wSub (WpE.mono h fun a S1 ⟨e, hK⟩ => ?_)
  subst e
  exact wOp1 (wInt (uNeg (xStr (by decide +kernel) (by rw [charAt_last hx]; rfl) (by rw [item_last hx]; exact hK))))

theorem frmV {g : Value} {xs : List AV} {y : AV} (hx : AV.unds 0 xs) (hy : y.und 0) (h : ∀ K0 : AV → List AO → Prop, K0 y [] → WpC X n [] (.val g) xs [] K0) (hK : K y S) : WpC X n S (.val g) xs [] K :=
  frm0 (K0 := fun x aos => x = y ∧ aos = []) hx (by simp [AV.undk]) (h _ ⟨rfl, rfl⟩) fun x aos ⟨e1, e2⟩ => by
    subst e1 e2
    exact ⟨fun _ h => (nomatch h), by rw [List.append_nil, AV.sh_und _ _ hy]; exact hK⟩

theorem lookup_mem {α : Type} {x : Str} : ∀ {d : List (Str × α)}, x ∈ d.map (·.1) → ∃ v, d.lookup x = some v
  | [], h => by simp at h
  | (k, w) :: r, h => by
    rw [List.lookup_cons]
    cases hb : x == k
    · have : x ∈ r.map (·.1) := by
        rcases List.mem_cons.mp h with e | e
        · simp at e; subst e; simp at hb
        · exact e
      exact lookup_mem this
    · exact ⟨w, rfl⟩

theorem mixed_step (hK : X.K = hd.heap_39 P) {m f : Nat} {l r : Str} (hf : f ≤ 8) (hlr : l.length + r.length ≤ f + 1)
    (IH : ∀ (l' r' : Str) (K' : AV → List AO → Prop), l'.length + r'.length ≤ f → 0 < f → K' (.dct (dctOf AV.int (mixP f l' r'))) [] → CdC X m [] 250 [.str l', .str r'] [] K')
    (h : K (.dct (dctOf AV.int (mixP (f + 1) l r))) []) : CdC X (m + 1) [] 250 [.str l, .str r] [] K := by
  refine fnG (by rw [hK]; rfl) (by rw [hK]; rfl) (bindTo (bs := [(Str.ofString "left", .str l), (Str.ofString "right", .str r)]) (fun s ρ T vs ks hin hv hks => ?_) ?_)
  · obtain ⟨v1, v2, rfl, h1, h2⟩ := hv.two_inv
    cases hks.nil_inv
    exact ⟨[(Str.ofString "left", v1), (Str.ofString "right", v2)], .of_eq rfl, by simp only [VRk]; exact ⟨_, _, rfl, h1, _, _, rfl, h2, rfl⟩⟩
  · refine nLoc (by rfl) (by rfl) ?_
    refine nLoc (by rfl) (by rfl) ?_
    refine sCons (sIf (WpB.mono (K := fun b S1 => b = (emp l || emp r) ∧ S1 = [.ns (put (Str.ofString "right") (.str r) (put (Str.ofString "left") (.str l) []))]) ?_ fun b S1 ⟨hb, hS1⟩ => ?_))
    · refine bOr (bCmp (wName (v := .str l) (by rfl) (by rfl) (by kernel_rfl) (wStr (oEqS (tBool ?_)))))
      show if emp l = true then _ else _
      cases hl : emp l with
      | true => rw [if_pos rfl]; exact ⟨rfl, rfl⟩
      | false =>
        rw [if_neg (by decide)]
        refine bOr (bCmp (wName (v := .str r) (by rfl) (by rfl) (by kernel_rfl) (wStr (oEqS (tBool ?_)))))
        show if emp r = true then _ else _
        cases hr : emp r with
        | true => rw [if_pos rfl]; exact ⟨rfl, rfl⟩
        | false => rw [if_neg (by decide)]; exact bOr0 ⟨rfl, rfl⟩
    subst hS1
    cases hb' : (emp l || emp r) with
    | true =>
      rw [hb', ] at hb
      subst hb
      rw [if_pos rfl]
      refine sCons (sRet (wDctP ?_))
      unfold WpPairs
      refine wBin (wName (v := .str l) (by rfl) (by rfl) (by kernel_rfl) (wName (v := .str r) (by rfl) (by rfl) (by kernel_rfl) (oAddS (by rw [sizeLine_eq]; omega) ?_)))
      refine wInt ⟨_, rfl, ?_⟩
      unfold WpPairs
      refine ⟨by rfl, ?_⟩
      have e : mixP (f + 1) l r = [(l ++ r, 1)] := by unfold mixP; rw [if_pos hb']
      rw [e] at h
      exact leaveU (fun i ao e => by cases i <;> cases e) (fzObjD (xs := [(l ++ r, .int 1)]) (by rfl) (Nat.zero_le _) (by simp) ⟨trivial, trivial⟩) h
    | false =>
      rw [hb'] at hb
      subst hb
      rw [if_neg (by decide)]
      have hl0 : 0 < l.length := by
        rcases Nat.eq_zero_or_pos l.length with e | e
        · have := (emp_iff l).mpr e; rw [this] at hb'; cases hb'
        · exact e
      have hr0 : 0 < r.length := by
        rcases Nat.eq_zero_or_pos r.length with e | e
        · have := (emp_iff r).mpr e; rw [this] at hb'; simp at hb'
        · exact e
      have i1 := initS_len l
      have i2 := initS_len r
      refine sNil ?_
      refine sCons (sAsg (wLstT ?_) (by rfl))
      unfold WpArgs
      refine wTup ?_
      unfold WpArgs
      refine wInit hl0 (wName (v := .str l) (by rfl) (by rfl) (by kernel_rfl) ⟨rfl, ?_⟩)
      unfold WpArgs
      refine wName (v := .str r) (by rfl) (by rfl) (by kernel_rfl) ?_
      unfold WpArgs
      refine wLast hl0 (wName (v := .str l) (by rfl) (by rfl) (by kernel_rfl) ⟨rfl, ?_⟩)
      unfold WpArgs
      refine ⟨by rw [sizeLine_eq]; simp, ?_⟩
      unfold WpArgs
      refine wTup ?_
      unfold WpArgs
      refine wName (v := .str l) (by rfl) (by rfl) (by kernel_rfl) ?_
      unfold WpArgs
      refine wInit hr0 (wName (v := .str r) (by rfl) (by rfl) (by kernel_rfl) ⟨rfl, ?_⟩)
      unfold WpArgs
      refine wLast hr0 (wName (v := .str r) (by rfl) (by rfl) (by kernel_rfl) ⟨rfl, ?_⟩)
      unfold WpArgs
      refine ⟨by rw [sizeLine_eq]; simp, ?_⟩
      unfold WpArgs
      refine ⟨by rw [sizeLine_eq]; simp, ?_⟩
      refine nLoc (by rfl) (by rfl) ?_
      refine sCons (WpS.mono (K := fun g S3 => g = .next ∧ S3 = [.ns (put (Str.ofString "ways") (.obj 1) (put (Str.ofString "right") (.str r) (put (Str.ofString "left") (.str l) []))), .lst ((waysOf l r).map wayAV)]) (sIf ?_) fun g S3 ⟨hg, hS3⟩ => ?_)
      · refine bCmp (wLast hl0 (wName (v := .str l) (by rfl) (by rfl) (by kernel_rfl) ⟨rfl, ?_⟩))
        refine wLast hr0 (wName (v := .str r) (by rfl) (by rfl) (by kernel_rfl) ⟨rfl, ?_⟩)
        refine oEqS (tBool ?_)
        show if sameS (lastS l) (lastS r) = true then _ else _
        cases hs : sameS (lastS l) (lastS r) with
        | false =>
          rw [if_neg (by decide)]
          refine sNil ⟨rfl, ?_⟩
          unfold waysOf; rw [hs, if_neg (by decide)]; rfl
        | true =>
          rw [if_pos rfl]
          refine sCons (sExpr (wCallM (wName (v := .obj 1) (by rfl) (by rfl) (by kernel_rfl) (mAppend (xs := [wayAV (initS l, r, lastS l), wayAV (l, initS r, lastS r)]) (by rfl) ⟨cBuiltin, ?_⟩))))
          unfold WpArgs
          refine wTup ?_
          unfold WpArgs
          refine wInit hl0 (wName (v := .str l) (by rfl) (by rfl) (by kernel_rfl) ⟨rfl, ?_⟩)
          unfold WpArgs
          refine wInit hr0 (wName (v := .str r) (by rfl) (by rfl) (by kernel_rfl) ⟨rfl, ?_⟩)
          unfold WpArgs
          refine wLast hl0 (wName (v := .str l) (by rfl) (by rfl) (by kernel_rfl) ⟨rfl, ?_⟩)
          unfold WpArgs
          refine ⟨by rw [sizeLine_eq]; simp, ?_⟩
          unfold WpArgs WpKws
          refine kAppend (xs := [wayAV (initS l, r, lastS l), wayAV (l, initS r, lastS r)]) (by rfl) (by rw [sizeLine_eq]; simp) ?_
          refine sNil ⟨rfl, ?_⟩
          unfold waysOf; rw [hs, if_pos rfl]; rfl
      subst hg hS3
      refine sCons (sAsg (wDctT ?_) (by rfl))
      refine nLoc (by rfl) (by rfl) ?_
      have hwl := ways_len l r
      refine sCons (sFor (iE (wName (v := .obj 1) (by rfl) (by rfl) (by kernel_rfl) ⟨(waysOf l r).map wayAV, some 1, srcObj rfl ?_, ?_⟩)))
      · intro it hit
        obtain ⟨p, _, rfl⟩ := List.mem_map.mp hit
        exact ⟨_, rfl⟩
      have h3 : 0 < 3 ^ f := Nat.pow_pos (by decide)
      have hP : 3 ^ (f + 1) ≤ 19683 := Nat.le_trans (Nat.pow_le_pow_right (by decide) (show f + 1 ≤ 9 by omega)) (by decide)
      refine loopInv (fun items S => ∃ (vars : List (Str × AV)) (t : List (Str × Int)) (ws : List (Str × Str × Str)), S = [.ns vars, .loan, .dct (dctOf AV.int t)] ∧ vars.lookup (Str.ofString "table") = some (.obj 2)
        ∧ items = ws.map wayAV ∧ ws.foldl (mixWay (mixP f)) t = mixP (f + 1) l r ∧ t.length + ws.length * 3 ^ f ≤ 3 ^ (f + 1) ∧ ∀ w ∈ ws, w ∈ waysOf l r) ?_ ?_ _ _ ⟨_, [], waysOf l r, rfl, by kernel_rfl, rfl, ?_, ?_, fun w hw => hw⟩
      rotate_left 2
      · show _ = mixP (f + 1) l r
        rw [mixP, if_neg (by rw [hb']; decide)]
      · have := Nat.mul_le_mul_right (3 ^ f) hwl
        rw [Nat.pow_succ]; simp; omega
      · intro S ⟨vars, t, ws, hS, ht, hi, hF, hb, hw⟩
        subst hS
        cases ws with
        | cons a b => simp at hi
        | nil =>
        simp only [List.foldl_nil] at hF
        subst hF
        refine sCons (sRet (wName (v := .obj 2) (by rfl) (by rfl) ht ?_))
        exact leaveU (fun i ao e => by cases i <;> cases e) (fzObjD (by rfl) (by decide) (by decide) (dctOf_und (f := AV.int) (fun _ => trivial) _)) h
      · intro it rr S ⟨vars, t, ws, hS, ht, hi, hF, hb, hw⟩
        subst hS
        cases ws with
        | nil => simp at hi
        | cons w ws =>
        cases hi
        obtain ⟨a, b, c⟩ := w
        have hc1 : a.length + b.length ≤ f ∧ c.length = 1 := by
          have := hw _ (.head _)
          unfold waysOf at this
          rcases List.mem_cons.mp this with e | this
          · cases e; exact ⟨by omega, rfl⟩
          rcases List.mem_cons.mp this with e | this
          · cases e; exact ⟨by omega, rfl⟩
          split at this
          · cases List.mem_singleton.mp this; exact ⟨by omega, rfl⟩
          · cases this
        refine aTup rfl rfl ⟨trivial, aName (nLoc (by rfl) (by rfl) ⟨trivial, aName (nLoc (by rfl) (by rfl) ⟨trivial, aName (nLoc (by rfl) (by rfl) ?_)⟩)⟩)⟩
        refine sCons (sAsg (wCallN (wGlob (v := .ref 250) (av := .val (.ref 250)) (by rfl) (by rw [hK]; rfl) (fun _ _ _ => by simp) ⟨_, rfl, cFn (by rw [hK]; rfl), ?_⟩) (by rfl) (by rfl)) (by rfl))
        refine wName (v := .str a) (by rfl) (by rfl) (by rw [put_lookup, if_neg (by decide +kernel), put_lookup, if_neg (by decide +kernel), put_lookup, if_pos rfl]) ?_
        unfold WpArgs
        refine wName (v := .str b) (by rfl) (by rfl) (by rw [put_lookup, if_neg (by decide +kernel), put_lookup, if_pos rfl]) ?_
        unfold WpArgs WpKws
        refine frmV (y := .dct (dctOf AV.int (mixP f a b))) (by simp [AV.unds, AV.und]) (dctOf_und (f := AV.int) (fun _ => trivial) _) (fun K0 h0 => (IH a b K0 hc1.1 (by omega) h0).call) ?_
        refine nLoc (by rfl) (by rfl) ?_
        have hml := mixP_len f a b
        have hmk := mixP_key f a b
        refine sCons (sFor (iE (wName (v := .dct (dctOf AV.int (mixP f a b))) (by rfl) (by rfl) (by rw [put_lookup, if_pos rfl]) ⟨_, none, srcDct ?_, ?_⟩)))
        · intro q hq
          obtain ⟨p, hp, rfl⟩ := List.mem_map.mp hq
          have := hmk p hp
          rw [sizeLine_eq]; simp only; omega
        refine loopInv (fun items S => ∃ (vars : List (Str × AV)) (t' : List (Str × Int)) (ks : List Str), S = [.ns vars, .loan, .dct (dctOf AV.int t')] ∧ vars.lookup (Str.ofString "table") = some (.obj 2) ∧ vars.lookup (Str.ofString "last") = some (.str c)
          ∧ vars.lookup (Str.ofString "below") = some (.dct (dctOf AV.int (mixP f a b))) ∧ items = ks.map AV.str ∧ ks.foldl (mixIn (mixP f a b) c) t' = mixWay (mixP f) t (a, b, c) ∧ t'.length + ks.length ≤ t.length + 3 ^ f ∧ ∀ k ∈ ks, k ∈ (mixP f a b).map (·.1)) ?_ ?_ _ _ ⟨_, t, (mixP f a b).map (·.1), rfl, ?_, ?_, ?_, ?_, rfl, ?_, fun k hk => hk⟩
        rotate_left 2
        · rw [put_lookup, if_neg (by decide +kernel), put_lookup, if_neg (by decide +kernel), put_lookup, if_neg (by decide +kernel), put_lookup, if_neg (by decide +kernel)]; exact ht
        · rw [put_lookup, if_neg (by decide +kernel), put_lookup, if_pos rfl]
        · rw [put_lookup, if_pos rfl]
        · simp [dctOf, Function.comp_def]
        · simp; omega
        · intro S ⟨vars', t', ks, hS, h1, h2, h4, hi, hF', hb2, hk⟩
          subst hS
          cases ks with
          | cons a b => simp at hi
          | nil =>
          simp only [List.foldl_nil] at hF'
          subst hF'
          refine sNil ⟨_, _, ws, rfl, h1, rfl, hF, ?_, fun w' hw' => hw w' (.tail _ hw')⟩
          simp only [List.length_cons, List.length_nil, Nat.add_mul] at hb hb2
          omega
        · intro it rr S ⟨vars', t', ks, hS, h1, h2, h4, hi, hF', hb2, hk⟩
          subst hS
          cases ks with
          | nil => simp at hi
          | cons k ks =>
          cases hi
          have hkk := hk k (.head _)
          obtain ⟨v, hv⟩ := lookup_mem hkk
          have hkl : k.length ≤ 16 := by
            obtain ⟨q, hq, rfl⟩ := List.mem_map.mp hkk
            have := hmk q hq; omega
          have e0 : ∀ x : Str, (x == Str.ofString "word") = false → (put (Str.ofString "word") (.str k) vars').lookup x = vars'.lookup x := fun x hx => by
            rw [put_lookup, if_neg (by intro q; subst q; simp at hx)]
          refine aName (nLoc (by rfl) (by rfl) ?_)
          have hT := (e0 _ (by decide +kernel)).trans h1
          have hL := (e0 _ (by decide +kernel)).trans h2
          have hB := (e0 _ (by decide +kernel)).trans h4
          have hW : (put (Str.ofString "word") (.str k) vars').lookup (Str.ofString "word") = some (.str k) := by rw [put_lookup, if_pos rfl]
          have hcat : k.length + c.length ≤ sizeLine := by rw [sizeLine_eq]; omega
          refine sCons (sSet (wBin (wCallM (wName (v := .obj 2) (by rfl) (by rfl) hT (mDct (kvs := dctOf AV.int t') (.inr ⟨2, rfl, rfl⟩) F.slot_dict_get F.type_dict_get ⟨cBuiltin, ?_⟩)))) (by rfl))
          unfold WpArgs
          refine wBin (wName (v := .str k) (by rfl) (by rfl) hW (wName (v := .str c) (by rfl) (by rfl) hL (oAddS hcat ?_)))
          unfold WpArgs
          refine wInt ?_
          unfold WpArgs WpKws
          refine kGet2 (.inr ⟨2, rfl, rfl⟩) ?_
          have hv2 : (((dctOf AV.int t').lookup (k ++ c)).getD (.int 0)) = .int ((t'.lookup (k ++ c)).getD 0) := by
            rw [dctOf_lookup]
            cases t'.lookup (k ++ c) <;> rfl
          rw [hv2]
          refine wSub (wName (v := .dct (dctOf AV.int (mixP f a b))) (by rfl) (by rfl) hB (wName (v := .str k) (by rfl) (by rfl) hW (xDct (y := .int v) (.inl rfl) (by rw [dctOf_lookup, hv]; rfl) (oAdd ?_))))
          refine wName (v := .obj 2) (by rfl) (by rfl) hT ?_
          refine wBin (wName (v := .str k) (by rfl) (by rfl) hW (wName (v := .str c) (by rfl) (by rfl) hL (oAddS hcat ?_)))
          refine setD (kvs := dctOf AV.int t') (by rfl) (by rw [sizeLine_eq]; simp only [dctOf, List.length_map, List.length_cons, Nat.add_mul] at hb hb2 ⊢; omega) ?_
          refine sNil ?_
          rw [dctOf_put]
          refine ⟨_, mixIn (mixP f a b) c t' k, ks, ?_, hT, hL, hB, rfl, hF', ?_, fun k' hk' => hk k' (.tail _ hk')⟩
          · unfold mixIn; rw [hv]; rfl
          · have := putG_length (k ++ c) (((t'.lookup (k ++ c)).getD 0) + (((mixP f a b).lookup k).getD 0)) t'
            simp only [List.length_cons] at hb2
            unfold mixIn; omega

theorem mixed_contract (hK : X.K = hd.heap_39 P) : ∀ (f : Nat), f ≤ 8 → ∀ (l r : Str) (K : AV → List AO → Prop), l.length + r.length ≤ f → 0 < f → K (.dct (dctOf AV.int (mixP f l r))) [] → CdC X (n + f + 1) [] 250 [.str l, .str r] [] K
  | 0, _, _, _, _, _, h0, _ => absurd h0 (Nat.lt_irrefl _)
  | f + 1, hf, l, r, K, hlr, _, h => mixed_step hK (by omega) hlr (mixed_contract hK f (by omega)) h
end
end Mine
set_option maxHeartbeats 4000000
namespace Mine
section
variable {X : Cx} {P : Params} {n : Nat} {ae : AEnv} {S : List AO} {K : AV → List AO → Prop} {KF : AF → List AO → Prop} {KU : Unit → List AO → Prop}

noncomputable def dots : Str := Str.ofString "..."
noncomputable def ellRun (got : Str) (b : Int) : List Str → Int → Bool
  | [], _ => true
  | w :: r, a => if decide (find4 got w a b < 0) = true then false else ellRun got b r (find4 got w a b + w.length)
noncomputable def ell3 (ws : List Str) (got : Str) (a b : Int) : Bool := if decide (a > b) = true then false else ellRun got b ws a
noncomputable def lastD (ws : List Str) : Str := ws[ws.length - 1]?.getD (Str.ofString "")
noncomputable def ell2 (ws : List Str) (got : Str) (a : Int) : Bool :=
  if ((lastD ws).length != 0) = true then (if Txt.endswith got (lastD ws) = true then ell3 (ws.eraseIdx (ws.length - 1)) got a ((got.length : Int) - (lastD ws).length) else false) else ell3 ws got a got.length
noncomputable def ell1 : List Str → Str → Bool
  | [], _ => false
  | w :: r, got => if (w.length != 0) = true then (if Txt.startswith got w = true then ell2 r got w.length else false) else ell2 (w :: r) got 0
noncomputable def ellOf (want got : Str) : Bool := if (!Txt.contains want dots) = true then sameS want got else ell1 (Txt.split want dots) got

structure ElOk (want : Str) : Prop where
  two : 2 ≤ (Txt.split want dots).length
  many : (Txt.split want dots).length ≤ 65535
  parts : (Builtin.Str.partsBetween want (Builtin.Str.occurrences want dots 0 want.length (want.length + 1)) dots.length).length ≤ sizeLine
  each : ∀ p ∈ Txt.split want dots, p.length ≤ 65535

theorem ell1_cons (w : Str) (r : List Str) (got : Str) : ell1 (w :: r) got = if (w.length != 0) = true then (if Txt.startswith got w = true then ell2 r got w.length else false) else ell2 (w :: r) got 0 := rfl
theorem erase_map {α β : Type} (f : α → β) : ∀ (l : List α) (i : Nat), (l.eraseIdx i).map f = (l.map f).eraseIdx i
  | [], _ => rfl
  | _ :: _, 0 => rfl
  | a :: l, i + 1 => by simp [erase_map f l i]
theorem map_getLast {ws : List Str} (h : ws ≠ []) : (ws.map AV.str)[ws.length - 1]? = some (.str (lastD ws)) := by
  have : ws.length - 1 < ws.length := by have := List.length_pos_iff.mpr h; omega
  rw [List.getElem?_map]
  unfold lastD
  rw [List.getElem?_eq_getElem this]; rfl
theorem seq_last {xs : List AV} (h : 0 < xs.length) : seqIndex? (-1) xs.length = some (xs.length - 1) := by
  rw [seqIndex_neg (by decide) (by omega)]
  congr 1
  omega

theorem ellipsis_contract (hK : X.K = hd.heap_39 P) {want got : Str} (hw : Txt.contains want dots = true → ElOk want) (h : K (.bool (ellOf want got)) []) :
    CdC X (n + 3) [] 66 [.str want, .str got] [] K := by
  refine fnG (by rw [hK]; rfl) (by rw [hK]; rfl) (bindTo (bs := [(Str.ofString "want", .str want), (Str.ofString "got", .str got)]) (fun s ρ T vs ks hin hv hks => ?_) ?_)
  · obtain ⟨v1, v2, rfl, h1, h2⟩ := hv.two_inv
    cases hks.nil_inv
    exact ⟨[(Str.ofString "want", v1), (Str.ofString "got", v2)], .of_eq rfl, by simp only [VRk]; exact ⟨_, _, rfl, h1, _, _, rfl, h2, rfl⟩⟩
  · have hend : ∀ S2 : List AO, LeaveG [] K (.bool (ellOf want got)) S2 := fun S2 => leaveU (fun i ao e => by cases i <;> cases e) fzBool h
    refine nLoc (by rfl) (by rfl) ?_
    refine nLoc (by rfl) (by rfl) ?_
    refine sCons (sIf (bCmp (wGlob (v := .str (Str.ofString "...") 314) (av := .str (Str.ofString "...")) (by rfl) (by rw [hK]; rfl) (fun _ _ _ => VR_str.mpr ⟨by decide +kernel, _, rfl⟩) ?_)))
    refine wName (v := .str want) (by rfl) (by rfl) (by kernel_rfl) (oNotInS (tBool ?_))
    show if (!Txt.contains want dots) = true then _ else _
    cases hc : Txt.contains want dots with
    | false =>
      rw [show (!false) = true from rfl, if_pos rfl]
      refine sCons (sRet (wCmp (wName (v := .str want) (by rfl) (by rfl) (by kernel_rfl) (wName (v := .str got) (by rfl) (by rfl) (by kernel_rfl) (oEqS ?_)))))
      have e : (want.cps.toList == got.cps.toList) = ellOf want got := by
        unfold ellOf; rw [hc]; rfl
      rw [e]
      exact hend _
    | true =>
      rw [show (!true) = false from rfl, if_neg (by decide)]
      have hO := hw hc
      have hR : ellOf want got = ell1 (Txt.split want dots) got := by unfold ellOf; rw [hc]; rfl
      refine sNil (sCons (sAsg (wCallM (wName (v := .str want) (by rfl) (by rfl) (by kernel_rfl) (mStr F.slot_str_split F.type_str_split ⟨cBuiltin, ?_⟩)) (by intro _; rfl)) (by rfl)))
      unfold WpArgs
      refine wGlob (v := .str (Str.ofString "...") 314) (av := .str (Str.ofString "...")) (by rfl) (by rw [hK]; rfl) (fun _ _ _ => VR_str.mpr ⟨by decide +kernel, _, rfl⟩) ?_
      unfold WpArgs WpKws
      refine kSplit (y := dots) (by decide +kernel) hO.parts (fun p hp => by have := hO.each p hp; rw [sizeLine_eq]; omega) ?_
      refine nLoc (by rfl) (by rfl) ?_
      generalize hws : Txt.split want dots = ws at hO hR
      have hml := hO.many
      rw [hws] at hml
      have h2 := hO.two
      rw [hws] at h2
      have hel := hO.each
      rw [hws] at hel
      match ws, h2 with
      | w0 :: w1 :: r, _ =>
      have hfit : (w0 :: w1 :: r).length ≤ 65535 := hml
      have hll : ((w0 :: w1 :: r).map AV.str).length ≤ sizeLine := by rw [List.length_map, sizeLine_eq]; omega
      refine sCons (sAssert (bCmp (wCallN (wBoot (by rfl) (by rw [hK]; rfl) rfl ⟨_, rfl, cBuiltin, ?_⟩) (by rfl) (by rfl))))
      refine wName (v := .obj 1) (by rfl) (by rfl) (by kernel_rfl) ?_
      unfold WpArgs WpKws
      refine kLenL (.inr ⟨1, rfl, rfl⟩) hll (wInt (oGeI (tBool ⟨?_, ?_⟩)))
      · simp; omega
      refine sCons (sAsgTs (names := [Str.ofString "startpos", Str.ofString "endpos"]) (by rfl) (wTup ?_))
      unfold WpArgs
      refine wInt ?_
      unfold WpArgs
      refine wCallN (wBoot (by rfl) (by rw [hK]; rfl) rfl ⟨_, rfl, cBuiltin, ?_⟩) (by rfl) (by rfl)
      refine wName (v := .str got) (by rfl) (by rfl) (by kernel_rfl) ?_
      unfold WpArgs WpKws
      refine kLenS ?_
      unfold WpArgs
      refine ⟨by rw [sizeLine_eq]; simp, _, rfl, rfl, ?_⟩
      unfold WpNs
      refine nLoc (by rfl) (by rfl) ?_
      unfold WpNs
      refine nLoc (by rfl) (by rfl) ?_
      unfold WpNs
      refine sCons (sAsg (wSub (wName (v := .obj 1) (by rfl) (by rfl) (by kernel_rfl) (wInt (xObj (j := 0) (y := .str w0) (xs := (w0 :: w1 :: r).map .str) (by rfl) (seqIndex_of (by decide) (by simp only [List.map_cons, List.length_cons]; omega)) (by rfl) ?_)))) (by rfl))
      refine nLoc (by rfl) (by rfl) ?_
      refine sCons (WpS.mono (K := fun g S3 => (g = .ret (.bool (ellOf want got))) ∨ (g = .next ∧ ∃ (vars : List (Str × AV)) (ws : List Str) (a : Int), S3 = [.ns vars, .lst (ws.map .str)] ∧ ws ≠ [] ∧ ws.length ≤ 65535 ∧ (∀ w ∈ ws, w.length ≤ 65535) ∧ vars.lookup (Str.ofString "got") = some (.str got) ∧ vars.lookup (Str.ofString "ws") = some (.obj 1) ∧ vars.lookup (Str.ofString "startpos") = some (.int a)
        ∧ vars.lookup (Str.ofString "endpos") = some (.int got.length) ∧ ell2 ws got a = ellOf want got)) (sIf (bVal (wName (v := .str w0) (by rfl) (by rfl) (by kernel_rfl) (tStr ?_)))) fun g S3 hg => ?_)
      · cases he : (w0.length != 0) with
        | false =>
          rw [if_neg (by decide)]
          refine sNil (.inr ⟨rfl, _, w0 :: w1 :: r, 0, rfl, by simp, hfit, hel, by kernel_rfl, by kernel_rfl, by kernel_rfl, by kernel_rfl, ?_⟩)
          rw [hR, ell1_cons, he]; rfl
        | true =>
          rw [if_pos rfl]
          refine sCons (sIf (bVal (wCallM (wName (v := .str got) (by rfl) (by rfl) (by kernel_rfl) (mStr F.slot_str_startswith F.type_str_startswith ⟨cBuiltin, ?_⟩)) (by intro _; rfl))))
          refine wName (v := .str w0) (by rfl) (by rfl) (by kernel_rfl) ?_
          unfold WpArgs WpKws
          refine kStarts (tBool ?_)
          cases hs : Txt.startswith got w0 with
          | false =>
            rw [if_neg (by decide)]
            refine sCons (sRet (wBool (.inl ?_)))
            rw [hR, ell1_cons, he, hs]; rfl
          | true =>
            rw [if_pos rfl]
            refine sCons (sAsg (wCallN (wBoot (by rfl) (by rw [hK]; rfl) rfl ⟨_, rfl, cBuiltin, ?_⟩) (by rfl) (by rfl)) (by rfl))
            refine wName (v := .str w0) (by rfl) (by rfl) (by kernel_rfl) ?_
            unfold WpArgs WpKws
            refine kLenS ?_
            refine nLoc (by rfl) (by rfl) ?_
            refine sCons (sDel (wName (v := .obj 1) (by rfl) (by rfl) (by kernel_rfl) (wInt ⟨1, (w0 :: w1 :: r).map .str, 0, 0, rfl, by rfl, rfl, by decide +kernel, hll, seqIndex_of (by decide) (by simp only [List.map_cons, List.length_cons]; omega), ?_⟩)))
            refine sNil (sNil (.inr ⟨rfl, _, w1 :: r, w0.length, rfl, by simp, by simp at hfit ⊢; omega, fun w hw => hel w (.tail _ hw), by kernel_rfl, by kernel_rfl, by kernel_rfl, by kernel_rfl, ?_⟩))
            rw [hR, ell1_cons, he, hs]; rfl
      rcases hg with rfl | ⟨rfl, vars, ws2, a, rfl, hne, hfit2, hel2, g1, g2, g3, g4, hR2⟩
      · exact hend _
      clear hR hel hfit hll hws h2 hml
      have hpos := List.length_pos_iff.mpr hne
      have hll2 : (ws2.map AV.str).length ≤ sizeLine := by rw [List.length_map, sizeLine_eq]; omega
      have hseq : seqIndex? (-1) (ws2.map AV.str).length = some (ws2.length - 1) := by rw [seq_last (by rw [List.length_map]; exact hpos), List.length_map]
      refine sCons (sAsg (wSub (wName (v := .obj 1) (by rfl) (by rfl) g2 (wOp1 (wInt (uNeg (xObj (j := ws2.length - 1) (y := .str (lastD ws2)) (xs := ws2.map .str) (by rfl) hseq (map_getLast hne) ?_)))))) (by rfl))
      refine nLoc (by rfl) (by rfl) ?_
      have e0 : ∀ x : Str, (x == Str.ofString "w") = false → (put (Str.ofString "w") (.str (lastD ws2)) vars).lookup x = vars.lookup x := fun x hx => by
        rw [put_lookup, if_neg (by intro q; subst q; simp at hx)]
      have eW : (put (Str.ofString "w") (.str (lastD ws2)) vars).lookup (Str.ofString "w") = some (.str (lastD ws2)) := by rw [put_lookup, if_pos rfl]
      refine sCons (WpS.mono (K := fun g S3 => (g = .ret (.bool (ellOf want got))) ∨ (g = .next ∧ ∃ (vars : List (Str × AV)) (ws : List Str) (a b : Int), S3 = [.ns vars, .lst (ws.map .str)] ∧ ws.length ≤ 65535 ∧ (∀ w ∈ ws, w.length ≤ 65535) ∧ vars.lookup (Str.ofString "got") = some (.str got) ∧ vars.lookup (Str.ofString "ws") = some (.obj 1) ∧ vars.lookup (Str.ofString "startpos") = some (.int a)
        ∧ vars.lookup (Str.ofString "endpos") = some (.int b) ∧ ell3 ws got a b = ellOf want got)) (sIf (bVal (wName (v := .str (lastD ws2)) (by rfl) (by rfl) eW (tStr ?_)))) fun g S3 hg => ?_)
      · cases he : ((lastD ws2).length != 0) with
        | false =>
          rw [if_neg (by decide)]
          refine sNil (.inr ⟨rfl, _, ws2, a, got.length, rfl, hfit2, hel2, (e0 _ (by decide +kernel)).trans g1, (e0 _ (by decide +kernel)).trans g2, (e0 _ (by decide +kernel)).trans g3, (e0 _ (by decide +kernel)).trans g4, ?_⟩)
          rw [← hR2]; unfold ell2; rw [he]; rfl
        | true =>
          rw [if_pos rfl]
          refine sCons (sIf (bVal (wCallM (wName (v := .str got) (by rfl) (by rfl) ((e0 _ (by decide +kernel)).trans g1) (mStr F.slot_str_endswith F.type_str_endswith ⟨cBuiltin, ?_⟩)) (by intro _; rfl))))
          refine wName (v := .str (lastD ws2)) (by rfl) (by rfl) eW ?_
          unfold WpArgs WpKws
          refine kEnds (tBool ?_)
          cases hs : Txt.endswith got (lastD ws2) with
          | false =>
            rw [if_neg (by decide)]
            refine sCons (sRet (wBool (.inl ?_)))
            rw [← hR2]; unfold ell2; rw [he, hs]; rfl
          | true =>
            rw [if_pos rfl]
            refine sCons (sAug (lLoc (v := .int got.length) (by rfl) (by rfl) ((e0 _ (by decide +kernel)).trans g4) (wCallN (wBoot (by rfl) (by rw [hK]; rfl) rfl ⟨_, rfl, cBuiltin, ?_⟩) (by rfl) (by rfl))))
            refine wName (v := .str (lastD ws2)) (by rfl) (by rfl) eW ?_
            unfold WpArgs WpKws
            refine kLenS (iSub (nLoc (by rfl) (by rfl) ?_))
            have e1 : ∀ x : Str, (x == Str.ofString "endpos") = false → (put (Str.ofString "endpos") (.int ((got.length : Int) - (lastD ws2).length)) (put (Str.ofString "w") (.str (lastD ws2)) vars)).lookup x = (put (Str.ofString "w") (.str (lastD ws2)) vars).lookup x := fun x hx => by
              rw [put_lookup, if_neg (by intro q; subst q; simp at hx)]
            refine sCons (sDel (wName (v := .obj 1) (by rfl) (by rfl) ((e1 _ (by decide +kernel)).trans ((e0 _ (by decide +kernel)).trans g2)) (wOp1 (wInt (uNeg ⟨1, ws2.map .str, -1, ws2.length - 1, rfl, by rfl, rfl, by decide +kernel, hll2, hseq, ?_⟩)))))
            refine sNil (sNil (.inr ⟨rfl, _, ws2.eraseIdx (ws2.length - 1), a, (got.length : Int) - (lastD ws2).length, ?_, ?_, ?_, (e1 _ (by decide +kernel)).trans ((e0 _ (by decide +kernel)).trans g1), (e1 _ (by decide +kernel)).trans ((e0 _ (by decide +kernel)).trans g2), (e1 _ (by decide +kernel)).trans ((e0 _ (by decide +kernel)).trans g3), by rw [put_lookup, if_pos rfl], ?_⟩))
            · rw [show (ws2.eraseIdx (ws2.length - 1)).map AV.str = (ws2.map AV.str).eraseIdx (ws2.length - 1) from erase_map ..]; rfl
            · rw [List.length_eraseIdx]; split <;> omega
            · exact fun w hw => hel2 w (List.mem_of_mem_eraseIdx hw)
            · rw [← hR2]; unfold ell2; rw [he, hs]; rfl
      rcases hg with rfl | ⟨rfl, vars3, ws3, a3, b3, rfl, hfit3, hel3, k1, k2, k3, k4, hR3⟩
      · exact hend _
      clear hR2
      refine sCons (sIf (bCmp (wName (v := .int a3) (by rfl) (by rfl) k3 (wName (v := .int b3) (by rfl) (by rfl) k4 (oGtI (tBool ?_))))))
      cases hgt : decide (a3 > b3) with
      | true =>
        rw [if_pos rfl]
        refine sCons (sRet (wBool ?_))
        have : ellOf want got = false := by rw [← hR3]; unfold ell3; rw [hgt]; rfl
        rw [← this]; exact hend _
      | false =>
      rw [if_neg (by decide)]
      have hR4 : ellRun got b3 ws3 a3 = ellOf want got := by rw [← hR3]; unfold ell3; rw [hgt]; rfl
      refine sNil (sCons (sFor (iE (wName (v := .obj 1) (by rfl) (by rfl) k2 ⟨ws3.map .str, some 1, srcObj rfl ?_, ?_⟩))))
      · intro it hit; trivial
      refine loopInv (fun items S => ∃ (vars : List (Str × AV)) (ws : List Str) (a : Int), S = [.ns vars, .loan] ∧ items = ws.map AV.str ∧ vars.lookup (Str.ofString "got") = some (.str got) ∧ vars.lookup (Str.ofString "startpos") = some (.int a)
        ∧ vars.lookup (Str.ofString "endpos") = some (.int b3) ∧ ellRun got b3 ws a = ellOf want got) ?_ ?_ _ _ ⟨_, ws3, a3, rfl, rfl, k1, k3, k4, hR4⟩
      · intro S ⟨vars, ws, a, hS, hi, j1, j3, j4, hRR⟩
        cases ws with
        | cons a b => simp at hi
        | nil =>
        refine sCons (sRet (wBool ?_))
        have : ellOf want got = true := by rw [← hRR]; rfl
        rw [← this]; exact hend _
      · intro it rr S ⟨vars, ws, a, hS, hi, j1, j3, j4, hRR⟩
        subst hS
        cases ws with
        | nil => simp at hi
        | cons w ws =>
        cases hi
        have e0 : ∀ x : Str, (x == Str.ofString "w") = false → (put (Str.ofString "w") (.str w) vars).lookup x = vars.lookup x := fun x hx => by
          rw [put_lookup, if_neg (by intro q; subst q; simp at hx)]
        have eW : (put (Str.ofString "w") (.str w) vars).lookup (Str.ofString "w") = some (.str w) := by rw [put_lookup, if_pos rfl]
        refine aName (nLoc (by rfl) (by rfl) ?_)
        refine sCons (sAsg (wCallM (wName (v := .str got) (by rfl) (by rfl) ((e0 _ (by decide +kernel)).trans j1) (mStr F.slot_str_find F.type_str_find ⟨cBuiltin, ?_⟩)) (by intro _; rfl)) (by rfl))
        refine wName (v := .str w) (by rfl) (by rfl) eW ?_
        unfold WpArgs
        refine wName (v := .int a) (by rfl) (by rfl) ((e0 _ (by decide +kernel)).trans j3) ?_
        unfold WpArgs
        refine wName (v := .int b3) (by rfl) (by rfl) ((e0 _ (by decide +kernel)).trans j4) ?_
        unfold WpArgs WpKws
        refine kFind4 (nLoc (by rfl) (by rfl) ?_)
        have e1 : ∀ x : Str, (x == Str.ofString "startpos") = false → (put (Str.ofString "startpos") (.int (find4 got w a b3)) (put (Str.ofString "w") (.str w) vars)).lookup x = (put (Str.ofString "w") (.str w) vars).lookup x := fun x hx => by
          rw [put_lookup, if_neg (by intro q; subst q; simp at hx)]
        have eS : (put (Str.ofString "startpos") (.int (find4 got w a b3)) (put (Str.ofString "w") (.str w) vars)).lookup (Str.ofString "startpos") = some (.int (find4 got w a b3)) := by rw [put_lookup, if_pos rfl]
        refine sCons (sIf (bCmp (wName (v := .int (find4 got w a b3)) (by rfl) (by rfl) eS (wInt (oLtI (tBool ?_))))))
        unfold ellRun at hRR
        cases hlt : decide (find4 got w a b3 < 0) with
        | true =>
          rw [if_pos rfl]
          rw [hlt, if_pos rfl] at hRR
          refine sCons (sRet (wBool ?_))
          rw [hRR]; exact hend _
        | false =>
          rw [if_neg (by decide)]
          rw [hlt, if_neg (by decide)] at hRR
          refine sNil (sCons (sAug (lLoc (v := .int (find4 got w a b3)) (by rfl) (by rfl) eS (wCallN (wBoot (by rfl) (by rw [hK]; rfl) rfl ⟨_, rfl, cBuiltin, ?_⟩) (by rfl) (by rfl)))))
          refine wName (v := .str w) (by rfl) (by rfl) ((e1 _ (by decide +kernel)).trans eW) ?_
          unfold WpArgs WpKws
          refine kLenS (iAdd (nLoc (by rfl) (by rfl) ?_))
          refine sNil ⟨_, ws, _, rfl, rfl, ?_, by rw [put_lookup, if_pos rfl], ?_, hRR⟩
          · rw [put_lookup, if_neg (by decide +kernel)]; exact (e1 _ (by decide +kernel)).trans ((e0 _ (by decide +kernel)).trans j1)
          · rw [put_lookup, if_neg (by decide +kernel)]; exact (e1 _ (by decide +kernel)).trans ((e0 _ (by decide +kernel)).trans j4)
end
end Mine
set_option maxHeartbeats 4000000
namespace Mine
section
variable {X : Cx} {P : Params} {n : Nat} {ae : AEnv} {S : List AO} {K : AV → List AO → Prop} {KF : AF → List AO → Prop} {KU : Unit → List AO → Prop}

noncomputable def lineS (value : Str) (x : Str) : Str := Txt.slice (pageOf (rowsOf x value)) none (some (-2))
noncomputable def linesD (value : Str) : List (Str × AV) := [(one 97, .str (lineS value (one 97))), (one 98, .str (lineS value (one 98)))]
noncomputable def askOf (value w : Str) : Str := Txt.upper (escPage w value)
noncomputable def toldOf (rows : List (Str × Str)) (value w : Str) : List Str := (rows.filter fun p => (Txt.lower p.1).cps.toList == (Txt.lower (askOf value w)).cps.toList).map (·.2)
noncomputable def midOf (value w : Str) : Str := Txt.join dots (w.cps.toList.map fun c => lineS value (one c))
noncomputable def wantOf (value w : Str) : Str := dots ++ midOf value w ++ dots
noncomputable def standOf (value page w : Str) : Bool := ellOf (Txt.lower (wantOf value w)) (Txt.lower page)
noncomputable def tellAll (rows : List (Str × Str)) (value : Str) (d : List (Str × List Str)) (ws : List Str) : List (Str × List Str) := ws.foldl (fun d w => putG w (toldOf rows value w) d) d
noncomputable def standAll (value page : Str) (d : List (Str × Bool)) (ws : List Str) : List (Str × Bool) := ws.foldl (fun d w => putG w (standOf value page w) d) d

structure WdOk (value w : Str) : Prop where
  letters : ∀ c ∈ w.cps.toList, c = 97 ∨ c = 98
  pg : PgOk w value
  esc : ∀ j, j ≤ 7 → (escUpto j (pageOf (rowsOf w value))).length ≤ 65535
  up : Builtin.Str.tooLong (askOf value w).length = false
  low : Builtin.Str.tooLong (Txt.lower (askOf value w)).length = false
  nm : okName (Txt.lower (askOf value w))
  jn : JoinOk dots (w.cps.toList.map fun c => lineS value (one c)) = true
  ml : (midOf value w).length ≤ 65535
  lowW : Builtin.Str.tooLong (Txt.lower (wantOf value w)).length = false
  el : Txt.contains (Txt.lower (wantOf value w)) dots = true → ElOk (Txt.lower (wantOf value w))
structure AnOk (rows : List (Str × Str)) (value page : Str) (words : List Str) : Prop where
  rl : rows.length ≤ 65535
  fr : ∀ p ∈ rows, Builtin.Str.tooLong (Txt.lower p.1).length = false
  pa : PgOk (one 97) value
  pb : PgOk (one 98) value
  lowP : Builtin.Str.tooLong (Txt.lower page).length = false
  wl : words.length ≤ 65535
  each : ∀ w ∈ words, WdOk value w

theorem answers_contract (hK : X.K = hd.heap_39 P) (hC : X.C = 210) {rows : List (Str × Str)} {value page : Str} {words : List Str} (hp : AnOk rows value page words)
    (h : K (.tup [.dct (dctOf strsAV (tellAll rows value [] words)), .dct (dctOf AV.bool (standAll value page [] words))]) [.lst (rows.map rowAV)]) :
    CdC X (n + 6) [.lst (rows.map rowAV)] 255 [.lst (words.map .str), .hdr 0, .str page, .str value] [] K := by
  refine fnG (by rw [hK]; rfl) (by rw [hK]; rfl) (bindTo (bs := [(Str.ofString "words", .lst (words.map .str)), (Str.ofString "tally", .hdr 0), (Str.ofString "page", .str page), (Str.ofString "value", .str value)]) (fun s ρ T vs ks hin hv hks => ?_) ?_)
  · obtain ⟨v1, r1, rfl, h1, hv⟩ := VRs_cons.mp hv
    obtain ⟨v2, r2, rfl, h2, hv⟩ := VRs_cons.mp hv
    obtain ⟨v3, v4, rfl, h3, h4⟩ := hv.two_inv
    cases hks.nil_inv
    exact ⟨[(Str.ofString "words", v1), (Str.ofString "tally", v2), (Str.ofString "page", v3), (Str.ofString "value", v4)], .of_eq rfl, by simp only [VRk]; exact ⟨_, _, rfl, h1, _, _, rfl, h2, _, _, rfl, h3, _, _, rfl, h4, rfl⟩⟩
  · refine nLoc (by rfl) (by rfl) ?_
    refine nLoc (by rfl) (by rfl) ?_
    refine nLoc (by rfl) (by rfl) ?_
    refine nCell (i := 2) (v0 := none) (by rfl) (by rfl) (by rfl) ?_
    refine sCons (sAsg (wDC ⟨rfl, (fun g hg => by cases List.mem_singleton.mp hg; rfl), ?_, by decide +kernel⟩ (by intro _ _; rfl) (by rfl) ?_) (by rfl))
    · intro y hy e
      simp at hy
      rcases hy with rfl | rfl | rfl | rfl
      · cases e
      · cases e
      · cases e
      · rfl
    refine iE (wStr ⟨signs (Str.ofString "ab"), none, srcStr, ?_⟩)
    refine ⟨fun it => match it with | .str a => (a, .str (lineS value a)) | _ => (one 0, .none), by rw [sizeLine_eq]; decide +kernel, ?_, ?_, ?_⟩
    · exact ⟨trivial, trivial, trivial⟩
    · intro it hit
      obtain ⟨c, hc, rfl⟩ := List.mem_map.mp hit
      have hc2 : c = 97 ∨ c = 98 := by
        have e : (Str.ofString "ab").cps.toList = [97, 98] := by decide +kernel
        rw [e] at hc; simpa using hc
      have hpg : PgOk (⟨#[c]⟩ : Str) value := by
        rcases hc2 with rfl | rfl
        · exact hp.pa
        · exact hp.pb
      intro kvs vars
      refine aName (nLoc (by rfl) (by rfl) ?_)
      refine wName (v := .str ⟨#[c]⟩) (by rfl) (by rfl) (by rw [put_lookup, if_pos rfl]) ?_
      refine wSlice (wCallN (wGlob (v := .ref 219) (av := .val (.ref 219)) (by rfl) (by rw [hK]; rfl) (fun _ _ _ => by simp) ⟨_, rfl, cFn (by rw [hK]; rfl), ?_⟩) (by rfl) (by rfl))
      refine wName (v := .str ⟨#[c]⟩) (by rfl) (by rfl) (by rw [put_lookup, if_pos rfl]) ?_
      unfold WpArgs
      refine wCell (i := 2) (v := .str value) (by first | exact .inl (by rfl) | exact .inr (by kernel_rfl) | exact .inl (by kernel_rfl)) (by first | rfl | kernel_rfl) (by rfl) ?_
      unfold WpArgs WpKws
      refine frmS (y := pageOf (rowsOf ⟨#[c]⟩ value)) (by simp [AV.unds, AV.und]) (fun K0 h0 => (page_contract hK hC hpg h0).call) ?_
      unfold WpPart
      refine wOp1 (wInt (uNeg ⟨_, rfl, slStr ?_⟩))
      exact ⟨rfl, rfl, _, rfl⟩
    have hlines : puts [] ((signs (Str.ofString "ab")).map fun it => match it with | .str a => (a, .str (lineS value a)) | _ => (one 0, .none)) = linesD value := by rfl
    rw [hlines]
    refine nCell (i := 3) (v0 := none) (by rfl) (by rfl) (by rfl) ?_
    refine sCons (sAsgTs (names := [Str.ofString "told", Str.ofString "stands"]) (by rfl) (wTup ?_))
    unfold WpArgs
    refine wDctT ?_
    unfold WpArgs
    refine wDctT ?_
    unfold WpArgs
    refine ⟨by rw [sizeLine_eq]; simp, _, rfl, rfl, ?_⟩
    unfold WpNs
    refine nLoc (by rfl) (by rfl) ?_
    unfold WpNs
    refine nLoc (by rfl) (by rfl) ?_
    unfold WpNs
    refine sCons (sFor (iE (wName (v := .lst (words.map .str)) (by rfl) (by rfl) (by kernel_rfl) ⟨words.map .str, none, srcLst (fun it hit => trivial), ?_⟩)))
    refine loopInv (fun items S => ∃ (vars : List (Str × AV)) (td : List (Str × List Str)) (sd : List (Str × Bool)) (ws : List Str), S = [.lst (rows.map rowAV), .ns vars, .cell (some (.str value)), .cell (some (.dct (linesD value))), .dct (dctOf strsAV td), .dct (dctOf AV.bool sd)]
      ∧ vars.lookup (Str.ofString "tally") = some (.hdr 0) ∧ vars.lookup (Str.ofString "page") = some (.str page) ∧ vars.lookup (Str.ofString "told") = some (.obj 4) ∧ vars.lookup (Str.ofString "stands") = some (.obj 5)
      ∧ items = ws.map AV.str ∧ tellAll rows value td ws = tellAll rows value [] words ∧ standAll value page sd ws = standAll value page [] words ∧ td.length + ws.length ≤ words.length ∧ sd.length + ws.length ≤ words.length ∧ ∀ w ∈ ws, w ∈ words) ?_ ?_ _ _
      ⟨_, [], [], words, rfl, by kernel_rfl, by kernel_rfl, by kernel_rfl, by kernel_rfl, rfl, rfl, rfl, by simp, by simp, fun w hw => hw⟩
    · intro S ⟨vars, td, sd, ws, hS, h1, h2, h3, h4, hi, hF1, hF2, hb1, hb2, hw⟩
      subst hS
      cases ws with
      | cons a b => simp at hi
      | nil =>
      simp only [tellAll, standAll, List.foldl_nil] at hF1 hF2
      refine sCons (sRet (wTup ?_))
      unfold WpArgs
      refine wName (v := .obj 4) (by rfl) (by rfl) h3 ?_
      unfold WpArgs
      refine wName (v := .obj 5) (by rfl) (by rfl) h4 ?_
      unfold WpArgs
      refine ⟨by rw [sizeLine_eq]; simp, ?_⟩
      refine leaveU (y := .tup [.dct (dctOf strsAV td), .dct (dctOf AV.bool sd)]) (fun i ao e => ?_) ?_ (by rw [hF1, hF2]; exact h)
      · match i with
        | 0 => exact e
        | _ + 1 => cases e
      · simp only [Fz]
        refine ⟨_, rfl, ?_⟩
        simp only [Fzs]
        refine ⟨_, _, rfl, ?_, _, _, rfl, ?_, rfl⟩
        · exact fzObjD (by rfl) (by simp) (by simp) (dctOf_und (f := strsAV) (fun l => show AV.unds _ _ from strs_und l _) _)
        · exact fzObjD (by rfl) (by simp) (by simp) (dctOf_und (f := AV.bool) (fun _ => trivial) _)
    · intro it rr S ⟨vars, td, sd, ws, hS, h1, h2, h3, h4, hi, hF1, hF2, hb1, hb2, hw⟩
      subst hS
      cases ws with
      | nil => simp at hi
      | cons w ws =>
      cases hi
      have hwd := hp.each w (hw w (.head _))
      have hwl := hp.wl
      have e0 : ∀ x : Str, (x == Str.ofString "word") = false → (put (Str.ofString "word") (.str w) vars).lookup x = vars.lookup x := fun x hx => by
        rw [put_lookup, if_neg (by intro q; subst q; simp at hx)]
      have eW : (put (Str.ofString "word") (.str w) vars).lookup (Str.ofString "word") = some (.str w) := by rw [put_lookup, if_pos rfl]
      have k1 := (e0 _ (by decide +kernel)).trans h1
      have k2 := (e0 _ (by decide +kernel)).trans h2
      have k3 := (e0 _ (by decide +kernel)).trans h3
      have k4 := (e0 _ (by decide +kernel)).trans h4
      refine aName (nLoc (by rfl) (by rfl) ?_)
      refine sCons (sSet (wCallM (wName (v := .hdr 0) (by rfl) (by rfl) k1 (mOwn (f := 149) (.inl ⟨0, rfl, by rw [if_neg (by decide +kernel)]⟩) (by rw [hK, hC]; rfl) (by rw [hK, hC]; rfl) (by rw [hK]; rfl)
          ⟨cFn (by rw [hK]; rfl), ?_⟩))) (by rfl))
      unfold WpArgs
      refine wCallM (wCallN (wGlob (v := .ref 52) (av := .val (.ref 52)) (by rfl) (by rw [hK]; rfl) (fun _ _ _ => by simp) ⟨_, rfl, cFn (by rw [hK]; rfl), ?_⟩) (by rfl) (by rfl)) (by intro _; rfl)
      unfold WpArgs
      refine wCallN (wGlob (v := .ref 219) (av := .val (.ref 219)) (by rfl) (by rw [hK]; rfl) (fun _ _ _ => by simp) ⟨_, rfl, cFn (by rw [hK]; rfl), ?_⟩) (by rfl) (by rfl)
      refine wName (v := .str w) (by rfl) (by rfl) eW ?_
      unfold WpArgs
      refine wCell (i := 2) (v := .str value) (by first | exact .inl (by rfl) | exact .inr (by kernel_rfl) | exact .inl (by kernel_rfl)) (by first | rfl | kernel_rfl) (by rfl) ?_
      unfold WpArgs WpKws
      refine frmS (y := pageOf (rowsOf w value)) (by simp [AV.unds, AV.und]) (fun K0 h0 => (page_contract hK hC hwd.pg h0).call) ?_
      unfold WpArgs WpKws
      refine frmS (y := escPage w value) (by simp [AV.unds, AV.und]) (fun K0 h0 => (escape_contract hK hwd.esc h0).call) ?_
      refine mStr F.slot_str_upper F.type_str_upper ⟨cBuiltin, ?_⟩
      unfold WpArgs WpKws
      refine kUpper hwd.up ?_
      unfold WpArgs WpKws
      refine frmH (i := 0) (rows := rows.map rowAV) (rows' := rows.map rowAV) (xs := [.hdr 0, .str (askOf value w)]) (y := strsAV (toldOf rows value w)) (by rfl) (rows_und _ _) (rows_und _ _) (show AV.unds _ _ from strs_und _ _)
        ⟨_, _, rfl, .inl ⟨rfl, rfl⟩, _, _, rfl, .inr ⟨trivial, rfl⟩, rfl⟩ (fun K0 h0 => (getall_contract hK hC hp.rl hwd.nm hwd.low hp.fr (by
          have e : strsAV (toldOf rows value w) = .lst ((rows.filter fun p => (Txt.lower p.1).cps.toList == (Txt.lower (askOf value w)).cps.toList).map fun p => .str p.2) := by
            simp [strsAV, toldOf, Function.comp_def]
          rw [← e]; exact h0)).call) ?_
      refine wName (v := .obj 4) (by rfl) (by rfl) k3 ?_
      refine wName (v := .str w) (by rfl) (by rfl) eW ?_
      refine setD (kvs := dctOf strsAV td) (by rfl) (by rw [sizeLine_eq]; simp [dctOf] at hb1 ⊢; omega) ?_
      rw [dctOf_put]
      refine sCons (sAsg (wBin (wBin (wStr (wCallM (wStr (mStr F.slot_str_join F.type_str_join ⟨cBuiltin, ?_⟩)) (by intro _; rfl))))) (by rfl))
      unfold WpArgs
      refine wLC ⟨rfl, (fun g hg => by cases List.mem_singleton.mp hg; rfl), ?_, by decide +kernel⟩ (by intro _ _; rfl) (by rfl) ?_
      · intro y hy e
        simp at hy
        rcases hy with rfl | rfl | rfl
        · cases e
        · cases e
        · rfl
      refine iE (wName (v := .str w) (by rfl) (by rfl) eW ⟨signs w, none, srcStr, ?_⟩)
      have hwn : w.cps.toList.length ≤ 16 := hwd.pg.len
      refine ⟨fun it => match it with | .str a => some (.str (lineS value a)) | _ => none, by rw [sizeLine_eq]; simp only [signs, List.length_map]; omega, ?_, ?_, ?_⟩
      · intro it hit v e
        obtain ⟨c, _, rfl⟩ := List.mem_map.mp hit
        cases e; trivial
      · intro it hit
        obtain ⟨c, hc, rfl⟩ := List.mem_map.mp hit
        refine turn0 fun xs vars => ?_
        refine aName (nLoc (by rfl) (by rfl) ?_)
        refine wSub (wCell (i := 3) (v := .dct (linesD value)) (by first | exact .inl (by rfl) | exact .inr (by kernel_rfl) | exact .inl (by kernel_rfl)) (by first | rfl | kernel_rfl) (by rfl) (wName (v := .str ⟨#[c]⟩) (by rfl) (by rfl) (by rw [put_lookup, if_pos rfl]) (xDct (y := .str (lineS value ⟨#[c]⟩)) (.inl rfl) ?_ ⟨_, rfl, rfl⟩)))
        rcases hwd.letters c hc with rfl | rfl
        · rfl
        · rfl
      have e : (signs w).filterMap (fun it => match it with | .str a => some (.str (lineS value a)) | _ => none) = (w.cps.toList.map fun c => lineS value (one c)).map AV.str := by
        unfold signs
        refine (filterMap_map (e := fun c => AV.str ⟨#[c]⟩) (g := fun c => AV.str (lineS value (one c))) _ fun p _ => rfl).trans ?_
        rw [List.map_map]; rfl
      rw [e]
      unfold WpArgs WpKws
      have hd : (Str.ofString "...").length = 3 := by decide +kernel
      have hml := hwd.ml
      refine kJoin (.inl rfl) hwd.jn ?_
      refine oAddS (by rw [hd, sizeLine_eq]; show 3 + (midOf value w).length ≤ _; omega) (wStr (oAddS ?_ ?_))
      · rw [Str.length_append, hd, sizeLine_eq]; show 3 + (midOf value w).length + 3 ≤ _; omega
      refine nLoc (by rfl) (by rfl) ?_
      have e1 : ∀ x : Str, (x == Str.ofString "want") = false → (put (Str.ofString "want") (.str (wantOf value w)) (put (Str.ofString "word") (.str w) vars)).lookup x = (put (Str.ofString "word") (.str w) vars).lookup x := fun x hx => by
        rw [put_lookup, if_neg (by intro q; subst q; simp at hx)]
      have eWant : (put (Str.ofString "want") (.str (wantOf value w)) (put (Str.ofString "word") (.str w) vars)).lookup (Str.ofString "want") = some (.str (wantOf value w)) := by rw [put_lookup, if_pos rfl]
      refine sCons (sSet (wCallN (wGlob (v := .ref 66) (av := .val (.ref 66)) (by rfl) (by rw [hK]; rfl) (fun _ _ _ => by simp) ⟨_, rfl, cFn (by rw [hK]; rfl), ?_⟩) (by rfl) (by rfl)) (by rfl))
      unfold WpArgs
      refine wCallM (wName (v := .str (wantOf value w)) (by rfl) (by rfl) eWant (mStr F.slot_str_lower F.type_str_lower ⟨cBuiltin, ?_⟩))
      unfold WpArgs WpKws
      refine kLower hwd.lowW ?_
      unfold WpArgs
      refine wCallM (wName (v := .str page) (by rfl) (by rfl) ((e1 _ (by decide +kernel)).trans k2) (mStr F.slot_str_lower F.type_str_lower ⟨cBuiltin, ?_⟩))
      unfold WpArgs WpKws
      refine kLower hp.lowP ?_
      unfold WpArgs WpKws
      refine frmV (y := .bool (standOf value page w)) (by simp [AV.unds, AV.und]) trivial (fun K0 h0 => (ellipsis_contract hK hwd.el h0).call) ?_
      refine wName (v := .obj 5) (by rfl) (by rfl) ((e1 _ (by decide +kernel)).trans k4) ?_
      refine wName (v := .str w) (by rfl) (by rfl) ((e1 _ (by decide +kernel)).trans eW) ?_
      refine setD (kvs := dctOf AV.bool sd) (by rfl) (by rw [sizeLine_eq]; simp [dctOf] at hb2 ⊢; omega) ?_
      rw [dctOf_put]
      refine sNil ⟨_, putG w (toldOf rows value w) td, putG w (standOf value page w) sd, ws, rfl, (e1 _ (by decide +kernel)).trans k1, (e1 _ (by decide +kernel)).trans k2, (e1 _ (by decide +kernel)).trans k3, (e1 _ (by decide +kernel)).trans k4, rfl, hF1, hF2, ?_, ?_, fun w' hw' => hw w' (.tail _ hw')⟩
      · have := putG_length w (toldOf rows value w) td
        simp only [List.length_cons] at hb1; omega
      · have := putG_length w (standOf value page w) sd
        simp only [List.length_cons] at hb2; omega
end
end Mine
set_option maxHeartbeats 4000000
namespace Mine
section
variable {X : Cx} {P : Params} {n : Nat} {ae : AEnv} {S : List AO} {K : AV → List AO → Prop} {KF : AF → List AO → Prop} {KU : Unit → List AO → Prop}

noncomputable def drawnOf (ns : List Int) : List Int := (ns.take 5).map (fun i => i.fmod 1000000)
noncomputable def numsOf (ns : List Int) : List Int := drawnOf ns ++ [8, 7, 5, 10].drop (drawnOf ns).length
noncomputable def nameSign (k : Int) : Str := Txt.item (Str.ofString "aAbB") (k.fmod 4)
noncomputable def namesOf (ns : List Int) : Str := Txt.join (Str.ofString "") ((numsOf ns).map nameSign)
noncomputable def lrSign (k : Int) : Str := Txt.item (Str.ofString "ab") ((k.fdiv 4).fmod 2)
noncomputable def leftOf (ns : List Int) : Str := Txt.join (Str.ofString "") (((numsOf ns).take 2).map lrSign)
noncomputable def rightOf (ns : List Int) : Str := Txt.join (Str.ofString "") ((((numsOf ns).drop 2).take 2).map lrSign)
noncomputable def totalOf (ns : List Int) : Int := (numsOf ns).sum
noncomputable def chosenSign (t : Int) : Str := Txt.item (Str.ofString "&<>\"\n\t\x0d;a") (t.fmod 9)
noncomputable def bareOf (t : Int) : Bool := ((t.fdiv 9).fmod 2 == 0) && !Txt.contains (Str.ofString "\n\x0d") (chosenSign t)
noncomputable def valueOf (t : Int) : Str := if bareOf t = true then chosenSign t else c14Upto 6 (chosenSign t)

noncomputable def mixKeys (l r : Str) : List Str := (mixP 4 l r).map (·.1)
noncomputable def mixNum (l r : Str) (w : Str) : Int := ((mixP 4 l r).lookup w).getD 0
noncomputable def spells (names : Str) : List (Str × List Str) := spelledOf (Txt.lower names) (List.range (2 ^ (Txt.lower names).length))

structure LawOk (names left right value : Str) : Prop where
  tl : TlOk names value
  pg : PgOk names value
  ll : left.length = 2
  rl : right.length = 2
  mkl : (pageOf (rowsOf names value)).length ≤ 60000
  last : ((escPage (chosenOf names (2 ^ names.length - 1)) value).cps.toList != (markedOf (pageOf (rowsOf names value))).cps.toList) = false
  an : ∀ ss : List Str, ss.Perm (mixKeys left right) → AnOk (tallyRows names value) value (pageOf (rowsOf names value)) ([left, right] ++ ss)
  low : Builtin.Str.tooLong (Txt.lower names).length = false
  lown : (Txt.lower names).length ≤ 5
  cfl : (((toldOf (tallyRows names value) value left).length : Int) * (toldOf (tallyRows names value) value right).length != ((mixKeys left right).map fun w => mixNum left right w * (toldOf (tallyRows names value) value w).length).sum) = false
  ml : (mixP 4 left right).length < 64
  mo : ∀ w, Builtin.Int.intBits ((toldOf (tallyRows names value) value w).length : Int) ≤ 64
  ans : ∀ w, w ∈ [left, right] ++ mixKeys left right → toldOf (tallyRows names value) value w = ((spells names).lookup w).getD [] ∧ standOf value (pageOf (rowsOf names value)) w = ((spells names).lookup w).isSome

theorem pNone {K : Option Int → List AO → Prop} (h : K none S) : WpPart X n ae none S K := h
theorem pSome {e : Expr} {K : Option Int → List AO → Prop} (h : WpE X n ae S e fun a S1 => ∃ i, a = .int i ∧ K (some i) S1) : WpPart X n ae (some e) S K := h
theorem arg0 {K : List AV → List AO → Prop} (h : K [] S) : WpArgs X n ae [] S K := h
theorem arg {e : Expr} {r : List Expr} {K : List AV → List AO → Prop} (h : WpE X n ae S e fun a S1 => WpArgs X n ae r S1 fun as S2 => K (a :: as) S2) : WpArgs X n ae (e :: r) S K := h
theorem kw0 {K : List (Str × AV) → List AO → Prop} (h : K [] S) : WpKws X n ae [] S K := h

theorem frmN {g : Value} {xs : List AV} {ao : AO} (hx : AV.unds 0 xs) (hao : ao.und 0) (h : ∀ K0 : AV → List AO → Prop, K0 (.hdr 0) [ao] → WpC X n [] (.val g) xs [] K0) (hK : K (.hdr S.length) (S ++ [ao])) : WpC X n S (.val g) xs [] K :=
  frm0 (K0 := fun x aos => x = .hdr 0 ∧ aos = [ao]) hx (by simp [AV.undk]) (h _ ⟨rfl, rfl⟩) fun x aos ⟨e1, e2⟩ => by
    subst e1 e2
    exact ⟨fun b hb => by rw [List.mem_singleton.mp hb]; exact hao, by simpa [AV.sh] using hK⟩
theorem dctOf_keys {α : Type} (f : α → AV) (d : List (Str × α)) : (dctOf f d).map (·.1) = d.map (·.1) := by simp [dctOf, Function.comp_def]
theorem pick5 (xs : List AV) : pickL xs none (some 5) = xs.take 5 := pickL_take xs 5
theorem pick2 (xs : List AV) : pickL xs none (some 2) = xs.take 2 := pickL_take xs 2
theorem pick24 (xs : List AV) (h : 4 ≤ xs.length) : pickL xs (some 2) (some 4) = (xs.drop 2).take 2 := pickL_mid xs 2 4 (by decide) h

theorem foldG_lookup {α : Type} (F : Str → α) (x : Str) : ∀ (ws : List Str) (d : List (Str × α)), (ws.foldl (fun d w => putG w (F w) d) d).lookup x = if x ∈ ws then some (F x) else d.lookup x
  | [], d => by simp
  | w :: ws, d => by
    rw [List.foldl_cons, foldG_lookup F x ws, putG_lookup]
    by_cases h : x ∈ ws
    · rw [if_pos h, if_pos (.tail _ h)]
    · rw [if_neg h]
      by_cases e : x = w
      · subst e; rw [if_pos rfl, if_pos (.head _)]
      · rw [if_neg e, if_neg]
        intro q
        rcases List.mem_cons.mp q with q | q
        · exact e q
        · exact h q
theorem foldG_keys {α : Type} (F : Str → α) : ∀ (ws : List Str) (d : List (Str × α)) (p : Str × α), p ∈ ws.foldl (fun d w => putG w (F w) d) d → p.1 ∈ ws ∨ ∃ q ∈ d, q.1 = p.1
  | [], d, p, h => .inr ⟨p, h, rfl⟩
  | w :: ws, d, p, h => by
    rw [List.foldl_cons] at h
    rcases foldG_keys F ws _ p h with q | ⟨q, hq, e⟩
    · exact .inl (.tail _ q)
    · rcases putG_keys hq with e2 | ⟨q2, hq2, e2⟩
      · exact .inl (by rw [← e, e2]; exact .head _)
      · exact .inr ⟨q2, hq2, e2.trans e⟩
theorem foldG_len {α : Type} (F : Str → α) : ∀ (ws : List Str) (d : List (Str × α)), (ws.foldl (fun d w => putG w (F w) d) d).length ≤ d.length + ws.length
  | [], d => by simp
  | w :: ws, d => by
    rw [List.foldl_cons]
    have h1 := foldG_len F ws (putG w (F w) d)
    have h2 := putG_length w (F w) d
    simp only [List.length_cons]; omega

theorem charAt_in {x : Str} {i : Int} (h0 : 0 ≤ i) (h1 : i < x.length) : (Txt.charAt x i).isSome = true := by
  unfold Txt.charAt
  rw [seqIndex_of h0 h1]
  show (x.cps[i.toNat]?).isSome = true
  have : i.toNat < x.cps.size := by
    have : (x.length : Int) = x.cps.size := rfl
    omega
  rw [Array.getElem?_eq_getElem this]; rfl
theorem fits_small {i : Int} (h0 : 0 ≤ i) (h1 : i < 100) : fitsSsize i = true := by
  unfold fitsSsize
  simp
  omega
theorem fmod_in (k : Int) {m : Int} (hm : 0 < m) : 0 ≤ k.fmod m ∧ k.fmod m < m := ⟨Int.fmod_nonneg_of_pos _ hm, Int.fmod_lt_of_pos _ hm⟩

theorem joinOk_ones {l : List Str} (h : ∀ x ∈ l, x.length = 1) (hn : l.length ≤ 65535) : JoinOk (Str.ofString "") l = true := by
  refine joinOk_of ?_
  have e : (Str.ofString "").length = 0 := by decide +kernel
  rw [e]
  have : ∀ l : List Str, (∀ x ∈ l, x.length = 1) → (l.map (·.length)).sum = l.length := by
    intro l
    induction l with
    | nil => intro _; rfl
    | cons a l ih =>
      intro h
      simp only [List.map_cons, List.sum_cons, List.length_cons, ih fun x hx => h x (.tail _ hx), h a (.head _)]
      omega
  rw [this l h]; omega
theorem filterMap_ints {f : AV → Option AV} {g : Int → AV} (ns : List Int) (h : ∀ k ∈ ns, f (.int k) = some (g k)) : (ns.map AV.int).filterMap f = ns.map g := filterMap_map (e := AV.int) ns h

theorem law_walk (hK : X.K = hd.heap_39 P) (hC : X.C = 210) {ns : List Int} (hl : ns.length ≤ 63) (hO : LawOk (namesOf ns) (leftOf ns) (rightOf ns) (valueOf (totalOf ns))) (h14 : ∀ k, k ≤ 6 → (c14Upto k (chosenSign (totalOf ns))).length ≤ 65535) (h : K (.bool true) [])
    {A : Around} {s : Shared} {v : Value} (hR : Rep X [] [] [] (bump s)) (hv : VR X [] [] s.heap (.lst (ns.map .int)) v) (hr : Room (n + 8) A) :
    codeAny X.M A (.call (.ref 260) ⟨[v], []⟩) (fun r s' => ∃ u, r = .ok (.ret u) ∧ PostV X [] [] [] (bump s) K u s') s := by
  have hdl : (drawnOf ns).length ≤ 5 := by simp [drawnOf]; omega
  have hnl : (numsOf ns).length ≤ 9 := by simp only [numsOf, List.length_append, List.length_drop, List.length_cons, List.length_nil]; omega
  have hn4 : 4 ≤ (numsOf ns).length := by simp only [numsOf, List.length_append, List.length_drop, List.length_cons, List.length_nil]; omega
  refine entryC (x := Str.ofString "script") (av := .lst (ns.map .int)) (by rw [hK]; rfl) (by rw [hK]; rfl) (fun s => .of_eq rfl) (by rfl) hR hv hr ?_
  · clear hR hv hr
    -- drawn
    refine sCons (sLC (compIs0 rfl rfl (by decide +kernel) (by decide +kernel)) (by intro _ _; rfl) (by rfl) (by rfl) ?_)
    refine iE (wSlice (wName (v := .lst (ns.map .int)) (by rfl) (by rfl) (by kernel_rfl) (pNone (pSome (wInt ⟨_, rfl, slLst (by rw [List.length_map, sizeLine_eq]; omega) ⟨_, none, srcLst (fun it hit => trivial), ?_⟩⟩)))))
    rw [pick5, ← List.map_take]
    refine ⟨fun it => match it with | .int k => some (.int (k.fmod 1000000)) | _ => none, by rw [sizeLine_eq]; simp; omega, ?_, ?_, ?_⟩
    · intro it hit v e
      obtain ⟨k, _, rfl⟩ := List.mem_map.mp hit
      cases e; trivial
    · intro it hit
      obtain ⟨k, _, rfl⟩ := List.mem_map.mp hit
      refine turn0 fun xs vars => ?_
      refine aName (nLoc (by rfl) (by rfl) ?_)
      refine wBin (wCallN (wBoot (by rfl) (by rw [hK]; rfl) rfl ⟨_, rfl, cType, arg (wName (v := .int k) (by rfl) (by rfl) (by rw [put_lookup, if_pos rfl]) (arg0 (kw0 ?_)))⟩) (by rfl) (by rfl))
      refine kIntI (wBin (wInt (wInt (oPowC (r := 0) (by decide) (by decide) (by decide) (by decide) (by decide +kernel) ?_))))
      exact oMod (by decide) ⟨_, rfl, rfl⟩
    rw [filterMap_ints (g := fun k => .int (k.fmod 1000000)) _ fun k _ => rfl]
    have e1 : (ns.take 5).map (fun k => AV.int (k.fmod 1000000)) = (drawnOf ns).map AV.int := by simp [drawnOf, Function.comp_def]
    rw [e1]
    refine nLoc (by rfl) (by rfl) ?_
    -- numbers
    have hsl : ∀ (l : List Int), l.length ≤ 63 → (l.map AV.int).length ≤ sizeLine := fun l h => by rw [List.length_map, sizeLine_eq]; omega
    refine sCons (sAsg (wBin (wName (v := .lst ((drawnOf ns).map .int)) (by rfl) (by rfl) (by kernel_rfl) (wSlice (wLst (arg (wInt (arg (wInt (arg (wInt (arg (wInt (arg0 ⟨by rw [sizeLine_eq]; decide, ?_⟩)))))))))))) ) (by rfl))
    refine pSome (wCallN (wBoot (by rfl) (by rw [hK]; rfl) rfl ⟨_, rfl, cBuiltin, arg (wName (v := .lst ((drawnOf ns).map .int)) (by rfl) (by rfl) (by kernel_rfl) (arg0 (kw0 ?_)))⟩) (by rfl) (by rfl))
    refine kLenL (.inl rfl) (hsl _ (by omega)) ⟨_, rfl, pNone (slLst (by rw [sizeLine_eq]; decide) ?_)⟩
    rw [pickL_drop, List.length_map]
    refine oAddL (.inl rfl) (.inl rfl) (by rw [sizeLine_eq]; simp; omega) ?_
    have e2 : (drawnOf ns).map AV.int ++ [AV.int 8, .int 7, .int 5, .int 10].drop (drawnOf ns).length = (numsOf ns).map AV.int := by
      simp [numsOf, List.map_append, List.map_drop]
    rw [e2]
    refine nLoc (by rfl) (by rfl) ?_
    -- names
    refine sCons (sAsg (wCallM (wStr (mStr F.slot_str_join F.type_str_join ⟨cBuiltin, arg ?_⟩)) (by intro _; rfl)) (by rfl))
    refine wLC (compIs0 rfl rfl (by decide +kernel) (by decide +kernel)) (by intro _ _; rfl) (by rfl) ?_
    refine iE (wName (v := .lst ((numsOf ns).map .int)) (by rfl) (by rfl) (by kernel_rfl) ⟨_, none, srcLst (fun it hit => trivial), ?_⟩)
    refine ⟨fun it => match it with | .int k => some (.str (nameSign k)) | _ => none, hsl _ (by omega), ?_, ?_, ?_⟩
    · intro it hit v e
      obtain ⟨k, _, rfl⟩ := List.mem_map.mp hit
      cases e; trivial
    · intro it hit
      obtain ⟨k, _, rfl⟩ := List.mem_map.mp hit
      have hk := fmod_in k (m := 4) (by decide)
      refine turn0 fun xs vars => ?_
      refine aName (nLoc (by rfl) (by rfl) ?_)
      exact wSub (wStr (wBin (wName (v := .int k) (by rfl) (by rfl) (by rw [put_lookup, if_pos rfl]) (wInt (oMod (by decide) (xStr (fits_small hk.1 (by omega)) (charAt_in hk.1 (by rw [show (Str.ofString "aAbB").length = 4 by decide +kernel]; exact hk.2)) ⟨_, rfl, rfl⟩))))))
    rw [filterMap_ints (g := fun k => .str (nameSign k)) _ fun k _ => rfl]
    have e3 : (numsOf ns).map (fun k => AV.str (nameSign k)) = ((numsOf ns).map nameSign).map AV.str := by simp [Function.comp_def]
    rw [e3]
    refine arg0 (kw0 (kJoin (.inl rfl) (joinOk_ones (fun x hx => by obtain ⟨k, _, rfl⟩ := List.mem_map.mp hx; rfl) (by rw [List.length_map]; omega)) ?_))
    refine nLoc (by rfl) (by rfl) ?_
    -- left
    refine sCons (sAsg (wCallM (wStr (mStr F.slot_str_join F.type_str_join ⟨cBuiltin, arg ?_⟩)) (by intro _; rfl)) (by rfl))
    refine wLC (compIs0 rfl rfl (by decide +kernel) (by decide +kernel)) (by intro _ _; rfl) (by rfl) ?_
    refine iE (wSlice (wName (v := .lst ((numsOf ns).map .int)) (by rfl) (by rfl) (by kernel_rfl) (pNone (pSome (wInt ⟨_, rfl, slLst (hsl _ (by omega)) ⟨_, none, srcLst (fun it hit => trivial), ?_⟩⟩)))))
    rw [pick2, ← List.map_take]
    have hlr : ∀ k : Int, 0 ≤ (k.fdiv 4).fmod 2 ∧ (k.fdiv 4).fmod 2 < 2 := fun k => fmod_in _ (by decide)
    refine ⟨fun it => match it with | .int k => some (.str (lrSign k)) | _ => none, hsl _ (by rw [List.length_take]; omega), ?_, ?_, ?_⟩
    · intro it hit v e
      obtain ⟨k, _, rfl⟩ := List.mem_map.mp hit
      cases e; trivial
    · intro it hit
      obtain ⟨k, _, rfl⟩ := List.mem_map.mp hit
      refine turn0 fun xs vars => ?_
      refine aName (nLoc (by rfl) (by rfl) ?_)
      exact wSub (wStr (wBin (wBin (wName (v := .int k) (by rfl) (by rfl) (by rw [put_lookup, if_pos rfl]) (wInt (oDiv (by decide) (by decide) (wInt (oMod (by decide) (xStr (fits_small (hlr k).1 (by have := (hlr k).2; omega)) (charAt_in (hlr k).1 (by rw [show (Str.ofString "ab").length = 2 by decide +kernel]; exact (hlr k).2)) ⟨_, rfl, rfl⟩)))))))))
    rw [filterMap_ints (g := fun k => .str (lrSign k)) _ fun k _ => rfl]
    have e4 : ((numsOf ns).take 2).map (fun k => AV.str (lrSign k)) = (((numsOf ns).take 2).map lrSign).map AV.str := by simp [Function.comp_def]
    rw [e4]
    refine arg0 (kw0 (kJoin (.inl rfl) (joinOk_ones (fun x hx => by obtain ⟨k, _, rfl⟩ := List.mem_map.mp hx; rfl) (by rw [List.length_map, List.length_take]; omega)) ?_))
    refine nLoc (by rfl) (by rfl) ?_
    -- right
    refine sCons (sAsg (wCallM (wStr (mStr F.slot_str_join F.type_str_join ⟨cBuiltin, arg ?_⟩)) (by intro _; rfl)) (by rfl))
    refine wLC (compIs0 rfl rfl (by decide +kernel) (by decide +kernel)) (by intro _ _; rfl) (by rfl) ?_
    refine iE (wSlice (wName (v := .lst ((numsOf ns).map .int)) (by rfl) (by rfl) (by kernel_rfl) (pSome (wInt ⟨_, rfl, pSome (wInt ⟨_, rfl, slLst (hsl _ (by omega)) ⟨_, none, srcLst (fun it hit => trivial), ?_⟩⟩)⟩))))
    rw [pick24 _ (by rw [List.length_map]; exact hn4), ← List.map_drop, ← List.map_take]
    refine ⟨fun it => match it with | .int k => some (.str (lrSign k)) | _ => none, hsl _ (by rw [List.length_take]; omega), ?_, ?_, ?_⟩
    · intro it hit v e
      obtain ⟨k, _, rfl⟩ := List.mem_map.mp hit
      cases e; trivial
    · intro it hit
      obtain ⟨k, _, rfl⟩ := List.mem_map.mp hit
      refine turn0 fun xs vars => ?_
      refine aName (nLoc (by rfl) (by rfl) ?_)
      exact wSub (wStr (wBin (wBin (wName (v := .int k) (by rfl) (by rfl) (by rw [put_lookup, if_pos rfl]) (wInt (oDiv (by decide) (by decide) (wInt (oMod (by decide) (xStr (fits_small (hlr k).1 (by have := (hlr k).2; omega)) (charAt_in (hlr k).1 (by rw [show (Str.ofString "ab").length = 2 by decide +kernel]; exact (hlr k).2)) ⟨_, rfl, rfl⟩)))))))))
    rw [filterMap_ints (g := fun k => .str (lrSign k)) _ fun k _ => rfl]
    have e5 : (((numsOf ns).drop 2).take 2).map (fun k => AV.str (lrSign k)) = ((((numsOf ns).drop 2).take 2).map lrSign).map AV.str := by simp [Function.comp_def]
    rw [e5]
    refine arg0 (kw0 (kJoin (.inl rfl) (joinOk_ones (fun x hx => by obtain ⟨k, _, rfl⟩ := List.mem_map.mp hx; rfl) (by rw [List.length_map, List.length_take]; omega)) ?_))
    refine nLoc (by rfl) (by rfl) ?_
    -- total, chosen
    refine sCons (sAsg (wCallN (wBoot (by rfl) (by rw [hK]; rfl) rfl ⟨_, rfl, cBuiltin, arg (wName (v := .lst ((numsOf ns).map .int)) (by rfl) (by rfl) (by kernel_rfl) (arg0 (kw0 (kSum (.inl rfl) ?_))))⟩) (by rfl) (by rfl)) (by rfl))
    refine nLoc (by rfl) (by rfl) ?_
    have ht := fmod_in (totalOf ns) (m := 9) (by decide)
    refine sCons (sAsg (wSub (wStr (wBin (wName (v := .int (totalOf ns)) (by rfl) (by rfl) (by kernel_rfl) (wInt (oMod (by decide) (xStr (fits_small ht.1 (by omega)) (charAt_in ht.1 (by rw [show (Str.ofString "&<>\"\n\t\x0d;a").length = 9 by decide +kernel]; exact ht.2)) ?_))))))) (by rfl))
    refine nLoc (by rfl) (by rfl) ?_
    -- bare
    refine sCons (WpS.mono (K := fun g S3 => g = .next ∧ ∃ vars : List (Str × AV), S3 = [.ns vars, .cell none, .cell none, .cell none, .cell none] ∧ vars.lookup (Str.ofString "names") = some (.str (namesOf ns)) ∧ vars.lookup (Str.ofString "left") = some (.str (leftOf ns)) ∧ vars.lookup (Str.ofString "right") = some (.str (rightOf ns))
      ∧ vars.lookup (Str.ofString "chosen") = some (.str (chosenSign (totalOf ns))) ∧ vars.lookup (Str.ofString "bare") = some (.bool (bareOf (totalOf ns)))) (sAsg ?_ (by rfl)) fun g S3 ⟨hg, vars, hS3, n1, n2, n3, n4, n5⟩ => ?_)
    · refine wAnd (wCmp ?_)
      refine wBin (wBin (wName (v := .int (totalOf ns)) (by rfl) (by rfl) (by kernel_rfl) ?_))
      refine wInt (oDiv (by decide) (by decide) ?_)
      refine wInt (oMod (by decide) ?_)
      refine wInt (oEqI (tBool ?_))
      cases hb1 : (((totalOf ns).fdiv 9).fmod 2 == 0) with
      | false =>
        rw [if_neg (by decide)]
        refine nLoc (by rfl) (by rfl) ⟨rfl, _, rfl, by kernel_rfl, by kernel_rfl, by kernel_rfl, by kernel_rfl, ?_⟩
        rw [put_lookup, if_pos rfl]; unfold bareOf; rw [hb1]; rfl
      | true =>
        rw [if_pos rfl]
        refine wAnd1 (wCmp (wName (v := .str (chosenSign (totalOf ns))) (by rfl) (by rfl) (by kernel_rfl) (wStr (oNotInS ?_))))
        refine nLoc (by rfl) (by rfl) ⟨rfl, _, rfl, by kernel_rfl, by kernel_rfl, by kernel_rfl, by kernel_rfl, ?_⟩
        rw [put_lookup, if_pos rfl]; unfold bareOf; rw [hb1, Bool.true_and]
    subst hg hS3
    -- value
    refine sCons (WpS.mono (K := fun g S3 => g = .next ∧ S3 = [.ns (put (Str.ofString "value") (.str (valueOf (totalOf ns))) vars), .cell none, .cell none, .cell none, .cell none]) (sAsg (wIf (bVal (wName (v := .bool (bareOf (totalOf ns))) (by rfl) (by rfl) n5 (tBool ?_)))) (by rfl)) fun g S3 ⟨hg, hS3⟩ => ?_)
    · cases hb1 : bareOf (totalOf ns) with
      | true =>
        rw [if_pos rfl]
        refine wName (v := .str (chosenSign (totalOf ns))) (by rfl) (by rfl) n4 (nLoc (by rfl) (by rfl) ⟨rfl, ?_⟩)
        have : valueOf (totalOf ns) = chosenSign (totalOf ns) := by unfold valueOf; rw [if_pos hb1]
        rw [this]; rfl
      | false =>
        rw [if_neg (by decide)]
        refine wCallN (wGlob (v := .ref 59) (av := .val (.ref 59)) (by rfl) (by rw [hK]; rfl) (fun _ _ _ => by simp) ⟨_, rfl, cFn (by rw [hK]; rfl), arg (wName (v := .str (chosenSign (totalOf ns))) (by rfl) (by rfl) n4 (arg0 (kw0 ?_)))⟩) (by rfl) (by rfl)
        refine frmS (y := c14Upto 6 (chosenSign (totalOf ns))) (by simp [AV.unds, AV.und]) (fun K0 h0 => (c14_contract hK h14 h0).call) (nLoc (by rfl) (by rfl) ⟨rfl, ?_⟩)
        have : valueOf (totalOf ns) = c14Upto 6 (chosenSign (totalOf ns)) := by unfold valueOf; rw [if_neg (by rw [hb1]; decide)]
        rw [this]; rfl
    subst hg hS3
    generalize hV : put (Str.ofString "value") (.str (valueOf (totalOf ns))) vars = V
    have e0 : ∀ x : Str, (x == Str.ofString "value") = false → V.lookup x = vars.lookup x := fun x hx => by
      rw [← hV, put_lookup, if_neg (by intro q; subst q; simp at hx)]
    have m1 := (e0 _ (by decide +kernel)).trans n1
    have m2 := (e0 _ (by decide +kernel)).trans n2
    have m3 := (e0 _ (by decide +kernel)).trans n3
    have m4 : V.lookup (Str.ofString "value") = some (.str (valueOf (totalOf ns))) := by rw [← hV, put_lookup, if_pos rfl]
    clear hV n1 n2 n3 n4 n5 e0 h14
    generalize namesOf ns = N at hO m1
    generalize leftOf ns = L at hO m2
    generalize rightOf ns = R at hO m3
    generalize valueOf (totalOf ns) = W at hO m4
    -- mixed
    have hkey := mixP_key 4 L R
    have hmlen : (mixP 4 L R).length ≤ 81 := mixP_len 4 L R
    refine sCons (sAsg (wCallN (wGlob (v := .ref 250) (av := .val (.ref 250)) (by rfl) (by rw [hK]; rfl) (fun _ _ _ => by simp) ⟨_, rfl, cFn (by rw [hK]; rfl), arg (wName (v := .str L) (by rfl) (by rfl) m2 (arg (wName (v := .str R) (by rfl) (by rfl) m3 (arg0 (kw0 ?_)))))⟩) (by rfl) (by rfl)) (by rfl))
    refine frmV (y := .dct (dctOf AV.int (mixP 4 L R))) (by simp [AV.unds, AV.und]) (dctOf_und (f := AV.int) (fun _ => trivial) _) (fun K0 h0 => (mixed_contract (n := n + 2) hK 4 (by decide) L R K0 (by have := hO.ll; have := hO.rl; omega) (by decide) h0).call) ?_
    refine nCell (i := 1) (v0 := none) (by rfl) (by rfl) (by rfl) ?_
    -- page, tally
    refine sCons (sAsgTs (names := [Str.ofString "page", Str.ofString "tally"]) (by rfl) (wTup (arg ?_)))
    refine wCallN (wGlob (v := .ref 219) (av := .val (.ref 219)) (by rfl) (by rw [hK]; rfl) (fun _ _ _ => by simp) ⟨_, rfl, cFn (by rw [hK]; rfl), arg (wName (v := .str N) (by rfl) (by rfl) m1 (arg (wName (v := .str W) (by rfl) (by rfl) m4 (arg0 (kw0 ?_)))))⟩) (by rfl) (by rfl)
    refine frmS (y := pageOf (rowsOf N W)) (by simp [AV.unds, AV.und]) (fun K0 h0 => (page_contract hK hC hO.pg h0).call) (arg ?_)
    refine wCallN (wGlob (v := .ref 231) (av := .val (.ref 231)) (by rfl) (by rw [hK]; rfl) (fun _ _ _ => by simp) ⟨_, rfl, cFn (by rw [hK]; rfl), arg (wName (v := .str N) (by rfl) (by rfl) m1 (arg (wName (v := .str W) (by rfl) (by rfl) m4 (arg0 (kw0 ?_)))))⟩) (by rfl) (by rfl)
    refine frmN (ao := .lst ((tallyRows N W).map rowAV)) (by simp [AV.unds, AV.und]) (show AV.unds _ _ from rows_und _ _) (fun K0 h0 => (tally_contract hK hC hO.tl h0).call) (arg0 ⟨by rw [sizeLine_eq]; simp, _, rfl, rfl, ?_⟩)
    unfold WpNs
    refine nLoc (by rfl) (by rfl) ?_
    unfold WpNs
    refine nLoc (by rfl) (by rfl) ?_
    unfold WpNs
    show WpSs X (n + 7) _ [.ns (put (Str.ofString "page") (.str (pageOf (rowsOf N W))) (put (Str.ofString "tally") (.hdr 5) V)), .cell (some (.dct (dctOf AV.int (mixP 4 L R)))), .cell none, .cell none, .cell none, .lst ((tallyRows N W).map rowAV)] _ _
    generalize hV2 : put (Str.ofString "page") (.str (pageOf (rowsOf N W))) (put (Str.ofString "tally") (.hdr 5) V) = V2
    have e0 : ∀ x : Str, (x == Str.ofString "page" || x == Str.ofString "tally") = false → V2.lookup x = V.lookup x := fun x hx => by
      rw [← hV2, put_lookup, if_neg (by intro q; subst q; simp at hx), put_lookup, if_neg (by intro q; subst q; simp at hx)]
    have p1 := (e0 _ (by decide +kernel)).trans m1
    have p2 := (e0 _ (by decide +kernel)).trans m2
    have p3 := (e0 _ (by decide +kernel)).trans m3
    have p4 := (e0 _ (by decide +kernel)).trans m4
    have p5 : V2.lookup (Str.ofString "page") = some (.str (pageOf (rowsOf N W))) := by rw [← hV2, put_lookup, if_pos rfl]
    have p6 : V2.lookup (Str.ofString "tally") = some (.hdr 5) := by rw [← hV2, put_lookup, if_neg (by decide +kernel), put_lookup, if_pos rfl]
    clear hV2 m1 m2 m3 m4 e0
    have hrl : (tallyRows N W).length = 2 ^ N.length := by simp [tallyRows]
    have hN32 : 2 ^ N.length ≤ 32 := (Nat.pow_le_pow_right (show 0 < 2 by decide) hO.tl.len : 2 ^ N.length ≤ 2 ^ 5)
    have hNpos : 0 < 2 ^ N.length := Nat.pow_pos (by decide)
    -- if
    refine sCons (sIf (bCmp (wSub (wCallM (wName (v := .hdr 5) (by rfl) (by rfl) p6 (mOwn (f := 162) (.inl ⟨5, rfl, by rw [if_neg (by decide +kernel)]⟩) (by rw [hK, hC]; rfl) (by rw [hK, hC]; rfl) (by rw [hK]; rfl) ⟨cFn (by rw [hK]; rfl), arg0 (kw0 ?_)⟩))))))
    refine frmH (i := 5) (rows := (tallyRows N W).map rowAV) (rows' := (tallyRows N W).map rowAV) (xs := [.hdr 0]) (y := .lst ((tallyRows N W).map fun p : Str × Str => AV.str p.1)) (by rfl) (rows_und _ _) (rows_und _ _) (show AV.unds _ _ from unds_map (g := fun p : Str × Str => AV.str p.1) (fun _ => trivial) _)
      ⟨_, _, rfl, .inl ⟨rfl, rfl⟩, rfl⟩ (fun K0 h0 => (keys_contract hK hC (by omega) h0).call) ?_
    have hlast : ((tallyRows N W).map fun p => AV.str p.1)[2 ^ N.length - 1]? = some (.str (escPage (chosenOf N (2 ^ N.length - 1)) W)) := by
      rw [List.getElem?_map]
      unfold tallyRows
      rw [List.getElem?_map, List.getElem?_range (by omega)]; rfl
    refine wOp1 (wInt (uNeg (xLst (j := 2 ^ N.length - 1) ?_ hlast ?_)))
    · rw [seq_last (by rw [List.length_map, hrl]; exact hNpos), List.length_map, hrl]
    refine wCallN (wGlob (v := .ref 243) (av := .val (.ref 243)) (by rfl) (by rw [hK]; rfl) (fun _ _ _ => by simp) ⟨_, rfl, cFn (by rw [hK]; rfl), arg (wName (v := .str (pageOf (rowsOf N W))) (by rfl) (by rfl) p5 (arg0 (kw0 ?_)))⟩) (by rfl) (by rfl)
    refine frmS (y := markedOf (pageOf (rowsOf N W))) (by simp [AV.unds, AV.und]) (fun K0 h0 => (marked_contract hK hO.mkl h0).call) (oNeS (tBool ?_))
    rw [hO.last, if_neg (by decide)]
    -- answers
    refine sNil (sCons (sAsgT (wCallN (wGlob (v := .ref 255) (av := .val (.ref 255)) (by rfl) (by rw [hK]; rfl) (fun _ _ _ => by simp) ⟨_, rfl, cFn (by rw [hK]; rfl), arg ?_⟩) (by rfl) (by rfl))))
    refine wBin (wLst (arg (wName (v := .str L) (by rfl) (by rfl) p2 (arg (wName (v := .str R) (by rfl) (by rfl) p3 (arg0 ⟨by rw [sizeLine_eq]; simp, ?_⟩))))))
    refine wCallN (wBoot (by rfl) (by rw [hK]; rfl) rfl ⟨_, rfl, cBuiltin, arg (wCell (i := 1) (v := .dct (dctOf AV.int (mixP 4 L R))) (.inl (by rfl)) (by rfl) (by rfl) (arg0 (kw0 ?_)))⟩) (by rfl) (by rfl)
    refine kSortedD (.inl rfl) (by simp only [dctOf, List.length_map]; exact hO.ml) (fun q hq => ?_) fun ss hss => ?_
    · obtain ⟨p, hp, rfl⟩ := List.mem_map.mp hq
      have := hkey p hp
      have := hO.ll
      have := hO.rl
      rw [sizeLine_eq]; simp only; omega
    rw [dctOf_keys] at hss
    have hA := hO.an ss hss
    have hsl2 : ss.length < 64 := by have := hss.length_eq; rw [List.length_map] at this; have := hO.ml; omega
    refine oAddL (.inl rfl) (.inl rfl) (by rw [sizeLine_eq, List.length_map]; simp; omega) ?_
    have hwords : [AV.str L, .str R] ++ ss.map AV.str = ([L, R] ++ ss).map AV.str := by simp
    rw [hwords]
    generalize hWs : [L, R] ++ ss = Ws at hA
    have hmem : ∀ w, w ∈ Ws ↔ w ∈ [L, R] ++ mixKeys L R := fun w => by
      rw [← hWs, List.mem_append, List.mem_append, hss.mem_iff]; rfl
    refine arg (wName (v := .hdr 5) (by rfl) (by rfl) p6 (arg (wName (v := .str (pageOf (rowsOf N W))) (by rfl) (by rfl) p5 (arg (wName (v := .str W) (by rfl) (by rfl) p4 (arg0 (kw0 ?_)))))))
    refine frmH (i := 5) (rows := (tallyRows N W).map rowAV) (rows' := (tallyRows N W).map rowAV) (xs := [.lst (Ws.map .str), .hdr 0, .str (pageOf (rowsOf N W)), .str W])
      (y := .tup [.dct (dctOf strsAV (tellAll (tallyRows N W) W [] Ws)), .dct (dctOf AV.bool (standAll W (pageOf (rowsOf N W)) [] Ws))]) (by rfl) (rows_und _ _) (rows_und _ _)
      ⟨dctOf_und (f := strsAV) (fun l => show AV.unds _ _ from strs_und l _) _, dctOf_und (f := AV.bool) (fun _ => trivial) _, trivial⟩
      ⟨_, _, rfl, .inr ⟨show AV.unds _ _ from strs_und _ _, rfl⟩, _, _, rfl, .inl ⟨rfl, rfl⟩, _, _, rfl, .inr ⟨trivial, rfl⟩, _, _, rfl, .inr ⟨trivial, rfl⟩, rfl⟩ (fun K0 h0 => (answers_contract hK hC hA h0).call) ?_
    refine ⟨_, rfl, rfl, trivial, aName (nCell (i := 2) (v0 := none) (by rfl) (by rfl) (by rfl) ⟨trivial, aName (nCell (i := 3) (v0 := none) (by rfl) (by rfl) (by rfl) ?_)⟩)⟩
    show WpSs X (n + 7) _ [.ns V2, .cell (some (.dct (dctOf AV.int (mixP 4 L R)))), .cell (some (.dct (dctOf strsAV (tellAll (tallyRows N W) W [] Ws)))), .cell (some (.dct (dctOf AV.bool (standAll W (pageOf (rowsOf N W)) [] Ws)))), .cell none, .lst ((tallyRows N W).map rowAV)] _ _
    have hT : ∀ w, w ∈ Ws → (dctOf strsAV (tellAll (tallyRows N W) W [] Ws)).lookup w = some (strsAV (toldOf (tallyRows N W) W w)) := fun w hw => by
      rw [dctOf_lookup]; unfold tellAll; rw [foldG_lookup, if_pos hw]; rfl
    have hSt : ∀ w, w ∈ Ws → (dctOf AV.bool (standAll W (pageOf (rowsOf N W)) [] Ws)).lookup w = some (.bool (standOf W (pageOf (rowsOf N W)) w)) := fun w hw => by
      rw [dctOf_lookup]; unfold standAll; rw [foldG_lookup, if_pos hw]; rfl
    have hTk : ∀ q ∈ dctOf strsAV (tellAll (tallyRows N W) W [] Ws), q.1 ∈ Ws := fun q hq => by
      obtain ⟨p, hp, rfl⟩ := List.mem_map.mp hq
      rcases foldG_keys _ Ws [] p hp with e | ⟨_, e, _⟩
      · exact e
      · cases e
    have hTn : (tellAll (tallyRows N W) W [] Ws).length ≤ 65535 := by
      have h1 := foldG_len (fun w => toldOf (tallyRows N W) W w) Ws []
      have h2 := hA.wl
      simp only [List.length_nil] at h1
      exact Nat.le_trans h1 (by omega)
    have hTl : ∀ w, (toldOf (tallyRows N W) W w).length ≤ 32 := fun w => by
      unfold toldOf
      rw [List.length_map]
      exact Nat.le_trans (List.length_filter_le _ _) (by omega)
    have hTl2 : ∀ w, ((toldOf (tallyRows N W) W w).map AV.str).length ≤ sizeLine := fun w => by have := hTl w; rw [List.length_map, sizeLine_eq]; omega
    have hLW : L ∈ Ws := (hmem L).mpr (.head _)
    have hRW : R ∈ Ws := (hmem R).mpr (.tail _ (.head _))
    generalize tellAll (tallyRows N W) W [] Ws = TD at hT hTk hTn
    generalize standAll W (pageOf (rowsOf N W)) [] Ws = SD at hSt
    -- if
    refine sCons (sIf (bCmp (wBin ?_)))
    refine wCallN (wBoot (by rfl) (by rw [hK]; rfl) rfl ⟨_, rfl, cBuiltin, arg (wSub (wCell (i := 2) (v := .dct (dctOf strsAV TD)) (.inl (by rfl)) (by rfl) (by rfl) (wName (v := .str L) (by rfl) (by rfl) p2 (xDct (.inl rfl) (hT L hLW) (arg0 (kw0 ?_))))))⟩) (by rfl) (by rfl)
    refine kLenL (xs := (toldOf (tallyRows N W) W L).map .str) (.inl rfl) (hTl2 L) ?_
    refine wCallN (wBoot (by rfl) (by rw [hK]; rfl) rfl ⟨_, rfl, cBuiltin, arg (wSub (wCell (i := 2) (v := .dct (dctOf strsAV TD)) (.inl (by rfl)) (by rfl) (by rfl) (wName (v := .str R) (by rfl) (by rfl) p3 (xDct (.inl rfl) (hT R hRW) (arg0 (kw0 ?_))))))⟩) (by rfl) (by rfl)
    refine kLenL (xs := (toldOf (tallyRows N W) W R).map .str) (.inl rfl) (hTl2 R) ?_
    rw [List.length_map, List.length_map]
    refine oMul (.of_right (hO.mo R)) ?_
    refine wCallN (wBoot (by rfl) (by rw [hK]; rfl) rfl ⟨_, rfl, cBuiltin, arg ?_⟩) (by rfl) (by rfl)
    refine wLC ⟨rfl, (fun g hg => by cases List.mem_singleton.mp hg; rfl), ?_, by decide +kernel⟩ (by intro _ _; rfl) (by rfl) ?_
    · intro y hy e
      simp at hy
      rcases hy with rfl | rfl | rfl | rfl | rfl
      · cases e
      · cases e
      · cases e
      · rfl
      · rfl
    refine iE (wCell (i := 1) (v := .dct (dctOf AV.int (mixP 4 L R))) (.inl (by rfl)) (by rfl) (by rfl) ⟨_, none, srcDct ?_, ?_⟩)
    · intro q hq
      obtain ⟨p, hp, rfl⟩ := List.mem_map.mp hq
      have := hkey p hp
      have := hO.ll
      have := hO.rl
      rw [sizeLine_eq]; simp only; omega
    have eK : (dctOf AV.int (mixP 4 L R)).map (fun q => AV.str q.1) = (mixKeys L R).map AV.str := by simp [dctOf, mixKeys, Function.comp_def]
    rw [eK]
    refine ⟨fun it => match it with | .str w => some (.int (mixNum L R w * ((toldOf (tallyRows N W) W w).length : Int))) | _ => none, ?_, ?_, ?_, ?_⟩
    · have := hO.ml; rw [sizeLine_eq]; simp only [mixKeys, List.length_map]; omega
    · intro it hit v e
      obtain ⟨k, _, rfl⟩ := List.mem_map.mp hit
      cases e; trivial
    · intro it hit
      obtain ⟨w, hw, rfl⟩ := List.mem_map.mp hit
      have hwW : w ∈ Ws := (hmem w).mpr (List.mem_append_right _ hw)
      obtain ⟨v, hv⟩ := lookup_mem (d := mixP 4 L R) hw
      refine turn0 fun xs vars => ?_
      refine aName (nLoc (by rfl) (by rfl) ?_)
      refine wBin (wSub (wCell (i := 1) (v := .dct (dctOf AV.int (mixP 4 L R))) (by first | exact .inl (by rfl) | exact .inr (by kernel_rfl) | exact .inl (by kernel_rfl)) (by first | rfl | kernel_rfl) (by rfl) (wName (v := .str w) (by rfl) (by rfl) (by rw [put_lookup, if_pos rfl]) (xDct (y := .int v) (.inl rfl) (by rw [dctOf_lookup, hv]; rfl) ?_))))
      refine wCallN (wBoot (by rfl) (by rw [hK]; rfl) rfl ⟨_, rfl, cBuiltin, arg (wSub (wCell (i := 2) (v := .dct (dctOf strsAV TD)) (by first | exact .inl (by rfl) | exact .inr (by kernel_rfl) | exact .inl (by kernel_rfl)) (by first | rfl | kernel_rfl) (by rfl) (wName (v := .str w) (by rfl) (by rfl) (by rw [put_lookup, if_pos rfl]) (xDct (.inl rfl) (hT w hwW) (arg0 (kw0 ?_))))))⟩) (by rfl) (by rfl)
      refine kLenL (xs := (toldOf (tallyRows N W) W w).map .str) (.inl rfl) (hTl2 w) ?_
      rw [List.length_map]
      refine oMul (.of_right (hO.mo w)) ⟨_, rfl, ?_⟩
      simp only [mixNum, hv, Option.getD_some]
    refine arg0 (kw0 ?_)
    have eS : ((mixKeys L R).map AV.str).filterMap (fun it => match it with | .str w => some (.int (mixNum L R w * ((toldOf (tallyRows N W) W w).length : Int))) | _ => none) = ((mixKeys L R).map fun w => mixNum L R w * ((toldOf (tallyRows N W) W w).length : Int)).map AV.int := by
      refine (filterMap_map (e := AV.str) (g := fun w => AV.int (mixNum L R w * ((toldOf (tallyRows N W) W w).length : Int))) _ fun p _ => rfl).trans ?_
      rw [List.map_map]; rfl
    rw [eS]
    refine kSum (.inl rfl) (oNeI (tBool ?_))
    rw [hO.cfl, if_neg (by decide)]
    -- spelled
    refine sNil (sCons (sAsg (wCallN (wGlob (v := .ref 238) (av := .val (.ref 238)) (by rfl) (by rw [hK]; rfl) (fun _ _ _ => by simp) ⟨_, rfl, cFn (by rw [hK]; rfl), arg ?_⟩) (by rfl) (by rfl)) (by rfl)))
    refine wCallM (wName (v := .str N) (by rfl) (by rfl) p1 (mStr F.slot_str_lower F.type_str_lower ⟨cBuiltin, arg0 (kw0 (kLower hO.low (arg0 (kw0 ?_))))⟩))
    refine frmV (y := .dct (dctOf strsAV (spells N))) (by simp [AV.unds, AV.und]) (dctOf_und (f := strsAV) (fun l => show AV.unds _ _ from strs_und l _) _) (fun K0 h0 => (spelled_contract hK hO.lown h0).call) ?_
    refine nCell (i := 4) (v0 := none) (by rfl) (by rfl) (by rfl) ?_
    -- all
    refine sCons (sRet (wCallN (wBoot (by rfl) (by rw [hK]; rfl) rfl ⟨_, rfl, cBuiltin, arg ?_⟩) (by rfl) (by rfl)))
    refine wLC ⟨rfl, (fun g hg => by cases List.mem_singleton.mp hg; rfl), ?_, by decide +kernel⟩ (by intro _ _; rfl) (by rfl) ?_
    · intro y hy e
      simp at hy
      rcases hy with rfl | rfl | rfl | rfl | rfl
      · cases e
      · cases e
      · rfl
      · rfl
      · rfl
    refine iE (wCell (i := 2) (v := .dct (dctOf strsAV TD)) (.inl (by rfl)) (by rfl) (by rfl) ⟨_, none, srcDct ?_, ?_⟩)
    · intro q hq
      have := (hA.each _ (hTk q hq)).pg.len
      rw [sizeLine_eq]; omega
    refine ⟨fun it => some (.bool true), by rw [sizeLine_eq]; simp only [dctOf, List.length_map]; omega, ?_, ?_, ?_⟩
    · intro it hit v e
      cases e; trivial
    · intro it hit
      obtain ⟨q, hq, rfl⟩ := List.mem_map.mp hit
      have hwW := hTk q hq
      obtain ⟨w, z⟩ := q
      have hans := hO.ans w ((hmem w).mp hwW)
      refine turn0 fun xs vars => ?_
      refine aName (nLoc (by rfl) (by rfl) ?_)
      refine wAnd (wCmp (wSub (wCell (i := 2) (v := .dct (dctOf strsAV TD)) (by first | exact .inl (by rfl) | exact .inr (by kernel_rfl) | exact .inl (by kernel_rfl)) (by first | rfl | kernel_rfl) (by rfl) (wName (v := .str w) (by rfl) (by rfl) (by rw [put_lookup, if_pos rfl]) (xDct (.inl rfl) (hT w hwW) ?_)))))
      refine wCallM (wCell (i := 4) (v := .dct (dctOf strsAV (spells N))) (by first | exact .inl (by rfl) | exact .inr (by kernel_rfl) | exact .inl (by kernel_rfl)) (by first | rfl | kernel_rfl) (by rfl) (mDct (kvs := dctOf strsAV (spells N)) (.inl rfl) F.slot_dict_get F.type_dict_get ⟨cBuiltin, arg (wName (v := .str w) (by rfl) (by rfl) (by rw [put_lookup, if_pos rfl]) (arg (wLst (arg0 ⟨by decide +kernel, arg0 (kw0 ?_)⟩))))⟩))
      refine kGet2 (.inl rfl) ?_
      have hv : (((dctOf strsAV (spells N)).lookup w).getD (.lst [])) = .lst ((((spells N).lookup w).getD []).map .str) := by
        rw [dctOf_lookup]
        cases (spells N).lookup w <;> rfl
      rw [hv, ← hans.1]
      refine oEqStrs (xs := toldOf (tallyRows N W) W w) (.inl rfl) (.inl rfl) (tBool ?_)
      rw [if_pos (by simp)]
      refine wAnd1 (wCmp (wSub (wCell (i := 3) (v := .dct (dctOf AV.bool SD)) (by first | exact .inl (by rfl) | exact .inr (by kernel_rfl) | exact .inl (by kernel_rfl)) (by first | rfl | kernel_rfl) (by rfl) (wName (v := .str w) (by rfl) (by rfl) (by rw [put_lookup, if_pos rfl]) (xDct (.inl rfl) (hSt w hwW) ?_)))))
      refine wCmp (wName (v := .str w) (by rfl) (by rfl) (by rw [put_lookup, if_pos rfl]) (wCell (i := 4) (v := .dct (dctOf strsAV (spells N))) (by first | exact .inl (by rfl) | exact .inr (by kernel_rfl) | exact .inl (by kernel_rfl)) (by first | rfl | kernel_rfl) (by rfl) (oInD (.inl rfl) ?_)))
      have hb : ((dctOf strsAV (spells N)).lookup w).isSome = standOf W (pageOf (rowsOf N W)) w := by
        rw [hans.2, dctOf_lookup]
        cases (spells N).lookup w <;> rfl
      rw [hb]
      refine oIs rfl rfl (by rfl) ⟨_, rfl, ?_⟩
      have : (Value.bool (standOf W (pageOf (rowsOf N W)) w) == Value.bool (standOf W (pageOf (rowsOf N W)) w)) = true := by
        cases standOf W (pageOf (rowsOf N W)) w <;> rfl
      rw [this]
    refine arg0 (kw0 ?_)
    have eA : ((dctOf strsAV TD).map (fun q => AV.str q.1)).filterMap (fun _ => some (AV.bool true)) = ((dctOf strsAV TD).map fun _ => true).map AV.bool := by
      rw [List.filterMap_map, List.map_map]
      exact List.filterMap_eq_map (f := fun _ => AV.bool true) ▸ rfl
    rw [eA]
    refine kAll (.inl rfl) ?_
    have eT : (((dctOf strsAV TD).map fun _ => true).all id) = true := by simp
    rw [eT]
    exact leaveU (fun i ao e => by cases i <;> cases e) fzBool h
end
end Mine
set_option maxHeartbeats 8000000
namespace Mine
theorem post_true (a : List WData) : PySem.Challenge.rw_tc0046_03.row.claim.post a (.bool true) a = true := by kernel_rfl
theorem ints_VRs {X : Cx} {ρ T : List Addr} {h : Heap} : ∀ {vs : List Value} {ns : List Int}, IntsAre vs ns → VRs X ρ T h (ns.map .int) vs
  | _, _, .nil => VRs_nil.mpr rfl
  | _, _, .cons n t r => VRs_cons.mpr ⟨_, _, rfl, VR_int.mpr ⟨t, rfl⟩, ints_VRs r⟩
theorem law3_of (H : ∀ ns : List Int, ns.length ≤ 63 → LawOk (namesOf ns) (leftOf ns) (rightOf ns) (valueOf (totalOf ns)) ∧ ∀ k, k ≤ 6 → (c14Upto k (chosenSign (totalOf ns))).length ≤ 65535) : PySem.Challenge.rw_tc0046_03.Holds := hd (by
  intro w s₀ s₁ mg mb G Y fa o pm cd doc dV kV ho hd' hcd hD hmg hg args vals as hpre hlay hrd hwl hlo
  have KX := kIn_of Y
  refine Ground.open G ?_
  intro T B D TE TW
  wrow_args hpre hlay hrd hwl hlo
  have hfa : some (Value.ref fa) = some (Value.ref 260) := hmg.symm.trans (mg_of KX T.g (n := Str.ofString "law") (v := .ref 260) rfl)
  cases hfa
  clear hmg hcd hD hd' D ho B G Y TE TW
  rename_i ns _ _ _ _ _ _ _ l vs _ hL _ _ _ hI _ hlen _
  have hl63 : ns.length ≤ 63 := by simp at hlen; omega
  obtain ⟨hO, h14⟩ := H ns hl63
  let X : Cx := { prog := PySem.Challenge.rw_tc0046_03.row.prog, w := w, K := hd.heap_39 w.params, p := hd.view_39, loose := _, mg := mg, mb := mb, C := 210, r := s₁, kin := KX, top := topRead_of T }
  have hR : Rep X [] [] [] (bump s₁) := {
    keep := fun b o e => e
    len := rfl
    obj := fun i ao a e _ => by simp at e
    nodup := List.nodup_nil
    nosys := fun a h => by cases h
    sub := fun a h => by cases h
    new := fun a h => by cases h
    low := fun a h => by cases h
    rest := ⟨rfl, rfl, rfl⟩
    toks := Nat.succ_le_succ (Nat.zero_le _) }
  have hv : VR X [] [] s₁.heap (.lst (ns.map .int)) (.ref l) := by
    simp only [VR]
    refine ⟨l, vs, rfl, by simp, hL, ?_⟩
    exact ints_VRs hI
  have hr : Room (0 + 8) callerA := ⟨by decide, by decide, rfl⟩
  have key := law_walk (n := 0) (X := X) (P := w.params) rfl rfl hl63 hO h14 (K := fun v S' => v = .bool true) rfl hR hv hr
  refine wpAny_call (codeAny_mono key fun r s' hq => ?_)
  obtain ⟨u, rfl, x, S2, ρ2, T2, hx, st, hu⟩ := hq
  subst hx
  cases VR_bool.mp hu
  show GoodWG _ _ _ _ _ _ _
  refine ⟨.inl ⟨.bool true, .bool true, [], rfl, ?_, ?_, ?_, ?_⟩, .of_keep fun b o e => ?_, ?_, .of_eq ?_⟩
  · intro cls; rfl
  · exact .bool true
  · exact post_true _
  · exact fun _ => ⟨List.nodup_nil, fun a h => by cases h⟩
  · exact st.rep.keep b o e
  · exact st.rep.rest.2.1
  · exact st.rep.rest.1.trans hg)
end Mine
set_option maxHeartbeats 4000000
namespace Mine

noncomputable def sub1 (c : Nat) (z l : List Nat) : List Nat := l.flatMap fun k => if k = c then z else [k]
theorem sub1_app (c : Nat) (z a b : List Nat) : sub1 c z (a ++ b) = sub1 c z a ++ sub1 c z b := by simp [sub1]
theorem sub1_free (c : Nat) (z : List Nat) : ∀ l : List Nat, c ∉ l → sub1 c z l = l
  | [], _ => rfl
  | k :: r, h => by
    have h1 : ¬ k = c := fun e => h (e ▸ List.mem_cons_self ..)
    have ih := sub1_free c z r fun m => h (List.mem_cons_of_mem _ m)
    unfold sub1 at ih ⊢
    rw [List.flatMap_cons, if_neg h1, ih]; rfl
theorem sub1_one (c : Nat) (z : List Nat) : sub1 c z [c] = z := by simp [sub1]
theorem sub1_join (c : Nat) (z : Str) : ∀ parts : List Str, (∀ p ∈ parts, c ∉ p.cps.toList) → sub1 c z.cps.toList (Str.join ⟨#[c]⟩ parts).cps.toList = (Str.join z parts).cps.toList
  | [], _ => rfl
  | [p], h => sub1_free c _ _ (h p (List.mem_singleton.mpr rfl))
  | p :: q :: r, h => by
    have ih := sub1_join c z (q :: r) fun a ha => h a (List.mem_cons_of_mem _ ha)
    show sub1 c _ (p ++ ⟨#[c]⟩ ++ Str.join ⟨#[c]⟩ (q :: r)).cps.toList = (p ++ z ++ Str.join z (q :: r)).cps.toList
    simp only [Str.cps_append, Array.toList_append]
    rw [sub1_app, sub1_app, ih, sub1_free c _ _ (h p (List.mem_cons_self ..))]
    show p.cps.toList ++ sub1 c _ [c] ++ _ = _
    rw [sub1_one]
theorem replace_sub (x z : Str) (c : Nat) : (Txt.replace x ⟨#[c]⟩ z).cps.toList = sub1 c z.cps.toList x.cps.toList := by
  rw [StrLaws.replace_one, ← sub1_join c z _ (StrLaws.split_free x c), StrLaws.join_split]
theorem contains_one (x : Str) (c : Nat) : Txt.contains x ⟨#[c]⟩ = decide (c ∈ x.cps.toList) := StrLaws.found_one x c
theorem escOne_list (x z : Str) (c : Nat) : (escOne ⟨#[c]⟩ z x).cps.toList = sub1 c z.cps.toList x.cps.toList := by
  unfold escOne
  rw [contains_one]
  by_cases h : c ∈ x.cps.toList
  · rw [if_pos (by simpa using h), replace_sub]
  · rw [if_neg (by simpa using h), sub1_free _ _ _ h]

/-- one-sign patterns and what they turn into -/
noncomputable def chn (ps : List (Nat × List Nat)) (l : List Nat) : List Nat := ps.foldl (fun l p => sub1 p.1 p.2 l) l
theorem chn_app : ∀ (ps : List (Nat × List Nat)) (a b : List Nat), chn ps (a ++ b) = chn ps a ++ chn ps b
  | [], _, _ => rfl
  | p :: ps, a, b => by
    show chn ps (sub1 p.1 p.2 (a ++ b)) = chn ps (sub1 p.1 p.2 a) ++ chn ps (sub1 p.1 p.2 b)
    rw [sub1_app, chn_app ps]
theorem chn_nil : ∀ (ps : List (Nat × List Nat)), chn ps [] = []
  | [] => rfl
  | p :: ps => chn_nil ps
theorem chn_flat (ps : List (Nat × List Nat)) : ∀ l : List Nat, chn ps l = l.flatMap fun c => chn ps [c]
  | [] => chn_nil ps
  | c :: r => by
    have : chn ps (c :: r) = chn ps [c] ++ chn ps r := chn_app ps [c] r
    rw [this, chn_flat ps r, List.flatMap_cons]
noncomputable def listOf (p : Str × Str) : Nat × List Nat := (p.1.cps.getD 0 0, p.2.cps.toList)
theorem esc_chn : ∀ (ps : List (Str × Str)), (∀ p ∈ ps, p.1 = ⟨#[p.1.cps.getD 0 0]⟩) → ∀ x : Str, (ps.foldl (fun x p => escOne p.1 p.2 x) x).cps.toList = chn (ps.map listOf) x.cps.toList
  | [], _, x => rfl
  | p :: ps, h, x => by
    rw [List.foldl_cons, esc_chn ps (fun q hq => h q (.tail _ hq))]
    show chn (ps.map listOf) (escOne p.1 p.2 x).cps.toList = chn (ps.map listOf) (sub1 (p.1.cps.getD 0 0) p.2.cps.toList x.cps.toList)
    have hp := h p (.head _)
    have : (escOne p.1 p.2 x).cps.toList = sub1 (p.1.cps.getD 0 0) p.2.cps.toList x.cps.toList := by
      have e := escOne_list x p.2 (p.1.cps.getD 0 0)
      rw [← hp] at e; exact e
    rw [this]

noncomputable def escC (j : Nat) (c : Nat) : List Nat := chn ((escs.take j).map listOf) [c]
theorem escUpto_list (j : Nat) (x : Str) : (escUpto j x).cps.toList = x.cps.toList.flatMap (escC j) := by
  unfold escUpto
  rw [esc_chn _ (fun p hp => ?_), chn_flat]
  · rfl
  · have h : ∀ p ∈ escs, p.1 = ⟨#[p.1.cps.getD 0 0]⟩ := by decide +kernel
    exact h p (List.mem_of_mem_take hp)
theorem escC_len : ∀ j, j ≤ 7 → ∀ c, c < 128 → (escC j c).length ≤ 6 := by
  have : ∀ j, j < 8 → ∀ c, c < 128 → (escC j c).length ≤ 6 := by decide +kernel
  exact fun j hj => this j (by omega)
theorem escC_mark : ∀ c, c < 128 → escC 7 c = (markOf c).cps.toList := by decide +kernel
theorem flat_len {f : Nat → List Nat} {B : Nat} : ∀ l : List Nat, (∀ c ∈ l, (f c).length ≤ B) → (l.flatMap f).length ≤ B * l.length
  | [], _ => by simp
  | c :: r, h => by
    rw [List.flatMap_cons, List.length_append, List.length_cons, Nat.mul_add]
    have := flat_len r fun d hd => h d (.tail _ hd)
    have := h c (.head _)
    omega
noncomputable def Asc (x : Str) : Prop := ∀ c ∈ x.cps.toList, c < 128
theorem esc_len {x : Str} (hx : Asc x) {j : Nat} (hj : j ≤ 7) : (escUpto j x).length ≤ 6 * x.length := by
  have : (escUpto j x).length = (escUpto j x).cps.toList.length := by rw [Array.length_toList]; rfl
  rw [this, escUpto_list]
  have := flat_len (B := 6) x.cps.toList fun c hc => escC_len j hj c (hx c hc)
  rw [Array.length_toList] at this
  exact this
theorem lower_list {x : Str} (hx : Asc x) : (Txt.lower x).cps.toList = x.cps.toList.map lo1 := by
  rw [lower_ascii hx, Array.toList_map]
theorem upper_list {x : Str} (hx : Asc x) : (Txt.upper x).cps.toList = x.cps.toList.map up1 := by
  rw [upper_ascii hx, Array.toList_map]
end Mine
set_option maxHeartbeats 8000000
namespace Mine
noncomputable def okN : List Nat := [32, 35, 38, 48, 49, 50, 51, 52, 53, 54, 55, 56, 57, 58, 59, 65, 66, 68, 71, 76, 77, 79, 80, 81, 84, 85, 88, 97, 98, 100, 103, 108, 109, 111, 112, 113, 116, 117, 120]
noncomputable def okV : List Nat := [9, 32, 34, 35, 38, 48, 49, 50, 51, 52, 53, 54, 55, 56, 57, 58, 59, 60, 62, 65, 66, 68, 71, 76, 77, 79, 80, 81, 84, 85, 88, 97, 98, 100, 103, 108, 109, 111, 112, 113, 116, 117, 120]
theorem noset_name : ∀ c ∈ okN, NoSet nameCode c := by
  intro c hc
  simp only [okN, List.mem_cons, List.not_mem_nil, or_false] at hc
  rcases hc with rfl | rfl | rfl | rfl | rfl | rfl | rfl | rfl | rfl | rfl | rfl | rfl | rfl | rfl | rfl | rfl | rfl | rfl | rfl | rfl | rfl | rfl | rfl | rfl | rfl | rfl | rfl | rfl | rfl | rfl | rfl | rfl | rfl | rfl | rfl | rfl | rfl | rfl | rfl
  all_goals exact fun seen => ⟨_, rfl⟩
theorem noset_value : ∀ c ∈ okV, NoSet valueCode c := by
  intro c hc
  simp only [okV, List.mem_cons, List.not_mem_nil, or_false] at hc
  rcases hc with rfl | rfl | rfl | rfl | rfl | rfl | rfl | rfl | rfl | rfl | rfl | rfl | rfl | rfl | rfl | rfl | rfl | rfl | rfl | rfl | rfl | rfl | rfl | rfl | rfl | rfl | rfl | rfl | rfl | rfl | rfl | rfl | rfl | rfl | rfl | rfl | rfl | rfl | rfl | rfl | rfl | rfl | rfl
  all_goals exact fun seen => ⟨_, rfl⟩
end Mine
set_option maxHeartbeats 8000000
namespace Mine

/-! ## the values -/
noncomputable def V13 : List Str := ["&", "<", ">", "\"", "\t", ";", "a", "&amp;", "&lt;", "&quot;", "&#xA;", "&#x9;", "&#xD;"].map Str.ofString
noncomputable def L4 : List Nat := [97, 65, 98, 66]
noncomputable def blk (v : Str) : List Nat := 58 :: 32 :: (v.cps.toList ++ [13, 10])

theorem v13_ok : ∀ v ∈ V13, v.length ≤ 6 ∧ (∀ c ∈ v.cps.toList, c ∈ okV ∧ c < 128 ∧ c ≠ 58 ∧ c ≠ 46) := by decide +kernel
theorem v13_esc : ∀ v ∈ V13, ∀ c ∈ L4 ++ (blk v ++ [13, 10]), c < 128 ∧ ∀ d ∈ escC 7 c, d < 128 ∧ up1 d < 128 ∧ d ∈ okN ∧ lo1 d ∈ okN ∧ lo1 (up1 d) ∈ okN := by decide +kernel
theorem l4_esc : ∀ c ∈ L4, c < 128 ∧ c ∈ okN ∧ escC 7 c = [c] ∧ lo1 (up1 c) = lo1 c := by decide +kernel
theorem lo_up : ∀ c, c < 128 → lo1 (up1 c) = lo1 c := by decide +kernel

structure NameOk (names : Str) : Prop where
  len : names.length ≤ 5
  l4 : ∀ c ∈ names.cps.toList, c ∈ L4

/-! ## a page as a list -/
theorem join_rows (v : Str) : ∀ l : List Nat, (Str.join (Str.ofString "\r\n") ((l.map fun c => (one c, v)).map lineOf ++ [Str.ofString "", Str.ofString ""])).cps.toList = l.flatMap (fun c => c :: blk v) ++ [13, 10]
  | [] => by
    show (Str.join (Str.ofString "\r\n") [Str.ofString "", Str.ofString ""]).cps.toList = [13, 10]
    decide +kernel
  | c :: l => by
    have ih := join_rows v l
    have hne : ∃ q r, (l.map fun c => (one c, v)).map lineOf ++ [Str.ofString "", Str.ofString ""] = q :: r := by
      cases l with
      | nil => exact ⟨_, _, rfl⟩
      | cons d l => exact ⟨_, _, rfl⟩
    obtain ⟨q, r, e⟩ := hne
    have e2 : ((c :: l).map fun c => (one c, v)).map lineOf ++ [Str.ofString "", Str.ofString ""] = lineOf (one c, v) :: q :: r := by
      rw [← e]; rfl
    rw [e] at ih
    rw [e2]
    show (lineOf (one c, v) ++ Str.ofString "\r\n" ++ Str.join (Str.ofString "\r\n") (q :: r)).cps.toList = _
    simp only [Str.cps_append, Array.toList_append]
    rw [ih, List.flatMap_cons]
    have e3 : (lineOf (one c, v)).cps.toList = c :: 58 :: 32 :: v.cps.toList := by
      unfold lineOf
      simp only [Str.cps_append, Array.toList_append]
      have : (Str.ofString ": ").cps.toList = [58, 32] := by decide +kernel
      rw [this]; rfl
    have e4 : (Str.ofString "\r\n").cps.toList = [13, 10] := by decide +kernel
    rw [e3, e4]
    simp [blk]
theorem page_list (x v : Str) : (pageOf (rowsOf x v)).cps.toList = x.cps.toList.flatMap (fun c => c :: blk v) ++ [13, 10] := by
  unfold pageOf linesOf rowsOf
  rw [show ∀ l, Txt.join (Str.ofString "\r\n") l = Str.join (Str.ofString "\r\n") l from fun l => StrLaws.glued_eq_join _ _]
  exact join_rows v _
theorem blk_len {v : Str} (hv : v ∈ V13) : (blk v).length ≤ 10 := by
  have := (v13_ok v hv).1
  have e : v.cps.size = v.length := rfl
  simp [blk]; omega
theorem page_len {x v : Str} (hv : v ∈ V13) : (pageOf (rowsOf x v)).length ≤ 11 * x.length + 2 := by
  have : (pageOf (rowsOf x v)).length = (pageOf (rowsOf x v)).cps.toList.length := by rw [Array.length_toList]; rfl
  rw [this, page_list, List.length_append]
  have hb := blk_len hv
  have := flat_len (f := fun c => c :: blk v) (B := 11) x.cps.toList fun c _ => by rw [List.length_cons]; omega
  have e : x.cps.toList.length = x.length := by rw [Array.length_toList]; rfl
  rw [e] at this
  exact Nat.add_le_add this (Nat.le_refl 2)

/-- the signs of a page -/
theorem page_mem {x v : Str} (hx : ∀ c ∈ x.cps.toList, c ∈ L4) {c : Nat} (hc : c ∈ (pageOf (rowsOf x v)).cps.toList) : c ∈ L4 ++ (blk v ++ [13, 10]) := by
  rw [page_list] at hc
  rcases List.mem_append.mp hc with h | h
  · obtain ⟨d, hd, h⟩ := List.mem_flatMap.mp h
    rcases List.mem_cons.mp h with h | h
    · rw [h]; exact List.mem_append_left _ (hx d hd)
    · exact List.mem_append_right _ (List.mem_append_left _ h)
  · exact List.mem_append_right _ (List.mem_append_right _ h)
theorem page_asc {x v : Str} (hx : ∀ c ∈ x.cps.toList, c ∈ L4) (hv : v ∈ V13) : Asc (pageOf (rowsOf x v)) := fun c hc => (v13_esc v hv c (page_mem hx hc)).1
theorem esc_mem {x v : Str} (hx : ∀ c ∈ x.cps.toList, c ∈ L4) (hv : v ∈ V13) {d : Nat} (hd : d ∈ (escPage x v).cps.toList) : d < 128 ∧ up1 d < 128 ∧ d ∈ okN ∧ lo1 d ∈ okN ∧ lo1 (up1 d) ∈ okN := by
  unfold escPage at hd
  rw [escUpto_list] at hd
  obtain ⟨c, hc, hd⟩ := List.mem_flatMap.mp hd
  exact (v13_esc v hv c (page_mem hx hc)).2 d hd
theorem esc_asc {x v : Str} (hx : ∀ c ∈ x.cps.toList, c ∈ L4) (hv : v ∈ V13) : Asc (escPage x v) := fun d hd => (esc_mem hx hv hd).1
theorem esc_up_asc {x v : Str} (hx : ∀ c ∈ x.cps.toList, c ∈ L4) (hv : v ∈ V13) : Asc (Txt.upper (escPage x v)) := fun d hd => by
  rw [upper_list (esc_asc hx hv)] at hd
  obtain ⟨e, he, rfl⟩ := List.mem_map.mp hd
  exact (esc_mem hx hv he).2.1

theorem pg_ok {x v : Str} (hl : x.length ≤ 16) (hx : ∀ c ∈ x.cps.toList, c ∈ L4) (hv : v ∈ V13) : PgOk x v where
  len := hl
  vlen := by have := (v13_ok v hv).1; omega
  nm := fun c hc => noset_name c (l4_esc c (hx c hc)).2.1
  vl := fun c hc => noset_value c ((v13_ok v hv).2 c (by simpa using hc)).1
theorem esc_lens {x v : Str} (hl : x.length ≤ 16) (hx : ∀ c ∈ x.cps.toList, c ∈ L4) (hv : v ∈ V13) {j : Nat} (hj : j ≤ 7) : (escUpto j (pageOf (rowsOf x v))).length ≤ 1068 := by
  have h1 := esc_len (page_asc hx hv) hj
  have h2 := page_len (x := x) hv
  omega
theorem esc_name {x v : Str} (hx : ∀ c ∈ x.cps.toList, c ∈ L4) (hv : v ∈ V13) : okName (escPage x v) := fun c hc => noset_name c (esc_mem hx hv (by simpa using hc)).2.2.1

/-! ## the choices -/
theorem chosenL_sub (l : List Nat) (k : Nat) : ∀ c ∈ chosenL l k, c ∈ l := fun c hc => by
  obtain ⟨p, hp, rfl⟩ := List.mem_map.mp hc
  have := List.mem_filter.mp hp
  exact List.fst_mem_of_mem_zipIdx this.1
theorem chosenL_len (l : List Nat) (k : Nat) : (chosenL l k).length ≤ l.length := by
  unfold chosenL
  rw [List.length_map]
  exact Nat.le_trans (List.length_filter_le _ _) (by simp)
theorem chosen_l4 {names : Str} (h : NameOk names) (k : Nat) : ∀ c ∈ (chosenOf names k).cps.toList, c ∈ L4 := fun c hc => h.l4 c (chosenL_sub _ k c (by simpa [chosenOf] using hc))
theorem chosen_len {names : Str} (h : NameOk names) (k : Nat) : (chosenOf names k).length ≤ 5 := by
  have := chosenL_len names.cps.toList k
  have e : (chosenOf names k).length = (chosenL names.cps.toList k).length := by show (List.toArray _).size = _; simp
  have e2 : names.cps.toList.length = names.length := by rw [Array.length_toList]; rfl
  have := h.len
  omega
theorem num_ok : ∀ k, k < 32 → (numStr k).length ≤ 65535 ∧ ∀ c ∈ (numStr k).cps.toList, c ∈ okV := by decide +kernel

theorem tl_ok {names v : Str} (h : NameOk names) (hv : v ∈ V13) : TlOk names v where
  len := h.len
  pg := fun k => pg_ok (by have := chosen_len h k; omega) (chosen_l4 h k) hv
  esc := fun k j hj => by have := esc_lens (x := chosenOf names k) (by have := chosen_len h k; omega) (chosen_l4 h k) hv hj; omega
  nm := fun k => esc_name (chosen_l4 h k) hv
  num := fun k hk => by
    have h32 : 2 ^ names.length ≤ 32 := (Nat.pow_le_pow_right (show 0 < 2 by decide) h.len : 2 ^ names.length ≤ 2 ^ 5)
    have := num_ok k (by omega)
    exact ⟨fun c hc => noset_value c (this.2 c (by simpa using hc)), this.1⟩
end Mine
set_option maxHeartbeats 8000000
namespace Mine

noncomputable def blocks (r t m : List Nat) : List Nat := m.flatMap (fun c => c :: r) ++ t
theorem blocks_cons (r t : List Nat) (c : Nat) (m : List Nat) : blocks r t (c :: m) = c :: (r ++ blocks r t m) := by simp [blocks]
theorem blocks_len (r t : List Nat) : ∀ m, (blocks r t m).length = m.length * (r.length + 1) + t.length
  | [] => by simp [blocks]
  | c :: m => by
    rw [blocks_cons, List.length_cons, List.length_append, blocks_len r t m, List.length_cons, Nat.add_mul]; omega
theorem blocks_inj (r t : List Nat) : ∀ m n : List Nat, blocks r t m = blocks r t n → m = n := by
  have hlen : ∀ m n : List Nat, blocks r t m = blocks r t n → m.length = n.length := fun m n h => by
    have := congrArg List.length h
    rw [blocks_len, blocks_len] at this
    have h2 : m.length * (r.length + 1) = n.length * (r.length + 1) := by omega
    exact Nat.eq_of_mul_eq_mul_right (Nat.succ_pos r.length) h2
  intro m
  induction m with
  | nil => intro n h; have := hlen _ _ h; exact (List.eq_nil_of_length_eq_zero this.symm).symm
  | cons c m ih =>
    intro n h
    cases n with
    | nil => have := hlen _ _ h; simp at this
    | cons d n =>
      rw [blocks_cons, blocks_cons] at h
      injection h with h1 h2
      rw [h1, ih n (List.append_cancel_left h2)]

noncomputable def Rv (v : Str) : List Nat := ((blk v).flatMap (escC 7)).map lo1
noncomputable def Tv : List Nat := (([13, 10] : List Nat).flatMap (escC 7)).map lo1
theorem flat_low (B : List Nat) : ∀ l : List Nat, (∀ c ∈ l, c ∈ L4) → ((l.flatMap fun c => c :: B).flatMap (escC 7)).map lo1 = (l.map lo1).flatMap fun c => c :: ((B.flatMap (escC 7)).map lo1)
  | [], _ => rfl
  | c :: l, h => by
    have ih := flat_low B l fun d hd => h d (.tail _ hd)
    rw [List.flatMap_cons, List.flatMap_append, List.map_append, ih, List.map_cons, List.flatMap_cons, List.flatMap_cons, (l4_esc c (h c (.head _))).2.2.1]
    simp
theorem lower_esc {x v : Str} (hx : ∀ c ∈ x.cps.toList, c ∈ L4) (hv : v ∈ V13) : (Txt.lower (escPage x v)).cps.toList = blocks (Rv v) Tv (x.cps.toList.map lo1) := by
  rw [lower_list (esc_asc hx hv)]
  unfold escPage
  rw [escUpto_list, page_list, List.flatMap_append, List.map_append, flat_low _ _ hx]
  rfl
theorem lower_ask {x v : Str} (hx : ∀ c ∈ x.cps.toList, c ∈ L4) (hv : v ∈ V13) : (Txt.lower (askOf v x)).cps.toList = blocks (Rv v) Tv (x.cps.toList.map lo1) := by
  rw [← lower_esc hx hv]
  unfold askOf
  rw [lower_list (esc_up_asc hx hv), lower_list (esc_asc hx hv), upper_list (esc_asc hx hv), List.map_map]
  exact List.map_congr_left fun c hc => lo_up c (esc_asc hx hv c hc)

/-! ## words -/
noncomputable def low (names : Str) : List Nat := names.cps.toList.map lo1
theorem chosenL_map (f : Nat → Nat) (l : List Nat) (k : Nat) : chosenL (l.map f) k = (chosenL l k).map f := by
  unfold chosenL
  rw [List.zipIdx_map, List.filter_map, List.map_map, List.map_map]
  rfl
noncomputable def Wd (w : Str) : Prop := ∀ c ∈ w.cps.toList, c = 97 ∨ c = 98
theorem Wd.l4 {w : Str} (h : Wd w) : ∀ c ∈ w.cps.toList, c ∈ L4 := fun c hc => by rcases h c hc with rfl | rfl <;> decide
theorem Wd.low {w : Str} (h : Wd w) : w.cps.toList.map lo1 = w.cps.toList := by
  have : ∀ l : List Nat, (∀ c ∈ l, c = 97 ∨ c = 98) → l.map lo1 = l := by
    intro l
    induction l with
    | nil => intro _; rfl
    | cons c l ih =>
      intro h
      rw [List.map_cons, ih fun d hd => h d (.tail _ hd)]
      rcases h c (.head _) with rfl | rfl <;> rfl
  exact this _ h

noncomputable def hits (m : List Nat) (N : Nat) (w : List Nat) : List Nat := (List.range N).filter fun k => decide (chosenL m k = w)
theorem told_eq {names v w : Str} (h : NameOk names) (hv : v ∈ V13) (hw : Wd w) : toldOf (tallyRows names v) v w = (hits (low names) (2 ^ names.length) w.cps.toList).map numStr := by
  unfold toldOf tallyRows hits
  rw [List.filter_map, List.map_map]
  have : ((fun p : Str × Str => (Txt.lower p.1).cps.toList == (Txt.lower (askOf v w)).cps.toList) ∘ tallyRow names v) = fun k => decide (chosenL (low names) k = w.cps.toList) := by
    funext k
    show ((Txt.lower (escPage (chosenOf names k) v)).cps.toList == (Txt.lower (askOf v w)).cps.toList) = _
    rw [lower_esc (chosen_l4 h k) hv, lower_ask hw.l4 hv, hw.low]
    have e : (chosenOf names k).cps.toList.map lo1 = chosenL (low names) k := by
      unfold low; rw [chosenL_map]; simp [chosenOf]
    rw [e, Bool.eq_iff_iff, beq_iff_eq, decide_eq_true_iff]
    exact ⟨fun q => blocks_inj _ _ _ _ q, fun q => by rw [q]⟩
  rw [this]
  rfl

theorem spell_fold (nm x : Str) : ∀ (L : List Nat) (d : List (Str × List Str)),
    (((L.foldl (spellOne nm) d).lookup x).getD [] = (d.lookup x).getD [] ++ (L.filter fun k => decide (chosenOf nm k = x)).map numStr) ∧ ((L.foldl (spellOne nm) d).lookup x).isSome = ((d.lookup x).isSome || !(L.filter fun k => decide (chosenOf nm k = x)).isEmpty)
  | [], d => by simp
  | k :: L, d => by
    obtain ⟨h1, h2⟩ := spell_fold nm x L (spellOne nm d k)
    rw [List.foldl_cons, h1, h2]
    have e : (spellOne nm d k).lookup x = if x = chosenOf nm k then some (((d.lookup (chosenOf nm k)).getD []) ++ [numStr k]) else d.lookup x := putG_lookup _ _ _ _
    by_cases hx : x = chosenOf nm k
    · rw [e, if_pos hx]
      subst hx
      rw [List.filter_cons_of_pos (by simp)]
      constructor
      · simp
      · simp
    · rw [e, if_neg hx, List.filter_cons_of_neg (by simpa using fun q => hx q.symm)]
      exact ⟨rfl, rfl⟩
theorem name_asc {names : Str} (h : NameOk names) : Asc names := fun c hc => (l4_esc c (h.l4 c hc)).1
theorem lower_name {names : Str} (h : NameOk names) : (Txt.lower names).cps.toList = low names := lower_list (name_asc h)
theorem lower_name_len {names : Str} (h : NameOk names) : (Txt.lower names).length = names.length := by
  have e1 : (Txt.lower names).length = (Txt.lower names).cps.toList.length := by rw [Array.length_toList]; rfl
  have e2 : names.length = names.cps.toList.length := by rw [Array.length_toList]; rfl
  rw [e1, lower_name h, e2]; simp [low]
theorem spells_eq {names w : Str} (h : NameOk names) : ((spells names).lookup w).getD [] = (hits (low names) (2 ^ names.length) w.cps.toList).map numStr ∧ ((spells names).lookup w).isSome = !(hits (low names) (2 ^ names.length) w.cps.toList).isEmpty := by
  have key := spell_fold (Txt.lower names) w (List.range (2 ^ (Txt.lower names).length)) []
  have e : (fun k => decide (chosenOf (Txt.lower names) k = w)) = fun k => decide (chosenL (low names) k = w.cps.toList) := by
    funext k
    rw [Bool.eq_iff_iff, decide_eq_true_iff, decide_eq_true_iff]
    unfold chosenOf
    rw [lower_name h]
    constructor
    · intro q; rw [← q]
    · intro q; rw [q]
  rw [e, lower_name_len h] at key
  unfold spells spelledOf hits
  rw [lower_name_len h]
  simpa using key
end Mine
set_option maxHeartbeats 8000000
namespace Mine

/-! ## how often a word is spelled -/
noncomputable def chosenR : List Nat → Nat → List Nat
  | [], _ => []
  | a :: m, k => if k % 2 != 0 then a :: chosenR m (k / 2) else chosenR m (k / 2)
theorem chosenL_R : ∀ (l : List Nat) (k s : Nat), ((l.zipIdx s).filter fun p => bit k p.2).map (·.1) = chosenR l (k / 2 ^ s)
  | [], _, _ => rfl
  | a :: l, k, s => by
    rw [List.zipIdx_cons]
    have ih := chosenL_R l k (s + 1)
    have e : k / 2 ^ (s + 1) = k / 2 ^ s / 2 := by rw [Nat.pow_succ, Nat.div_div_eq_div_mul]
    rw [e] at ih
    cases hb : bit k s with
    | true =>
      rw [List.filter_cons_of_pos (by simpa using hb), List.map_cons, ih]
      unfold bit at hb
      rw [chosenR, if_pos hb]
    | false =>
      rw [List.filter_cons_of_neg (by simp [hb]), ih]
      unfold bit at hb
      rw [chosenR, if_neg (by rw [hb]; decide)]
theorem chosenL_eq (l : List Nat) (k : Nat) : chosenL l k = chosenR l k := by
  have := chosenL_R l k 0
  rw [Nat.pow_zero, Nat.div_one] at this
  exact this

noncomputable def occ : List Nat → List Nat → Nat
  | _, [] => 1
  | [], _ :: _ => 0
  | a :: m, b :: w => (if a = b then occ m w else 0) + occ m (b :: w)
theorem range_two (p : Nat → Bool) : ∀ N : Nat, (List.range (2 * N)).countP p = (List.range N).countP (fun j => p (2 * j)) + (List.range N).countP (fun j => p (2 * j + 1))
  | 0 => rfl
  | N + 1 => by
    rw [show 2 * (N + 1) = 2 * N + 1 + 1 from rfl, List.range_succ, List.range_succ, List.range_succ (n := N), List.countP_append, List.countP_append, List.countP_append, List.countP_append, range_two p N]
    simp only [List.countP_cons, List.countP_nil]
    omega
theorem cnt_occ : ∀ (m w : List Nat), (List.range (2 ^ m.length)).countP (fun k => decide (chosenR m k = w)) = occ m w
  | [], [] => by decide
  | [], b :: w => by simp [chosenR, occ]
  | a :: m, w => by
    rw [List.length_cons, Nat.pow_succ, Nat.mul_comm, range_two]
    have e1 : (fun j => decide (chosenR (a :: m) (2 * j) = w)) = fun j => decide (chosenR m j = w) := by
      funext j
      rw [chosenR, if_neg (by simp), Nat.mul_div_cancel_left _ (by decide)]
    have e3 : ∀ j, chosenR (a :: m) (2 * j + 1) = a :: chosenR m j := fun j => by
      rw [chosenR, if_pos (by simp [Nat.add_mod]), show (2 * j + 1) / 2 = j by omega]
    rw [e1, cnt_occ m w]
    cases w with
    | nil =>
      have e2 : (fun j => decide (chosenR (a :: m) (2 * j + 1) = [])) = fun _ => false := by
        funext j; rw [e3]; simp
      rw [e2]
      cases m <;> simp [occ]
    | cons b w =>
      by_cases h : a = b
      · have e2 : (fun j => decide (chosenR (a :: m) (2 * j + 1) = b :: w)) = fun j => decide (chosenR m j = w) := by
          funext j; rw [e3, h]; simp
        rw [e2, cnt_occ m w]
        simp [occ, h]; omega
      · have e2 : (fun j => decide (chosenR (a :: m) (2 * j + 1) = b :: w)) = fun _ => false := by
          funext j; rw [e3]; simp [h]
        rw [e2]
        simp [occ, h]
theorem hits_len (m w : List Nat) : (hits m (2 ^ m.length) w).length = occ m w := by
  unfold hits
  rw [← List.countP_eq_length_filter, ← cnt_occ]
  congr 1
  funext k
  rw [chosenL_eq]

/-! ## the finite part -/
noncomputable def allW : Nat → List (List Nat)
  | 0 => [[]]
  | n + 1 => (allW n).flatMap fun w => [97 :: w, 98 :: w]
theorem allW_mem : ∀ l : List Nat, (∀ c ∈ l, c = 97 ∨ c = 98) → l ∈ allW l.length
  | [], _ => .head _
  | c :: l, h => by
    have ih := allW_mem l fun d hd => h d (.tail _ hd)
    refine List.mem_flatMap.mpr ⟨l, ih, ?_⟩
    rcases h c (.head _) with rfl | rfl <;> simp
noncomputable def mixTab : List ((List Nat × List Nat) × List (List Nat × Int)) := [(([97, 97], [97, 97]), [([97, 97, 97, 97], 6), ([97, 97, 97], 6), ([97, 97], 1)]),
  (([97, 97], [97, 98]), [([97, 98, 97, 97], 1), ([97, 97, 98, 97], 2), ([97, 98, 97], 1), ([97, 97, 97, 98], 3), ([97, 97, 98], 2)]),
  (([97, 97], [98, 97]), [([98, 97, 97, 97], 3), ([97, 98, 97, 97], 2), ([98, 97, 97], 2), ([97, 97, 98, 97], 1), ([97, 98, 97], 1)]),
  (([97, 97], [98, 98]), [([98, 98, 97, 97], 1), ([98, 97, 98, 97], 1), ([97, 98, 98, 97], 1), ([98, 97, 97, 98], 1), ([97, 98, 97, 98], 1), ([97, 97, 98, 98], 1)]),
  (([97, 98], [97, 97]), [([97, 97, 97, 98], 3), ([97, 97, 98], 2), ([97, 97, 98, 97], 2), ([97, 98, 97], 1), ([97, 98, 97, 97], 1)]),
  (([97, 98], [97, 98]), [([97, 98, 97, 98], 2), ([97, 97, 98, 98], 4), ([97, 98, 98], 2), ([97, 97, 98], 2), ([97, 98], 1)]),
  (([97, 98], [98, 97]), [([98, 97, 97, 98], 2), ([97, 98, 97, 98], 1), ([98, 97, 98], 1), ([98, 97, 98, 97], 1), ([97, 98, 98, 97], 2), ([97, 98, 97], 1)]),
  (([97, 98], [98, 98]), [([98, 98, 97, 98], 1), ([98, 97, 98, 98], 2), ([97, 98, 98, 98], 3), ([97, 98, 98], 2), ([98, 97, 98], 1)]),
  (([98, 97], [97, 97]), [([97, 97, 98, 97], 1), ([97, 98, 97, 97], 2), ([98, 97, 97, 97], 3), ([98, 97, 97], 2), ([97, 98, 97], 1)]),
  (([98, 97], [97, 98]), [([97, 98, 98, 97], 2), ([98, 97, 98, 97], 1), ([97, 98, 97], 1), ([97, 98, 97, 98], 1), ([98, 97, 97, 98], 2), ([98, 97, 98], 1)]),
  (([98, 97], [98, 97]), [([98, 97, 98, 97], 2), ([98, 98, 97, 97], 4), ([98, 97, 97], 2), ([98, 98, 97], 2), ([98, 97], 1)]),
  (([98, 97], [98, 98]), [([98, 98, 98, 97], 3), ([98, 98, 97], 2), ([98, 98, 97, 98], 2), ([98, 97, 98], 1), ([98, 97, 98, 98], 1)]),
  (([98, 98], [97, 97]), [([97, 97, 98, 98], 1), ([97, 98, 97, 98], 1), ([98, 97, 97, 98], 1), ([97, 98, 98, 97], 1), ([98, 97, 98, 97], 1), ([98, 98, 97, 97], 1)]),
  (([98, 98], [97, 98]), [([97, 98, 98, 98], 3), ([98, 97, 98, 98], 2), ([97, 98, 98], 2), ([98, 98, 97, 98], 1), ([98, 97, 98], 1)]),
  (([98, 98], [98, 97]), [([98, 97, 98, 98], 1), ([98, 98, 97, 98], 2), ([98, 97, 98], 1), ([98, 98, 98, 97], 3), ([98, 98, 97], 2)]),
  (([98, 98], [98, 98]), [([98, 98, 98, 98], 6), ([98, 98, 98], 6), ([98, 98], 1)])]
noncomputable def toS (l : List Nat) : Str := ⟨l.toArray⟩
theorem tab_mix : ∀ row ∈ mixTab, mixP 4 (toS row.1.1) (toS row.1.2) = row.2.map fun p => (toS p.1, p.2) := by decide +kernel
theorem tab_pairs : ∀ L ∈ allW 2, ∀ R ∈ allW 2, ∃ row ∈ mixTab, row.1 = (L, R) := by decide +kernel
theorem tab_ok : ∀ row ∈ mixTab, row.2.length < 64 ∧ (∀ p ∈ row.2, (p.1 ∈ allW 2 ∨ p.1 ∈ allW 3 ∨ p.1 ∈ allW 4) ∧ (row.2.map fun p => (toS p.1, p.2)).lookup (toS p.1) = some p.2) := by decide +kernel
theorem cfl_tab : ∀ row ∈ mixTab, ∀ m ∈ allW 4 ++ allW 5, ((occ m row.1.1 : Nat) : Int) * (occ m row.1.2 : Nat) = (row.2.map fun p => p.2 * ((occ m p.1 : Nat) : Int)).sum := by decide +kernel
end Mine
set_option maxHeartbeats 8000000
namespace Mine
open PySem.StrLaws

theorem len_list (x : Str) : x.cps.toList.length = x.length := by rw [Array.length_toList]; rfl
theorem at_iff {x y : Str} (hy : 1 ≤ y.length) (i : Nat) : At x y x.length i ↔ y.cps.toList <+: x.cps.toList.drop i := by
  unfold At
  rw [subAt_eq]
  constructor
  · intro ⟨h1, h2⟩
    have e := eq_of_beq h2
    exact ⟨(x.cps.toList.drop i).drop y.length, by rw [← e]; exact List.take_append_drop _ _⟩
  · intro ⟨t, ht⟩
    have hl := congrArg List.length ht
    rw [List.length_append, List.length_drop, len_list, len_list] at hl
    refine ⟨by omega, ?_⟩
    rw [← ht, List.take_left' (len_list y)]
    simp

/-! ## splitting -/
noncomputable def glue (y : List Nat) : List (List Nat) → List Nat
  | [] => []
  | [p] => p
  | p :: q :: r => p ++ (y ++ glue y (q :: r))
theorem strSub_drop {x : Str} {a : Nat} {p rest : List Nat} (h : x.cps.toList.drop a = p ++ rest) : Builtin.Str.strSub x a (a + p.length) = toS p := by
  apply Str.ext'
  apply Array.toList_inj.mp
  rw [strSub_toList, h]
  simp [toS]
theorem cuts_glue {x : Str} : ∀ (qs : List (List Nat)) (a f : Nat) (cuts : List Nat), qs ≠ [] → (∀ q ∈ qs, 46 ∉ q) → a ≤ x.length → x.cps.toList.drop a = glue [46, 46, 46] qs → ChainG x dots x.length a cuts f → (∀ k, f ≤ k → ¬ At x dots x.length k) →
    partsFrom x 3 a cuts = qs.map toS
  | [], _, _, _, h, _, _, _, _, _ => absurd rfl h
  | [p], a, f, cuts, _, hp, ha, hd, hc, hf => by
    have hp0 := hp p (.head _)
    have hd' : x.cps.toList.drop a = p := hd
    cases cuts with
    | nil =>
      have e : a + p.length = x.length := by
        have := congrArg List.length hd'
        rw [List.length_drop, len_list] at this; omega
      show [Builtin.Str.strSub x a x.length] = _
      rw [← e, strSub_drop (rest := []) (by rw [hd']; simp)]; rfl
    | cons c r =>
      exfalso
      have h1 := (at_iff (by decide +kernel) c).mp hc.2.1
      have hac := hc.1
      have e : x.cps.toList.drop c = p.drop (c - a) := by
        rw [← hd', List.drop_drop]; congr 1; omega
      rw [e] at h1
      obtain ⟨t, ht⟩ := h1
      have : (46 : Nat) ∈ p.drop (c - a) := by rw [← ht]; exact List.mem_append_left _ (by decide +kernel)
      exact hp0 (List.mem_of_mem_drop this)
  | p :: q :: r, a, f, cuts, _, hp, ha, hd, hc, hf => by
    have hp0 := hp p (.head _)
    have hd' : x.cps.toList.drop a = p ++ ([46, 46, 46] ++ glue [46, 46, 46] (q :: r)) := hd
    have hat : At x dots x.length (a + p.length) := by
      rw [at_iff (by decide +kernel), ← List.drop_drop, hd', List.drop_left' rfl]
      exact ⟨glue [46, 46, 46] (q :: r), by rw [show dots.cps.toList = [46, 46, 46] by decide +kernel]⟩
    cases cuts with
    | nil =>
      exfalso
      have e : f = a := hc
      exact hf (a + p.length) (by omega) hat
    | cons c cs =>
      have hac := hc.1
      have h1 := (at_iff (by decide +kernel) c).mp hc.2.1
      have hle : c ≤ a + p.length := by
        rcases Nat.lt_or_ge (a + p.length) c with h | h
        · exact absurd hat (hc.2.2.1 _ (by omega) h)
        · exact h
      have hge : a + p.length ≤ c := by
        rcases Nat.lt_or_ge c (a + p.length) with h | h
        · exfalso
          have e : x.cps.toList.drop c = (p ++ ([46, 46, 46] ++ glue [46, 46, 46] (q :: r))).drop (c - a) := by
            rw [← hd', List.drop_drop]; congr 1; omega
          rw [e, List.drop_append_of_le_length (by omega)] at h1
          obtain ⟨t, ht⟩ := h1
          rw [show dots.cps.toList = [46, 46, 46] by decide +kernel] at ht
          have hne : p.drop (c - a) ≠ [] := by
            intro q'; have := congrArg List.length q'; simp at this; omega
          obtain ⟨u, us, eu⟩ := List.exists_cons_of_ne_nil hne
          rw [eu] at ht
          have h46 : u = 46 := by
            have := congrArg List.head? ht
            simp at this; exact this.symm
          subst h46
          exact hp0 (List.mem_of_mem_drop (i := c - a) (by rw [eu]; exact .head _))
        · exact h
      have hca : c = a + p.length := Nat.le_antisymm hle hge
      subst hca
      have hn : a + p.length + 3 ≤ x.length := by
        have := hat.1
        have e3 : dots.length = 3 := by decide +kernel
        omega
      have hd2 : x.cps.toList.drop (a + p.length + 3) = glue [46, 46, 46] (q :: r) := by
        rw [show a + p.length + 3 = a + (p.length + 3) by omega, ← List.drop_drop, hd', ← List.drop_drop, List.drop_left' rfl]
        rfl
      have hc2 : ChainG x dots x.length (a + p.length + 3) cs f := by
        have := hc.2.2.2
        rw [show dots.length = 3 by decide +kernel] at this
        exact this
      have ih := cuts_glue (q :: r) (a + p.length + 3) f cs (by simp) (fun q' hq => hp q' (.tail _ hq)) hn hd2 hc2 hf
      show Builtin.Str.strSub x a (a + p.length) :: partsFrom x 3 (a + p.length + 3) cs = _
      rw [ih, strSub_drop hd']; rfl

theorem split_glue {qs : List (List Nat)} (h2 : 2 ≤ qs.length) (hp : ∀ q ∈ qs, 46 ∉ q) : Txt.split (toS (glue [46, 46, 46] qs)) dots = qs.map toS ∧
    (Builtin.Str.partsBetween (toS (glue [46, 46, 46] qs)) (Builtin.Str.occurrences (toS (glue [46, 46, 46] qs)) dots 0 (toS (glue [46, 46, 46] qs)).length ((toS (glue [46, 46, 46] qs)).length + 1)) dots.length) = qs.map toS ∧ Txt.contains (toS (glue [46, 46, 46] qs)) dots = true := by
  generalize hx : toS (glue [46, 46, 46] qs) = x
  have hxl : x.cps.toList = glue [46, 46, 46] qs := by rw [← hx]; simp [toS]
  obtain ⟨f, hc, hf⟩ := occ_tight x dots (by decide +kernel)
  have hparts := cuts_glue qs 0 f _ (by intro q; rw [q] at h2; simp at h2) hp (Nat.zero_le _) (by rw [List.drop_zero, hxl]) hc hf
  have hpb : Builtin.Str.partsBetween x (Builtin.Str.occurrences x dots 0 x.length (x.length + 1)) dots.length = qs.map toS := by
    rw [partsBetween_eq, show dots.length = 3 by decide +kernel, hparts]
  have hat : ∃ i, At x dots x.length i := by
    match qs, h2 with
    | p :: q :: r, _ =>
      refine ⟨p.length, (at_iff (by decide +kernel) _).mpr ?_⟩
      rw [hxl]
      show _ <+: (p ++ ([46, 46, 46] ++ glue [46, 46, 46] (q :: r))).drop p.length
      rw [List.drop_left' rfl]
      exact ⟨glue [46, 46, 46] (q :: r), by rw [show dots.cps.toList = [46, 46, 46] by decide +kernel]⟩
  obtain ⟨i, hi⟩ := hat
  have hne : (Builtin.Str.occurrences x dots 0 x.length (x.length + 1)).isEmpty = false := by
    cases ho : Builtin.Str.occurrences x dots 0 x.length (x.length + 1) with
    | nil =>
      rw [ho] at hpb
      have := congrArg List.length hpb
      rw [List.length_map, partsBetween_eq] at this
      simp [partsFrom] at this
      omega
    | cons _ _ => rfl
  refine ⟨?_, hpb, ?_⟩
  · unfold Txt.split
    rw [if_neg, hne, if_neg (by decide), hpb]
    have h3 : dots.length = 3 := by decide +kernel
    have hk : Builtin.Str.strKind dots = 1 := by decide +kernel
    have hk2 : 1 ≤ Builtin.Str.strKind x := by
      unfold Builtin.Str.strKind
      split
      · omega
      · split <;> omega
    have := hi.1
    simp; omega
  · exact (found_iff x dots).mpr ⟨i, hi.1, hi.2⟩
end Mine
set_option maxHeartbeats 8000000
namespace Mine
open PySem.StrLaws

/-- the place of y behind a -/
noncomputable def findAt (x y : Str) (a : Nat) : Int := find4 x y a x.length
theorem findAt_eq (x y : Str) {a : Nat} (ha : a ≤ x.length) : findAt x y a = match Builtin.Str.occurrences x y a x.length 1 with | k :: _ => (k : Int) | [] => -1 := by
  unfold findAt find4
  have e1 : fromIndex x.length (a : Int) = a := by unfold fromIndex; rw [if_neg (by omega)]; omega
  have e2 : fromIndex x.length (x.length : Int) = x.length := by unfold fromIndex; rw [if_neg (by omega)]; omega
  (rw [e1, e2, Nat.min_self]) <;> (cases Builtin.Str.occurrences x y a x.length 1 <;> rfl)
theorem find_hit {x y : Str} (hy : 1 ≤ y.length) {a : Nat} (ha : a ≤ x.length) (h : y.cps.toList <+: x.cps.toList.drop a) : findAt x y a = a := by
  rw [findAt_eq x y ha]
  rcases occ_head_from x y a 1 (Nat.le_refl _) with ⟨e, hn⟩ | ⟨i, r, e, h1, h2, h3⟩
  · exact absurd ((at_iff hy a).mpr h) (hn a (Nat.le_refl _))
  · rw [e]
    have : i = a := by
      rcases Nat.lt_or_ge a i with q | q
      · exact absurd ((at_iff hy a).mpr h) (h3 a (Nat.le_refl _) q)
      · omega
    rw [this]
theorem find_none {x y : Str} (hy : 1 ≤ y.length) {a : Nat} (ha : a ≤ x.length) (h : ∀ k, ¬ y.cps.toList <+: x.cps.toList.drop (a + k)) : findAt x y a = -1 := by
  rw [findAt_eq x y ha]
  rcases occ_head_from x y a 1 (Nat.le_refl _) with ⟨e, hn⟩ | ⟨i, r, e, h1, h2, h3⟩
  · rw [e]
  · exfalso
    have := (at_iff hy i).mp h2
    exact h (i - a) (by rw [show a + (i - a) = i by omega]; exact this)
theorem find_skip {x y : Str} (hy : 1 ≤ y.length) {a B : Nat} (ha : a + B ≤ x.length) (h : ∀ k, k < B → ¬ y.cps.toList <+: x.cps.toList.drop (a + k)) : findAt x y a = findAt x y (a + B) := by
  rw [findAt_eq x y (by omega), findAt_eq x y ha]
  rcases occ_head_from x y a 1 (Nat.le_refl _) with ⟨e, hn⟩ | ⟨i, r, e, h1, h2, h3⟩
  · rcases occ_head_from x y (a + B) 1 (Nat.le_refl _) with ⟨e', hn'⟩ | ⟨i', r', e', h1', h2', h3'⟩
    · rw [e, e']
    · exact absurd h2' (hn i' (by omega))
  · have hi : a + B ≤ i := by
      rcases Nat.lt_or_ge i (a + B) with q | q
      · exact absurd ((at_iff hy i).mp h2) (by rw [show i = a + (i - a) by omega]; exact h (i - a) (by omega))
      · exact q
    rcases occ_head_from x y (a + B) 1 (Nat.le_refl _) with ⟨e', hn'⟩ | ⟨i', r', e', h1', h2', h3'⟩
    · exact absurd h2 (hn' i hi)
    · rw [e, e']
      have : i = i' := by
        rcases Nat.lt_trichotomy i i' with q | q | q
        · exact absurd h2 (h3' i hi q)
        · exact q
        · exact absurd h2' (h3 i' (by omega) q)
      rw [this]
theorem find_empty {x y : Str} (hy : y.cps.toList = []) {a : Nat} (ha : a ≤ x.length) : findAt x y a = a := by
  have hy0 : y.length = 0 := by rw [← len_list, hy]; rfl
  have hat : At x y x.length a := ⟨by omega, by rw [subAt_eq, hy, hy0]; simp⟩
  rw [findAt_eq x y ha]
  rcases occ_head_from x y a 1 (Nat.le_refl _) with ⟨e, hn⟩ | ⟨i, r, e, h1, h2, h3⟩
  · exact absurd hat (hn a (Nat.le_refl _))
  · rw [e]
    have : i = a := by
      rcases Nat.lt_or_ge a i with q | q
      · exact absurd hat (h3 a (Nat.le_refl _) q)
      · omega
    rw [this]

noncomputable def subq : List Nat → List Nat → Bool
  | _, [] => true
  | [], _ :: _ => false
  | d :: m, c :: w => if d = c then subq m w else subq m (c :: w)

theorem ellRun_cons (got : Str) (w : Str) (r : List Str) (a : Nat) : ellRun got got.length (w :: r) a = if decide (findAt got w a < 0) = true then false else ellRun got got.length r (findAt got w a + w.length) := rfl

/-- the lines of a word, one behind the other -/
theorem run_lines {got : Str} {r' t : List Nat} (hr : (58 : Nat) ∉ r') (ht : t.head? ≠ some 58 ∧ t.length < r'.length + 2) : ∀ (m w : List Nat) (a : Nat), (∀ c ∈ m, c ≠ 58) → a ≤ got.length → got.cps.toList.drop a = blocks (58 :: r') t m →
    ellRun got got.length (w.map (fun c => toS (c :: 58 :: r')) ++ [toS []]) a = subq m w
  | m, [], a, _, ha, _ => by
    show ellRun got got.length [toS []] a = _
    rw [ellRun_cons, find_empty (by simp [toS]) ha, if_neg (by simp)]
    cases m <;> rfl
  | [], c :: w, a, _, ha, hd => by
    show ellRun got got.length (toS (c :: 58 :: r') :: _) a = _
    have hl : (toS (c :: 58 :: r')).cps.toList = c :: 58 :: r' := by simp [toS]
    rw [ellRun_cons, find_none (by rw [← len_list, hl]; simp) ha (fun k h => ?_)]
    · rfl
    · rw [← List.drop_drop, hd, hl] at h
      have := h.length_le
      simp [blocks] at this
      omega
  | d :: m, c :: w, a, hm, ha, hd => by
    show ellRun got got.length (toS (c :: 58 :: r') :: _) a = _
    have hl : (toS (c :: 58 :: r')).cps.toList = c :: 58 :: r' := by simp [toS]
    have hn : (toS (c :: 58 :: r')).length = r'.length + 2 := by rw [← len_list, hl]; simp
    have hd' : got.cps.toList.drop a = (d :: 58 :: r') ++ blocks (58 :: r') t m := by rw [hd, blocks_cons]; rfl
    have hend : a + (r'.length + 2) ≤ got.length := by
      have := congrArg List.length hd'
      rw [List.length_drop, len_list, List.length_append] at this
      simp at this; omega
    have hnext : got.cps.toList.drop (a + (r'.length + 2)) = blocks (58 :: r') t m := by
      rw [← List.drop_drop, hd']
      exact List.drop_left' (by simp)
    by_cases h : d = c
    · subst h
      rw [ellRun_cons, find_hit (by rw [hn]; omega) ha (by rw [hl, hd']; exact ⟨_, rfl⟩), if_neg (by simp), hn]
      have ih := run_lines hr ht m w (a + (r'.length + 2)) (fun c hc => hm c (.tail _ hc)) hend hnext
      rw [subq, if_pos rfl, ← ih]
      congr 1
    · have hskip : findAt got (toS (c :: 58 :: r')) a = findAt got (toS (c :: 58 :: r')) (a + (r'.length + 2)) := by
        refine find_skip (by rw [hn]; omega) hend fun k hk hp => ?_
        rw [← List.drop_drop, hd', hl] at hp
        obtain ⟨u, hu⟩ := hp
        cases k with
        | zero =>
          have := congrArg List.head? hu
          simp at this
          exact h this.symm
        | succ k =>
          have h1 : (((d :: 58 :: r') ++ blocks (58 :: r') t m).drop (k + 1))[1]? = some 58 := by rw [← hu]; rfl
          rw [List.getElem?_drop] at h1
          by_cases hk2 : k + 1 + 1 < r'.length + 2
          · rw [List.getElem?_append_left (by simp; omega)] at h1
            have h2 : r'[k]? = some 58 := by simpa using h1
            exact hr (List.mem_of_getElem? h2)
          · have hk3 : k + 1 + 1 = r'.length + 2 := by omega
            rw [List.getElem?_append_right (by simp; omega)] at h1
            have h2 : (blocks (58 :: r') t m)[0]? = some 58 := by
              rw [show k + 1 + 1 - (d :: 58 :: r').length = 0 by simp; omega] at h1; exact h1
            cases m with
            | nil =>
              have : t.head? = some 58 := by
                have e : blocks (58 :: r') t [] = t := by simp [blocks]
                rw [e] at h2
                rw [List.head?_eq_getElem?]; exact h2
              exact ht.1 this
            | cons e m =>
              rw [blocks_cons] at h2
              simp at h2
              exact hm e (.tail _ (.head _)) h2
      have ih := run_lines hr ht m (c :: w) (a + (r'.length + 2)) (fun c hc => hm c (.tail _ hc)) hend hnext
      rw [subq, if_neg h, ← ih]
      show _ = ellRun got got.length (toS (c :: 58 :: r') :: _) _
      rw [ellRun_cons, ellRun_cons, hskip]
theorem ell_all {got : Str} (hdots : True) {qs : List (List Nat)} {s : Str} (hs : Txt.split s dots = toS [] :: (qs.map toS ++ [toS []])) (hc : Txt.contains s dots = true) : ellOf s got = ellRun got got.length (qs.map toS ++ [toS []]) 0 := by
  unfold ellOf
  rw [hc, if_neg (by decide), hs]
  have e0 : (toS []).length = 0 := by decide
  rw [ell1_cons, e0, if_neg (by decide)]
  unfold ell2
  have el : lastD (toS [] :: (qs.map toS ++ [toS []])) = toS [] := by
    unfold lastD
    have : (toS [] :: (qs.map toS ++ [toS []]))[(toS [] :: (qs.map toS ++ [toS []])).length - 1]? = some (toS []) := by
      rw [← List.cons_append]
      simp
    rw [this]; rfl
  rw [el, e0, if_neg (by decide)]
  unfold ell3
  rw [if_neg (by simp)]
  have := ellRun_cons got (toS []) (qs.map toS ++ [toS []]) 0
  rw [find_empty (by simp [toS]) (Nat.zero_le _), if_neg (by simp), e0] at this
  exact this
end Mine
set_option maxHeartbeats 8000000
namespace Mine
open PySem.StrLaws

noncomputable def rTail (v : Str) : List Nat := (32 :: (v.cps.toList ++ [13, 10])).map lo1
theorem blk_low (v : Str) : (blk v).map lo1 = 58 :: rTail v := by simp [blk, rTail]; decide
theorem v13_tail : ∀ v ∈ V13, 58 ∉ rTail v ∧ 46 ∉ rTail v ∧ (rTail v).length ≤ 9 ∧ 46 ∉ blk v ∧ ∀ c ∈ blk v, c < 128 := by decide +kernel

theorem line_list {v : Str} (c : Nat) : (lineS v (one c)).cps.toList = c :: blk v := by
  have hp : (pageOf (rowsOf (one c) v)).cps.toList = (c :: blk v) ++ [13, 10] := by
    rw [page_list]; simp [one]
  have hn : (pageOf (rowsOf (one c) v)).length = (blk v).length + 3 := by rw [← len_list, hp]; simp
  unfold lineS
  have h1 := slice_closes_to_neg (x := pageOf (rowsOf (one c) v)) (j := -2) (k := -2 + (pageOf (rowsOf (one c) v)).length) (by decide) (by omega) rfl
  rw [eq_of_beq h1, hp, hn]
  have e : (-2 + (((blk v).length + 3 : Nat) : Int) - 0).toNat = (c :: blk v).length := by simp; omega
  rw [e]
  simp

theorem glue_join {v : Str} : ∀ l : List Nat, (Str.join dots (l.map fun c => lineS v (one c))).cps.toList = glue [46, 46, 46] (l.map fun c => c :: blk v)
  | [] => rfl
  | [c] => line_list c
  | c :: d :: l => by
    have ih := glue_join (v := v) (d :: l)
    show (lineS v (one c) ++ dots ++ Str.join dots ((d :: l).map fun c => lineS v (one c))).cps.toList = _
    simp only [Str.cps_append, Array.toList_append]
    rw [ih, line_list, show dots.cps.toList = [46, 46, 46] by decide +kernel]
    simp [glue]
theorem glue_ends (y : List Nat) : ∀ (p : List Nat) (ps : List (List Nat)), glue y ((p :: ps) ++ [[]]) = glue y (p :: ps) ++ y
  | p, [] => by simp [glue]
  | p, q :: ps => by
    have ih := glue_ends y q ps
    show p ++ (y ++ glue y ((q :: ps) ++ [[]])) = p ++ (y ++ glue y (q :: ps)) ++ y
    rw [ih]; simp
theorem glue_map (f : Nat → Nat) (y : List Nat) : ∀ ps : List (List Nat), (glue y ps).map f = glue (y.map f) (ps.map (·.map f))
  | [] => rfl
  | [p] => rfl
  | p :: q :: r => by
    have ih := glue_map f y (q :: r)
    show (p ++ (y ++ glue y (q :: r))).map f = p.map f ++ (y.map f ++ glue (y.map f) ((q :: r).map (·.map f)))
    rw [List.map_append, List.map_append, ih]
noncomputable def wparts (v : Str) (w : List Nat) : List (List Nat) := w.map fun c => c :: 58 :: rTail v
theorem want_list {v w : Str} (hne : w.cps.toList ≠ []) : (wantOf v w).cps.toList = glue [46, 46, 46] ([] :: ((w.cps.toList.map fun c => c :: blk v) ++ [[]])) := by
  unfold wantOf midOf
  rw [show ∀ l, Txt.join dots l = Str.join dots l from fun l => glued_eq_join _ _]
  simp only [Str.cps_append, Array.toList_append]
  rw [glue_join, show dots.cps.toList = [46, 46, 46] by decide +kernel]
  obtain ⟨c, l, e⟩ := List.exists_cons_of_ne_nil hne
  rw [e]
  have := glue_ends [46, 46, 46] (c :: blk v) (l.map fun c => c :: blk v)
  show _ = [] ++ ([46, 46, 46] ++ glue [46, 46, 46] (((c :: blk v) :: l.map fun c => c :: blk v) ++ [[]]))
  rw [this]; simp
theorem glue_mem {y : List Nat} {x : Nat} : ∀ {ps : List (List Nat)}, x ∈ glue y ps → x ∈ y ∨ ∃ p ∈ ps, x ∈ p
  | [], h => by cases h
  | [p], h => .inr ⟨p, .head _, h⟩
  | p :: q :: r, h => by
    rcases List.mem_append.mp h with h | h
    · exact .inr ⟨p, .head _, h⟩
    rcases List.mem_append.mp h with h | h
    · exact .inl h
    rcases glue_mem (ps := q :: r) h with h | ⟨p', hp', h⟩
    · exact .inl h
    · exact .inr ⟨p', .tail _ hp', h⟩

structure Word (w : Str) : Prop where
  ab : Wd w
  two : 2 ≤ w.length
  four : w.length ≤ 4
theorem Word.ne {w : Str} (h : Word w) : w.cps.toList ≠ [] := fun q => by have := h.two; rw [← len_list, q] at this; simp at this
theorem want_asc {v w : Str} (hw : Word w) (hv : v ∈ V13) : Asc (wantOf v w) := fun c hc => by
  rw [want_list hw.ne] at hc
  rcases glue_mem hc with h | ⟨p, hp, h⟩
  · simp at h; omega
  rcases List.mem_cons.mp hp with rfl | hp
  · cases h
  rcases List.mem_append.mp hp with hp | hp
  · obtain ⟨d, hd, rfl⟩ := List.mem_map.mp hp
    rcases List.mem_cons.mp h with rfl | h
    · rcases hw.ab _ hd with rfl | rfl <;> omega
    · exact (v13_tail v hv).2.2.2.2 c h
  · rw [List.mem_singleton.mp hp] at h; cases h
theorem low_want {v w : Str} (hw : Word w) (hv : v ∈ V13) : Txt.lower (wantOf v w) = toS (glue [46, 46, 46] ([] :: (wparts v w.cps.toList ++ [[]]))) := by
  apply Str.ext'
  apply Array.toList_inj.mp
  rw [lower_list (want_asc hw hv), want_list hw.ne, glue_map]
  have e : ∀ l : List Nat, (∀ c ∈ l, c = 97 ∨ c = 98) → (l.map fun c => c :: blk v).map (·.map lo1) = wparts v l := by
    intro l
    induction l with
    | nil => intro _; rfl
    | cons c l ih =>
      intro h
      rw [List.map_cons, List.map_cons, ih fun d hd => h d (.tail _ hd)]
      have e1 : (c :: blk v).map lo1 = c :: 58 :: rTail v := by
        rw [List.map_cons, blk_low]
        rcases h c (.head _) with rfl | rfl <;> rfl
      rw [e1]; rfl
  have e3 : (([] : List Nat) :: ((w.cps.toList.map fun c => c :: blk v) ++ [[]])).map (·.map lo1) = [] :: (wparts v w.cps.toList ++ [[]]) := by
    rw [List.map_cons, List.map_append, e _ hw.ab]; rfl
  rw [e3]
  simp only [toS, List.toList_toArray]
  rfl
theorem parts_free {v : Str} {w : List Nat} (hw : ∀ c ∈ w, c = 97 ∨ c = 98) (hv : v ∈ V13) : ∀ q ∈ [] :: (wparts v w ++ [[]]), 46 ∉ q := by
  intro q hq
  rcases List.mem_cons.mp hq with rfl | hq
  · simp
  rcases List.mem_append.mp hq with hq | hq
  · obtain ⟨c, hc, rfl⟩ := List.mem_map.mp hq
    have := (v13_tail v hv).2.1
    intro h
    rcases List.mem_cons.mp h with h | h
    · rcases hw c hc with rfl | rfl <;> omega
    rcases List.mem_cons.mp h with h | h
    · omega
    · exact this h
  · rw [List.mem_singleton.mp hq]; simp
theorem low_page {names v : Str} (h : NameOk names) (hv : v ∈ V13) : (Txt.lower (pageOf (rowsOf names v))).cps.toList = blocks (58 :: rTail v) [13, 10] (low names) := by
  rw [lower_list (page_asc h.l4 hv), page_list, List.map_append, List.map_flatMap]
  unfold blocks low
  rw [List.flatMap_map]
  have e : ∀ c : Nat, (c :: blk v).map lo1 = lo1 c :: 58 :: rTail v := fun c => by rw [List.map_cons, blk_low]
  simp only [e]
  rfl
theorem low_mem {names : Str} (h : NameOk names) : ∀ c ∈ low names, c = 97 ∨ c = 98 := fun c hc => by
  obtain ⟨d, hd, rfl⟩ := List.mem_map.mp hc
  have : ∀ d ∈ L4, lo1 d = 97 ∨ lo1 d = 98 := by decide
  exact this d (h.l4 d hd)
theorem stand_eq {names v w : Str} (h : NameOk names) (hv : v ∈ V13) (hw : Word w) : standOf v (pageOf (rowsOf names v)) w = subq (low names) w.cps.toList := by
  have hs := split_glue (qs := [] :: (wparts v w.cps.toList ++ [[]])) (by simp) (parts_free hw.ab hv)
  unfold standOf
  rw [low_want hw hv]
  have h1 : Txt.split (toS (glue [46, 46, 46] ([] :: (wparts v w.cps.toList ++ [[]])))) dots = toS [] :: ((wparts v w.cps.toList).map toS ++ [toS []]) := by
    rw [hs.1]; simp
  rw [ell_all trivial h1 hs.2.2]
  have h2 : (wparts v w.cps.toList).map toS = w.cps.toList.map fun c => toS (c :: 58 :: rTail v) := by
    unfold wparts; rw [List.map_map]; rfl
  rw [h2]
  refine run_lines (t := [13, 10]) (v13_tail v hv).1 ⟨by decide, ?_⟩ (low names) w.cps.toList 0 (fun c hc => ?_) (Nat.zero_le _) ?_
  · have : 1 ≤ (rTail v).length := by simp [rTail]
    show 2 < _; omega
  · rcases low_mem h c hc with rfl | rfl <;> omega
  · rw [List.drop_zero, low_page h hv]

theorem sub_occ : ∀ m ∈ allW 4 ++ allW 5, ∀ w ∈ allW 2 ++ (allW 3 ++ allW 4), subq m w = (occ m w != 0) := by decide +kernel
end Mine
set_option maxHeartbeats 8000000
namespace Mine
open PySem.StrLaws

theorem allW_spec : ∀ (n : Nat) (l : List Nat), l ∈ allW n → l.length = n ∧ ∀ c ∈ l, c = 97 ∨ c = 98
  | 0, l, h => by
    rw [List.mem_singleton.mp h]; exact ⟨rfl, fun c hc => by cases hc⟩
  | n + 1, l, h => by
    obtain ⟨w, hw, h⟩ := List.mem_flatMap.mp h
    obtain ⟨h1, h2⟩ := allW_spec n w hw
    have : l = 97 :: w ∨ l = 98 :: w := by simpa using h
    rcases this with rfl | rfl
    · exact ⟨by simp [h1], fun c hc => (List.mem_cons.mp hc).elim (fun e => .inl e) (h2 c)⟩
    · exact ⟨by simp [h1], fun c hc => (List.mem_cons.mp hc).elim (fun e => .inr e) (h2 c)⟩
theorem toS_list (l : List Nat) : (toS l).cps.toList = l := by simp [toS]
theorem toS_len (l : List Nat) : (toS l).length = l.length := by rw [← len_list, toS_list]
theorem word_of {n : Nat} {l : List Nat} (h : l ∈ allW n) (h2 : 2 ≤ n) (h4 : n ≤ 4) : Word (toS l) := by
  obtain ⟨h1, h3⟩ := allW_spec n l h
  exact ⟨fun c hc => h3 c (by rw [toS_list] at hc; exact hc), by rw [toS_len]; omega, by rw [toS_len]; omega⟩

theorem line_len {v : Str} (hv : v ∈ V13) (c : Nat) : (lineS v (one c)).length ≤ 11 := by
  rw [← len_list, line_list, List.length_cons]
  have := blk_len hv; omega
theorem sum_le : ∀ (l : List Str) (B : Nat), (∀ x ∈ l, x.length ≤ B) → (l.map (·.length)).sum ≤ l.length * B
  | [], B, _ => by simp
  | x :: l, B, h => by
    have := sum_le l B fun y hy => h y (.tail _ hy)
    have := h x (.head _)
    simp only [List.map_cons, List.sum_cons, List.length_cons, Nat.add_mul]; omega
theorem wd_ok {v w : Str} (hw : Word w) (hv : v ∈ V13) : WdOk v w := by
  have hl4 := hw.ab.l4
  have h16 : w.length ≤ 16 := by have := hw.four; omega
  have he := esc_lens h16 hl4 hv (Nat.le_refl 7)
  have he' : (escPage w v).length ≤ 1068 := he
  have hask : (askOf v w).length ≤ 3204 := by
    have := len_upper (escPage w v)
    unfold askOf; omega
  have hls : ((w.cps.toList.map fun c => lineS v (one c)).map (·.length)).sum ≤ 44 := by
    have := sum_le (w.cps.toList.map fun c => lineS v (one c)) 11 fun x hx => by
      obtain ⟨c, _, rfl⟩ := List.mem_map.mp hx
      exact line_len hv c
    rw [List.length_map, len_list] at this
    have := hw.four; omega
  have h3 : dots.length = 3 := by decide +kernel
  have hmid : (midOf v w).length ≤ 60 := by
    have h1 := StrLaws.join_length_le dots (w.cps.toList.map fun c => lineS v (one c))
    rw [List.length_map, len_list, h3] at h1
    have e : midOf v w = Str.join dots (w.cps.toList.map fun c => lineS v (one c)) := glued_eq_join _ _
    rw [e]
    have := hw.four; omega
  have hs := split_glue (qs := [] :: (wparts v w.cps.toList ++ [[]])) (by simp) (parts_free hw.ab hv)
  exact {
    letters := hw.ab
    pg := pg_ok h16 hl4 hv
    esc := fun j hj => by have := esc_lens h16 hl4 hv hj; omega
    up := fit_upper (by omega)
    low := fit_lower (by omega)
    nm := fun c hc => by
      have hc' : c ∈ (Txt.lower (askOf v w)).cps.toList := by simpa using hc
      unfold askOf at hc'
      rw [lower_list (esc_up_asc hl4 hv), upper_list (esc_asc hl4 hv), List.map_map] at hc'
      obtain ⟨d, hd, rfl⟩ := List.mem_map.mp hc'
      exact noset_name _ (esc_mem hl4 hv hd).2.2.2.2
    jn := joinOk_of (by rw [List.length_map, len_list, h3]; have := hw.four; omega)
    ml := by omega
    lowW := fit_lower (by unfold wantOf; rw [Str.length_append, Str.length_append, h3]; omega)
    el := fun _ => by
      rw [low_want hw hv]
      exact {
        two := by rw [hs.1]; simp
        many := by rw [hs.1]; have := hw.four; simp [wparts]; have e : w.cps.size = w.length := rfl; omega
        parts := by rw [hs.2.1, sizeLine_eq]; have := hw.four; simp [wparts]; have e : w.cps.size = w.length := rfl; omega
        each := fun p hp => by
          rw [hs.1] at hp
          obtain ⟨q, hq, rfl⟩ := List.mem_map.mp hp
          rw [toS_len]
          rcases List.mem_cons.mp hq with rfl | hq
          · simp
          rcases List.mem_append.mp hq with hq | hq
          · obtain ⟨c, hc, rfl⟩ := List.mem_map.mp hq
            have := (v13_tail v hv).2.2.1
            simp; omega
          · rw [List.mem_singleton.mp hq]; simp } }

theorem pow32 {names : Str} (h : NameOk names) : 2 ^ names.length ≤ 32 := (Nat.pow_le_pow_right (show 0 < 2 by decide) h.len : 2 ^ names.length ≤ 2 ^ 5)
theorem an_ok {names v : Str} (h : NameOk names) (hv : v ∈ V13) {words : List Str} (hl : words.length ≤ 100) (hw : ∀ w ∈ words, Word w) : AnOk (tallyRows names v) v (pageOf (rowsOf names v)) words where
  rl := by have := pow32 h; simp [tallyRows]; omega
  fr := fun p hp => by
    obtain ⟨k, _, rfl⟩ := List.mem_map.mp hp
    have := esc_lens (x := chosenOf names k) (by have := chosen_len h k; omega) (chosen_l4 h k) hv (Nat.le_refl 7)
    exact fit_lower (by show (escPage _ _).length ≤ _; unfold escPage; omega)
  pa := pg_ok (by decide) (by decide) hv
  pb := pg_ok (by decide) (by decide) hv
  lowP := fit_lower (by have := page_len (x := names) hv; have := h.len; omega)
  wl := by omega
  each := fun w hww => wd_ok (hw w hww) hv

/-! ## the choice of all rows -/
theorem chosen_all : ∀ l : List Nat, chosenR l (2 ^ l.length - 1) = l
  | [] => rfl
  | a :: l => by
    have hp : 0 < 2 ^ l.length := Nat.pow_pos (by decide)
    have e : 2 ^ (a :: l).length - 1 = 2 * (2 ^ l.length - 1) + 1 := by rw [List.length_cons, Nat.pow_succ]; omega
    rw [e, chosenR, if_pos (by simp [Nat.add_mod]), show (2 * (2 ^ l.length - 1) + 1) / 2 = 2 ^ l.length - 1 by omega, chosen_all l]
theorem join_flat : ∀ ls : List Str, (Str.join (Str.ofString "") ls).cps.toList = ls.flatMap (·.cps.toList)
  | [] => rfl
  | [p] => by show p.cps.toList = _; simp
  | p :: q :: r => by
    have ih := join_flat (q :: r)
    show (p ++ Str.ofString "" ++ Str.join (Str.ofString "") (q :: r)).cps.toList = _
    simp only [Str.cps_append, Array.toList_append]
    rw [ih, show (Str.ofString "").cps.toList = [] by decide +kernel]
    simp
theorem last_ok {names v : Str} (h : NameOk names) (hv : v ∈ V13) : ((escPage (chosenOf names (2 ^ names.length - 1)) v).cps.toList != (markedOf (pageOf (rowsOf names v))).cps.toList) = false := by
  have e1 : chosenOf names (2 ^ names.length - 1) = names := by
    unfold chosenOf
    rw [chosenL_eq, ← len_list, chosen_all]
  rw [e1]
  have e2 : (escPage names v).cps.toList = (markedOf (pageOf (rowsOf names v))).cps.toList := by
    unfold escPage markedOf
    rw [escUpto_list, show ∀ l, Txt.join (Str.ofString "") l = Str.join (Str.ofString "") l from fun l => glued_eq_join _ _, join_flat, List.flatMap_map]
    have : ∀ l : List Nat, (∀ c ∈ l, c < 128) → l.flatMap (escC 7) = l.flatMap fun c => (markOf c).cps.toList := by
      intro l
      induction l with
      | nil => intro _; rfl
      | cons c l ih =>
        intro hl
        rw [List.flatMap_cons, List.flatMap_cons, ih fun d hd => hl d (.tail _ hd), escC_mark c (hl c (.head _))]
    exact this _ (page_asc h.l4 hv)
  rw [e2]; simp

theorem bits_ok : ∀ n, n < 33 → Builtin.Int.intBits ((n : Nat) : Int) ≤ 64 := by decide +kernel
theorem told_len {names v w : Str} (h : NameOk names) (hv : v ∈ V13) (hw : Wd w) : (toldOf (tallyRows names v) v w).length = occ (low names) w.cps.toList := by
  rw [told_eq h hv hw, List.length_map]
  have e : names.length = (low names).length := by simp [low]; rfl
  rw [e, hits_len]

theorem law_ok {names v : Str} {L R : List Nat} (h : NameOk names) (h4 : 4 ≤ names.length) (hv : v ∈ V13) (hL : L ∈ allW 2) (hR : R ∈ allW 2) : LawOk names (toS L) (toS R) v := by
  obtain ⟨row, hrow, erow⟩ := tab_pairs L hL R hR
  have hmix := tab_mix row hrow
  rw [erow] at hmix
  have hmix : mixP 4 (toS L) (toS R) = row.2.map fun p => (toS p.1, p.2) := hmix
  obtain ⟨hrl, hrw⟩ := tab_ok row hrow
  have hkeys : mixKeys (toS L) (toS R) = row.2.map fun p => toS p.1 := by
    unfold mixKeys; rw [hmix, List.map_map]; rfl
  have hwL := word_of hL (Nat.le_refl 2) (by decide)
  have hwR := word_of hR (Nat.le_refl 2) (by decide)
  have hword : ∀ w ∈ mixKeys (toS L) (toS R), Word w ∧ w.cps.toList ∈ allW 2 ++ (allW 3 ++ allW 4) := fun w hw => by
    rw [hkeys] at hw
    obtain ⟨p, hp, rfl⟩ := List.mem_map.mp hw
    rw [toS_list]
    rcases (hrw p hp).1 with q | q | q
    · exact ⟨word_of q (by decide) (by decide), List.mem_append_left _ q⟩
    · exact ⟨word_of q (by decide) (by decide), List.mem_append_right _ (List.mem_append_left _ q)⟩
    · exact ⟨word_of q (by decide) (by decide), List.mem_append_right _ (List.mem_append_right _ q)⟩
  have hwords : ∀ w ∈ [toS L, toS R] ++ mixKeys (toS L) (toS R), Word w ∧ w.cps.toList ∈ allW 2 ++ (allW 3 ++ allW 4) := fun w hw => by
    rcases List.mem_append.mp hw with hw | hw
    · rcases List.mem_cons.mp hw with rfl | hw
      · exact ⟨hwL, by rw [toS_list]; exact List.mem_append_left _ hL⟩
      · rw [List.mem_singleton.mp hw]
        exact ⟨hwR, by rw [toS_list]; exact List.mem_append_left _ hR⟩
    · exact hword w hw
  have hlowl : (low names).length = names.length := by simp [low]; rfl
  have hm : low names ∈ allW 4 ++ allW 5 := by
    have h1 := allW_mem (low names) (low_mem h)
    have h5 := h.len
    rcases Nat.lt_or_ge names.length 5 with q | q
    · rw [show (low names).length = 4 by omega] at h1; exact List.mem_append_left _ h1
    · rw [show (low names).length = 5 by omega] at h1; exact List.mem_append_right _ h1
  exact {
    tl := tl_ok h hv
    pg := pg_ok (by have := h.len; omega) h.l4 hv
    ll := by rw [toS_len]; exact (allW_spec 2 L hL).1
    rl := by rw [toS_len]; exact (allW_spec 2 R hR).1
    mkl := by have := page_len (x := names) hv; have := h.len; omega
    last := last_ok h hv
    an := fun ss hss => an_ok h hv (by
        have := hss.length_eq
        rw [hkeys, List.length_map] at this
        simp; omega) fun w hw => (hwords w (by
          rcases List.mem_append.mp hw with hw | hw
          · exact List.mem_append_left _ hw
          · exact List.mem_append_right _ (hss.mem_iff.mp hw))).1
    low := fit_lower (by have := h.len; omega)
    lown := by rw [lower_name_len h]; exact h.len
    cfl := by
      rw [told_len h hv hwL.ab, told_len h hv hwR.ab, toS_list, toS_list]
      have key := cfl_tab row hrow (low names) hm
      rw [erow] at key
      have e : ((mixKeys (toS L) (toS R)).map fun w => mixNum (toS L) (toS R) w * ((toldOf (tallyRows names v) v w).length : Int)) = row.2.map fun p => p.2 * ((occ (low names) p.1 : Nat) : Int) := by
        rw [hkeys, List.map_map]
        refine List.map_congr_left fun p hp => ?_
        have hw : Word (toS p.1) := (hword (toS p.1) (by rw [hkeys]; exact List.mem_map_of_mem hp)).1
        show mixNum (toS L) (toS R) (toS p.1) * _ = _
        rw [told_len h hv hw.ab, toS_list]
        unfold mixNum
        rw [hmix, (hrw p hp).2]; rfl
      rw [e, key]; simp
    ml := by rw [hmix, List.length_map]; exact hrl
    mo := fun w => bits_ok _ (by
      have h1 : (toldOf (tallyRows names v) v w).length ≤ 32 := by
        unfold toldOf
        rw [List.length_map]
        refine Nat.le_trans (List.length_filter_le _ _) ?_
        have := pow32 h
        simp [tallyRows]; omega
      omega)
    ans := fun w hw => by
      obtain ⟨hww, hin⟩ := hwords w hw
      obtain ⟨s1, s2⟩ := spells_eq (w := w) h
      refine ⟨(told_eq h hv hww.ab).trans s1.symm, ?_⟩
      rw [stand_eq h hv hww, s2, sub_occ (low names) hm _ hin, ← hits_len, hlowl]
      cases hits (low names) (2 ^ names.length) w.cps.toList <;> rfl }
end Mine
set_option maxHeartbeats 8000000
namespace Mine
open PySem.StrLaws

noncomputable def nameC (k : Int) : Nat := (Txt.charAt (Str.ofString "aAbB") (k.fmod 4)).getD 0
noncomputable def lrC (k : Int) : Nat := (Txt.charAt (Str.ofString "ab") ((k.fdiv 4).fmod 2)).getD 0
theorem nameC_ok (k : Int) : nameC k ∈ L4 := by
  have h := fmod_in k (m := 4) (by decide)
  have : k.fmod 4 = 0 ∨ k.fmod 4 = 1 ∨ k.fmod 4 = 2 ∨ k.fmod 4 = 3 := by omega
  unfold nameC
  rcases this with e | e | e | e <;> rw [e] <;> decide +kernel
theorem lrC_ok (k : Int) : lrC k = 97 ∨ lrC k = 98 := by
  have h := fmod_in (k.fdiv 4) (m := 2) (by decide)
  have : (k.fdiv 4).fmod 2 = 0 ∨ (k.fdiv 4).fmod 2 = 1 := by omega
  unfold lrC
  rcases this with e | e <;> rw [e] <;> decide +kernel
theorem names_toS (ns : List Int) : namesOf ns = toS ((numsOf ns).map nameC) := by
  unfold namesOf
  have : (numsOf ns).map nameSign = ((numsOf ns).map nameC).map one := by rw [List.map_map]; rfl
  rw [this, join_one_list]; rfl
theorem left_toS (ns : List Int) : leftOf ns = toS (((numsOf ns).take 2).map lrC) := by
  unfold leftOf
  have : ((numsOf ns).take 2).map lrSign = (((numsOf ns).take 2).map lrC).map one := by rw [List.map_map]; rfl
  rw [this, join_one_list]; rfl
theorem right_toS (ns : List Int) : rightOf ns = toS ((((numsOf ns).drop 2).take 2).map lrC) := by
  unfold rightOf
  have : (((numsOf ns).drop 2).take 2).map lrSign = ((((numsOf ns).drop 2).take 2).map lrC).map one := by rw [List.map_map]; rfl
  rw [this, join_one_list]; rfl
theorem nums_len (ns : List Int) : 4 ≤ (numsOf ns).length ∧ (numsOf ns).length ≤ 5 := by
  have hdl : (drawnOf ns).length ≤ 5 := by simp [drawnOf]; omega
  simp only [numsOf, List.length_append, List.length_drop, List.length_cons, List.length_nil]; omega

/-- the value, by what it leans on -/
noncomputable def vOf (i : Int) (b : Bool) : Str := if (b && !Txt.contains (Str.ofString "\n\x0d") (Txt.item (Str.ofString "&<>\"\n\t\x0d;a") i)) = true then Txt.item (Str.ofString "&<>\"\n\t\x0d;a") i else c14Upto 6 (Txt.item (Str.ofString "&<>\"\n\t\x0d;a") i)
theorem vOf_ok : ∀ i, i < 9 → ∀ b : Bool, vOf ((i : Nat) : Int) b ∈ V13 := by decide +kernel
theorem c14_ok : ∀ i, i < 9 → ∀ k, k < 7 → (c14Upto k (Txt.item (Str.ofString "&<>\"\n\t\x0d;a") ((i : Nat) : Int))).length ≤ 65535 := by decide +kernel
theorem law3_plain (ns : List Int) (hl : ns.length ≤ 63) : LawOk (namesOf ns) (leftOf ns) (rightOf ns) (valueOf (totalOf ns)) ∧ ∀ k, k ≤ 6 → (c14Upto k (chosenSign (totalOf ns))).length ≤ 65535 := by
  have ht := fmod_in (totalOf ns) (m := 9) (by decide)
  obtain ⟨i, hi⟩ : ∃ i : Nat, (totalOf ns).fmod 9 = i := ⟨((totalOf ns).fmod 9).toNat, by omega⟩
  have hi9 : i < 9 := by omega
  have hv : valueOf (totalOf ns) ∈ V13 := by
    have := vOf_ok i hi9 (((totalOf ns).fdiv 9).fmod 2 == 0)
    unfold vOf at this
    unfold valueOf bareOf chosenSign
    rw [hi]; exact this
  obtain ⟨n4, n5⟩ := nums_len ns
  have hN : NameOk (namesOf ns) := by
    rw [names_toS]
    refine ⟨by rw [toS_len, List.length_map]; exact n5, fun c hc => ?_⟩
    rw [toS_list] at hc
    obtain ⟨k, _, rfl⟩ := List.mem_map.mp hc
    exact nameC_ok k
  have hl4 : 4 ≤ (namesOf ns).length := by rw [names_toS, toS_len, List.length_map]; exact n4
  have hlr : ∀ l : List Int, l.length = 2 → l.map lrC ∈ allW 2 := fun l hl => by
    have := allW_mem (l.map lrC) fun c hc => by
      obtain ⟨k, _, rfl⟩ := List.mem_map.mp hc
      exact lrC_ok k
    rw [List.length_map, hl] at this; exact this
  refine ⟨?_, fun k hk => ?_⟩
  · rw [left_toS, right_toS]
    exact law_ok hN hl4 hv (hlr _ (by rw [List.length_take]; omega)) (hlr _ (by rw [List.length_take, List.length_drop]; omega))
  · unfold chosenSign
    rw [hi]; exact c14_ok i hi9 k (by omega)
theorem law3_holds : PySem.Challenge.rw_tc0046_03.Holds := law3_of law3_plain
end Mine

set_option maxHeartbeats 8000000 in
theorem PySem.Challenge.cw_tc0046_03_holds : PySem.Challenge.rw_tc0046_03.Holds := by
  exact Mine.law3_holds
