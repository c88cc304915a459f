import JvmDerived
import JvmDerived.Pilot.@@N@@Statement
import JvmDerived.Pilot.@@N@@Code
set_option linter.unusedVariables false
set_option linter.unusedSimpArgs false
namespace Jvm.OwnKit
open Sem ClassFile Op Lib Jvm.Stand Jvm.Free Jvm.LawKit Jvm.RoadKit
/-! ## own kit: a body's walk as 'what is left to run' (Go), contracts (Ct), the known cells (Hp) -/
def updL {α : Type} : List α → Nat → α → List α
  | [], _, _ => []
  | _ :: r, 0, x => x :: r
  | y :: r, i + 1, x => y :: updL r i x
theorem upd_nil {α : Type} (i : Nat) (x : α) : updL [] i x = [] := by cases i <;> rfl
theorem upd_zero {α : Type} (y : α) (r : List α) (x : α) : updL (y :: r) 0 x = x :: r := rfl
theorem upd_succ {α : Type} (y : α) (r : List α) (i : Nat) (x : α) : updL (y :: r) (i + 1) x = y :: updL r i x := rfl
theorem upd_mem {α : Type} : ∀ (L : List α) (i : Nat) (x y : α), y ∈ updL L i x → y = x ∨ ∃ j, j ≠ i ∧ L[j]? = some y
  | [], i, x, y, q => by rw [upd_nil] at q; cases q
  | z :: r, 0, x, y, q => by
    rcases List.mem_cons.mp q with u | u
    · exact Or.inl u
    · obtain ⟨j, hj⟩ := List.getElem?_of_mem u
      exact Or.inr ⟨j + 1, by omega, by simpa using hj⟩
  | z :: r, i + 1, x, y, q => by
    rcases List.mem_cons.mp q with u | u
    · exact Or.inr ⟨0, by omega, by simp [u]⟩
    · rcases upd_mem r i x y u with v | ⟨j, v, w⟩
      · exact Or.inl v
      · exact Or.inr ⟨j + 1, by omega, by simpa using w⟩
theorem upd_map {α β : Type} (f : α → β) : ∀ (L : List α) (i : Nat) (x y : α), L[i]? = some y → f x = f y → (updL L i x).map f = L.map f
  | [], _, _, _, q, _ => by cases q
  | z :: r, 0, x, y, q, e => by cases q; simp [updL, e]
  | z :: r, i + 1, x, y, q, e => by simp [updL, upd_map f r i x y q e]
theorem upd_at {α : Type} : ∀ (L : List α) (i : Nat) (x y : α), L[i]? = some y → (updL L i x)[i]? = some x
  | [], _, _, _, q => by cases q
  | z :: r, 0, x, y, q => rfl
  | z :: r, i + 1, x, y, q => upd_at r i x y q
theorem upd_ne {α : Type} : ∀ (L : List α) (i j : Nat) (x : α), j ≠ i → (updL L i x)[j]? = L[j]?
  | [], i, j, x, _ => by rw [upd_nil]
  | z :: r, 0, 0, x, q => absurd rfl q
  | z :: r, 0, j + 1, x, _ => rfl
  | z :: r, i + 1, 0, x, _ => rfl
  | z :: r, i + 1, j + 1, x, q => upd_ne r i j x (by omega)
theorem upd_len {α : Type} : ∀ (L : List α) (i : Nat) (x : α), (updL L i x).length = L.length
  | [], i, x => by rw [upd_nil]
  | z :: r, 0, x => rfl
  | z :: r, i + 1, x => by simp [updL, upd_len r i x]
theorem upd_set {α : Type} : ∀ (L : List α) (i : Nat) (x : α), updL L i x = L.set i x
  | [], i, x => by rw [upd_nil]; simp
  | z :: r, 0, x => rfl
  | z :: r, i + 1, x => by simp [updL, upd_set r i x]
/-- the i-th to the front -/
theorem front {α : Type} : ∀ {L : List α} {i : Nat} {x : α}, L[i]? = some x → L.Perm (x :: L.eraseIdx i)
  | [], _, _, q => by cases q
  | z :: r, 0, x, q => by cases q; exact List.Perm.refl _
  | z :: r, i + 1, x, q => ((front (L := r) (i := i) q).cons z).trans (List.Perm.swap x z (r.eraseIdx i))
theorem upd_erase {α : Type} : ∀ (L : List α) (i : Nat) (x : α), (updL L i x).eraseIdx i = L.eraseIdx i
  | [], i, x => by rw [upd_nil]
  | z :: r, 0, x => rfl
  | z :: r, i + 1, x => by simp [updL, upd_erase r i x]
/-- .. and back to its place, another value -/
theorem unfront {α : Type} {L : List α} {i : Nat} {x x' : α} (hi : L[i]? = some x) : (x' :: L.eraseIdx i).Perm (updL L i x') := by
  have := front (upd_at L i x' x hi)
  rw [upd_erase] at this
  exact this.symm
abbrev Nm : Type := String × String × String
abbrev slo (Z : State) (q : Nm) : Nat := RoadKit.slotOf Z q.1 q.2.1 q.2.2
/-- a cell that is known: its address, what it holds, whether it is the walk's own (new; may be written) -/
abbrev Ent : Type := Addr × (Cell → Prop) × Bool
abbrev ow (a : Addr) (P : Cell → Prop) : Ent := (a, P, true)
abbrev ro (a : Addr) (P : Cell → Prop) : Ent := (a, P, false)
theorem upd_self {α : Type} : ∀ (L : List α) (i : Nat) (x : α), L[i]? = some x → updL L i x = L
  | [], _, _, q => by cases q
  | z :: r, 0, x, q => by cases q; rfl
  | z :: r, i + 1, x, q => by rw [upd_succ, upd_self r i x q]
/-- an object of exactly the class C; its fields ns hold vs -/
def Ob (Z : State) (C : String) (ns : List Nm) (vs : List Value) (c : Cell) : Prop :=
  (∃ k, Z.vm.findClass C = some c.cls ∧ Z.vm.classes[c.cls]? = some k ∧ c.vm.isStatics = false ∧ (k.kind = .ordinary → c.slots.size = k.instanceTypes.size)) ∧ vs.length = ns.length ∧
  ∀ (j : Nat) (q : Nm) (v : Value), ns[j]? = some q → vs[j]? = some v → ∃ cf k i f, Z.fieldFound? q.1 q.2.1 q.2.2 = some (cf, k, i, f) ∧ f.isStatic = false ∧ c.vm ≠ .unknown ∧ c.vm.isStatics = false ∧ Z.vm.assignable c.cls cf = true ∧ c.slots[f.slot]? = some v
/-- an array of the class number K, its components' kind ty; it holds vs -/
def Ar (Z : State) (ty : FieldType) (K : ClassId) (vs : List Value) (c : Cell) : Prop := Z.isArrayOf c ty ∧ c.vm ≠ .unknown ∧ c.cls = K ∧ c.slots = vs.toArray ∧ vs.length < 2 ^ 31 ∧ ∀ v ∈ vs, fits ty v = true
/-- what stood at the start stands; the cells of L are new, each as it says, no two the same -/
def Apart (x y : Ent) : Prop := (x.2.2 || y.2.2) = true → x.1 ≠ y.1
def Hp (Z : State) (h : Heap) (L : List Ent) : Prop := Ext Z.heap h ∧ (∀ x ∈ L, (x.2.2 = true → Z.heap.size ≤ x.1) ∧ ∃ c, h[x.1]? = some c ∧ x.2.1 c) ∧ L.Pairwise Apart
section Facts
variable {Z : State} {h h' : Heap} {L L' : List Ent} {i j : Nat} {a b : Addr} {P P' : Cell → Prop} {C : String} {ns : List Nm} {vs : List Value} {v w : Value} {sl : Nat} {ty : FieldType} {K : ClassId} {f f' : Bool}
theorem Apart.symm {x y : Ent} (q : Apart x y) : Apart y x := fun r e => q (by rw [Bool.or_comm]; exact r) e.symm
theorem Hp.start (Z : State) : Hp Z Z.heap [] := ⟨⟨Nat.le_refl _, fun _ _ q => q⟩, (fun _ q => nomatch q), List.Pairwise.nil⟩
theorem Hp.atM (H : Hp Z h L) (hi : (a, P, f) ∈ L) : ∃ c, h[a]? = some c ∧ P c := (H.2.1 _ hi).2
theorem Hp.at (H : Hp Z h L) (hi : L[i]? = some (a, P, f)) : ∃ c, h[a]? = some c ∧ P c := (H.2.1 _ (List.mem_of_getElem? hi)).2
theorem Hp.ge (H : Hp Z h L) (hi : L[i]? = some (ow a P)) : Z.heap.size ≤ a := (H.2.1 _ (List.mem_of_getElem? hi)).1 rfl
theorem Hp.lt (H : Hp Z h L) (hi : L[i]? = some (a, P, f)) : a < h.size := by obtain ⟨c, q, -⟩ := H.at hi; exact (Array.getElem?_eq_some_iff.mp q).1
theorem Hp.ne (H : Hp Z h L) (hi : L[i]? = some (a, P, f)) (hj : L[j]? = some (b, P', f')) (ij : i ≠ j) (hf : (f || f') = true := by rfl) : a ≠ b := by
  obtain ⟨li, ei⟩ := List.getElem?_eq_some_iff.mp hi
  obtain ⟨lj, ej⟩ := List.getElem?_eq_some_iff.mp hj
  have W := List.pairwise_iff_getElem.mp H.2.2
  rcases Nat.lt_or_ge i j with q | q
  · have r := W i j li lj q
    rw [ei, ej] at r
    exact r hf
  · have r := W j i lj li (by omega)
    rw [ei, ej] at r
    exact fun e => r (by rw [Bool.or_comm]; exact hf) e.symm
theorem Hp.mono (H : Hp Z h L) (E : Ext h h') : Hp Z h' L := ⟨⟨Nat.le_trans H.1.1 E.1, fun x c q => E.2 x c (H.1.2 x c q)⟩, fun x hx => by obtain ⟨q1, c, q2, q3⟩ := H.2.1 x hx; exact ⟨q1, c, E.2 _ _ q2, q3⟩, H.2.2⟩
theorem Hp.push (H : Hp Z h L) (E : Ext h h') (ha : h.size ≤ a) (hc : ∃ c, h'[a]? = some c ∧ P c) : Hp Z h' (ow a P :: L) := by
  have H' := H.mono E
  refine ⟨H'.1, fun x hx => ?_, ?_⟩
  · rcases List.mem_cons.mp hx with rfl | u
    · exact ⟨fun _ => Nat.le_trans H.1.1 ha, hc⟩
    · exact H'.2.1 x u
  · rw [List.pairwise_cons]
    refine ⟨fun x hx _ e => ?_, H.2.2⟩
    obtain ⟨-, c, q2, -⟩ := H.2.1 x hx
    have := (Array.getElem?_eq_some_iff.mp q2).1
    have e : a = x.1 := e
    rw [← e] at this
    exact absurd this (Nat.not_lt.mpr ha)
/-- a cell that is read alone -/
theorem Hp.know (H : Hp Z h L) (hc : ∃ c, h[a]? = some c ∧ P c) (hn : ∀ x ∈ L, x.2.2 = true → x.1 ≠ a) : Hp Z h (ro a P :: L) := by
  refine ⟨H.1, fun x hx => ?_, ?_⟩
  · rcases List.mem_cons.mp hx with rfl | u
    · exact ⟨fun q => (nomatch q), hc⟩
    · exact H.2.1 x u
  · rw [List.pairwise_cons]
    exact ⟨fun x hx q e => hn x hx (by simpa using q) e.symm, H.2.2⟩
theorem upd_apart : ∀ (L : List Ent) (i : Nat) (x y : Ent), L[i]? = some y → x.1 = y.1 → x.2.2 = y.2.2 → L.Pairwise Apart → (updL L i x).Pairwise Apart
  | [], _, _, _, q, _, _, _ => by cases q
  | z :: r, 0, x, y, q, e1, e2, W => by
    cases q
    rw [List.pairwise_cons] at W
    rw [upd_zero, List.pairwise_cons]
    exact ⟨fun u hu => by have := W.1 u hu; unfold Apart at this ⊢; rw [e1, e2]; exact this, W.2⟩
  | z :: r, i + 1, x, y, q, e1, e2, W => by
    rw [List.pairwise_cons] at W
    rw [upd_succ, List.pairwise_cons]
    refine ⟨fun u hu => ?_, upd_apart r i x y q e1 e2 W.2⟩
    rcases upd_mem _ _ _ _ hu with rfl | ⟨j, -, hj⟩
    · have := W.1 y (List.mem_of_getElem? (i := i) q); unfold Apart at this ⊢; rw [e1, e2]; exact this
    · exact W.1 u (List.mem_of_getElem? hj)
theorem Hp.wr (H : Hp Z h L) (hi : L[i]? = some (ow a P)) (W : Wr h h' a sl v) (hP : ∀ c : Cell, P c → c.vm.isStatics = false → sl < c.slots.size → P' (c.setSlot sl v)) : Hp Z h' (updL L i (ow a P')) := by
  have ge := H.ge hi
  obtain ⟨cell, h1, h2, h3, rfl⟩ := W
  obtain ⟨c, hc, hPc⟩ := H.at hi
  cases hc.symm.trans h1
  have lt := (Array.getElem?_eq_some_iff.mp h1).1
  have hset : (h.setIfInBounds a (cell.setSlot sl v))[a]? = some (cell.setSlot sl v) := by simp [lt]
  refine ⟨⟨by simpa using H.1.1, fun x c q => ?_⟩, fun x hx => ?_, upd_apart L i (ow a P') (ow a P) hi rfl rfl H.2.2⟩
  · have := (Array.getElem?_eq_some_iff.mp q).1
    rw [Array.getElem?_setIfInBounds_ne (by omega)]; exact H.1.2 x c q
  · rcases upd_mem _ _ _ _ hx with rfl | ⟨j, hj, hLj⟩
    · exact ⟨fun _ => ge, _, hset, hP _ hPc h2 h3⟩
    · obtain ⟨xa, xP, xf⟩ := x
      have ne : a ≠ xa := H.ne hi hLj (Ne.symm hj) (by simp)
      obtain ⟨q1, c, q2, q3⟩ := H.2.1 _ (List.mem_of_getElem? hLj)
      exact ⟨q1, c, by rw [Array.getElem?_setIfInBounds_ne ne]; exact q2, q3⟩
theorem Hp.weak (H : Hp Z h L) (hi : L[i]? = some (a, P, f)) (hP : ∀ c, P c → P' c) : Hp Z h (updL L i (a, P', f)) := by
  refine ⟨H.1, fun x hx => ?_, upd_apart L i (a, P', f) (a, P, f) hi rfl rfl H.2.2⟩
  rcases upd_mem _ _ _ _ hx with rfl | ⟨j, hj, hLj⟩
  · obtain ⟨c, q1, q2⟩ := H.at hi; exact ⟨(H.2.1 _ (List.mem_of_getElem? hi)).1, c, q1, hP c q2⟩
  · exact H.2.1 x (List.mem_of_getElem? hLj)
theorem Hp.perm (H : Hp Z h L) (q : L.Perm L') : Hp Z h L' := ⟨H.1, fun x hx => H.2.1 x (q.mem_iff.mpr hx), (q.pairwise_iff fun r => r.symm).mp H.2.2⟩
theorem Hp.exa (H : Hp Z h L) (hi : L[i]? = some (a, Ob Z C ns vs, f)) : Exa Z h a C := by
  obtain ⟨c, q, ⟨k, r⟩, -⟩ := H.at hi; exact ⟨c, k, q, r⟩
theorem Hp.exaM (H : Hp Z h L) (hi : (a, P, f) ∈ L) (hP : ∀ c, P c → ∃ ns vs, Ob Z C ns vs c) : Exa Z h a C := by
  obtain ⟨c, q, q2⟩ := H.atM hi; obtain ⟨ns, vs, ⟨k, r⟩, -⟩ := hP c q2; exact ⟨c, k, q, r⟩
theorem Hp.fld (H : Hp Z h L) (hi : L[i]? = some (a, Ob Z C ns vs, f)) {q : Nm} (hj : ns[j]? = some q) (hv : vs[j]? = some v) : Fld Z h a q.1 q.2.1 q.2.2 v := by
  obtain ⟨c, hc, -, -, F⟩ := H.at hi
  obtain ⟨cf, k, i, f, r⟩ := F j q v hj hv
  exact ⟨c, cf, k, i, f, hc, r⟩
theorem Hp.arr (H : Hp Z h L) (hi : L[i]? = some (a, Ar Z ty K vs, f)) : ∃ cl, Arr Z h a cl ty ∧ cl.cls = K ∧ cl.slots = vs.toArray ∧ vs.length < 2 ^ 31 ∧ ∀ v ∈ vs, fits ty v = true := by
  obtain ⟨c, hc, q1, q2, q3, q4, q5, q6⟩ := H.at hi; exact ⟨c, ⟨hc, q1, q2⟩, q3, q4, q5, q6⟩
theorem Hp.arrM (H : Hp Z h L) (hi : (a, Ar Z ty K vs, f) ∈ L) : ∃ cl, Arr Z h a cl ty ∧ cl.cls = K ∧ cl.slots = vs.toArray ∧ vs.length < 2 ^ 31 ∧ ∀ v ∈ vs, fits ty v = true := by
  obtain ⟨c, hc, q1, q2, q3, q4, q5, q6⟩ := H.atM hi; exact ⟨c, ⟨hc, q1, q2⟩, q3, q4, q5, q6⟩
/-- a class's fields: each laid, their slots distinct -/
def LayC (Z : State) (a0 : Array Value) (C : String) (ns : List Nm) : Prop := (∀ q ∈ ns, Laid Z a0 C q.1 q.2.1 q.2.2) ∧ (ns.map (slo Z)).Nodup
theorem LayC.of {a0 : Array Value} (hl : ∀ q ∈ ns, Laid Z a0 C q.1 q.2.1 q.2.2) (hn : (ns.map (·.2.1)).Nodup) (hp : ∀ q ∈ ns, ∃ t, parseFieldDescriptor q.2.2 = some t) : LayC Z a0 C ns := by
  refine ⟨hl, ?_⟩
  revert hl hn hp
  induction ns with
  | nil => intros; exact List.nodup_nil
  | cons x r ih =>
    intro hl hn hp
    rw [List.map_cons, List.nodup_cons] at hn ⊢
    refine ⟨fun q => ?_, ih (fun q hq => hl q (List.mem_cons_of_mem _ hq)) hn.2 (fun q hq => hp q (List.mem_cons_of_mem _ hq))⟩
    obtain ⟨y, hy, ey⟩ := List.mem_map.mp q
    obtain ⟨t1, p1⟩ := hp x List.mem_cons_self
    obtain ⟨t2, p2⟩ := hp y (List.mem_cons_of_mem _ hy)
    refine slot_ne (hl y (List.mem_cons_of_mem _ hy)) (hl x List.mem_cons_self) (fun z => ?_) p2 p1 ey
    exact hn.1 (List.mem_map.mpr ⟨y, hy, z⟩)
theorem Ob.put {a0 : Array Value} (Y : LayC Z a0 C ns) {q : Nm} (hj : ns[j]? = some q) {c : Cell} (O : Ob Z C ns vs c) (hs : c.vm.isStatics = false) (lt : slo Z q < c.slots.size) : Ob Z C ns (updL vs j v) (c.setSlot (slo Z q) v) := by
  obtain ⟨⟨k, r1, r2, r3, r4⟩, hl, F⟩ := O
  refine ⟨⟨k, r1, r2, r3, by rw [sz_set]; exact r4⟩, by rw [upd_len]; exact hl, fun j' q' v' hj' hv' => ?_⟩
  by_cases e : j' = j
  · subst e
    cases hj.symm.trans hj'
    have lj : j' < vs.length := by rw [hl]; exact (List.getElem?_eq_some_iff.mp hj).1
    obtain ⟨cf, k, i, f, f1, f2, f3, f4, f5, f6⟩ := F j' q (vs[j']) hj (List.getElem?_eq_getElem lj)
    rw [upd_at _ _ _ _ (List.getElem?_eq_getElem lj)] at hv'
    cases hv'
    have es : slo Z q = f.slot := by simp [slo, RoadKit.slotOf, f1]
    exact ⟨cf, k, i, f, f1, f2, f3, f4, f5, by rw [es] at lt ⊢; simp [Cell.setSlot, lt]⟩
  · rw [upd_ne _ _ _ _ e] at hv'
    obtain ⟨cf, k, i, f, f1, f2, f3, f4, f5, f6⟩ := F j' q' v' hj' hv'
    refine ⟨cf, k, i, f, f1, f2, f3, f4, f5, ?_⟩
    have es : slo Z q' = f.slot := by simp [slo, RoadKit.slotOf, f1]
    have ne : slo Z q ≠ f.slot := by
      rw [← es]
      intro z
      have l1 : (ns.map (slo Z))[j]? = some (slo Z q) := by simp [hj]
      have l2 : (ns.map (slo Z))[j']? = some (slo Z q) := by simp [hj', z]
      exact e ((List.getElem?_inj (List.getElem?_eq_some_iff.mp l2).1 Y.2).mp (l2.trans l1.symm))
    show (c.slots.setIfInBounds _ _)[_]? = _
    rw [Array.getElem?_setIfInBounds_ne ne]; exact f6
theorem Ar.put {c : Cell} (A : Ar Z ty K vs c) (hv : fits ty v = true) : Ar Z ty K (updL vs j v) (c.setSlot j v) := by
  obtain ⟨q1, q2, q3, q4, q5, q6⟩ := A
  rw [upd_set]
  refine ⟨q1, q2, q3, ?_, by simpa using q5, fun u hu => (List.mem_or_eq_of_mem_set hu).elim (q6 u) fun e => e ▸ hv⟩
  show c.slots.setIfInBounds j v = _
  rw [q4]; simp
end Facts
end Jvm.OwnKit
namespace Jvm.OwnKit
open Sem ClassFile Op Lib Jvm.Stand Jvm.Free Jvm.LawKit Jvm.RoadKit
/-- the tables over which the walk stands: the start's own, or (wd: it may have interned strings) re-based ones -/
def Bse (wd : Bool) (s : State) (vm : Vm) (N : Nat) : Prop := match wd with | false => vm = s.vm | true => s.Since vm N
/-- the frame that is promised at the end -/
def FrE (wd : Bool) (s : State) (o : Outcome) (t : State) (L : List Loc) (k n : Nat) : Prop := match wd with | false => FrameEnd s o t L k n | true => ReturnedEndW s o t L k n
/-- what is known of the heap: the cells of L; and (wd) that whatever is booked for a constant of EL spells it, and is none of L's -/
def Iv (wd : Bool) (Z : State) (EL : List (String × Nat)) (vm : Vm) (h : Heap) (L : List Ent) : Prop := Hp Z h L ∧ (wd = true → CHv Z EL vm h ∧ ∀ x ∈ L, x.2.2 = true → Safe Z EL vm h x.1)
/-- what a body's walk knows throughout -/
def Cx (wd : Bool) (EL : List (String × Nat)) (p : Program) (Z s : State) (m : MethodId) (meth : Method) (c : Code) (own nm : String) (code : ByteArray) (ml : Nat) (ret : Option FieldType) : Prop :=
  p.tables.exec = Jvm.exec ∧ Z.Warmed39 s.vm ∧ s.vm.findClass own = some m.cls ∧ c.code = code ∧ c.maxLocals = ml ∧ meth.sig.returnType = ret ∧ meth.locks = false ∧ meth.name = nm ∧ (wd = true → ∃ a0, EW Z a0 EL)
/-- from frame g the body goes to its end, and its end is as Q says -/
def Go (wd : Bool) (EL : List (String × Nat)) (p : Program) (l : Launch) (e : Env) (R : Room) (Z s : State) (m : MethodId) (args : Array Value) (below : List Frame) (meth : Method) (c : Code) (Q : Option Value → List Ent → Prop) (L : List Ent) (k n : Nat) (g : JFrame) : Prop :=
  ∀ (vm : Vm) (T : State) (lc : List Loc), Fr Z.heap.size lc → Bse wd s vm T.heap.size → Iv wd Z EL vm T.heap L → Stand p l e R (s.setVm vm) m args below meth c T lc k n →
    ∃ u o, Steps p.tables e below (T.setTop g) u ∧ u.status = .running ∧ Ended u below o ∧ ∃ v L' lc', o = .returned v ∧ Q v L' ∧ Iv wd Z EL u.vm u.heap L' ∧ Fr Z.heap.size lc' ∧ FrE wd s o u lc' R.cells R.slots
/-- a body's contract: called with 'as' over the cells L it returns as Q says -/
def Ct (wd : Bool) (EL : List (String × Nat)) (l : Launch) (Z : State) (y : MethodName) (code : ByteArray) (ml : Nat) (ret : Option FieldType) (rm : Room) (as : Array Value) (L : List Ent) (Q : Option Value → List Ent → Prop) : Prop :=
  ∀ ws : List Jvm.Cond, MetFree l y (head1 (Jvm.Cond.code y code ml ret :: ws) rm) (fun a U => a = as ∧ Z.Warmed39 U.vm ∧ Iv wd Z EL U.vm U.heap L) (fun _ _ _ _ _ => True) (fun _ U o U' => ∃ v L' lc, o = .returned v ∧ Q v L' ∧ Iv wd Z EL U'.vm U'.heap L' ∧ Fr Z.heap.size lc ∧ FrE wd U o U' lc rm.cells rm.slots)
def rvQ (Q : Value → List Ent → Prop) : Option Value → List Ent → Prop := fun o L => ∃ v, o = some v ∧ Q v L
def r0Q (Q : List Ent → Prop) : Option Value → List Ent → Prop := fun o L => o = none ∧ Q L
/-- the instruction at pc, and the pc behind it -/
def D1 (code : ByteArray) (pc : Nat) (i : Instr) (len pc' : Nat) : Prop := decode code pc = .ok (i, len) ∧ pc + len = pc'
section Steps
variable {wd : Bool} {EL : List (String × Nat)} {p : Program} {l : Launch} {e : Env} {R : Room} {Z s : State} {m : MethodId} {args : Array Value} {below : List Frame} {meth : Method} {c : Code} {Q : Option Value → List Ent → Prop} {L L' : List Ent} {k n : Nat} {own nm : String} {code : ByteArray} {ml : Nat} {ret : Option FieldType} {a0 : Array Value}
variable {pc pc' : Nat} {Ls : Array Slot} {st : List Value} {i j : Nat} {a b : Addr} {C : String} {ns : List Nm} {vs : List Value} {v : Value} {h h' : Heap} {vm : Vm}
theorem Bse.start (s : State) (N : Nat) : Bse wd s s.vm N := by
  cases wd
  · exact rfl
  · exact (State.WarmedH.refl s).since N
theorem Bse.mono {N N' : Nat} (B : Bse wd s vm N) (q : N ≤ N') : Bse wd s vm N' := by
  cases wd
  · exact B
  · exact ⟨B.1, fun j p hj hp => by obtain ⟨x, y⟩ := B.2 j p hj hp; exact ⟨x, Nat.lt_of_lt_of_le y q⟩⟩
theorem Bse.wide {N : Nat} (B : Bse wd s vm N) : s.Warmed39 vm := by
  cases wd
  · rw [show vm = s.vm from B]; exact State.Warmed39.refl s
  · exact B.1
theorem Cx.re {N : Nat} (X : Cx wd EL p Z s m meth c own nm code ml ret) (B : Bse wd s vm N) : Cx wd EL p Z (s.setVm vm) m meth c own nm code ml ret :=
  ⟨X.1, State.Warmed39.trans X.2.1 B.wide, by rw [show (s.setVm vm).vm = vm from rfl, B.wide.alike.findClass]; exact X.2.2.1, X.2.2.2⟩
theorem Bse.ended {N : Nat} (B : Bse wd s vm N) {U : State} {o : Outcome} {lc : List Loc} {k n k' n' : Nat} (hr : ∃ v, o = .returned v) (hW : (s.setVm vm).WarmedH U.vm) (hn : N ≤ U.heap.size) (hs : (s.setVm vm).sameButNew ({ U with vm := vm } : State) lc k n) (hk : k ≤ k') (hl : n ≤ n') : FrE wd s o U lc k' n' := by
  cases wd
  · obtain rfl : vm = s.vm := B
    exact ⟨hr, hW, hs.mono hk hl⟩
  · obtain ⟨q1, q2, q3⟩ := State.Since.ended B hW hn hs
    exact ⟨hr, q1, q2, q3.mono hk hl⟩
theorem Iv.ext (I : Iv wd Z EL vm h L) (E : Ext h h') : Iv wd Z EL vm h' L := ⟨I.1.mono E, fun q => ⟨(I.2 q).1.ext E, fun x hx hf => Safe.ext E (I.2 q).1 ((I.2 q).2 x hx hf)⟩⟩
theorem Iv.push {P : Cell → Prop} (I : Iv wd Z EL vm h L) (E : Ext h h') (ha : h.size ≤ a) (hc : ∃ c, h'[a]? = some c ∧ P c) : Iv wd Z EL vm h' (ow a P :: L) := ⟨I.1.push E ha hc, fun q => ⟨(I.2 q).1.ext E, fun x hx hf => by
  rcases List.mem_cons.mp hx with rfl | u
  · exact Safe.ext E (I.2 q).1 (Safe.new ha)
  · exact Safe.ext E (I.2 q).1 ((I.2 q).2 x u hf)⟩⟩
theorem Iv.know {P : Cell → Prop} (I : Iv wd Z EL vm h L) (hc : ∃ c, h[a]? = some c ∧ P c) (hn : ∀ x ∈ L, x.2.2 = true → x.1 ≠ a) : Iv wd Z EL vm h (ro a P :: L) := ⟨I.1.know hc hn, fun q => ⟨(I.2 q).1, fun x hx hf => by
  rcases List.mem_cons.mp hx with rfl | u
  · cases hf
  · exact (I.2 q).2 x u hf⟩⟩
theorem Iv.wr {P P' : Cell → Prop} {sl : Nat} (I : Iv wd Z EL vm h L) (hi : L[i]? = some (ow a P)) (W : Wr h h' a sl v) (hP : ∀ c : Cell, P c → c.vm.isStatics = false → sl < c.slots.size → P' (c.setSlot sl v)) : Iv wd Z EL vm h' (updL L i (ow a P')) := ⟨I.1.wr hi W hP, fun q => by
  have S := (I.2 q).2 _ (List.mem_of_getElem? hi) rfl
  refine ⟨(I.2 q).1.wr W S, fun x hx hf => ?_⟩
  rcases upd_mem _ _ _ _ hx with rfl | ⟨j, hj, hLj⟩
  · exact Safe.wr W S (I.2 q).1 S
  · exact Safe.wr W S (I.2 q).1 ((I.2 q).2 x (List.mem_of_getElem? hLj) hf)⟩
theorem Iv.perm (I : Iv wd Z EL vm h L) (q : L.Perm L') : Iv wd Z EL vm h L' := ⟨I.1.perm q, fun r => ⟨(I.2 r).1, fun x hx => (I.2 r).2 x (q.mem_iff.mpr hx)⟩⟩
theorem Iv.weak {P P' : Cell → Prop} {f : Bool} (I : Iv wd Z EL vm h L) (hi : L[i]? = some (a, P, f)) (hP : ∀ c, P c → P' c) : Iv wd Z EL vm h (updL L i (a, P', f)) := ⟨I.1.weak hi hP, fun q => ⟨(I.2 q).1, fun x hx hf => by
  rcases upd_mem _ _ _ _ hx with rfl | ⟨j, hj, hLj⟩
  · exact (I.2 q).2 (a, P, f) (List.mem_of_getElem? hi) hf
  · exact (I.2 q).2 x (List.mem_of_getElem? hLj) hf⟩⟩
theorem Iv.drop {x : Ent} (I : Iv wd Z EL vm h (x :: L)) : Iv wd Z EL vm h L := ⟨⟨I.1.1, fun y hy => I.1.2.1 y (List.mem_cons_of_mem _ hy), (List.pairwise_cons.mp I.1.2.2).2⟩, fun r => ⟨(I.2 r).1, fun y hy => (I.2 r).2 y (List.mem_cons_of_mem _ hy)⟩⟩
/-- the tables at hand, in a walk that has interned nothing since its last base -/
theorem Iv.now {T : State} {lc : List Loc} (I : Iv wd Z EL vm T.heap L) (X : Cx wd EL p Z (s.setVm vm) m meth c own nm code ml ret) (S : Stand p l e R (s.setVm vm) m args below meth c T lc k n) : Iv wd Z EL T.vm T.heap L := ⟨I.1, fun q => by
  obtain ⟨a0, w⟩ := X.2.2.2.2.2.2.2.2 q
  have r := CHv.at S X.2.1 w (I.2 q).1
  refine ⟨r.1, fun x hx hf => r.safe ?_ ((I.2 q).2 x hx hf)⟩
  obtain ⟨-, cc, h1, -⟩ := I.1.2.1 x hx
  exact (Array.getElem?_eq_some_iff.mp h1).1⟩
theorem Ct.intro {y : MethodName} {rm : Room} {as : Array Value} (hp : plainFor y = true) (hE : wd = true → ∃ a0, EW Z a0 EL)
    (B : ∀ (p : Program) e s m below meth c, Cx wd EL p Z s m meth c y.cls y.name code ml ret → Go wd EL p l e rm Z s m as below meth c Q L 0 0 (entryFrame m as ml)) : Ct wd EL l Z y code ml ret rm as L Q := by
  intro ws
  refine MetFree.of_bodySF hp hisR ?_
  intro p e s m args below meth c s₁ Bd hml hP hK
  obtain ⟨rfl, hZ, hh⟩ := hP
  have X0 : Stand p l e rm s m args below meth c s₁ [] 0 0 := Stand.of_body Bd
  have e0 : s₁.heap = s.heap := by rw [Bd.state]; rfl
  exact B p e s m below meth c ⟨Bd.exec, hZ, findClass_of_methodNamed Bd.named, Bd.bytes, hml, Bd.returns, Bd.notSynchronized, (name_of_methodNamed Bd.named Bd.method).1, hE⟩ s.vm s₁ [] (Fr.nil _) (Bse.start s _) (by rw [e0]; exact hh) X0
theorem Ct.mono {y : MethodName} {rm : Room} {as : Array Value} {Q' : Option Value → List Ent → Prop} (B : Ct wd EL l Z y code ml ret rm as L Q) (hq : ∀ v L', Q v L' → Q' v L') : Ct wd EL l Z y code ml ret rm as L Q' := fun ws =>
  (B ws).mono (fun _ _ q => q) (fun _ _ _ _ _ q => q) fun a U o U' _ ⟨v, L', lc, q1, q2, q3⟩ => ⟨v, L', lc, q1, hq v L' q2, q3⟩
/-- the contract, its cells in another order -/
theorem Ct.perm {y : MethodName} {rm : Room} {as : Array Value} {Q' : Option Value → List Ent → Prop} (B : Ct wd EL l Z y code ml ret rm as L Q) (q : L'.Perm L) (hq : ∀ v M, Q v M → ∃ M', Q' v M' ∧ M.Perm M') : Ct wd EL l Z y code ml ret rm as L' Q' := fun ws =>
  (B ws).mono (fun _ _ r => ⟨r.1, r.2.1, r.2.2.perm q⟩) (fun _ _ _ _ _ q => q) fun a U o U' _ ⟨v, M, lc, q1, q2, q3, q4⟩ => by
    obtain ⟨M', r1, r2⟩ := hq v M q2
    exact ⟨v, M', lc, q1, r1, q3.perm r2, q4⟩
theorem Go.to {g g' : JFrame} (K : Go wd EL p l e R Z s m args below meth c Q L k n g') (X : Cx wd EL p Z s m meth c own nm code ml ret) (f : ∀ s, Cx wd EL p Z s m meth c own nm code ml ret → ∀ T lc, Hp Z T.heap L → Stand p l e R s m args below meth c T lc k n → ∀ target, Steps p.tables e below (T.setTop g') target → Steps p.tables e below (T.setTop g) target) : Go wd EL p l e R Z s m args below meth c Q L k n g := by
  intro vm T lc F B I S
  obtain ⟨u, o, st, r⟩ := K vm T lc F B I S
  exact ⟨u, o, f _ (X.re B) T lc I.1 S u st, r⟩
theorem Go.cast {g g' : JFrame} (q : g = g') (K : Go wd EL p l e R Z s m args below meth c Q L k n g') : Go wd EL p l e R Z s m args below meth c Q L k n g := q ▸ K
theorem Go.perm {g : JFrame} (q : L.Perm L') (K : Go wd EL p l e R Z s m args below meth c Q L' k n g) : Go wd EL p l e R Z s m args below meth c Q L k n g := fun vm T lc F B I S => K vm T lc F B (I.perm q) S
theorem Go.weak {g : JFrame} {P P' : Cell → Prop} {f : Bool} (hi : L[i]? = some (a, P, f)) (hP : ∀ c, P c → P' c) (K : Go wd EL p l e R Z s m args below meth c Q (updL L i (a, P', f)) k n g) : Go wd EL p l e R Z s m args below meth c Q L k n g := fun vm T lc F B I S => K vm T lc F B (I.weak hi hP) S
theorem Go.drop {g : JFrame} {x : Ent} (K : Go wd EL p l e R Z s m args below meth c Q L k n g) : Go wd EL p l e R Z s m args below meth c Q (x :: L) k n g := fun vm T lc F B I S => K vm T lc F B I.drop S
/-- a fact of every heap that L describes -/
theorem Go.fact {g : JFrame} {A : Prop} (f : ∀ h, Hp Z h L → A) (K : A → Go wd EL p l e R Z s m args below meth c Q L k n g) : Go wd EL p l e R Z s m args below meth c Q L k n g := fun vm T lc F B I S => K (f _ I.1) vm T lc F B I S
theorem Go.book {g : JFrame} {k' n' : Nat} (hk : k ≤ k') (hn : n ≤ n') (K : Go wd EL p l e R Z s m args below meth c Q L k' n' g) : Go wd EL p l e R Z s m args below meth c Q L k n g := fun vm T lc F B I S => K vm T lc F B I (S.mono hk hn)
/-! ### plain steps -/
theorem Go.iloadN (X : Cx wd EL p Z s m meth c own nm code ml ret) {i : Fin 4} {v : Int32} (D : D1 code pc (.iload_n i) 1 pc') (hl : Ls[i.val]? = some (.val (.int v))) (K : Go wd EL p l e R Z s m args below meth c Q L k n (mkF m pc' Ls (.int v :: st))) : Go wd EL p l e R Z s m args below meth c Q L k n (mkF m pc Ls st) := by
  obtain ⟨d, rfl⟩ := D
  exact K.to X fun s X T lc H S t r => XS.iloadN S.here X.1 rfl (hb X.2.2.2.1 d) hl r
theorem Go.iload (X : Cx wd EL p Z s m meth c own nm code ml ret) {i : Nat} {v : Int32} (D : D1 code pc (.iload i) 2 pc') (hl : Ls[i]? = some (.val (.int v))) (K : Go wd EL p l e R Z s m args below meth c Q L k n (mkF m pc' Ls (.int v :: st))) : Go wd EL p l e R Z s m args below meth c Q L k n (mkF m pc Ls st) := by
  obtain ⟨d, rfl⟩ := D
  exact K.to X fun s X T lc H S t r => XS.iload S.here X.1 rfl (hb X.2.2.2.1 d) hl r
theorem Go.aloadN (X : Cx wd EL p Z s m meth c own nm code ml ret) {i : Fin 4} {v : Value} (D : D1 code pc (.aload_n i) 1 pc') (hl : Ls[i.val]? = some (.val v)) (hv : v.isRef = true) (K : Go wd EL p l e R Z s m args below meth c Q L k n (mkF m pc' Ls (v :: st))) : Go wd EL p l e R Z s m args below meth c Q L k n (mkF m pc Ls st) := by
  obtain ⟨d, rfl⟩ := D
  exact K.to X fun s X T lc H S t r => XS.aloadN S.here X.1 rfl (hb X.2.2.2.1 d) hl hv r
theorem Go.aload (X : Cx wd EL p Z s m meth c own nm code ml ret) {i : Nat} {v : Value} (D : D1 code pc (.aload i) 2 pc') (hl : Ls[i]? = some (.val v)) (hv : v.isRef = true) (K : Go wd EL p l e R Z s m args below meth c Q L k n (mkF m pc' Ls (v :: st))) : Go wd EL p l e R Z s m args below meth c Q L k n (mkF m pc Ls st) := by
  obtain ⟨d, rfl⟩ := D
  exact K.to X fun s X T lc H S t r => XS.aload S.here X.1 rfl (hb X.2.2.2.1 d) hl hv r
theorem Go.floadN (X : Cx wd EL p Z s m meth c own nm code ml ret) {i : Fin 4} {v : UInt32} (D : D1 code pc (.fload_n i) 1 pc') (hl : Ls[i.val]? = some (.val (.float v))) (K : Go wd EL p l e R Z s m args below meth c Q L k n (mkF m pc' Ls (.float v :: st))) : Go wd EL p l e R Z s m args below meth c Q L k n (mkF m pc Ls st) := by
  obtain ⟨d, rfl⟩ := D
  exact K.to X fun s X T lc H S t r => XS.floadN S.here X.1 rfl (hb X.2.2.2.1 d) hl r
theorem Go.iconst (X : Cx wd EL p Z s m meth c own nm code ml ret) {i : Int} {v : Int32} (D : D1 code pc (.iconst i) 1 pc') (hv : Int32.ofInt i = v) (K : Go wd EL p l e R Z s m args below meth c Q L k n (mkF m pc' Ls (.int v :: st))) : Go wd EL p l e R Z s m args below meth c Q L k n (mkF m pc Ls st) := by
  obtain ⟨d, rfl⟩ := D; subst hv
  exact K.to X fun s X T lc H S t r => XS.iconst S.here X.1 rfl (hb X.2.2.2.1 d) r
theorem Go.bipush (X : Cx wd EL p Z s m meth c own nm code ml ret) {i : Int} {v : Int32} (D : D1 code pc (.bipush i) 2 pc') (hv : (Int8.ofInt i).toInt32 = v) (K : Go wd EL p l e R Z s m args below meth c Q L k n (mkF m pc' Ls (.int v :: st))) : Go wd EL p l e R Z s m args below meth c Q L k n (mkF m pc Ls st) := by
  obtain ⟨d, rfl⟩ := D; subst hv
  exact K.to X fun s X T lc H S t r => XS.bipush S.here X.1 rfl (hb X.2.2.2.1 d) r
theorem Go.sipush (X : Cx wd EL p Z s m meth c own nm code ml ret) {i : Int} {v : Int32} (D : D1 code pc (.sipush i) 3 pc') (hv : (Int16.ofInt i).toInt32 = v) (K : Go wd EL p l e R Z s m args below meth c Q L k n (mkF m pc' Ls (.int v :: st))) : Go wd EL p l e R Z s m args below meth c Q L k n (mkF m pc Ls st) := by
  obtain ⟨d, rfl⟩ := D; subst hv
  exact K.to X fun s X T lc H S t r => XS.sipush S.here X.1 rfl (hb X.2.2.2.1 d) r
theorem Go.ldcI (X : Cx wd EL p Z s m meth c own nm code ml ret) {i : Nat} {v : Int32} (w : (Cond.constant own i v).before a0 Z = true) (D : D1 code pc (.ldc i) 2 pc')  (K : Go wd EL p l e R Z s m args below meth c Q L k n (mkF m pc' Ls (.int v :: st))) : Go wd EL p l e R Z s m args below meth c Q L k n (mkF m pc Ls st) := by
  obtain ⟨d, rfl⟩ := D
  exact K.to X fun s X T lc H S t r => S.ldcI X.1 X.2.2.1 (mv X.2.1 w) rfl (hb X.2.2.2.1 d) r
theorem Go.aconstNull (X : Cx wd EL p Z s m meth c own nm code ml ret)  (D : D1 code pc (.aconst_null) 1 pc')  (K : Go wd EL p l e R Z s m args below meth c Q L k n (mkF m pc' Ls (.null :: st))) : Go wd EL p l e R Z s m args below meth c Q L k n (mkF m pc Ls st) := by
  obtain ⟨d, rfl⟩ := D
  exact K.to X fun s X T lc H S t r => XS.aconstNull S.here X.1 rfl (hb X.2.2.2.1 d) r
theorem Go.istoreN (X : Cx wd EL p Z s m meth c own nm code ml ret) {i : Fin 4} {x : Int32} {L2 : Array Slot} (D : D1 code pc (.istore_n i) 1 pc') (hl : storeLocals Ls i.val (.int x) = some L2) (K : Go wd EL p l e R Z s m args below meth c Q L k n (mkF m pc' L2 st)) : Go wd EL p l e R Z s m args below meth c Q L k n (mkF m pc Ls (.int x :: st)) := by
  obtain ⟨d, rfl⟩ := D
  exact K.to X fun s X T lc H S t r => XS.istoreN S.here X.1 rfl (hb X.2.2.2.1 d) rfl hl r
theorem Go.istore (X : Cx wd EL p Z s m meth c own nm code ml ret) {i : Nat} {x : Int32} {L2 : Array Slot} (D : D1 code pc (.istore i) 2 pc') (hl : storeLocals Ls i (.int x) = some L2) (K : Go wd EL p l e R Z s m args below meth c Q L k n (mkF m pc' L2 st)) : Go wd EL p l e R Z s m args below meth c Q L k n (mkF m pc Ls (.int x :: st)) := by
  obtain ⟨d, rfl⟩ := D
  exact K.to X fun s X T lc H S t r => XS.istore S.here X.1 rfl (hb X.2.2.2.1 d) rfl hl r
theorem Go.astoreN (X : Cx wd EL p Z s m meth c own nm code ml ret) {i : Fin 4} {x : Value} {L2 : Array Slot} (D : D1 code pc (.astore_n i) 1 pc') (hv : x.isRef = true) (hl : storeLocals Ls i.val x = some L2) (K : Go wd EL p l e R Z s m args below meth c Q L k n (mkF m pc' L2 st)) : Go wd EL p l e R Z s m args below meth c Q L k n (mkF m pc Ls (x :: st)) := by
  obtain ⟨d, rfl⟩ := D
  exact K.to X fun s X T lc H S t r => XS.astoreN S.here X.1 rfl (hb X.2.2.2.1 d) rfl hv hl r
theorem Go.astore (X : Cx wd EL p Z s m meth c own nm code ml ret) {i : Nat} {x : Value} {L2 : Array Slot} (D : D1 code pc (.astore i) 2 pc') (hv : x.isRef = true) (hl : storeLocals Ls i x = some L2) (K : Go wd EL p l e R Z s m args below meth c Q L k n (mkF m pc' L2 st)) : Go wd EL p l e R Z s m args below meth c Q L k n (mkF m pc Ls (x :: st)) := by
  obtain ⟨d, rfl⟩ := D
  exact K.to X fun s X T lc H S t r => XS.astore S.here X.1 rfl (hb X.2.2.2.1 d) rfl hv hl r
theorem Go.fstore (X : Cx wd EL p Z s m meth c own nm code ml ret) {i : Nat} {x : UInt32} {L2 : Array Slot} (D : D1 code pc (.fstore i) 2 pc') (hl : storeLocals Ls i (.float x) = some L2) (K : Go wd EL p l e R Z s m args below meth c Q L k n (mkF m pc' L2 st)) : Go wd EL p l e R Z s m args below meth c Q L k n (mkF m pc Ls (.float x :: st)) := by
  obtain ⟨d, rfl⟩ := D
  exact K.to X fun s X T lc H S t r => XS.fstore S.here X.1 rfl (hb X.2.2.2.1 d) rfl hl r
theorem Go.fload (X : Cx wd EL p Z s m meth c own nm code ml ret) {i : Nat} {v : UInt32} (D : D1 code pc (.fload i) 2 pc') (hl : Ls[i]? = some (.val (.float v))) (K : Go wd EL p l e R Z s m args below meth c Q L k n (mkF m pc' Ls (.float v :: st))) : Go wd EL p l e R Z s m args below meth c Q L k n (mkF m pc Ls st) := by
  obtain ⟨d, rfl⟩ := D
  exact K.to X fun s X T lc H S t r => XS.fload S.here X.1 rfl (hb X.2.2.2.1 d) hl r
theorem Go.iinc (X : Cx wd EL p Z s m meth c own nm code ml ret) {i : Nat} {cst : Int} {x : Int32} {L2 : Array Slot} (D : D1 code pc (.iinc i cst) 3 pc') (hl : Ls[i]? = some (.val (.int x))) (hl' : storeLocals Ls i (.int (x + Int32.ofInt cst)) = some L2) (K : Go wd EL p l e R Z s m args below meth c Q L k n (mkF m pc' L2 st)) : Go wd EL p l e R Z s m args below meth c Q L k n (mkF m pc Ls st) := by
  obtain ⟨d, rfl⟩ := D
  exact K.to X fun s X T lc H S t r => XS.iinc S.here X.1 rfl (hb X.2.2.2.1 d) hl hl' r
theorem Go.dup (X : Cx wd EL p Z s m meth c own nm code ml ret) {x : Value} (D : D1 code pc (.dup) 1 pc') (hc : x.category = 1) (K : Go wd EL p l e R Z s m args below meth c Q L k n (mkF m pc' Ls (x :: x :: st))) : Go wd EL p l e R Z s m args below meth c Q L k n (mkF m pc Ls (x :: st)) := by
  obtain ⟨d, rfl⟩ := D
  exact K.to X fun s X T lc H S t r => XS.dup S.here X.1 rfl (hb X.2.2.2.1 d) rfl hc r
theorem Go.dupX1 (X : Cx wd EL p Z s m meth c own nm code ml ret) {x y : Value} (D : D1 code pc (.dup_x1) 1 pc') (hc : x.category = 1) (hc' : y.category = 1) (K : Go wd EL p l e R Z s m args below meth c Q L k n (mkF m pc' Ls (x :: y :: x :: st))) : Go wd EL p l e R Z s m args below meth c Q L k n (mkF m pc Ls (x :: y :: st)) := by
  obtain ⟨d, rfl⟩ := D
  exact K.to X fun s X T lc H S t r => XT.dupX1 S.here X.1 rfl (hb X.2.2.2.1 d) rfl hc hc' r
theorem Go.dup2 (X : Cx wd EL p Z s m meth c own nm code ml ret) {x y : Value} (D : D1 code pc (.dup2) 1 pc') (hc : x.category = 1) (hc' : y.category = 1) (K : Go wd EL p l e R Z s m args below meth c Q L k n (mkF m pc' Ls (x :: y :: x :: y :: st))) : Go wd EL p l e R Z s m args below meth c Q L k n (mkF m pc Ls (x :: y :: st)) := by
  obtain ⟨d, rfl⟩ := D
  exact K.to X fun s X T lc H S t r => XT.dup2 S.here X.1 rfl (hb X.2.2.2.1 d) rfl hc hc' r
theorem Go.pop (X : Cx wd EL p Z s m meth c own nm code ml ret) {x : Value} (D : D1 code pc (.pop) 1 pc') (hc : x.category = 1) (K : Go wd EL p l e R Z s m args below meth c Q L k n (mkF m pc' Ls st)) : Go wd EL p l e R Z s m args below meth c Q L k n (mkF m pc Ls (x :: st)) := by
  obtain ⟨d, rfl⟩ := D
  exact K.to X fun s X T lc H S t r => XT.pop S.here X.1 rfl (hb X.2.2.2.1 d) rfl hc r
theorem Go.iadd (X : Cx wd EL p Z s m meth c own nm code ml ret) {x y : Int32} (D : D1 code pc (.iadd) 1 pc')  (K : Go wd EL p l e R Z s m args below meth c Q L k n (mkF m pc' Ls (.int (x + y) :: st))) : Go wd EL p l e R Z s m args below meth c Q L k n (mkF m pc Ls (.int y :: .int x :: st)) := by
  obtain ⟨d, rfl⟩ := D
  exact K.to X fun s X T lc H S t r => XS.iadd S.here X.1 rfl (hb X.2.2.2.1 d) rfl r
theorem Go.isub (X : Cx wd EL p Z s m meth c own nm code ml ret) {x y : Int32} (D : D1 code pc (.isub) 1 pc')  (K : Go wd EL p l e R Z s m args below meth c Q L k n (mkF m pc' Ls (.int (x - y) :: st))) : Go wd EL p l e R Z s m args below meth c Q L k n (mkF m pc Ls (.int y :: .int x :: st)) := by
  obtain ⟨d, rfl⟩ := D
  exact K.to X fun s X T lc H S t r => XS.isub S.here X.1 rfl (hb X.2.2.2.1 d) rfl r
theorem Go.imul (X : Cx wd EL p Z s m meth c own nm code ml ret) {x y : Int32} (D : D1 code pc (.imul) 1 pc')  (K : Go wd EL p l e R Z s m args below meth c Q L k n (mkF m pc' Ls (.int (x * y) :: st))) : Go wd EL p l e R Z s m args below meth c Q L k n (mkF m pc Ls (.int y :: .int x :: st)) := by
  obtain ⟨d, rfl⟩ := D
  exact K.to X fun s X T lc H S t r => XS.imul S.here X.1 rfl (hb X.2.2.2.1 d) rfl r
theorem Go.iand (X : Cx wd EL p Z s m meth c own nm code ml ret) {x y : Int32} (D : D1 code pc (.iand) 1 pc')  (K : Go wd EL p l e R Z s m args below meth c Q L k n (mkF m pc' Ls (.int (x &&& y) :: st))) : Go wd EL p l e R Z s m args below meth c Q L k n (mkF m pc Ls (.int y :: .int x :: st)) := by
  obtain ⟨d, rfl⟩ := D
  exact K.to X fun s X T lc H S t r => XS.iand S.here X.1 rfl (hb X.2.2.2.1 d) rfl r
theorem Go.ior (X : Cx wd EL p Z s m meth c own nm code ml ret) {x y : Int32} (D : D1 code pc (.ior) 1 pc')  (K : Go wd EL p l e R Z s m args below meth c Q L k n (mkF m pc' Ls (.int (x ||| y) :: st))) : Go wd EL p l e R Z s m args below meth c Q L k n (mkF m pc Ls (.int y :: .int x :: st)) := by
  obtain ⟨d, rfl⟩ := D
  exact K.to X fun s X T lc H S t r => XT.ior S.here X.1 rfl (hb X.2.2.2.1 d) rfl r
theorem Go.ixor (X : Cx wd EL p Z s m meth c own nm code ml ret) {x y : Int32} (D : D1 code pc (.ixor) 1 pc')  (K : Go wd EL p l e R Z s m args below meth c Q L k n (mkF m pc' Ls (.int (x ^^^ y) :: st))) : Go wd EL p l e R Z s m args below meth c Q L k n (mkF m pc Ls (.int y :: .int x :: st)) := by
  obtain ⟨d, rfl⟩ := D
  exact K.to X fun s X T lc H S t r => XT.ixor S.here X.1 rfl (hb X.2.2.2.1 d) rfl r
theorem Go.ishl (X : Cx wd EL p Z s m meth c own nm code ml ret) {x y : Int32} (D : D1 code pc (.ishl) 1 pc')  (K : Go wd EL p l e R Z s m args below meth c Q L k n (mkF m pc' Ls (.int (x <<< (y &&& 31)) :: st))) : Go wd EL p l e R Z s m args below meth c Q L k n (mkF m pc Ls (.int y :: .int x :: st)) := by
  obtain ⟨d, rfl⟩ := D
  exact K.to X fun s X T lc H S t r => XT.ishl S.here X.1 rfl (hb X.2.2.2.1 d) rfl r
theorem Go.ishr (X : Cx wd EL p Z s m meth c own nm code ml ret) {x y : Int32} (D : D1 code pc (.ishr) 1 pc')  (K : Go wd EL p l e R Z s m args below meth c Q L k n (mkF m pc' Ls (.int (x >>> (y &&& 31)) :: st))) : Go wd EL p l e R Z s m args below meth c Q L k n (mkF m pc Ls (.int y :: .int x :: st)) := by
  obtain ⟨d, rfl⟩ := D
  exact K.to X fun s X T lc H S t r => XT.ishr S.here X.1 rfl (hb X.2.2.2.1 d) rfl r
theorem Go.iushr (X : Cx wd EL p Z s m meth c own nm code ml ret) {x y : Int32} (D : D1 code pc (.iushr) 1 pc')  (K : Go wd EL p l e R Z s m args below meth c Q L k n (mkF m pc' Ls (.int (XT.ushr x y) :: st))) : Go wd EL p l e R Z s m args below meth c Q L k n (mkF m pc Ls (.int y :: .int x :: st)) := by
  obtain ⟨d, rfl⟩ := D
  exact K.to X fun s X T lc H S t r => XT.iushr S.here X.1 rfl (hb X.2.2.2.1 d) rfl r
theorem Go.irem (X : Cx wd EL p Z s m meth c own nm code ml ret) {x y : Int32} (D : D1 code pc (.irem) 1 pc') (hy : y ≠ 0) (K : Go wd EL p l e R Z s m args below meth c Q L k n (mkF m pc' Ls (.int (x % y) :: st))) : Go wd EL p l e R Z s m args below meth c Q L k n (mkF m pc Ls (.int y :: .int x :: st)) := by
  obtain ⟨d, rfl⟩ := D
  exact K.to X fun s X T lc H S t r => iremM S X.1 rfl (hb X.2.2.2.1 d) rfl hy r
theorem Go.ineg (X : Cx wd EL p Z s m meth c own nm code ml ret) {x : Int32} (D : D1 code pc (.ineg) 1 pc')  (K : Go wd EL p l e R Z s m args below meth c Q L k n (mkF m pc' Ls (.int (-x) :: st))) : Go wd EL p l e R Z s m args below meth c Q L k n (mkF m pc Ls (.int x :: st)) := by
  obtain ⟨d, rfl⟩ := D
  exact K.to X fun s X T lc H S t r => XS.ineg S.here X.1 rfl (hb X.2.2.2.1 d) rfl r
theorem Go.i2c (X : Cx wd EL p Z s m meth c own nm code ml ret) {x : Int32} (D : D1 code pc (.i2c) 1 pc')  (K : Go wd EL p l e R Z s m args below meth c Q L k n (mkF m pc' Ls (.int (x.toUInt32.toUInt16.toUInt32.toInt32) :: st))) : Go wd EL p l e R Z s m args below meth c Q L k n (mkF m pc Ls (.int x :: st)) := by
  obtain ⟨d, rfl⟩ := D
  exact K.to X fun s X T lc H S t r => XT.i2c S.here X.1 rfl (hb X.2.2.2.1 d) rfl r
theorem Go.i2b (X : Cx wd EL p Z s m meth c own nm code ml ret) {x : Int32} (D : D1 code pc (.i2b) 1 pc')  (K : Go wd EL p l e R Z s m args below meth c Q L k n (mkF m pc' Ls (.int (x.toInt8.toInt32) :: st))) : Go wd EL p l e R Z s m args below meth c Q L k n (mkF m pc Ls (.int x :: st)) := by
  obtain ⟨d, rfl⟩ := D
  exact K.to X fun s X T lc H S t r => XT.i2b S.here X.1 rfl (hb X.2.2.2.1 d) rfl r
theorem Go.goto (X : Cx wd EL p Z s m meth c own nm code ml ret) {o : Int} {pt : Nat} (D : D1 code pc (.goto o) 3 pc') (ho : 0 ≤ (pc : Int) + o ∧ ((pc : Int) + o).toNat = pt) (K : Go wd EL p l e R Z s m args below meth c Q L k n (mkF m pt Ls st)) : Go wd EL p l e R Z s m args below meth c Q L k n (mkF m pc Ls st) := by
  obtain ⟨d, rfl⟩ := D
  exact K.to X fun s X T lc H S t r => XS.goto S.here X.1 rfl rfl (hb X.2.2.2.1 d) ho.1 ho.2 r
theorem Go.ifnullY (X : Cx wd EL p Z s m meth c own nm code ml ret) {o : Int} {pt : Nat} (D : D1 code pc (.ifnull o) 3 pc') (ho : 0 ≤ (pc : Int) + o ∧ ((pc : Int) + o).toNat = pt) (K : Go wd EL p l e R Z s m args below meth c Q L k n (mkF m pt Ls st)) : Go wd EL p l e R Z s m args below meth c Q L k n (mkF m pc Ls (.null :: st)) := by
  obtain ⟨d, rfl⟩ := D
  exact K.to X fun s X T lc H S t r => XS.ifnullYes S.here X.1 rfl rfl (hb X.2.2.2.1 d) rfl ho.1 ho.2 r
theorem Go.ifnullN (X : Cx wd EL p Z s m meth c own nm code ml ret) {o : Int} {b : Addr} (D : D1 code pc (.ifnull o) 3 pc')  (K : Go wd EL p l e R Z s m args below meth c Q L k n (mkF m pc' Ls st)) : Go wd EL p l e R Z s m args below meth c Q L k n (mkF m pc Ls (.ref b :: st)) := by
  obtain ⟨d, rfl⟩ := D
  exact K.to X fun s X T lc H S t r => XS.ifnullNo S.here X.1 rfl (hb X.2.2.2.1 d) rfl r
theorem Go.ifnonnullY (X : Cx wd EL p Z s m meth c own nm code ml ret) {o : Int} {pt : Nat} {b : Addr} (D : D1 code pc (.ifnonnull o) 3 pc') (ho : 0 ≤ (pc : Int) + o ∧ ((pc : Int) + o).toNat = pt) (K : Go wd EL p l e R Z s m args below meth c Q L k n (mkF m pt Ls st)) : Go wd EL p l e R Z s m args below meth c Q L k n (mkF m pc Ls (.ref b :: st)) := by
  obtain ⟨d, rfl⟩ := D
  exact K.to X fun s X T lc H S t r => XT.ifnonnullYes S.here X.1 rfl rfl (hb X.2.2.2.1 d) rfl ho.1 ho.2 r
theorem Go.ifnonnullN (X : Cx wd EL p Z s m meth c own nm code ml ret) {o : Int} (D : D1 code pc (.ifnonnull o) 3 pc')  (K : Go wd EL p l e R Z s m args below meth c Q L k n (mkF m pc' Ls st)) : Go wd EL p l e R Z s m args below meth c Q L k n (mkF m pc Ls (.null :: st)) := by
  obtain ⟨d, rfl⟩ := D
  exact K.to X fun s X T lc H S t r => XT.ifnonnullNo S.here X.1 rfl (hb X.2.2.2.1 d) rfl r
/-! ### branches -/
def ccP (cd : ClassFile.Cond) (x y : Int32) : Prop := match cd with
  | .eq => x = y | .ne => x ≠ y | .lt => x < y | .ge => y ≤ x | .gt => y < x | .le => x ≤ y
theorem cc_icmp (cd : ClassFile.Cond) (x y : Int32) : if_icmp.holds cd x y = true ↔ ccP cd x y := by cases cd <;> simp [if_icmp.holds, ccP]
theorem cc_if (cd : ClassFile.Cond) (x : Int32) : ifCond.holds cd x = true ↔ ccP cd x 0 := by cases cd <;> simp [ifCond.holds, ccP]
def ccI (cd : ClassFile.Cond) (x y : Int) : Prop := match cd with
  | .eq => x = y | .ne => x ≠ y | .lt => x < y | .ge => y ≤ x | .gt => y < x | .le => x ≤ y
theorem cc_int (cd : ClassFile.Cond) (x y : Int32) : ccP cd x y ↔ ccI cd x.toInt y.toInt := by cases cd <;> simp only [ccP, ccI, Int32.lt_iff_toInt_lt, Int32.le_iff_toInt_le, ne_eq, Int32.toInt_inj]
theorem ccL {cd : ClassFile.Cond} {x y : Int32} {a b : Int} (q : ccP cd x y) (hx : x.toInt = a) (hy : y.toInt = b) : ccI cd a b := by subst hx hy; exact (cc_int cd x y).mp q
theorem ccN {cd : ClassFile.Cond} {x y : Int32} {a b : Int} (q : ¬ ccP cd x y) (hx : x.toInt = a) (hy : y.toInt = b) : ¬ ccI cd a b := by subst hx hy; exact fun r => q ((cc_int cd x y).mpr r)
theorem ite_0 {P : Prop} [Decidable P] (q : ccP .eq (if P then 1 else 0 : Int32) 0) : ¬ P := fun r => by rw [if_pos r] at q; exact absurd q (by show ¬ (1 : Int32) = 0; decide)
theorem ite_n0 {P : Prop} [Decidable P] (q : ¬ ccP .eq (if P then 1 else 0 : Int32) 0) : P := Decidable.byContradiction fun r => q (by rw [if_neg r]; rfl)
theorem ite_1 {P : Prop} [Decidable P] (q : ccP .ne (if P then 1 else 0 : Int32) 0) : P := Decidable.byContradiction fun r => q (by rw [if_neg r])
theorem ite_n1 {P : Prop} [Decidable P] (q : ¬ ccP .ne (if P then 1 else 0 : Int32) 0) : ¬ P := fun r => q (by rw [if_pos r]; show (1 : Int32) ≠ 0; decide)
theorem ite_01 {P : Prop} [Decidable P] : (if P then 1 else 0 : Int32) = 0 ∨ (if P then 1 else 0 : Int32) = 1 := by by_cases q : P <;> simp [q]
theorem ite_c {P Q : Prop} [Decidable P] [Decidable Q] (h : P ↔ Q) : (if P then 1 else 0 : Int32) = if Q then 1 else 0 := by by_cases q : P <;> simp [q, h.symm] <;> simp_all
theorem nat32 {i : Nat} (q : i < 2 ^ 31) : (Int32.ofNat i).toInt = i ∧ ¬ Int32.ofNat i < 0 ∧ (Int32.ofNat i).toNatClampNeg = i := by
  have e : (Int32.ofNat i).toInt = i := Int32.toInt_ofNat_small q
  refine ⟨e, ?_, ?_⟩
  · rw [Int32.lt_iff_toInt_lt, e, show (0 : Int32).toInt = 0 from rfl]; omega
  · simp only [Int32.toNatClampNeg, e]; rfl
theorem Go.icmp (X : Cx wd EL p Z s m meth c own nm code ml ret) {cd : ClassFile.Cond} {o : Int} {pt : Nat} {x y : Int32} (D : D1 code pc (.if_icmp cd o) 3 pc') (ho : 0 ≤ (pc : Int) + o ∧ ((pc : Int) + o).toNat = pt) (K1 : ccP cd x y → Go wd EL p l e R Z s m args below meth c Q L k n (mkF m pt Ls st)) (K2 : ¬ ccP cd x y → Go wd EL p l e R Z s m args below meth c Q L k n (mkF m pc' Ls st)) : Go wd EL p l e R Z s m args below meth c Q L k n (mkF m pc Ls (.int y :: .int x :: st)) := by
  obtain ⟨d, rfl⟩ := D
  cases hq : if_icmp.holds cd x y
  · exact (K2 fun q => by rw [(cc_icmp cd x y).mpr q] at hq; cases hq).to X fun s X T lc H S t r => XS.icmpNo S.here X.1 rfl (hb X.2.2.2.1 d) rfl hq r
  · exact (K1 ((cc_icmp cd x y).mp hq)).to X fun s X T lc H S t r => XS.icmpYes S.here X.1 rfl rfl (hb X.2.2.2.1 d) rfl hq ho.1 ho.2 r
theorem Go.ifc (X : Cx wd EL p Z s m meth c own nm code ml ret) {cd : ClassFile.Cond} {o : Int} {pt : Nat} {x : Int32} (D : D1 code pc (.ifCond cd o) 3 pc') (ho : 0 ≤ (pc : Int) + o ∧ ((pc : Int) + o).toNat = pt) (K1 : ccP cd x 0 → Go wd EL p l e R Z s m args below meth c Q L k n (mkF m pt Ls st)) (K2 : ¬ ccP cd x 0 → Go wd EL p l e R Z s m args below meth c Q L k n (mkF m pc' Ls st)) : Go wd EL p l e R Z s m args below meth c Q L k n (mkF m pc Ls (.int x :: st)) := by
  obtain ⟨d, rfl⟩ := D
  cases hq : ifCond.holds cd x
  · exact (K2 fun q => by rw [(cc_if cd x).mpr q] at hq; cases hq).to X fun s X T lc H S t r => XS.ifNo S.here X.1 rfl (hb X.2.2.2.1 d) rfl hq r
  · exact (K1 ((cc_if cd x).mp hq)).to X fun s X T lc H S t r => XS.ifYes S.here X.1 rfl rfl (hb X.2.2.2.1 d) rfl hq ho.1 ho.2 r
def acP (cd : ACond) (x y : Value) : Prop := match cd with | .eq => x = y | .ne => x ≠ y
theorem ac_iff (cd : ACond) (x y : Value) : acV cd (decide (x = y)) = true ↔ acP cd x y := by cases cd <;> simp [acV, acP]
theorem Go.acmp (X : Cx wd EL p Z s m meth c own nm code ml ret) {cd : ACond} {o : Int} {pt : Nat} {x y : Value} (D : D1 code pc (.if_acmp cd o) 3 pc') (ho : 0 ≤ (pc : Int) + o ∧ ((pc : Int) + o).toNat = pt) (hx : x.isRef = true) (hy : y.isRef = true) (K1 : acP cd x y → Go wd EL p l e R Z s m args below meth c Q L k n (mkF m pt Ls st)) (K2 : ¬ acP cd x y → Go wd EL p l e R Z s m args below meth c Q L k n (mkF m pc' Ls st)) : Go wd EL p l e R Z s m args below meth c Q L k n (mkF m pc Ls (y :: x :: st)) := by
  obtain ⟨d, rfl⟩ := D
  cases hq : acV cd (decide (x = y))
  · exact (K2 fun q => by rw [(ac_iff cd x y).mpr q] at hq; cases hq).to X fun s X T lc H S t r => RoadKit.acmp S X.1 rfl hx hy rfl (hb X.2.2.2.1 d) rfl rfl ho.1 (by rw [hq]; rfl) r
  · exact (K1 ((ac_iff cd x y).mp hq)).to X fun s X T lc H S t r => RoadKit.acmp S X.1 rfl hx hy rfl (hb X.2.2.2.1 d) rfl rfl ho.1 (by rw [hq]; exact ho.2.symm) r
theorem Go.lswY (X : Cx wd EL p Z s m meth c own nm code ml ret) {dflt : Int} {pairs : Array (Int × Int)} {len : Nat} {x : Int32} {a off : Int} {pt : Nat} (D : D1 code pc (.lookupswitch dflt pairs) len pc') (hs : (pairs.toList.zip (pairs.toList.drop 1)).all (fun (a, next) => a.1 < next.1) = true) (hf : pairs.find? (·.1 == x.toInt) = some (a, off)) (ho : 0 ≤ (pc : Int) + off ∧ ((pc : Int) + off).toNat = pt) (K : Go wd EL p l e R Z s m args below meth c Q L k n (mkF m pt Ls st)) : Go wd EL p l e R Z s m args below meth c Q L k n (mkF m pc Ls (.int x :: st)) := by
  obtain ⟨d, rfl⟩ := D
  exact K.to X fun s X T lc H S t r => S.lookupswitchHit X.1 (g := mkF m pc Ls (.int x :: st)) rfl rfl (hb X.2.2.2.1 d) hs hf ho.1 t (by show Steps _ _ _ (T.setTop (mkF m ((pc : Int) + off).toNat Ls st)) _; rw [ho.2]; exact r)
theorem Go.lswN (X : Cx wd EL p Z s m meth c own nm code ml ret) {dflt : Int} {pairs : Array (Int × Int)} {len : Nat} {x : Int32} {pt : Nat} (D : D1 code pc (.lookupswitch dflt pairs) len pc') (hs : (pairs.toList.zip (pairs.toList.drop 1)).all (fun (a, next) => a.1 < next.1) = true) (hf : pairs.find? (·.1 == x.toInt) = none) (ho : 0 ≤ (pc : Int) + dflt ∧ ((pc : Int) + dflt).toNat = pt) (K : Go wd EL p l e R Z s m args below meth c Q L k n (mkF m pt Ls st)) : Go wd EL p l e R Z s m args below meth c Q L k n (mkF m pc Ls (.int x :: st)) := by
  obtain ⟨d, rfl⟩ := D
  exact K.to X fun s X T lc H S t r => S.lookupswitchMiss X.1 (g := mkF m pc Ls (.int x :: st)) rfl rfl (hb X.2.2.2.1 d) hs hf ho.1 t (by show Steps _ _ _ (T.setTop (mkF m ((pc : Int) + dflt).toNat Ls st)) _; rw [ho.2]; exact r)
theorem Go.tswY (X : Cx wd EL p Z s m meth c own nm code ml ret) {dflt low high : Int} {offs : Array Int} {len : Nat} {x : Int32} {off : Int} {pt : Nat} (D : D1 code pc (.tableswitch dflt low high offs) len pc') (hin : ¬ (x.toInt < low ∨ x.toInt > high)) (hf : offs[(x.toInt - low).toNat]? = some off) (ho : 0 ≤ (pc : Int) + off ∧ ((pc : Int) + off).toNat = pt) (K : Go wd EL p l e R Z s m args below meth c Q L k n (mkF m pt Ls st)) : Go wd EL p l e R Z s m args below meth c Q L k n (mkF m pc Ls (.int x :: st)) := by
  obtain ⟨d, rfl⟩ := D
  exact K.to X fun s X T lc H S t r => S.tableswitchIn X.1 (g := mkF m pc Ls (.int x :: st)) rfl rfl (hb X.2.2.2.1 d) hin hf ho.1 t (by show Steps _ _ _ (T.setTop (mkF m ((pc : Int) + off).toNat Ls st)) _; rw [ho.2]; exact r)
/-! ### returns -/
theorem Go.retw {t : FieldType} (X : Cx wd EL p Z s m meth c own nm code ml (some t)) {i : Instr} {w : Value} {Qv : Value → List Ent → Prop} (hn : narrow t w = w)
    (hi : (i = .ireturn ∧ (t = .int ∨ t = .boolean ∨ t = .byte ∨ t = .char ∨ t = .short) ∧ ∃ z, w = .int z) ∨ (i = .lreturn ∧ t = .long ∧ ∃ z, w = .long z) ∨ (i = .dreturn ∧ t = .double ∧ ∃ z, w = .double z) ∨ (i = .freturn ∧ t = .float ∧ ∃ z, w = .float z) ∨ (i = .areturn ∧ t.isReference = true ∧ w.isRef = true))
    (D : D1 code pc i 1 pc') (hk : k ≤ R.cells) (hs : n ≤ R.slots) (q : Qv w L) : Go wd EL p l e R Z s m args below meth c (rvQ Qv) L k n (mkF m pc Ls (w :: st)) := by
  intro vm T lc F B I S
  replace X := X.re B
  have hlk : meth.locks = false := X.2.2.2.2.2.2.1
  obtain ⟨fs, hr, hrun, hended, hW, hsame⟩ := S.leave (v := some w) (fun z => by rw [X.2.2.2.2.2.1] at z; cases z) hlk
  exact ⟨_, _, retOut S X.1 X.2.2.2.2.2.1 hn hi (hb X.2.2.2.1 D.1) hr, hrun, hended, some w, L, lc, rfl, ⟨w, rfl, q⟩, I.now X S, F, B.ended ⟨_, rfl⟩ hW (Nat.le_refl _) hsame hk hs⟩
theorem Go.iret (X : Cx wd EL p Z s m meth c own nm code ml (some .int)) {z : Int32} {Qv : Value → List Ent → Prop} (D : D1 code pc .ireturn 1 pc') (hk : k ≤ R.cells) (hs : n ≤ R.slots) (q : Qv (.int z) L) : Go wd EL p l e R Z s m args below meth c (rvQ Qv) L k n (mkF m pc Ls (.int z :: st)) :=
  Go.retw X rfl (Or.inl ⟨rfl, Or.inl rfl, z, rfl⟩) D hk hs q
theorem Go.zret (X : Cx wd EL p Z s m meth c own nm code ml (some .boolean)) {z : Int32} {Qv : Value → List Ent → Prop} (D : D1 code pc .ireturn 1 pc') (hz : z = 0 ∨ z = 1) (hk : k ≤ R.cells) (hs : n ≤ R.slots) (q : Qv (.int z) L) : Go wd EL p l e R Z s m args below meth c (rvQ Qv) L k n (mkF m pc Ls (.int z :: st)) :=
  Go.retw X (by rcases hz with rfl | rfl <;> rfl) (Or.inl ⟨rfl, Or.inr (Or.inl rfl), z, rfl⟩) D hk hs q
theorem Go.cret (X : Cx wd EL p Z s m meth c own nm code ml (some .char)) {z : Int32} {Qv : Value → List Ent → Prop} (D : D1 code pc .ireturn 1 pc') (hz : z.toUInt32.toUInt16.toUInt32.toInt32 = z) (hk : k ≤ R.cells) (hs : n ≤ R.slots) (q : Qv (.int z) L) : Go wd EL p l e R Z s m args below meth c (rvQ Qv) L k n (mkF m pc Ls (.int z :: st)) :=
  Go.retw X (by show Value.int (z.toUInt32.toUInt16.toUInt32.toInt32) = .int z; rw [hz]) (Or.inl ⟨rfl, Or.inr (Or.inr (Or.inr (Or.inl rfl))), z, rfl⟩) D hk hs q
theorem Go.bret (X : Cx wd EL p Z s m meth c own nm code ml (some .byte)) {z : Int32} {Qv : Value → List Ent → Prop} (D : D1 code pc .ireturn 1 pc') (hz : z.toInt8.toInt32 = z) (hk : k ≤ R.cells) (hs : n ≤ R.slots) (q : Qv (.int z) L) : Go wd EL p l e R Z s m args below meth c (rvQ Qv) L k n (mkF m pc Ls (.int z :: st)) :=
  Go.retw X (by show Value.int (z.toInt8.toInt32) = .int z; rw [hz]) (Or.inl ⟨rfl, Or.inr (Or.inr (Or.inl rfl)), z, rfl⟩) D hk hs q
theorem Go.aret {t : FieldType} (X : Cx wd EL p Z s m meth c own nm code ml (some t)) {w : Value} {Qv : Value → List Ent → Prop} (D : D1 code pc .areturn 1 pc') (ht : t.isReference = true) (hw : w.isRef = true) (hn : narrow t w = w) (hk : k ≤ R.cells) (hs : n ≤ R.slots) (q : Qv w L) : Go wd EL p l e R Z s m args below meth c (rvQ Qv) L k n (mkF m pc Ls (w :: st)) :=
  Go.retw X hn (Or.inr (Or.inr (Or.inr (Or.inr ⟨rfl, ht, hw⟩)))) D hk hs q
theorem Go.ret0 (X : Cx wd EL p Z s m meth c own nm code ml none) {Q0 : List Ent → Prop} (D : D1 code pc .return_ 1 pc') (hk : k ≤ R.cells) (hs : n ≤ R.slots) (q : Q0 L) : Go wd EL p l e R Z s m args below meth c (r0Q Q0) L k n (mkF m pc Ls []) := by
  intro vm T lc F B I S
  replace X := X.re B
  have hlk : meth.locks = false := X.2.2.2.2.2.2.1
  obtain ⟨fs, hr, hrun, hended, hW, hsame⟩ := S.leave (v := none) (fun _ => rfl) hlk
  exact ⟨_, _, S.returnOut X.1 X.2.2.2.2.2.1 (hb X.2.2.2.1 D.1) hr, hrun, hended, none, L, lc, rfl, ⟨rfl, q⟩, I.now X S, F, B.ended ⟨_, rfl⟩ hW (Nat.le_refl _) hsame hk hs⟩
end Steps
end Jvm.OwnKit
namespace Jvm.OwnKit
open Sem ClassFile Op Lib Jvm.Stand Jvm.Free Jvm.LawKit Jvm.RoadKit
section Steps
variable {wd : Bool} {EL : List (String × Nat)} {p : Program} {l : Launch} {e : Env} {R : Room} {Z s : State} {m : MethodId} {args : Array Value} {below : List Frame} {meth : Method} {c : Code} {Q : Option Value → List Ent → Prop} {L L' : List Ent} {k n : Nat} {own nm : String} {code : ByteArray} {ml : Nat} {ret : Option FieldType} {a0 : Array Value}
variable {pc pc' : Nat} {Ls : Array Slot} {st : List Value} {i j : Nat} {a b : Addr} {C : String} {ns : List Nm} {vs : List Value} {v : Value} {h h' : Heap} {vm : Vm}
def dfl (ns : List Nm) : List (Option Value) := ns.map fun q => (parseFieldDescriptor q.2.2).map defaultValue
theorem Go.new (X : Cx wd EL p Z s m meth c own nm code ml ret) {idx kk : Nat} (w : (Cond.classLink own idx C).before a0 Z = true) (wi : (Cond.instantiable C kk).before a0 Z = true) (wz : (Cond.initialized C).before a0 Z = true) (Y : LayC Z a0 C ns) (hv : dfl ns = vs.map some) (D : D1 code pc (.new idx) 3 pc') (hc : k + 1 ≤ R.cells) (hl : n + kk ≤ R.slots)
    (K : ∀ a, Go wd EL p l e R Z s m args below meth c Q (ow a (Ob Z C ns vs) :: L) (k + 1) (n + kk) (mkF m pc' Ls (.ref a :: st))) : Go wd EL p l e R Z s m args below meth c Q L k n (mkF m pc Ls st) := by
  obtain ⟨d, rfl⟩ := D
  intro vm T lc F B I S
  replace X := X.re B
  obtain ⟨T', h', S', e', E', A', D', -, stp⟩ := newO S X.1 X.2.1 X.2.2.1 w wi wz rfl (g := mkF m pc Ls st) rfl (hb X.2.2.2.1 d) hc hl
  have I' : Iv wd Z EL vm h' (ow T.heap.size (Ob Z C ns vs) :: L) := by
    obtain ⟨cell, kC, a1, a2, a3, a4, a5⟩ := A'
    refine I.push E' (Nat.le_refl _) ⟨cell, a1, ⟨kC, a2, a3, a4, a5⟩, ?_, fun j q v hj hv' => ?_⟩
    · have := congrArg List.length hv; simpa [dfl] using this.symm
    · have e1 : (dfl ns)[j]? = some ((parseFieldDescriptor q.2.2).map defaultValue) := by simp [dfl, hj]
      rw [hv] at e1
      simp only [List.getElem?_map, hv', Option.map_some, Option.some.injEq] at e1
      cases ht : parseFieldDescriptor q.2.2 with
      | none => rw [ht] at e1; cases e1
      | some ty =>
        rw [ht] at e1
        cases e1
        obtain ⟨c', cf, k', i', f, f0, r⟩ := D' (Y.1 q (List.mem_of_getElem? hj)) ht
        cases a1.symm.trans f0
        exact ⟨cf, k', i', f, r⟩
  subst e'
  obtain ⟨u, o, st', r⟩ := K _ vm T' lc F (B.mono E'.1) I' S'
  exact ⟨u, o, stp _ st', r⟩
theorem Go.getFld (X : Cx wd EL p Z s m meth c own nm code ml ret) {R0 O f d : String} {idx : Nat} (w : (Cond.fieldLink own idx R0 f d).before a0 Z = true) (via : Via Z R0 O f d) (F : ∀ h, Hp Z h L → Fld Z h a O f d v) (D : D1 code pc (.getfield idx) 3 pc') (K : Go wd EL p l e R Z s m args below meth c Q L k n (mkF m pc' Ls (v :: st))) : Go wd EL p l e R Z s m args below meth c Q L k n (mkF m pc Ls (.ref a :: st)) := by
  obtain ⟨dd, rfl⟩ := D
  intro vm T lc Fr' B I S
  replace X := X.re B
  obtain ⟨T', S', e', stp⟩ := getF S X.1 X.2.1 X.2.2.1 (host := "") (Or.inl w) via rfl (F _ I.1) (g := mkF m pc Ls (.ref a :: st)) rfl rfl (hb X.2.2.2.1 dd)
  rw [← e'] at I B
  obtain ⟨u, o, st', r⟩ := K vm T' lc Fr' B I S'
  exact ⟨u, o, stp _ st', r⟩
theorem Go.putFld (X : Cx wd EL p Z s m meth c own nm code ml ret) {R0 O f d : String} {idx kk : Nat} {ty : FieldType} (hi : L[i]? = some (ow a (Ob Z C ns vs))) (hj : ns[j]? = some (O, f, d)) (Y : LayC Z a0 C ns) (w : (Cond.fieldLink own idx R0 f d).before a0 Z = true) (via : Via Z R0 O f d) (hL : (Cond.lays C O f d).before a0 Z = true ∨ ((Cond.laysFinal C O f d).before a0 Z = true ∧ own = O ∧ nm = "<init>")) (wi : (Cond.instantiable C kk).before a0 Z = true)
    (ht : parseFieldDescriptor d = some ty) (D : D1 code pc (.putfield idx) 3 pc') (hn : narrow ty v = v) (hf : fits ty v = true) (K : Go wd EL p l e R Z s m args below meth c Q (updL L i (ow a (Ob Z C ns (updL vs j v)))) k n (mkF m pc' Ls st)) : Go wd EL p l e R Z s m args below meth c Q L k n (mkF m pc Ls (v :: .ref a :: st)) := by
  obtain ⟨dd, rfl⟩ := D
  intro vm T lc F' B I S
  replace X := X.re B
  have lj : j < vs.length := by obtain ⟨c, hc, -, hl, -⟩ := I.1.at hi; rw [hl]; exact (List.getElem?_eq_some_iff.mp hj).1
  have F := I.1.fld hi hj (List.getElem?_eq_getElem lj)
  have E := I.1.exa hi
  obtain ⟨T', h', S', e', W, stp⟩ := putF S X.1 X.2.1 X.2.2.1 (host := "") (Or.inl w) via rfl F E (hL.imp id fun q => ⟨q.1, q.2.1, X.2.2.2.2.2.2.2.1.trans q.2.2⟩) wi ht hn hf (g := mkF m pc Ls (v :: .ref a :: st)) rfl rfl (hb X.2.2.2.1 dd)
  have I' := I.wr (P' := Ob Z C ns (updL vs j v)) hi W fun c O hs lt => Ob.put Y hj O hs lt
  subst e'
  obtain ⟨u, o, st', r⟩ := K vm T' _ (F'.app fun y hy => by cases List.mem_singleton.mp hy; exact I.1.ge hi) (B.mono (Nat.le_of_eq W.size.symm)) I' S'
  exact ⟨u, o, stp _ st', r⟩
theorem Go.getSta (X : Cx wd EL p Z s m meth c own nm code ml ret) {R0 O f d : String} {idx : Nat} (w : (Cond.fieldLink own idx R0 f d).before a0 Z = true) (via : Via Z R0 O f d) (F : Sta Z Z.heap O f d v) (D : D1 code pc (.getstatic idx) 3 pc') (K : Go wd EL p l e R Z s m args below meth c Q L k n (mkF m pc' Ls (v :: st))) : Go wd EL p l e R Z s m args below meth c Q L k n (mkF m pc Ls st) := by
  obtain ⟨dd, rfl⟩ := D
  intro vm T lc F' B I S
  replace X := X.re B
  obtain ⟨T', S', e', stp⟩ := getS2 S X.1 X.2.1 X.2.2.1 (host := "") (Or.inl w) via rfl (F.ext I.1.1) (g := mkF m pc Ls st) rfl (hb X.2.2.2.1 dd)
  rw [← e'] at I B
  obtain ⟨u, o, st', r⟩ := K vm T' lc F' B I S'
  exact ⟨u, o, stp _ st', r⟩
theorem Go.getFldN (X : Cx wd EL p Z s m meth c own nm code ml ret) {R0 O f d : String} {host : String} {idx : Nat} (w : (Cond.fieldLinkNest own idx R0 f d host).before a0 Z = true) (via : Via Z R0 O f d) (F : ∀ h, Hp Z h L → Fld Z h a O f d v) (D : D1 code pc (.getfield idx) 3 pc') (K : Go wd EL p l e R Z s m args below meth c Q L k n (mkF m pc' Ls (v :: st))) : Go wd EL p l e R Z s m args below meth c Q L k n (mkF m pc Ls (.ref a :: st)) := by
  obtain ⟨dd, rfl⟩ := D
  intro vm T lc Fr' B I S
  replace X := X.re B
  obtain ⟨T', S', e', stp⟩ := getF S X.1 X.2.1 X.2.2.1 (host := host) (Or.inr w) via rfl (F _ I.1) (g := mkF m pc Ls (.ref a :: st)) rfl rfl (hb X.2.2.2.1 dd)
  rw [← e'] at I B
  obtain ⟨u, o, st', r⟩ := K vm T' lc Fr' B I S'
  exact ⟨u, o, stp _ st', r⟩
theorem Go.putFldN (X : Cx wd EL p Z s m meth c own nm code ml ret) {R0 O f d : String} {host : String} {idx kk : Nat} {ty : FieldType} (hi : L[i]? = some (ow a (Ob Z C ns vs))) (hj : ns[j]? = some (O, f, d)) (Y : LayC Z a0 C ns) (w : (Cond.fieldLinkNest own idx R0 f d host).before a0 Z = true) (via : Via Z R0 O f d) (hL : (Cond.lays C O f d).before a0 Z = true ∨ ((Cond.laysFinal C O f d).before a0 Z = true ∧ own = O ∧ nm = "<init>")) (wi : (Cond.instantiable C kk).before a0 Z = true)
    (ht : parseFieldDescriptor d = some ty) (D : D1 code pc (.putfield idx) 3 pc') (hn : narrow ty v = v) (hf : fits ty v = true) (K : Go wd EL p l e R Z s m args below meth c Q (updL L i (ow a (Ob Z C ns (updL vs j v)))) k n (mkF m pc' Ls st)) : Go wd EL p l e R Z s m args below meth c Q L k n (mkF m pc Ls (v :: .ref a :: st)) := by
  obtain ⟨dd, rfl⟩ := D
  intro vm T lc F' B I S
  replace X := X.re B
  have lj : j < vs.length := by obtain ⟨c, hc, -, hl, -⟩ := I.1.at hi; rw [hl]; exact (List.getElem?_eq_some_iff.mp hj).1
  have F := I.1.fld hi hj (List.getElem?_eq_getElem lj)
  have E := I.1.exa hi
  obtain ⟨T', h', S', e', W, stp⟩ := putF S X.1 X.2.1 X.2.2.1 (host := host) (Or.inr w) via rfl F E (hL.imp id fun q => ⟨q.1, q.2.1, X.2.2.2.2.2.2.2.1.trans q.2.2⟩) wi ht hn hf (g := mkF m pc Ls (v :: .ref a :: st)) rfl rfl (hb X.2.2.2.1 dd)
  have I' := I.wr (P' := Ob Z C ns (updL vs j v)) hi W fun c O hs lt => Ob.put Y hj O hs lt
  subst e'
  obtain ⟨u, o, st', r⟩ := K vm T' _ (F'.app fun y hy => by cases List.mem_singleton.mp hy; exact I.1.ge hi) (B.mono (Nat.le_of_eq W.size.symm)) I' S'
  exact ⟨u, o, stp _ st', r⟩
theorem Go.getStaN (X : Cx wd EL p Z s m meth c own nm code ml ret) {R0 O f d : String} {host : String} {idx : Nat} (w : (Cond.fieldLinkNest own idx R0 f d host).before a0 Z = true) (via : Via Z R0 O f d) (F : Sta Z Z.heap O f d v) (D : D1 code pc (.getstatic idx) 3 pc') (K : Go wd EL p l e R Z s m args below meth c Q L k n (mkF m pc' Ls (v :: st))) : Go wd EL p l e R Z s m args below meth c Q L k n (mkF m pc Ls st) := by
  obtain ⟨dd, rfl⟩ := D
  intro vm T lc F' B I S
  replace X := X.re B
  obtain ⟨T', S', e', stp⟩ := getS2 S X.1 X.2.1 X.2.2.1 (host := host) (Or.inr w) via rfl (F.ext I.1.1) (g := mkF m pc Ls st) rfl (hb X.2.2.2.1 dd)
  rw [← e'] at I B
  obtain ⟨u, o, st', r⟩ := K vm T' lc F' B I S'
  exact ⟨u, o, stp _ st', r⟩
theorem Go.putInv (X : Cx wd EL p Z s m meth c own nm code ml ret) {R0 O f d : String} {idx kk : Nat} {ty : FieldType} {P : Cell → Prop} (hi : ow a P ∈ L) (w : (Cond.fieldLink own idx R0 f d).before a0 Z = true) (via : Via Z R0 O f d) (hL : (Cond.lays C O f d).before a0 Z = true ∨ ((Cond.laysFinal C O f d).before a0 Z = true ∧ own = O ∧ nm = "<init>")) (wi : (Cond.instantiable C kk).before a0 Z = true)
    (hF : ∀ h, Hp Z h L → (∃ v0, Fld Z h a O f d v0) ∧ Exa Z h a C) (hP : ∀ c : Cell, P c → c.vm.isStatics = false → slo Z (O, f, d) < c.slots.size → P (c.setSlot (slo Z (O, f, d)) v))
    (ht : parseFieldDescriptor d = some ty) (D : D1 code pc (.putfield idx) 3 pc') (hn : narrow ty v = v) (hf : fits ty v = true) (K : Go wd EL p l e R Z s m args below meth c Q L k n (mkF m pc' Ls st)) : Go wd EL p l e R Z s m args below meth c Q L k n (mkF m pc Ls (v :: .ref a :: st)) := by
  obtain ⟨dd, rfl⟩ := D
  intro vm T lc F' B I S
  replace X := X.re B
  obtain ⟨⟨v0, F⟩, E⟩ := hF _ I.1
  obtain ⟨T', h', S', e', W, stp⟩ := putF S X.1 X.2.1 X.2.2.1 (host := "") (Or.inl w) via rfl F E (hL.imp id fun q => ⟨q.1, q.2.1, X.2.2.2.2.2.2.2.1.trans q.2.2⟩) wi ht hn hf (g := mkF m pc Ls (v :: .ref a :: st)) rfl rfl (hb X.2.2.2.1 dd)
  obtain ⟨ix, hix⟩ := List.getElem?_of_mem hi
  have I' := I.wr (P' := P) hix W fun c O hs lt => hP c O hs lt
  have eL : updL L ix (ow a P) = L := upd_self L ix _ hix
  rw [eL] at I'
  subst e'
  obtain ⟨u, o, st', r⟩ := K vm T' _ (F'.app fun y hy => by cases List.mem_singleton.mp hy; exact I.1.ge hix) (B.mono (Nat.le_of_eq W.size.symm)) I' S'
  exact ⟨u, o, stp _ st', r⟩
theorem Go.getAny (X : Cx wd EL p Z s m meth c own nm code ml ret) {R0 O f d : String} {idx : Nat} {φ : Value → Prop} (w : (Cond.fieldLink own idx R0 f d).before a0 Z = true) (via : Via Z R0 O f d) (F : ∀ h, Hp Z h L → ∃ v, φ v ∧ Fld Z h a O f d v) (D : D1 code pc (.getfield idx) 3 pc') (K : ∀ v, φ v → Go wd EL p l e R Z s m args below meth c Q L k n (mkF m pc' Ls (v :: st))) : Go wd EL p l e R Z s m args below meth c Q L k n (mkF m pc Ls (.ref a :: st)) := by
  obtain ⟨dd, rfl⟩ := D
  intro vm T lc Fr' B I S
  replace X := X.re B
  obtain ⟨v, hv, F⟩ := F _ I.1
  obtain ⟨T', S', e', stp⟩ := getF S X.1 X.2.1 X.2.2.1 (host := "") (Or.inl w) via rfl F (g := mkF m pc Ls (.ref a :: st)) rfl rfl (hb X.2.2.2.1 dd)
  rw [← e'] at I B
  obtain ⟨u, o, st', r⟩ := K v hv vm T' lc Fr' B I S'
  exact ⟨u, o, stp _ st', r⟩
/-! ### arrays -/
theorem Go.newarrF (X : Cx wd EL p Z s m meth c own nm code ml ret) {aty : ArrayType} {z : Int32} {N cap : Nat} (w : (Cond.arrayClass (newarray.typeOf aty)).before a0 Z = true) (hz : ¬ z < 0) (hN : z.toNatClampNeg = N) (hcap : N ≤ cap) (hb8 : cap * 8 ≤ 536870912) (D : D1 code pc (.newarray aty) 2 pc') (hc : k + 1 ≤ R.cells) (hl : n + cap ≤ R.slots)
    (K : ∀ a K', Z.vm.findClass ("[" ++ (newarray.typeOf aty).toString) = some K' → Go wd EL p l e R Z s m args below meth c Q (ow a (Ar Z (newarray.typeOf aty) K' (List.replicate N (defaultValue (newarray.typeOf aty)))) :: L) (k + 1) (n + cap) (mkF m pc' Ls (.ref a :: st))) : Go wd EL p l e R Z s m args below meth c Q L k n (mkF m pc Ls (.int z :: st)) := by
  obtain ⟨d, rfl⟩ := D
  intro vm T lc F B I S
  replace X := X.re B
  have hcb : componentBytes (newarray.typeOf aty) ≤ 8 := by cases aty <;> decide
  obtain ⟨cA, kA, comp, h1, h2, h3, S', stp⟩ := S.newarrayPrim X.1 (mvA X.2.1 w) (g := mkF m pc Ls (.int z :: st)) rfl (hb X.2.2.2.1 d) rfl hz (Nat.le_trans (Nat.mul_le_mul (by omega) hcb) hb8) hc (by omega)
  rw [X.2.1.alike.findClass] at h1
  obtain ⟨kZ, z1, -⟩ := Vm.findClass_spec h1
  obtain ⟨k', z2, z3⟩ := X.2.1.alike.2.2 _ _ z1
  cases h2.symm.trans z2
  have E' : Ext T.heap (T.heap.push { cls := cA, slots := Array.replicate z.toNatClampNeg (defaultValue (newarray.typeOf aty)), vm := .none }) := ext_of fun a q => Array.getElem?_push_lt q |>.trans (Array.getElem?_eq_getElem q).symm
  have I' := I.push (a := T.heap.size) (P := Ar Z (newarray.typeOf aty) cA (List.replicate N (defaultValue (newarray.typeOf aty)))) E' (Nat.le_refl _) ⟨{ cls := cA, slots := Array.replicate z.toNatClampNeg (defaultValue (newarray.typeOf aty)), vm := .none }, by simp, ⟨by simp, kZ, z1, comp, by rw [← h3, z3]⟩, by simp, rfl, by simp [hN], by simp; omega, fun u hu => by rw [List.eq_of_mem_replicate hu]; cases aty <;> rfl⟩
  obtain ⟨u, o, st', r⟩ := K _ cA h1 vm _ lc F (B.mono E'.1) I' (S'.mono (Nat.le_refl _) (by omega))
  exact ⟨u, o, stp _ st', r⟩
theorem Go.newarr (X : Cx wd EL p Z s m meth c own nm code ml ret) {aty : ArrayType} {z : Int32} {N cap : Nat} (w : (Cond.arrayClass (newarray.typeOf aty)).before a0 Z = true) (hz : ¬ z < 0) (hN : z.toNatClampNeg = N) (hcap : N ≤ cap) (hb8 : cap * 8 ≤ 536870912) (D : D1 code pc (.newarray aty) 2 pc') (hc : k + 1 ≤ R.cells) (hl : n + cap ≤ R.slots)
    (K : ∀ a K', Go wd EL p l e R Z s m args below meth c Q (ow a (Ar Z (newarray.typeOf aty) K' (List.replicate N (defaultValue (newarray.typeOf aty)))) :: L) (k + 1) (n + cap) (mkF m pc' Ls (.ref a :: st))) : Go wd EL p l e R Z s m args below meth c Q L k n (mkF m pc Ls (.int z :: st)) := by
  obtain ⟨d, rfl⟩ := D
  intro vm T lc F B I S
  replace X := X.re B
  obtain ⟨T', h', cA, S', e', E', A', stp⟩ := newP S X.1 X.2.1 w rfl (g := mkF m pc Ls (.int z :: st)) rfl (hb X.2.2.2.1 d) rfl hz (cap := cap) (by omega) hb8 hc hl
  have I' := I.push (P := Ar Z (newarray.typeOf aty) cA (List.replicate N (defaultValue (newarray.typeOf aty)))) E' (Nat.le_refl _) ⟨_, A'.1, A'.2.1, A'.2.2, rfl, by simp [newA, hN], by simp; omega, fun u hu => by rw [List.eq_of_mem_replicate hu]; cases aty <;> rfl⟩
  subst e'
  obtain ⟨u, o, st', r⟩ := K _ cA vm T' lc F (B.mono E'.1) I' S'
  exact ⟨u, o, stp _ st', r⟩
theorem Go.anew (X : Cx wd EL p Z s m meth c own nm code ml ret) {idx : Nat} {z : Int32} {N cap : Nat} (w : (Cond.classLink own idx C).before a0 Z = true) (w2 : (Cond.arrayOver (.object C)).before a0 Z = true) (hz : ¬ z < 0) (hN : z.toNatClampNeg = N) (hcap : N ≤ cap) (hb8 : cap * 8 ≤ 536870912) (D : D1 code pc (.anewarray idx) 3 pc') (hc : k + 1 ≤ R.cells) (hl : n + cap ≤ R.slots)
    (K : ∀ a K', Ovr Z K' C → Go wd EL p l e R Z s m args below meth c Q (ow a (Ar Z (.object C) K' (List.replicate N .null)) :: L) (k + 1) (n + cap) (mkF m pc' Ls (.ref a :: st))) : Go wd EL p l e R Z s m args below meth c Q L k n (mkF m pc Ls (.int z :: st)) := by
  obtain ⟨d, rfl⟩ := D
  intro vm T lc F B I S
  replace X := X.re B
  obtain ⟨T', h', cA, S', e', E', A', O', stp⟩ := newR S X.1 X.2.1 X.2.2.1 w w2 rfl (g := mkF m pc Ls (.int z :: st)) rfl (hb X.2.2.2.1 d) rfl hz (cap := cap) (by omega) hb8 hc hl
  have I' := I.push (P := Ar Z (.object C) cA (List.replicate N .null)) E' (Nat.le_refl _) ⟨_, A'.1, A'.2.1, A'.2.2, rfl, by simp [newA, hN, defaultValue], by simp; omega, fun u hu => by rw [List.eq_of_mem_replicate hu]; rfl⟩
  subst e'
  obtain ⟨u, o, st', r⟩ := K _ cA O' vm T' lc F (B.mono E'.1) I' S'
  exact ⟨u, o, stp _ st', r⟩
theorem inb {cl : Cell} {vs : List Value} {z : Int32} (q : cl.slots = vs.toArray) (hz : ¬ z < 0) (hN : z.toNatClampNeg < vs.length) : ¬ (z < 0 ∨ cl.slots.size ≤ z.toNatClampNeg) := by rw [q]; simp; exact ⟨Int32.not_lt.mp hz, hN⟩
theorem Go.alenA (X : Cx wd EL p Z s m meth c own nm code ml ret) {ty : FieldType} {N : Nat} (hA : ∀ h, Hp Z h L → ∃ cl, Arr Z h a cl ty ∧ cl.slots.size = N) (D : D1 code pc .arraylength 1 pc') (K : Go wd EL p l e R Z s m args below meth c Q L k n (mkF m pc' Ls (.int N.toInt32 :: st))) : Go wd EL p l e R Z s m args below meth c Q L k n (mkF m pc Ls (.ref a :: st)) := by
  obtain ⟨d, rfl⟩ := D
  refine K.to X fun s X T lc H S t r => ?_
  obtain ⟨cl, A, q⟩ := hA _ H
  refine S.arraylength X.1 A.1 (State.isArrayOf_alike X.2.1.alike A.2.1) (g := mkF m pc Ls (.ref a :: st)) rfl rfl (hb X.2.2.2.1 d) _ ?_
  rw [q]; exact r
theorem Hp.len {f : Bool} (H : Hp Z h L) {ty : FieldType} {K : ClassId} (hi : L[i]? = some (a, Ar Z ty K vs, f)) : ∃ cl, Arr Z h a cl ty ∧ cl.slots.size = vs.length := by
  obtain ⟨cl, A, -, q, -⟩ := H.arr hi; exact ⟨cl, A, by rw [q]; simp⟩
theorem Hp.lenM {f : Bool} (H : Hp Z h L) {ty : FieldType} {K : ClassId} (hi : (a, Ar Z ty K vs, f) ∈ L) : ∃ cl, Arr Z h a cl ty ∧ cl.slots.size = vs.length := by
  obtain ⟨cl, A, -, q, -⟩ := H.arrM hi; exact ⟨cl, A, by rw [q]; simp⟩
theorem Hp.el {f : Bool} (H : Hp Z h L) {ty : FieldType} {K : ClassId} (hi : L[i]? = some (a, Ar Z ty K vs, f)) {N : Nat} (hv : vs[N]? = some v) : ∃ cl, Arr Z h a cl ty ∧ cl.slots[N]? = some v := by
  obtain ⟨cl, A, -, q, -⟩ := H.arr hi; exact ⟨cl, A, by rw [q]; simpa using hv⟩
theorem Hp.elM {f : Bool} (H : Hp Z h L) {ty : FieldType} {K : ClassId} (hi : (a, Ar Z ty K vs, f) ∈ L) {N : Nat} (hv : vs[N]? = some v) : ∃ cl, Arr Z h a cl ty ∧ cl.slots[N]? = some v := by
  obtain ⟨cl, A, -, q, -⟩ := H.arrM hi; exact ⟨cl, A, by rw [q]; simpa using hv⟩
theorem inb2 {cl : Cell} {z : Int32} (hz : ¬ z < 0) {v : Value} (hv : cl.slots[z.toNatClampNeg]? = some v) : ¬ (z < 0 ∨ cl.slots.size ≤ z.toNatClampNeg) := fun q => q.elim hz fun q => absurd (Array.getElem?_eq_some_iff.mp hv).1 (Nat.not_lt.mpr q)
theorem Go.iald (X : Cx wd EL p Z s m meth c own nm code ml ret) {z x : Int32} (hz : ¬ z < 0) (hA : ∀ h, Hp Z h L → ∃ cl, Arr Z h a cl .int ∧ cl.slots[z.toNatClampNeg]? = some (.int x)) (D : D1 code pc .iaload 1 pc') (K : Go wd EL p l e R Z s m args below meth c Q L k n (mkF m pc' Ls (.int x :: st))) : Go wd EL p l e R Z s m args below meth c Q L k n (mkF m pc Ls (.int z :: .ref a :: st)) := by
  obtain ⟨d, rfl⟩ := D
  refine K.to X fun s X T lc H S t r => ?_
  obtain ⟨cl, A, hv⟩ := hA _ H
  exact S.iaload X.1 A.1 (State.isArrayOf_alike X.2.1.alike A.2.1) A.2.2 (inb2 hz hv) hv (g := mkF m pc Ls (.int z :: .ref a :: st)) rfl rfl (hb X.2.2.2.1 d) _ r
theorem Go.cald (X : Cx wd EL p Z s m meth c own nm code ml ret) {z x : Int32} (hz : ¬ z < 0) (hA : ∀ h, Hp Z h L → ∃ cl, Arr Z h a cl .char ∧ cl.slots[z.toNatClampNeg]? = some (.int x)) (D : D1 code pc .caload 1 pc') (K : Go wd EL p l e R Z s m args below meth c Q L k n (mkF m pc' Ls (.int x :: st))) : Go wd EL p l e R Z s m args below meth c Q L k n (mkF m pc Ls (.int z :: .ref a :: st)) := by
  obtain ⟨d, rfl⟩ := D
  refine K.to X fun s X T lc H S t r => ?_
  obtain ⟨cl, A, hv⟩ := hA _ H
  exact S.caload X.1 A.1 (State.isArrayOf_alike X.2.1.alike A.2.1) A.2.2 (inb2 hz hv) hv (g := mkF m pc Ls (.int z :: .ref a :: st)) rfl rfl (hb X.2.2.2.1 d) _ r
theorem Go.bald (X : Cx wd EL p Z s m meth c own nm code ml ret) {z x : Int32} (hz : ¬ z < 0) (hA : ∀ h, Hp Z h L → ∃ cl, Arr Z h a cl .byte ∧ cl.slots[z.toNatClampNeg]? = some (.int x)) (D : D1 code pc .baload 1 pc') (K : Go wd EL p l e R Z s m args below meth c Q L k n (mkF m pc' Ls (.int x :: st))) : Go wd EL p l e R Z s m args below meth c Q L k n (mkF m pc Ls (.int z :: .ref a :: st)) := by
  obtain ⟨d, rfl⟩ := D
  refine K.to X fun s X T lc H S t r => ?_
  obtain ⟨cl, A, hv⟩ := hA _ H
  exact S.baloadBytes X.1 A.1 (State.isArrayOf_alike X.2.1.alike A.2.1) A.2.2 (inb2 hz hv) hv (g := mkF m pc Ls (.int z :: .ref a :: st)) rfl rfl (hb X.2.2.2.1 d) _ r
theorem Go.aald (X : Cx wd EL p Z s m meth c own nm code ml ret) {ty : FieldType} {z : Int32} (ht : ty.isReference = true) (hz : ¬ z < 0) (hA : ∀ h, Hp Z h L → ∃ cl, Arr Z h a cl ty ∧ cl.slots[z.toNatClampNeg]? = some v) (D : D1 code pc .aaload 1 pc') (K : Go wd EL p l e R Z s m args below meth c Q L k n (mkF m pc' Ls (v :: st))) : Go wd EL p l e R Z s m args below meth c Q L k n (mkF m pc Ls (.int z :: .ref a :: st)) := by
  obtain ⟨d, rfl⟩ := D
  refine K.to X fun s X T lc H S t r => ?_
  obtain ⟨cl, A, hv⟩ := hA _ H
  exact S.aaload X.1 A.1 (State.isArrayOf_alike X.2.1.alike A.2.1) ht A.2.2 (inb2 hz hv) hv (g := mkF m pc Ls (.int z :: .ref a :: st)) rfl rfl (hb X.2.2.2.1 d) _ r
theorem Go.iast (X : Cx wd EL p Z s m meth c own nm code ml ret) {K' : ClassId} {z x : Int32} (hi : L[i]? = some (ow a (Ar Z .int K' vs))) (hz : ¬ z < 0) (hN : z.toNatClampNeg < vs.length) (D : D1 code pc .iastore 1 pc') (K : Go wd EL p l e R Z s m args below meth c Q (updL L i (ow a (Ar Z .int K' (updL vs z.toNatClampNeg (.int x))))) k n (mkF m pc' Ls st)) : Go wd EL p l e R Z s m args below meth c Q L k n (mkF m pc Ls (.int x :: .int z :: .ref a :: st)) := by
  obtain ⟨d, rfl⟩ := D
  intro vm T lc F B I S
  replace X := X.re B
  obtain ⟨cl, A, -, q, -, -⟩ := I.1.arr hi
  obtain ⟨T', h', S', e', W, stp⟩ := stI S X.1 X.2.1 rfl A (inb q hz hN) (g := mkF m pc Ls (.int x :: .int z :: .ref a :: st)) rfl rfl (hb X.2.2.2.1 d)
  have I' := I.wr hi W fun c A _ _ => Ar.put A rfl
  subst e'
  obtain ⟨u, o, st', r⟩ := K vm T' _ (F.app fun y hy => by cases List.mem_singleton.mp hy; exact I.1.ge hi) (B.mono (Nat.le_of_eq W.size.symm)) I' S'
  exact ⟨u, o, stp _ st', r⟩
theorem Go.cast' (X : Cx wd EL p Z s m meth c own nm code ml ret) {K' : ClassId} {z x y : Int32} (hi : L[i]? = some (ow a (Ar Z .char K' vs))) (hz : ¬ z < 0) (hN : z.toNatClampNeg < vs.length) (hx : x.toUInt32.toUInt16.toUInt32.toInt32 = y) (D : D1 code pc .castore 1 pc') (K : Go wd EL p l e R Z s m args below meth c Q (updL L i (ow a (Ar Z .char K' (updL vs z.toNatClampNeg (.int y))))) k n (mkF m pc' Ls st)) : Go wd EL p l e R Z s m args below meth c Q L k n (mkF m pc Ls (.int x :: .int z :: .ref a :: st)) := by
  obtain ⟨d, rfl⟩ := D; subst hx
  intro vm T lc F B I S
  replace X := X.re B
  obtain ⟨cl, A, -, q, -, -⟩ := I.1.arr hi
  obtain ⟨T', h', S', e', W, stp⟩ := stC S X.1 X.2.1 rfl A (inb q hz hN) (g := mkF m pc Ls (.int x :: .int z :: .ref a :: st)) rfl rfl (hb X.2.2.2.1 d)
  have I' := I.wr hi W fun c A _ _ => Ar.put A (fits_nar_char x)
  subst e'
  obtain ⟨u, o, st', r⟩ := K vm T' _ (F.app fun y hy => by cases List.mem_singleton.mp hy; exact I.1.ge hi) (B.mono (Nat.le_of_eq W.size.symm)) I' S'
  exact ⟨u, o, stp _ st', r⟩
theorem Go.bast (X : Cx wd EL p Z s m meth c own nm code ml ret) {K' : ClassId} {z x y : Int32} (hi : L[i]? = some (ow a (Ar Z .byte K' vs))) (hz : ¬ z < 0) (hN : z.toNatClampNeg < vs.length) (hx : x.toInt8.toInt32 = y) (D : D1 code pc .bastore 1 pc') (K : Go wd EL p l e R Z s m args below meth c Q (updL L i (ow a (Ar Z .byte K' (updL vs z.toNatClampNeg (.int y))))) k n (mkF m pc' Ls st)) : Go wd EL p l e R Z s m args below meth c Q L k n (mkF m pc Ls (.int x :: .int z :: .ref a :: st)) := by
  obtain ⟨d, rfl⟩ := D; subst hx
  intro vm T lc F B I S
  replace X := X.re B
  obtain ⟨cl, A, -, q, -, -⟩ := I.1.arr hi
  obtain ⟨T', h', S', e', W, stp⟩ := stB S X.1 X.2.1 rfl A (inb q hz hN) (g := mkF m pc Ls (.int x :: .int z :: .ref a :: st)) rfl rfl (hb X.2.2.2.1 d)
  have I' := I.wr hi W fun c A _ _ => Ar.put A (fits_nar_byte x)
  subst e'
  obtain ⟨u, o, st', r⟩ := K vm T' _ (F.app fun y hy => by cases List.mem_singleton.mp hy; exact I.1.ge hi) (B.mono (Nat.le_of_eq W.size.symm)) I' S'
  exact ⟨u, o, stp _ st', r⟩
theorem Go.aast (X : Cx wd EL p Z s m meth c own nm code ml ret) {K' : ClassId} {t : String} {z : Int32} (hi : L[i]? = some (ow a (Ar Z (.object t) K' vs))) (hz : ¬ z < 0) (hN : z.toNatClampNeg < vs.length) (hs : ∀ h, Hp Z h L → Sto Z h a v) (hf : fits (.object t) v = true) (D : D1 code pc .aastore 1 pc') (K : Go wd EL p l e R Z s m args below meth c Q (updL L i (ow a (Ar Z (.object t) K' (updL vs z.toNatClampNeg v)))) k n (mkF m pc' Ls st)) : Go wd EL p l e R Z s m args below meth c Q L k n (mkF m pc Ls (v :: .int z :: .ref a :: st)) := by
  obtain ⟨d, rfl⟩ := D
  intro vm T lc F B I S
  replace X := X.re B
  obtain ⟨cl, A, -, q, -, -⟩ := I.1.arr hi
  obtain ⟨T', h', S', e', W, stp⟩ := stR S X.1 X.2.1 rfl A (inb q hz hN) rfl (hs _ I.1) (g := mkF m pc Ls (v :: .int z :: .ref a :: st)) rfl rfl (hb X.2.2.2.1 d)
  have I' := I.wr (P' := Ar Z (.object t) K' (updL vs z.toNatClampNeg v)) hi W fun c A _ _ => Ar.put A hf
  subst e'
  obtain ⟨u, o, st', r⟩ := K vm T' _ (F.app fun y hy => by cases List.mem_singleton.mp hy; exact I.1.ge hi) (B.mono (Nat.le_of_eq W.size.symm)) I' S'
  exact ⟨u, o, stp _ st', r⟩
theorem Hp.sto {f : Bool} (H : Hp Z h L) {K' : ClassId} {ty : FieldType} (hi : L[i]? = some (a, Ar Z ty K' vs, f)) (O : Ovr Z K' C) (I : Ins Z h b C true) : Sto Z h a (.ref b) := by
  obtain ⟨cl, A, q, -⟩ := H.arr hi
  exact Sto.of A (q ▸ O) I
theorem Go.ccast (X : Cx wd EL p Z s m meth c own nm code ml ret) {idx : Nat} (w : (Cond.classLink own idx C).before a0 Z = true) (hI : ∀ h, Hp Z h L → Ins Z h a C true) (D : D1 code pc (.checkcast idx) 3 pc') (K : Go wd EL p l e R Z s m args below meth c Q L k n (mkF m pc' Ls (.ref a :: st))) : Go wd EL p l e R Z s m args below meth c Q L k n (mkF m pc Ls (.ref a :: st)) := by
  obtain ⟨d, rfl⟩ := D
  intro vm T lc F B I S
  replace X := X.re B
  obtain ⟨T', S', e', stp⟩ := castY S X.1 X.2.1 X.2.2.1 w rfl (hI _ I.1) (g := mkF m pc Ls (.ref a :: st)) rfl rfl (hb X.2.2.2.1 d)
  rw [← e'] at I B
  obtain ⟨u, o, st', r⟩ := K vm T' lc F B I S'
  exact ⟨u, o, stp _ st', r⟩
theorem Go.inst1 (X : Cx wd EL p Z s m meth c own nm code ml ret) {idx : Nat} (w : (Cond.classLink own idx C).before a0 Z = true) (hI : ∀ h, Hp Z h L → Ins Z h a C true) (D : D1 code pc (.instanceof idx) 3 pc') (K : Go wd EL p l e R Z s m args below meth c Q L k n (mkF m pc' Ls (.int 1 :: st))) : Go wd EL p l e R Z s m args below meth c Q L k n (mkF m pc Ls (.ref a :: st)) := by
  obtain ⟨d, rfl⟩ := D
  intro vm T lc F B I S
  replace X := X.re B
  obtain ⟨T', S', e', stp⟩ := instY S X.1 X.2.1 X.2.2.1 w rfl (hI _ I.1) (g := mkF m pc Ls (.ref a :: st)) rfl rfl (hb X.2.2.2.1 d)
  rw [← e'] at I B
  obtain ⟨u, o, st', r⟩ := K vm T' lc F B I S'
  exact ⟨u, o, stp _ st', r⟩
/-! ### calls -/
theorem mroom (m : MethodId) (pc : Nat) (Ls : Array Slot) (st : List Value) : (mkF m pc Ls st).monitorRoom = 0 := rfl
theorem Kv {rest : List Value} {k' n' : Nat} {Qv : Value → List Ent → Prop} (K : ∀ v L, Qv v L → Go wd EL p l e R Z s m args below meth c Q L k' n' (mkF m pc' Ls (v :: rest))) : ∀ o L, rvQ Qv o L → Go wd EL p l e R Z s m args below meth c Q L k' n' (mkF m pc' Ls (o.toList ++ rest)) := by
  rintro _ L ⟨v, rfl, q⟩; exact K v L q
theorem K0 {rest : List Value} {k' n' : Nat} {Q0 : List Ent → Prop} (K : ∀ L, Q0 L → Go wd EL p l e R Z s m args below meth c Q L k' n' (mkF m pc' Ls rest)) : ∀ o L, r0Q Q0 o L → Go wd EL p l e R Z s m args below meth c Q L k' n' (mkF m pc' Ls (o.toList ++ rest)) := by
  rintro _ L ⟨rfl, q⟩; exact K L q
variable {y : MethodName} {code' : ByteArray} {ml' : Nat} {ret' : Option FieldType} {rm : Room} {argsL rest : List Value} {Q' : Option Value → List Ent → Prop}
/-- a contract as the library's call laws ask it: no interning since the walk's last base -/
theorem backN {as : Array Value} {len W : Nat} {sargs : Array Value} (hM : Ct false EL l Z y code' ml' ret' rm as L Q') (hZ : Z.Warmed39 s.vm) (wc : (Cond.code y code' ml' ret').before a0 Z = true) (wz : (Cond.initialized y.cls).before a0 Z = true) (hf : rm.frames + 1 ≤ R.frames) (hl : W + (ml' + 11) + rm.locals ≤ R.locals) :
    Back l R p e below s sargs y len W (fun A a => a = as ∧ Hp Z A.U.heap L ∧ A.cells + rm.cells ≤ R.cells ∧ A.slots + rm.slots ≤ R.slots)
      (fun A _ v B => ∃ L' lc, Q' v L' ∧ Iv false Z EL B.U.vm B.U.heap L' ∧ Fr Z.heap.size lc ∧ B.locs = A.locs ++ lc ∧ B.cells = A.cells + rm.cells ∧ B.slots = A.slots + rm.slots) :=
  Back.of_free (bytes := code') (maxL := ml') (ret := ret') (E := fun _ _ o t lc k n => k = rm.cells ∧ n = rm.slots ∧ ∃ v L', o = .returned v ∧ Q' v L' ∧ Iv false Z EL t.vm t.heap L' ∧ Fr Z.heap.size lc) (hM []) hf hl
    (fun m meth c A a Y hp => have hU : Z.Warmed39 A.U.vm := wtrans hZ Y.warmed
      ⟨by show (Cond.and _ .tt).before a A.U = true; rw [Cond.before_and, mv hU wc]; rfl, mv hU wc, mv hU wz, hp.2.2.1, hp.2.2.2⟩)
    (fun m meth c A a g mk Y hp => ⟨hp.1, wtrans hZ Y.warmed, hp.2.1, fun q => nomatch q⟩) (fun _ _ _ _ _ _ _ _ _ => trivial)
    (fun _ _ _ _ ⟨v, L', lc, h1, h2, h3, h4, h5⟩ => ⟨lc, _, _, h5, rfl, rfl, v, L', h1, h2, h3, h4⟩)
    (fun m meth c A a g mk v t lc k n Y hp _ _ ⟨e1, e2, v', L', e3, e4, e5, e6⟩ => by cases e3; subst e1 e2; exact ⟨L', lc, e4, e5, e6, rfl, rfl, rfl⟩)
/-- .. and where it may intern -/
theorem backW {as : Array Value} {len W : Nat} {sargs : Array Value} (hM : Ct true EL l Z y code' ml' ret' rm as L Q') (hZ : Z.Warmed39 vm) (wc : (Cond.code y code' ml' ret').before a0 Z = true) (wz : (Cond.initialized y.cls).before a0 Z = true) (hf : rm.frames + 1 ≤ R.frames) (hl : W + (ml' + 11) + rm.locals ≤ R.locals) {a1 : Array Value} (hEL : EW Z a1 EL) (H : Iv true Z EL vm h L) :
    BackS l R p e below (s.setVm vm) sargs y len W (fun A a => a = as ∧ A.U.heap = h ∧ A.cells + rm.cells ≤ R.cells ∧ A.slots + rm.slots ≤ R.slots)
      (fun A _ v B => ∃ L' lc, Q' v L' ∧ Iv true Z EL B.U.vm B.U.heap L' ∧ Fr Z.heap.size lc ∧ B.locs = A.locs ++ lc ∧ B.cells = A.cells + rm.cells ∧ B.slots = A.slots + rm.slots) :=
  BackS.of_freeW (bytes := code') (maxL := ml') (ret := ret') (E := fun _ _ o t lc k n => k = rm.cells ∧ n = rm.slots ∧ ∃ v L', o = .returned v ∧ Q' v L' ∧ Iv true Z EL t.vm t.heap L' ∧ Fr Z.heap.size lc) (hM []) hf hl
    (fun m meth c A a Y hp => have hU : Z.Warmed39 A.U.vm := wtrans (s := s.setVm vm) hZ Y.warmed
      ⟨by show (Cond.and _ .tt).before a A.U = true; rw [Cond.before_and, mv hU wc]; rfl, mv hU wc, mv hU wz, hp.2.2.1, hp.2.2.2⟩)
    (fun m meth c A a g mk Y hp => ⟨hp.1, wtrans (s := s.setVm vm) hZ Y.warmed, by
      have r := CHv.at Y hZ hEL (H.2 rfl).1
      have q : A.U.heap = h := hp.2.1
      show Iv true Z EL A.U.vm A.U.heap L
      rw [q]
      refine ⟨H.1, fun _ => ⟨r.1, fun x hx hf => r.safe ?_ ((H.2 rfl).2 x hx hf)⟩⟩
      obtain ⟨-, cc, h1, -⟩ := H.1.2.1 x hx
      exact (Array.getElem?_eq_some_iff.mp h1).1⟩) (fun _ _ _ _ _ _ _ _ _ => trivial)
    (fun _ _ _ _ ⟨v, L', lc, h1, h2, h3, h4, h5⟩ => ⟨lc, _, _, h5, rfl, rfl, v, L', h1, h2, h3, h4⟩)
    (fun m meth c A a g mk v t lc k n Y hp _ _ ⟨e1, e2, v', L', e3, e4, e5, e6⟩ => by cases e3; subst e1 e2; exact ⟨L', lc, e4, e5, e6, rfl, rfl, rfl⟩)
theorem Go.byN {g : JFrame} (X : Cx false EL p Z s m meth c own nm code ml ret)
    (f : ∀ s, Cx false EL p Z s m meth c own nm code ml ret → ∀ T lc, Hp Z T.heap L → Stand p l e R s m args below meth c T lc k n → ∃ (v : Option Value) (vm : Vm) (B : Pt), s.WarmedH vm ∧ Stand p l e R s m args below meth c B.U B.locs B.cells B.slots ∧ (∃ L' lc', Q' v L' ∧ Iv false Z EL B.U.vm B.U.heap L' ∧ Fr Z.heap.size lc' ∧ B.locs = lc ++ lc' ∧ B.cells = k + rm.cells ∧ B.slots = n + rm.slots) ∧ Steps p.tables e below (T.setTop g) (B.U.setTop (mkF m pc' Ls (v.toList ++ rest))))
    (hgrow : ∀ T : State, True) (K : ∀ o L, Q' o L → Go false EL p l e R Z s m args below meth c Q L (k + rm.cells) (n + rm.slots) (mkF m pc' Ls (o.toList ++ rest))) : Go false EL p l e R Z s m args below meth c Q L k n g := by
  intro vm T lc F B I S
  obtain ⟨v, vm', ⟨T', L2, k2, n2⟩, -, S', ⟨L3, lc3, hQ, I3, F3, e1, e2, e3⟩, stp⟩ := f _ (X.re B) T lc I.1 S
  dsimp only [Pt.U, Pt.locs, Pt.cells, Pt.slots] at S' e1 e2 e3 stp I3
  subst e1 e2 e3
  obtain ⟨u, o, st', r⟩ := K v L3 hQ vm T' _ (F.app F3) B ⟨I3.1, fun q => nomatch q⟩ S'
  exact ⟨u, o, stp.trans st', r⟩
theorem Go.byW {g : JFrame} (X : Cx true EL p Z s m meth c own nm code ml ret)
    (f : ∀ vm, Cx true EL p Z (s.setVm vm) m meth c own nm code ml ret → ∀ T lc, Iv true Z EL vm T.heap L → Stand p l e R (s.setVm vm) m args below meth c T lc k n → ∃ (v : Option Value) (vm1 : Vm) (B : Pt), (s.setVm vm).WarmedH vm1 ∧ Stand p l e R ((s.setVm vm).setVm B.U.vm) m args below meth c B.U B.locs B.cells B.slots ∧ (s.setVm vm).Since B.U.vm B.U.heap.size ∧ T.heap.size ≤ B.U.heap.size ∧ (∃ L' lc', Q' v L' ∧ Iv true Z EL B.U.vm B.U.heap L' ∧ Fr Z.heap.size lc' ∧ B.locs = lc ++ lc' ∧ B.cells = k + rm.cells ∧ B.slots = n + rm.slots) ∧ Steps p.tables e below (T.setTop g) (B.U.setTop (mkF m pc' Ls (v.toList ++ rest))))
    (K : ∀ o L, Q' o L → Go true EL p l e R Z s m args below meth c Q L (k + rm.cells) (n + rm.slots) (mkF m pc' Ls (o.toList ++ rest))) : Go true EL p l e R Z s m args below meth c Q L k n g := by
  intro vm T lc F B I S
  obtain ⟨v, vm', ⟨T', L2, k2, n2⟩, -, S', hS, hsz, ⟨L3, lc3, hQ, I3, F3, e1, e2, e3⟩, stp⟩ := f _ (X.re B) T lc I S
  dsimp only [Pt.U, Pt.locs, Pt.cells, Pt.slots] at S' e1 e2 e3 stp hS hsz I3
  subst e1 e2 e3
  have B' : s.Since vm T.heap.size := B
  obtain ⟨u, o, st', r⟩ := K v L3 hQ T'.vm T' _ (F.app F3) (B'.trans hS hsz) I3 S'
  exact ⟨u, o, stp.trans st', r⟩
theorem Go.callS (X : Cx wd EL p Z s m meth c own nm code ml ret) (B : Ct wd EL l Z y code' ml' ret' rm argsL.toArray L Q')
    {idx : Nat} (w1 : (Cond.methodLink own idx y).before a0 Z = true) (w2 : (Cond.static y).before a0 Z = true) (w3 : (Cond.initialized y.cls).before a0 Z = true) (w4 : (Cond.code y code' ml' ret').before a0 Z = true) (hy : y.cls ≠ "java/lang/invoke/MethodHandle" ∧ y.cls ≠ "java/lang/invoke/VarHandle")
    {ps : List FieldType} {rt : Option FieldType} (pd : parseMethodDescriptor y.desc = some ⟨ps, rt⟩) (hl : argsL.length = ps.length) (hs : st = argsL.reverse ++ rest) (D : D1 code pc (.invokestatic idx) 3 pc') (hm : Ls.size = ml)
    (hf : rm.frames + 1 ≤ R.frames) (hlo : (rest.map fun v => v.category).sum + (ml' + 11) + rm.locals ≤ R.locals) (hk : k + rm.cells ≤ R.cells) (hn : n + rm.slots ≤ R.slots)
    (K : ∀ o L, Q' o L → Go wd EL p l e R Z s m args below meth c Q L (k + rm.cells) (n + rm.slots) (mkF m pc' Ls (o.toList ++ rest))) : Go wd EL p l e R Z s m args below meth c Q L k n (mkF m pc Ls st) := by
  obtain ⟨d, rfl⟩ := D
  subst hs
  cases wd
  · refine Go.byN X (fun s X T lc H S => ?_) (fun _ => trivial) K
    obtain ⟨v, vm, B, b1, b2, b3, b4⟩ := Jvm.LawKit.callS S X.1 X.2.2.1 (mvT X.2.1 w1) (mvT X.2.1 w2) (mvT X.2.1 w3) (mvT X.2.1 w4) hy (backN (W := (rest.map fun v => v.category).sum) B X.2.1 w4 w3 hf hlo) (g := mkF m pc Ls (argsL.reverse ++ rest)) rfl (by rw [X.2.2.2.2.1]; exact hm) (argsL := argsL) (rest := rest) (lenOf pd hl) rfl (by rw [mroom]; omega) (hb X.2.2.2.1 d) (fun _ _ => ⟨rfl, H, hk, hn⟩)
    exact ⟨v, vm, B, b1, b2, b3, b4 _ (Steps.refl _)⟩
  · refine Go.byW X (fun vm X T lc I S => ?_) K
    obtain ⟨a1, hE⟩ := X.2.2.2.2.2.2.2.2 rfl
    have H := I.1
    exact callSS S X.1 X.2.2.1 (mvT X.2.1 w1) (mvT X.2.1 w2) (mvT X.2.1 w3) (mvT X.2.1 w4) hy (backW (W := (rest.map fun v => v.category).sum) B X.2.1 w4 w3 hf hlo hE I) (g := mkF m pc Ls (argsL.reverse ++ rest)) rfl (by rw [X.2.2.2.2.1]; exact hm) (argsL := argsL) (rest := rest) (lenOf pd hl) rfl (by rw [mroom]; omega) (hb X.2.2.2.1 d) (fun _ _ => ⟨rfl, rfl, hk, hn⟩)
theorem Go.callI (X : Cx wd EL p Z s m meth c own nm code ml ret) (B : Ct wd EL l Z y code' ml' none rm (Value.ref a :: argsL).toArray L Q') (hy1 : y.name = "<init>")
    {idx : Nat} (w1 : (Cond.methodLink own idx y).before a0 Z = true) (w2 : (Cond.instanceMethod y).before a0 Z = true) (w3 : (Cond.initialized y.cls).before a0 Z = true) (w4 : (Cond.code y code' ml' none).before a0 Z = true) (hy : y.cls ≠ "java/lang/invoke/MethodHandle" ∧ y.cls ≠ "java/lang/invoke/VarHandle")
    {ps : List FieldType} {rt : Option FieldType} (pd : parseMethodDescriptor y.desc = some ⟨ps, rt⟩) (hl : argsL.length = ps.length) (hs : st = argsL.reverse ++ .ref a :: rest) (D : D1 code pc (.invokespecial idx) 3 pc') (hm : Ls.size = ml)
    (hf : rm.frames + 1 ≤ R.frames) (hlo : (rest.map fun v => v.category).sum + (ml' + 11) + rm.locals ≤ R.locals) (hk : k + rm.cells ≤ R.cells) (hn : n + rm.slots ≤ R.slots)
    (K : ∀ o L, Q' o L → Go wd EL p l e R Z s m args below meth c Q L (k + rm.cells) (n + rm.slots) (mkF m pc' Ls (o.toList ++ rest))) : Go wd EL p l e R Z s m args below meth c Q L k n (mkF m pc Ls st) := by
  obtain ⟨d, rfl⟩ := D
  subst hs
  cases wd
  · refine Go.byN X (fun s X T lc H S => ?_) (fun _ => trivial) K
    exact S.specialBack X.1 hy1 X.2.2.1 (mvT X.2.1 w1) (mvT X.2.1 w2) (mvT X.2.1 w4) hy (backN (W := (rest.map fun v => v.category).sum) B X.2.1 w4 w3 hf hlo) (g := mkF m pc Ls (argsL.reverse ++ .ref a :: rest)) rfl (by rw [X.2.2.2.2.1]; exact hm) (Steps.refl _) (a := a) (argsL := argsL) (rest := rest) (lenOf pd hl) rfl (by rw [mroom]; omega) (hb X.2.2.2.1 d) (fun _ _ => ⟨rfl, H, hk, hn⟩)
  · refine Go.byW X (fun vm X T lc I S => ?_) K
    obtain ⟨a1, hE⟩ := X.2.2.2.2.2.2.2.2 rfl
    have H := I.1
    exact S.specialBackS X.1 hy1 X.2.2.1 (mvT X.2.1 w1) (mvT X.2.1 w2) (mvT X.2.1 w4) hy (backW (W := (rest.map fun v => v.category).sum) B X.2.1 w4 w3 hf hlo hE I) (g := mkF m pc Ls (argsL.reverse ++ .ref a :: rest)) rfl (by rw [X.2.2.2.2.1]; exact hm) (Steps.refl _) (a := a) (argsL := argsL) (rest := rest) (lenOf pd hl) rfl (by rw [mroom]; omega) (hb X.2.2.2.1 d) (fun _ _ => ⟨rfl, rfl, hk, hn⟩)
theorem Go.callV (X : Cx wd EL p Z s m meth c own nm code ml ret) {z : MethodName} (E : ∀ h, Hp Z h L → Exa Z h a C) (B : Ct wd EL l Z z code' ml' ret' rm (Value.ref a :: argsL).toArray L Q')
    {idx : Nat} (w1 : (Cond.methodLink own idx y).before a0 Z = true) (wdc : (Cond.declares y).before a0 Z = true) (hnf : ∀ s : State, Z.Warmed39 s.vm → NotFace s y) (ws : (Cond.selects C y z).before a0 Z = true) (w2 : (Cond.instanceMethod z).before a0 Z = true) (w3 : (Cond.initialized z.cls).before a0 Z = true) (w4 : (Cond.code z code' ml' ret').before a0 Z = true) (hy : y.cls ≠ "java/lang/invoke/MethodHandle" ∧ y.cls ≠ "java/lang/invoke/VarHandle")
    {ps : List FieldType} {rt : Option FieldType} (pd : parseMethodDescriptor y.desc = some ⟨ps, rt⟩) (hl : argsL.length = ps.length) (hs : st = argsL.reverse ++ .ref a :: rest) (D : D1 code pc (.invokevirtual idx) 3 pc') (hm : Ls.size = ml)
    (hf : rm.frames + 1 ≤ R.frames) (hlo : (rest.map fun v => v.category).sum + (ml' + 11) + rm.locals ≤ R.locals) (hk : k + rm.cells ≤ R.cells) (hn : n + rm.slots ≤ R.slots)
    (K : ∀ o L, Q' o L → Go wd EL p l e R Z s m args below meth c Q L (k + rm.cells) (n + rm.slots) (mkF m pc' Ls (o.toList ++ rest))) : Go wd EL p l e R Z s m args below meth c Q L k n (mkF m pc Ls st) := by
  obtain ⟨d, rfl⟩ := D
  subst hs
  cases wd
  · refine Go.byN X (fun s X T lc H S => ?_) (fun _ => trivial) K
    obtain ⟨cq, kq, qa, qb, qc⟩ := isOf (T := T) X.2.1 rfl (E _ H)
    exact S.virtualBack X.1 X.2.2.1 (mvT X.2.1 w1) (mvT X.2.1 wdc) (hnf _ X.2.1) (mvT X.2.1 ws) (mvT X.2.1 w2) hy (backN (W := (rest.map fun v => v.category).sum) B X.2.1 w4 w3 hf hlo) qa qc (g := mkF m pc Ls (argsL.reverse ++ .ref a :: rest)) rfl (by rw [X.2.2.2.2.1]; exact hm) (Steps.refl _) (argsL := argsL) (rest := rest) (lenOf pd hl) rfl (by rw [mroom]; omega) (hb X.2.2.2.1 d) (fun _ _ => ⟨rfl, H, hk, hn⟩)
  · refine Go.byW X (fun vm X T lc I S => ?_) K
    obtain ⟨a1, hE⟩ := X.2.2.2.2.2.2.2.2 rfl
    have H := I.1
    obtain ⟨cq, kq, qa, qb, qc⟩ := isOf (T := T) X.2.1 rfl (E _ H)
    exact S.virtualBackS X.1 X.2.2.1 (mvT X.2.1 w1) (mvT X.2.1 wdc) (hnf _ X.2.1) (mvT X.2.1 ws) (mvT X.2.1 w2) hy (backW (W := (rest.map fun v => v.category).sum) B X.2.1 w4 w3 hf hlo hE I) qa qc (g := mkF m pc Ls (argsL.reverse ++ .ref a :: rest)) rfl (by rw [X.2.2.2.2.1]; exact hm) (Steps.refl _) (argsL := argsL) (rest := rest) (lenOf pd hl) rfl (by rw [mroom]; omega) (hb X.2.2.2.1 d) (fun _ _ => ⟨rfl, rfl, hk, hn⟩)
theorem nfS (ws : (Cond.selects C y y).before a0 Z = true) : ∀ s : State, Z.Warmed39 s.vm → NotFace s y := fun s q => notFace_of_selects (args := #[]) (mvT q ws)
theorem nfT (ws : (Cond.noSuperclass y.cls).before a0 Z = true) : ∀ s : State, Z.Warmed39 s.vm → NotFace s y := fun s q => nf_top (args := #[]) (mvT q ws)
theorem nfU {S : String} (ws : (Cond.superclass y.cls S).before a0 Z = true) : ∀ s : State, Z.Warmed39 s.vm → NotFace s y := fun s q => nf_super (args := #[]) (mvT q ws)
theorem Go.callP (X : Cx wd EL p Z s m meth c own nm code ml ret) (E : ∀ h, Hp Z h L → Exa Z h a C) (B : Ct wd EL l Z y code' ml' ret' rm (Value.ref a :: argsL).toArray L Q')
    {idx : Nat} (w1 : (Cond.methodLink own idx y).before a0 Z = true) (w2 : (Cond.instanceMethod y).before a0 Z = true) (ws : (Cond.selects y.cls y y).before a0 Z = true) (wp : (Cond.privateMethod y).before a0 Z = true) (w3 : (Cond.initialized y.cls).before a0 Z = true) (w4 : (Cond.code y code' ml' ret').before a0 Z = true) (hy : y.cls ≠ "java/lang/invoke/MethodHandle" ∧ y.cls ≠ "java/lang/invoke/VarHandle")
    {ps : List FieldType} {rt : Option FieldType} (pd : parseMethodDescriptor y.desc = some ⟨ps, rt⟩) (hl : argsL.length = ps.length) (hs : st = argsL.reverse ++ .ref a :: rest) (D : D1 code pc (.invokevirtual idx) 3 pc') (hm : Ls.size = ml)
    (hf : rm.frames + 1 ≤ R.frames) (hlo : (rest.map fun v => v.category).sum + (ml' + 11) + rm.locals ≤ R.locals) (hk : k + rm.cells ≤ R.cells) (hn : n + rm.slots ≤ R.slots)
    (K : ∀ o L, Q' o L → Go wd EL p l e R Z s m args below meth c Q L (k + rm.cells) (n + rm.slots) (mkF m pc' Ls (o.toList ++ rest))) : Go wd EL p l e R Z s m args below meth c Q L k n (mkF m pc Ls st) := by
  obtain ⟨d, rfl⟩ := D
  subst hs
  cases wd
  · refine Go.byN X (fun s X T lc H S => ?_) (fun _ => trivial) K
    obtain ⟨cq, q1, q2⟩ := (E _ H).cell
    exact S.privateBack X.1 X.2.2.1 (mvT X.2.1 w1) (mvT X.2.1 w2) (mvT X.2.1 ws) (Cond.privateMethod_at (mvP X.2.1 wp (args := #[]))) (mvT X.2.1 w4) hy (backN (W := (rest.map fun v => v.category).sum) B X.2.1 w4 w3 hf hlo) (g := mkF m pc Ls (argsL.reverse ++ .ref a :: rest)) rfl (by rw [X.2.2.2.2.1]; exact hm) (Steps.refl _) (a := a) q1 q2 (argsL := argsL) (rest := rest) (lenOf pd hl) rfl (by rw [mroom]; omega) (hb X.2.2.2.1 d) (fun _ _ => ⟨rfl, H, hk, hn⟩)
  · refine Go.byW X (fun vm X T lc I S => ?_) K
    obtain ⟨a1, hE⟩ := X.2.2.2.2.2.2.2.2 rfl
    have H := I.1
    obtain ⟨cq, q1, q2⟩ := (E _ H).cell
    exact S.privateBackS X.1 X.2.2.1 (mvT X.2.1 w1) (mvT X.2.1 w2) (mvT X.2.1 ws) (Cond.privateMethod_at (mvP X.2.1 wp (args := #[]))) (mvT X.2.1 w4) hy (backW (W := (rest.map fun v => v.category).sum) B X.2.1 w4 w3 hf hlo hE I) (g := mkF m pc Ls (argsL.reverse ++ .ref a :: rest)) rfl (by rw [X.2.2.2.2.1]; exact hm) (Steps.refl _) (a := a) q1 q2 (argsL := argsL) (rest := rest) (lenOf pd hl) rfl (by rw [mroom]; omega) (hb X.2.2.2.1 d) (fun _ _ => ⟨rfl, rfl, hk, hn⟩)
theorem Go.callN (X : Cx wd EL p Z s m meth c own nm code ml ret) {xi : MethodName} (E : ∀ h, Hp Z h L → Exa Z h a C) (B : Ct wd EL l Z y code' ml' ret' rm (Value.ref a :: argsL).toArray L Q')
    {idx cnt : Nat} (w1 : (Cond.methodLink own idx xi).before a0 Z = true) (wdc : (Cond.declares xi).before a0 Z = true) (hfa : (Cond.interfaceMethod xi.cls xi.cls xi.name xi.desc).faceAtom = true) (wf : (Cond.interfaceMethod xi.cls xi.cls xi.name xi.desc).before a0 Z = true) (ws : (Cond.selects C xi y).before a0 Z = true) (w2 : (Cond.instanceMethod y).before a0 Z = true) (wp : (Cond.publicMethod y).before a0 Z = true) (wu : (Cond.unhidden C xi.name xi.desc).before a0 Z = true) (wc : (Cond.castable C xi.cls).before a0 Z = true) (w3 : (Cond.initialized y.cls).before a0 Z = true) (w4 : (Cond.code y code' ml' ret').before a0 Z = true) (hy : xi.cls ≠ "java/lang/invoke/MethodHandle" ∧ xi.cls ≠ "java/lang/invoke/VarHandle")
    {ps : List FieldType} {rt : Option FieldType} (pd : parseMethodDescriptor xi.desc = some ⟨ps, rt⟩) (hl : argsL.length = ps.length) (hs : st = argsL.reverse ++ .ref a :: rest) (D : D1 code pc (.invokeinterface idx cnt) 5 pc') (hm : Ls.size = ml)
    (hf : rm.frames + 1 ≤ R.frames) (hlo : (rest.map fun v => v.category).sum + (ml' + 11) + rm.locals ≤ R.locals) (hk : k + rm.cells ≤ R.cells) (hn : n + rm.slots ≤ R.slots)
    (K : ∀ o L, Q' o L → Go wd EL p l e R Z s m args below meth c Q L (k + rm.cells) (n + rm.slots) (mkF m pc' Ls (o.toList ++ rest))) : Go wd EL p l e R Z s m args below meth c Q L k n (mkF m pc Ls st) := by
  obtain ⟨d, rfl⟩ := D
  subst hs
  cases wd
  · refine Go.byN X (fun s X T lc H S => ?_) (fun _ => trivial) K
    obtain ⟨cq, kq, qa, qb, qc⟩ := isOf (T := T) X.2.1 rfl (E _ H)
    exact S.interfaceBack X.1 X.2.2.1 (mvT X.2.1 w1) (mvT X.2.1 wdc) (mvT X.2.1 wf (by simp [Cond.onTables, Cond.keepsFace, Cond.keeps, Cond.steady, hfa])) (mvT X.2.1 ws) (mvT X.2.1 w2) (mvT X.2.1 wp) (mvT X.2.1 wu) (mvT X.2.1 wc) hy (backN (W := (rest.map fun v => v.category).sum) B X.2.1 w4 w3 hf hlo) qa qb qc (g := mkF m pc Ls (argsL.reverse ++ .ref a :: rest)) rfl (by rw [X.2.2.2.2.1]; exact hm) (Steps.refl _) (argsL := argsL) (rest := rest) (lenOf pd hl) rfl (by rw [mroom]; omega) (hb X.2.2.2.1 d) (fun _ _ => ⟨rfl, H, hk, hn⟩)
  · refine Go.byW X (fun vm X T lc I S => ?_) K
    obtain ⟨a1, hE⟩ := X.2.2.2.2.2.2.2.2 rfl
    have H := I.1
    obtain ⟨cq, kq, qa, qb, qc⟩ := isOf (T := T) X.2.1 rfl (E _ H)
    exact S.interfaceBackS X.1 X.2.2.1 (mvT X.2.1 w1) (mvT X.2.1 wdc) (mvT X.2.1 wf (by simp [Cond.onTables, Cond.keepsFace, Cond.keeps, Cond.steady, hfa])) (mvT X.2.1 ws) (mvT X.2.1 w2) (mvT X.2.1 wp) (mvT X.2.1 wu) (mvT X.2.1 wc) hy (backW (W := (rest.map fun v => v.category).sum) B X.2.1 w4 w3 hf hlo hE I) qa qb qc (g := mkF m pc Ls (argsL.reverse ++ .ref a :: rest)) rfl (by rw [X.2.2.2.2.1]; exact hm) (Steps.refl _) (argsL := argsL) (rest := rest) (lenOf pd hl) rfl (by rw [mroom]; omega) (hb X.2.2.2.1 d) (fun _ _ => ⟨rfl, rfl, hk, hn⟩)
theorem Go.initObj (X : Cx wd EL p Z s m meth c own nm code ml ret) {idx : Nat} (w1 : (Cond.methodLink own idx Lib.objectInit).before a0 Z = true) (w2 : (Cond.instanceMethod Lib.objectInit).before a0 Z = true) (w3 : (Cond.code Lib.objectInit ⟨#[0xb1]⟩ 1 none).before a0 Z = true) (D : D1 code pc (.invokespecial idx) 3 pc') (hm : Ls.size = ml) (hf : 1 ≤ R.frames) (hlo : (st.map fun v => v.category).sum + 12 ≤ R.locals)
    (K : Go wd EL p l e R Z s m args below meth c Q L k n (mkF m pc' Ls st)) : Go wd EL p l e R Z s m args below meth c Q L k n (mkF m pc Ls (.ref a :: st)) := by
  obtain ⟨d, rfl⟩ := D
  intro vm T lc F B I S
  replace X := X.re B
  obtain ⟨T', S', e', stp⟩ := initO S X.1 X.2.1 X.2.2.1 w1 w2 w3 rfl (g := mkF m pc Ls (.ref a :: st)) rfl (by rw [X.2.2.2.2.1]; exact hm) rfl (hb X.2.2.2.1 d) hf (W := (st.map fun v => v.category).sum) (by rw [mroom]; omega) hlo
  rw [← e'] at I B
  obtain ⟨u, o, st', r⟩ := K vm T' lc F B I S'
  exact ⟨u, o, stp _ st', r⟩
end Steps
/-- a String constant's cell: its bytes are the array b's, its coder 0 -/
def Lt (Z : State) (b : Addr) (c : Cell) : Prop := (∃ k, Z.vm.findClass "java/lang/String" = some c.cls ∧ Z.vm.classes[c.cls]? = some k ∧ c.vm.isStatics = false ∧ (k.kind = .ordinary → c.slots.size = k.instanceTypes.size)) ∧
  (∃ cf k i f, Z.fieldFound? "java/lang/String" "coder" "B" = some (cf, k, i, f) ∧ f.isStatic = false ∧ c.vm ≠ .unknown ∧ c.vm.isStatics = false ∧ Z.vm.assignable c.cls cf = true ∧ c.slots[f.slot]? = some (.int 0)) ∧
  (∃ cf k i f, Z.fieldFound? "java/lang/String" "value" "[B" = some (cf, k, i, f) ∧ f.isStatic = false ∧ c.vm ≠ .unknown ∧ c.vm.isStatics = false ∧ Z.vm.assignable c.cls cf = true ∧ c.slots[f.slot]? = some (.ref b))
theorem Hp.ltC {Z : State} {h : Heap} {L : List Ent} {i : Nat} {a b : Addr} {f : Bool} (H : Hp Z h L) (hi : L[i]? = some (a, Lt Z b, f)) : Exa Z h a "java/lang/String" ∧ Fld Z h a "java/lang/String" "coder" "B" (.int 0) ∧ Fld Z h a "java/lang/String" "value" "[B" (.ref b) := by
  obtain ⟨c, hc, ⟨k, r1⟩, ⟨cf, k2, i2, f2, r2⟩, ⟨cf3, k3, i3, f3, r3⟩⟩ := H.at hi
  exact ⟨⟨c, k, hc, r1⟩, ⟨c, cf, k2, i2, f2, hc, r2⟩, ⟨c, cf3, k3, i3, f3, hc, r3⟩⟩
/-- ldc of a String constant of EL: the object spells its text (Latin-1); it is none of L's -/
theorem Go.ldcS {EL : List (String × Nat)} {p : Program} {l : Launch} {e : Env} {R : Room} {Z s : State} {m : MethodId} {args : Array Value} {below : List Frame} {meth : Method} {c : Code} {Q : Option Value → List Ent → Prop} {L : List Ent} {k n : Nat} {own nm : String} {code : ByteArray} {ml : Nat} {ret : Option FieldType} {a0 : Array Value} {pc pc' : Nat} {Ls : Array Slot} {st : List Value}
    (X : Cx true EL p Z s m meth c own nm code ml ret) {idx : Nat} {text : String} (w : (Cond.stringLink own idx text).before a0 Z = true) (wS : ∀ a ∈ Bundle.stringAtoms, a.before a0 Z = true) (hmem : (own, idx) ∈ EL) {vs : List Value} {z : Int32} (ht : (∀ c ∈ text.toList, c.toNat < 256) ∧ text.toList.map (fun c => Value.int (Jvm.Lit.byteI c.toNat.toUInt16)) = vs) (hz : ¬ z < 0) (hl : z.toNatClampNeg = vs.length)
    (D : D1 code pc (.ldc idx) 2 pc') {N : Nat} (hN : 4 * text.toList.length ≤ N) (hbig : N ≤ 536870912) (hc : k + 2 ≤ R.cells) (hl' : n + (N + 4) ≤ R.slots)
    (K : ∀ (a b : Addr) (K' : ClassId), Go true EL p l e R Z s m args below meth c Q (ro a (Lt Z b) :: ro b (Ar Z .byte K' vs) :: L) (k + 2) (n + (N + 4)) (mkF m pc' Ls (.ref a :: st))) : Go true EL p l e R Z s m args below meth c Q L k n (mkF m pc Ls st) := by
  obtain ⟨d, rfl⟩ := D
  intro vm T lc F B I S
  obtain ⟨a1, hE⟩ := X.2.2.2.2.2.2.2.2 rfl
  have B' : s.Since vm T.heap.size := B
  replace X := X.re B
  obtain ⟨hv1, hv2⟩ := I.2 rfl
  obtain ⟨a, T', h', k1, b, kk, S', e', E', q1, q2, q3, q4, q5, q6, q7, q8, q9, q10, q11, q12, q13, stp⟩ := ldcCH S X.1 X.2.1 X.2.2.1 w wS rfl B' (Nat.le_refl _) hE hmem hv1 ht hz hl (g := mkF m pc Ls st) rfl (hb X.2.2.2.1 d) hN hbig hc hl'
  subst e'
  have I' : Iv true Z EL T'.vm T'.heap L := ⟨I.1.mono E', fun _ => ⟨q11.1, fun x hx hf => q11.safe (by obtain ⟨-, cc, h1, -⟩ := I.1.2.1 x hx; exact (Array.getElem?_eq_some_iff.mp h1).1) (hv2 x hx hf)⟩⟩
  have I2 := I'.know (a := b) (P := Ar Z .byte kk vs) (by
    obtain ⟨cl, A, r1, r2, r3, r4, r5⟩ := q8
    have rs : cl.slots = vs.toArray := by
      apply Array.ext
      · rw [r2, hl]; simp
      · intro i h1 h2
        have := r4 i h1
        rw [Array.getElem?_eq_getElem h1] at this
        have h3 : i < vs.length := by simpa using h2
        rw [List.getD_eq_getElem?_getD, List.getElem?_eq_getElem h3] at this
        simpa using this
    refine ⟨cl, A.1, A.2.1, A.2.2, r1, rs, by rw [← hl]; exact (back32 hz).2, fun v hv => ?_⟩
    obtain ⟨i, hi, rfl⟩ := List.getElem_of_mem hv
    have := r5 i (by rw [r2, hl]; exact hi)
    rw [List.getD_eq_getElem?_getD, List.getElem?_eq_getElem hi] at this
    exact this) (fun x hx hf => (q13 x.1 (I'.2 rfl |>.2 x hx hf)).2)
  have I3 := I2.know (a := a) (P := Lt Z b) (by
    obtain ⟨cell, kc, a1, a2, a3, a4, a5⟩ := q5
    obtain ⟨c1, cf1, k1', i1, f1, b1, b2⟩ := q6
    obtain ⟨c2, cf2, k2', i2, f2, b3, b4⟩ := q7
    cases a1.symm.trans b1
    cases a1.symm.trans b3
    exact ⟨_, a1, ⟨kc, a2, a3, a4, a5⟩, ⟨_, _, _, _, b2⟩, ⟨_, _, _, _, b4⟩⟩) (fun x hx hf => by
      rcases List.mem_cons.mp hx with rfl | u
      · cases hf
      · exact (q13 x.1 (I'.2 rfl |>.2 x u hf)).1)
  obtain ⟨u, o, st', r⟩ := K a b kk T'.vm T' lc F (show s.Since T'.vm T'.heap.size from ⟨q1.1, fun j p hj hp => by obtain ⟨x, y⟩ := q1.2 j p hj hp; exact ⟨x, Nat.lt_of_lt_of_le y q2⟩⟩) I3 S'
  exact ⟨u, o, stp _ st', r⟩
end Jvm.OwnKit
namespace Jvm.OwnKit
open Sem ClassFile Op Lib Jvm.Stand Jvm.Free Jvm.LawKit Jvm.RoadKit
section More
variable {wd : Bool} {EL : List (String × Nat)} {p : Program} {l : Launch} {e : Env} {R : Room} {Z s : State} {m : MethodId} {args : Array Value} {below : List Frame} {meth : Method} {c : Code} {Q : Option Value → List Ent → Prop} {L L' : List Ent} {k n : Nat} {own nm : String} {code : ByteArray} {ml : Nat} {ret : Option FieldType} {a0 : Array Value}
variable {pc pc' : Nat} {Ls : Array Slot} {st : List Value} {i j : Nat} {a b : Addr} {C : String} {ns : List Nm} {vs vd : List Value} {v : Value} {h h' : Heap} {vm : Vm} {P P' : Cell → Prop} {f : Bool} {ty : FieldType} {K K' : ClassId}
theorem Hp.kp (H : Hp Z h L) (hi : L[i]? = some (ow b P)) (Kp : Keep h h' [b]) (hc : ∃ c, h'[b]? = some c ∧ P' c) : Hp Z h' (updL L i (ow b P')) := by
  refine ⟨⟨Nat.le_trans H.1.1 Kp.1, fun x c q => Kp.2.1 x c (H.1.2 x c q) fun r => ?_⟩, fun x hx => ?_, upd_apart L i (ow b P') (ow b P) hi rfl rfl H.2.2⟩
  · cases List.mem_singleton.mp r
    exact absurd (Array.getElem?_eq_some_iff.mp q).1 (Nat.not_lt.mpr (H.ge hi))
  · rcases upd_mem _ _ _ _ hx with rfl | ⟨j, hj, hLj⟩
    · exact ⟨fun _ => H.ge hi, hc⟩
    · obtain ⟨xa, xP, xf⟩ := x
      obtain ⟨q1, c, q2, q3⟩ := H.2.1 _ (List.mem_of_getElem? hLj)
      exact ⟨q1, c, Kp.2.1 _ _ q2 fun r => H.ne hi hLj (Ne.symm hj) (by simp) (List.mem_singleton.mp r).symm, q3⟩
theorem Iv.kp (I : Iv wd Z EL vm h L) (hi : L[i]? = some (ow b P)) (Kp : Keep h h' [b]) (hc : ∃ c, h'[b]? = some c ∧ P' c) : Iv wd Z EL vm h' (updL L i (ow b P')) := ⟨I.1.kp hi Kp hc, fun q => by
  have S := (I.2 q).2 _ (List.mem_of_getElem? hi) rfl
  have hs : ∀ x ∈ [b], Safe Z EL vm h x := fun x hx => by cases List.mem_singleton.mp hx; exact S
  refine ⟨(I.2 q).1.keep Kp hs, fun x hx hf => ?_⟩
  rcases upd_mem _ _ _ _ hx with rfl | ⟨j, hj, hLj⟩
  · exact Safe.keep Kp hs (I.2 q).1 S
  · exact Safe.keep Kp hs (I.2 q).1 ((I.2 q).2 x (List.mem_of_getElem? hLj) hf)⟩
theorem i32_of_clamp {z : Int32} {N : Nat} (hz : ¬ z < 0) (hN : z.toNatClampNeg = N) : z.toInt = N := by
  rw [Int32.lt_iff_toInt_lt] at hz; have : (0 : Int32).toInt = 0 := rfl
  simp only [Int32.toNatClampNeg] at hN; omega
theorem Ar.arv (hc : ∃ c, h[a]? = some c ∧ Ar Z ty K vs c) (dv : Value) : ∃ z : Int32, z.toNatClampNeg = vs.length ∧ ¬ z < 0 ∧ Arv Z h a K ty z vs dv := by
  obtain ⟨c, q1, q2, q3, q4, q5, q6, q7⟩ := hc
  obtain ⟨n1, n2, n3⟩ := nat32 q6
  refine ⟨Int32.ofNat vs.length, n3, n2, c, ⟨q1, q2, q3⟩, q4, by rw [q5, n3]; simp, n2, fun i hi => ?_, fun i hi => ?_⟩
  · rw [q5] at hi ⊢
    have : i < vs.length := by simpa using hi
    simp [this]
  · rw [q5] at hi
    have hi' : i < vs.length := by simpa using hi
    rw [List.getD_eq_getElem?_getD, List.getElem?_eq_getElem hi']
    exact q7 _ (List.getElem_mem hi')
theorem arv_ar {z : Int32} {dv : Value} (A : Arv Z h a K ty z vs dv) (hl : z.toNatClampNeg = vs.length) : ∃ c, h[a]? = some c ∧ Ar Z ty K vs c := by
  obtain ⟨cl, A, r1, r2, r3, r4, r5⟩ := A
  have rs : cl.slots = vs.toArray := by
    apply Array.ext
    · rw [r2, hl]; simp
    · intro i h1 h2
      have := r4 i h1
      rw [Array.getElem?_eq_getElem h1] at this
      have h3 : i < vs.length := by simpa using h2
      rw [List.getD_eq_getElem?_getD, List.getElem?_eq_getElem h3] at this
      simpa using this
  refine ⟨cl, A.1, A.2.1, A.2.2, r1, rs, by rw [← hl]; exact (back32 r3).2, fun v hv => ?_⟩
  obtain ⟨i, hi, rfl⟩ := List.getElem_of_mem hv
  have := r5 i (by rw [r2, hl]; exact hi)
  rw [List.getD_eq_getElem?_getD, List.getElem?_eq_getElem hi] at this
  exact this
/-- System.arraycopy between two arrays of one primitive kind -/
theorem Go.acopy (X : Cx wd EL p Z s m meth c own nm code ml ret) {idx : Nat} (w1 : (Cond.methodLink own idx Jvm.Stand.acN).before a0 Z = true) (w2 : (Cond.native Jvm.Stand.acN).before a0 Z = true) (w3 : (Cond.static Jvm.Stand.acN).before a0 Z = true) (w4 : (Cond.initialized "java/lang/System").before a0 Z = true)
    {sp dp nn : Int32} {sN dN nN : Nat} {r : List Value} (hj : L[j]? = some (ow b (Ar Z ty K' vd))) (hs : (a, Ar Z ty K vs, f) ∈ L) (ht : refKind ty = false) (q1 : ¬ sp < 0) (q2 : ¬ dp < 0) (q3 : ¬ nn < 0) (e1 : sp.toNatClampNeg = sN) (e2 : dp.toNatClampNeg = dN) (e3 : nn.toNatClampNeg = nN) (l1 : sN + nN ≤ vs.length) (l2 : dN + nN ≤ vd.length)
    (hr : vd.take dN ++ ((List.range nN).map fun i => vs.getD (sN + i) .null) ++ vd.drop (dN + nN) = r) (D : D1 code pc (.invokestatic idx) 3 pc') (hm : Ls.size = ml) (hf : 1 ≤ R.frames) (hlo : (st.map fun v => v.category).sum + (nativeFrameWords "java/lang/System" "arraycopy" 5 + 11) ≤ R.locals)
    (K1 : Go wd EL p l e R Z s m args below meth c Q (updL L j (ow b (Ar Z ty K' r))) k n (mkF m pc' Ls st)) : Go wd EL p l e R Z s m args below meth c Q L k n (mkF m pc Ls (.int nn :: .int dp :: .ref b :: .int sp :: .ref a :: st)) := by
  obtain ⟨d, rfl⟩ := D
  intro vm T lc F B I S
  replace X := X.re B
  obtain ⟨z1, t1, t2, A⟩ := Ar.arv (I.1.atM hs) .null
  obtain ⟨z2, t3, t4, A2⟩ := Ar.arv (I.1.at hj) .null
  obtain ⟨T', h', lc', S', e', F', Kp, A3, stp⟩ := cpA S X.1 X.2.1 X.2.2.1 w1 w2 w3 w4 rfl A A2 (Or.inl ⟨rfl, ht⟩) q1 q2 q3 (by rw [e1, e3, t1]; exact l1) (by rw [e2, e3, t3]; exact l2) rfl (by rw [e2, e3]; exact l2) F (I.1.ge hj) (g := mkF m pc Ls (.int nn :: .int dp :: .ref b :: .int sp :: .ref a :: st)) rfl (by rw [X.2.2.2.2.1]; exact hm) rfl (hb X.2.2.2.1 d) hf (W := (st.map fun v => v.category).sum) (by rw [mroom]; omega) hlo
  rw [e1, e2, e3, hr] at A3
  subst e'
  have hlen : r.length = vd.length := by rw [← hr]; simp; omega
  have I' := I.kp (P' := Ar Z ty K' r) hj Kp (arv_ar A3 (by rw [hlen]; exact t3))
  obtain ⟨u, o, st', rr⟩ := K1 vm T' _ F' (B.mono Kp.1) I' S'
  exact ⟨u, o, stp _ st', rr⟩
end More
/-- a private method of a class that can be made: a call of it goes to itself -/
theorem selP {Z : State} {a0 : Array Value} {y : MethodName} {n : Nat} (wi : (Cond.instantiable y.cls n).before a0 Z = true) (wp : (Cond.privateMethod y).before a0 Z = true) (w2 : (Cond.instanceMethod y).before a0 Z = true) (hy : y.cls ≠ "java/lang/invoke/MethodHandle" ∧ y.cls ≠ "java/lang/invoke/VarHandle") : (Cond.selects y.cls y y).before a0 Z = true := by
  obtain ⟨c, k, h1, h2, -, h4, -⟩ := Cond.instantiable_spec wi
  rw [Bool.or_eq_false_iff] at h4
  exact Jvm.Stand.selects_self_of_private h1 h2 h4.1 (Cond.privateMethod_at wp) w2 hy
/-! ### small numbers -/
theorem and255 (x : Int32) : ∃ c : Nat, c < 256 ∧ x &&& 255 = Int32.ofNat c := by
  refine ⟨(x.toBitVec &&& 255#32).toNat, ?_, ?_⟩
  · have : (x.toBitVec &&& 255#32).toNat = x.toBitVec.toNat % 256 := by rw [BitVec.toNat_and]; exact Nat.and_two_pow_sub_one_eq_mod _ 8
    omega
  · apply Int32.toBitVec_inj.mp
    rw [Int32.toBitVec_and]
    apply BitVec.eq_of_toNat_eq
    rw [Int32.toBitVec_ofNat]
    simp
/-! ### stores into big frames: the locals stay a literal list -/
def okSlot : Option Slot → Bool
  | some .unset => true
  | some (.val w) => w.category == 1
  | _ => false
theorem stL {ls ls' : List Slot} {i : Nat} {v : Value} (hv : v.category = 1) (h : okSlot ls[i]? = true) (e : updL ls i (.val v) = ls') : storeLocals ls.toArray i v = some ls'.toArray := by
  subst e
  rw [upd_set]
  have hs : storeSelf ls.toArray i v = some (ls.set i (.val v)).toArray := by
    have hi : i < ls.length := by
      rcases Nat.lt_or_ge i ls.length with q | q
      · exact q
      · rw [List.getElem?_eq_none q] at h; cases h
    simp [storeSelf, setAt, hv, hi]
  unfold storeLocals
  rw [List.getElem?_toArray]
  cases q : ls[i]? with
  | none => rw [q] at h; cases h
  | some o =>
    rw [q] at h
    cases o with
    | second => cases h
    | unset => simpa using hs
    | val w =>
      have : w.category ≠ 2 := by simp [okSlot] at h; omega
      simpa [this] using hs
end Jvm.OwnKit
namespace Jvm.OwnKit
open Sem ClassFile Op Lib Jvm.Stand Jvm.Free Jvm.LawKit Jvm.RoadKit
section More2
variable {wd : Bool} {EL : List (String × Nat)} {p : Program} {l : Launch} {e : Env} {R : Room} {Z s : State} {m : MethodId} {args : Array Value} {below : List Frame} {meth : Method} {c : Code} {Q : Option Value → List Ent → Prop} {L L' : List Ent} {k n : Nat} {own nm : String} {code : ByteArray} {ml : Nat} {ret : Option FieldType} {a0 : Array Value}
variable {pc pc' : Nat} {Ls : Array Slot} {st : List Value} {i j : Nat} {a b : Addr} {C : String} {ns : List Nm} {vs vd : List Value} {v : Value} {h h' : Heap} {vm : Vm} {P P' : Cell → Prop} {f : Bool} {ty ty' : FieldType} {K K' : ClassId}
theorem Hp.tail {x : Ent} (H : Hp Z h (x :: L)) : Hp Z h L := ⟨H.1, fun y hy => H.2.1 y (List.mem_cons_of_mem _ hy), (List.pairwise_cons.mp H.2.2).2⟩
theorem Hp.sub (q : L'.Sublist L) (H : Hp Z h L) : Hp Z h L' := ⟨H.1, fun x hx => H.2.1 x (q.subset hx), H.2.2.sublist q⟩
/-- a cell that stood at the start -/
theorem Go.know {g : JFrame} (hlt : a < Z.heap.size) (hc : ∀ h, Hp Z h L → ∃ c, h[a]? = some c ∧ P c) (K : Go wd EL p l e R Z s m args below meth c Q (ro a P :: L) k n g) : Go wd EL p l e R Z s m args below meth c Q L k n g := fun vm T lc F B I S => K vm T lc F B (I.know (hc _ I.1) fun x hx hf q => by
  have r := (I.1.2.1 x hx).1 hf
  rw [q] at r
  exact absurd hlt (Nat.not_lt.mpr r)) S
/-- the cell may be taken for a C -/
def InC (Z : State) (C : String) (c : Cell) : Prop := ∃ cT, Z.vm.findClass C = some cT ∧ (!c.vm.isStatics && Z.vm.assignable c.cls cT) = true
def Cst (Z : State) (L : List Ent) (x : Addr) (C : String) : Prop := ∀ h, Hp Z h L → Ins Z h x C true
theorem Cst.of (q1 : (a, P, f) ∈ L) (q2 : ∀ c, P c → InC Z C c) : Cst Z L a C := fun h H => by
  obtain ⟨c, h1, h2⟩ := H.atM q1
  obtain ⟨cT, r1, r2⟩ := q2 c h2
  exact ⟨c, cT, h1, r1, r2⟩
theorem Cst.up {y : Ent} (q : Cst Z L a C) : Cst Z (y :: L) a C := fun h H => q h H.tail
theorem Cst.ins (q : Cst Z L a C) (H : Hp Z h L) : Ins Z h a C true := q h H
theorem Ob.inC {D : String} {c : Cell} (w : (Cond.castable C D).before a0 Z = true) (O : Ob Z C ns vs c) : InC Z D c := by
  obtain ⟨⟨k, h2, -, h4, -⟩, -⟩ := O
  obtain ⟨c1, c2, g1, g2, g3⟩ := Cond.castable_spec w
  cases h2.symm.trans g1
  exact ⟨c2, g2, by simp [h4, g3]⟩
theorem Ob.inS {c : Cell} (O : Ob Z C ns vs c) : InC Z C c := by
  obtain ⟨⟨k, h2, -, h4, -⟩, -⟩ := O
  exact ⟨_, h2, by simp [h4, Vm.assignable_self]⟩
theorem Hp.arC (H : Hp Z h L) (hi : (a, Ar Z ty K vs, f) ∈ L) : ∃ cl, h[a]? = some cl ∧ cl.cls = K ∧ cl.vm.isStatics = false := by
  obtain ⟨c, q, q1, q2, q3, -⟩ := H.atM hi
  refine ⟨c, q, q3, ?_⟩
  have := q1.1
  cases hv : c.vm <;> first | rfl | exact absurd hv (this _)
theorem Go.anewF (X : Cx wd EL p Z s m meth c own nm code ml ret) {idx : Nat} {z : Int32} {N cap : Nat} (w : (Cond.classLink own idx C).before a0 Z = true) (w2 : (Cond.arrayOver (.object C)).before a0 Z = true) (hz : ¬ z < 0) (hN : z.toNatClampNeg = N) (hcap : N ≤ cap) (hb8 : cap * 8 ≤ 536870912) (D : D1 code pc (.anewarray idx) 3 pc') (hc : k + 1 ≤ R.cells) (hl : n + cap ≤ R.slots)
    (K1 : ∀ a K', Ovr Z K' C → Z.vm.findClass ("[" ++ (FieldType.object C).toString) = some K' → Go wd EL p l e R Z s m args below meth c Q (ow a (Ar Z (.object C) K' (List.replicate N .null)) :: L) (k + 1) (n + cap) (mkF m pc' Ls (.ref a :: st))) : Go wd EL p l e R Z s m args below meth c Q L k n (mkF m pc Ls (.int z :: st)) := by
  obtain ⟨d, rfl⟩ := D
  intro vm T lc F B I S
  replace X := X.re B
  obtain ⟨vm₁, cA, kA, comp, -, h1, h2, h3, h4, S', stp⟩ := S.anewarrayRefK X.1 X.2.2.1 (mv X.2.1 w) (Cond.arrayOver_alike X.2.1.alike w2) (g := mkF m pc Ls (.int z :: st)) rfl (hb X.2.2.2.1 d) rfl hz (by omega) hc (by omega)
  rw [X.2.1.alike.findClass] at h1
  obtain ⟨kZ, z1, -⟩ := Vm.findClass_spec h1
  obtain ⟨k', z2, z3⟩ := X.2.1.alike.2.2 _ _ z1
  cases h2.symm.trans z2
  have E' : Ext T.heap (T.heap.push { cls := cA, slots := Array.replicate z.toNatClampNeg .null, vm := .none }) := ext_of fun a q => Array.getElem?_push_lt q |>.trans (Array.getElem?_eq_getElem q).symm
  have I' := I.push (a := T.heap.size) (P := Ar Z (.object C) cA (List.replicate N .null)) E' (Nat.le_refl _) ⟨{ cls := cA, slots := Array.replicate z.toNatClampNeg .null, vm := .none }, by simp, ⟨by simp, kZ, z1, comp, by rw [← h3, z3]⟩, by simp, rfl, by simp [hN], by simp; omega, fun u hu => by rw [List.eq_of_mem_replicate hu]; rfl⟩
  obtain ⟨u, o, st', r⟩ := K1 _ cA ⟨kZ, comp, z1, by rw [← h3, z3], by rw [← X.2.1.alike.findClass]; exact h4⟩ h1 vm _ lc F (B.mono E'.1) I' (S'.mono (Nat.le_refl _) (by omega))
  exact ⟨u, o, stp _ st', r⟩
/-- the class C has its mirror -/
def MirC (Z : State) (C : String) (K : ClassId) (mir : Addr) : Prop := Z.vm.findClass C = some K ∧ ∃ kc, Z.vm.classes[K]? = some kc ∧ kc.mirror = some mir
theorem Go.getcls (X : Cx wd EL p Z s m meth c own nm code ml ret) {idx : Nat} {mir : Addr} (w1 : (Cond.methodLink own idx Jvm.Stand.gcN).before a0 Z = true) (wdc : (Cond.declares Jvm.Stand.gcN).before a0 Z = true) (hnf : ∀ s : State, Z.Warmed39 s.vm → NotFace s Jvm.Stand.gcN) (ws : (Cond.selects C Jvm.Stand.gcN Jvm.Stand.gcN).before a0 Z = true) (w2 : (Cond.instanceMethod Jvm.Stand.gcN).before a0 Z = true) (w3 : (Cond.native Jvm.Stand.gcN).before a0 Z = true) (hM : MirC Z C K mir)
    (hA : ∀ h, Hp Z h L → ∃ cl : Cell, h[a]? = some cl ∧ cl.cls = K ∧ cl.vm.isStatics = false) (D : D1 code pc (.invokevirtual idx) 3 pc') (hm : Ls.size = ml) (hf : 1 ≤ R.frames) (hlo : (st.map fun v => v.category).sum + (nativeFrameWords "java/lang/Object" "getClass" 1 + 11) ≤ R.locals)
    (K1 : Go wd EL p l e R Z s m args below meth c Q L k n (mkF m pc' Ls (.ref mir :: st))) : Go wd EL p l e R Z s m args below meth c Q L k n (mkF m pc Ls (.ref a :: st)) := by
  obtain ⟨d, rfl⟩ := D
  intro vm T lc F B I S
  replace X := X.re B
  obtain ⟨cl, c1, c2, c3⟩ := hA _ I.1
  obtain ⟨hK, kc, hkc, hmi⟩ := hM
  obtain ⟨k', k1, k2⟩ := X.2.1.alike.2.2 _ _ hkc
  obtain ⟨vm', S', stp⟩ := S.getClassOf X.1 X.2.2.1 (mvT X.2.1 w1) (mvT X.2.1 wdc) (hnf _ X.2.1) (mvT X.2.1 ws) (mvT X.2.1 w2) (mvT X.2.1 w3) (cB := K) (by rw [X.2.1.alike.findClass]; exact hK) ⟨cl, c1, c2, c3⟩ k1 (mir := mir) (by rw [k2]; exact hmi) (g := mkF m pc Ls (.ref a :: st)) rfl (by rw [X.2.2.2.2.1]; exact hm) rfl (hb X.2.2.2.1 d) hf (by rw [mroom]; omega)
  obtain ⟨u, o, st', r⟩ := K1 vm (T.setVm vm') lc F B I S'
  exact ⟨u, o, stp _ st', r⟩
theorem Go.ldcM (X : Cx wd EL p Z s m meth c own nm code ml ret) {idx : Nat} {mir : Addr} (w : (Cond.classLink own idx C).before a0 Z = true) (hM : MirC Z C K mir) (D : D1 code pc (.ldc idx) 2 pc') (K1 : Go wd EL p l e R Z s m args below meth c Q L k n (mkF m pc' Ls (.ref mir :: st))) : Go wd EL p l e R Z s m args below meth c Q L k n (mkF m pc Ls st) := by
  obtain ⟨d, rfl⟩ := D
  intro vm T lc F B I S
  replace X := X.re B
  obtain ⟨hK, kc, hkc, hmi⟩ := hM
  obtain ⟨k', k1, k2⟩ := X.2.1.alike.2.2 _ _ hkc
  have q1 : (s.setVm vm).vm.findClass C = some K := by rw [X.2.1.alike.findClass]; exact hK
  have q2 : k'.mirror = some mir := by rw [k2]; exact hmi
  have ev : (Term.mirror C).eval args (s.setVm vm) none [] (s.setVm vm) = some (.ref mir) := by
    simp only [Term.eval, q1, k1, q2, Option.bind_eq_bind, Option.bind_some, Option.pure_def]
  obtain ⟨vm', S', stp⟩ := S.ldcMirror X.1 X.2.2.1 (mv X.2.1 w) ev (g := mkF m pc Ls st) rfl (hb X.2.2.2.1 d)
  obtain ⟨u, o, st', r⟩ := K1 vm (T.setVm vm') lc F B I S'
  exact ⟨u, o, stp _ st', r⟩
theorem stoL_of : ∀ {us : List Value}, (∀ v ∈ us, Sto Z h b v) → StoL Z h b us
  | [], _ => trivial
  | v :: r, q => ⟨q v List.mem_cons_self, stoL_of fun w hw => q w (List.mem_cons_of_mem _ hw)⟩
/-- System.arraycopy between two arrays of references -/
theorem Go.acopyR (X : Cx wd EL p Z s m meth c own nm code ml ret) {idx : Nat} (w1 : (Cond.methodLink own idx Jvm.Stand.acN).before a0 Z = true) (w2 : (Cond.native Jvm.Stand.acN).before a0 Z = true) (w3 : (Cond.static Jvm.Stand.acN).before a0 Z = true) (w4 : (Cond.initialized "java/lang/System").before a0 Z = true)
    {sp dp nn : Int32} {sN dN nN : Nat} {r : List Value} (hj : L[j]? = some (ow b (Ar Z ty' K' vd))) (hs : (a, Ar Z ty K vs, f) ∈ L) (ht : refKind ty = true) (ht' : refKind ty' = true) (hst : ∀ h, Hp Z h L → ∀ v ∈ (List.range nN).map (fun i => vs.getD (sN + i) .null), Sto Z h b v) (q1 : ¬ sp < 0) (q2 : ¬ dp < 0) (q3 : ¬ nn < 0) (e1 : sp.toNatClampNeg = sN) (e2 : dp.toNatClampNeg = dN) (e3 : nn.toNatClampNeg = nN) (l1 : sN + nN ≤ vs.length) (l2 : dN + nN ≤ vd.length)
    (hr : vd.take dN ++ ((List.range nN).map fun i => vs.getD (sN + i) .null) ++ vd.drop (dN + nN) = r) (D : D1 code pc (.invokestatic idx) 3 pc') (hm : Ls.size = ml) (hf : 1 ≤ R.frames) (hlo : (st.map fun v => v.category).sum + (nativeFrameWords "java/lang/System" "arraycopy" 5 + 11) ≤ R.locals)
    (K1 : Go wd EL p l e R Z s m args below meth c Q (updL L j (ow b (Ar Z ty' K' r))) k n (mkF m pc' Ls st)) : Go wd EL p l e R Z s m args below meth c Q L k n (mkF m pc Ls (.int nn :: .int dp :: .ref b :: .int sp :: .ref a :: st)) := by
  obtain ⟨d, rfl⟩ := D
  intro vm T lc F B I S
  replace X := X.re B
  subst e1 e2 e3
  obtain ⟨z1, t1, t2, A⟩ := Ar.arv (I.1.atM hs) .null
  obtain ⟨z2, t3, t4, A2⟩ := Ar.arv (I.1.at hj) .null
  obtain ⟨T', h', lc', S', e', F', Kp, A3, stp⟩ := cpA S X.1 X.2.1 X.2.2.1 w1 w2 w3 w4 rfl A A2 (us := (List.range nn.toNatClampNeg).map fun i => vs.getD (sp.toNatClampNeg + i) .null) (Or.inr ⟨ht, ht', stoL_of (hst _ I.1)⟩) q1 q2 q3 (by rw [t1]; exact l1) (by rw [t3]; exact l2) rfl l2 F (I.1.ge hj) (g := mkF m pc Ls (.int nn :: .int dp :: .ref b :: .int sp :: .ref a :: st)) rfl (by rw [X.2.2.2.2.1]; exact hm) rfl (hb X.2.2.2.1 d) hf (W := (st.map fun v => v.category).sum) (by rw [mroom]; omega) hlo
  rw [hr] at A3
  subst e'
  have hlen : r.length = vd.length := by rw [← hr]; simp; omega
  have I' := I.kp (P' := Ar Z ty' K' r) hj Kp (arv_ar A3 (by rw [hlen]; exact t3))
  obtain ⟨u, o, st', rr⟩ := K1 vm T' _ F' (B.mono Kp.1) I' S'
  exact ⟨u, o, stp _ st', rr⟩
/-- a call of the superclass's own method (invokespecial, no <init>) -/
theorem Go.callU (X : Cx wd EL p Z s m meth c own nm code ml ret) {y : MethodName} {code' : ByteArray} {ml' : Nat} {ret' : Option FieldType} {rm : Room} {argsL rest : List Value} {Q' : Option Value → List Ent → Prop} {K0 : String} (E : ∀ h, Hp Z h L → Ins Z h a K0 true) (B : Ct wd EL l Z y code' ml' ret' rm (Value.ref a :: argsL).toArray L Q')
    {idx : Nat} (w1 : (Cond.methodLink own idx y).before a0 Z = true) (w5 : (Cond.sameMethod y.cls y.cls y.name y.desc).before a0 Z = true) (w2 : (Cond.instanceMethod y).before a0 Z = true) (w6 : (Cond.superclass own y.cls).before a0 Z = true) (hy1 : y.name ≠ "<init>") (w3 : (Cond.initialized y.cls).before a0 Z = true) (w4 : (Cond.code y code' ml' ret').before a0 Z = true)
    {ps : List FieldType} {rt : Option FieldType} (pd : parseMethodDescriptor y.desc = some ⟨ps, rt⟩) (hl : argsL.length = ps.length) (hs : st = argsL.reverse ++ .ref a :: rest) (D : D1 code pc (.invokespecial idx) 3 pc') (hm : Ls.size = ml)
    (hf : rm.frames + 1 ≤ R.frames) (hlo : (rest.map fun v => v.category).sum + (ml' + 11) + rm.locals ≤ R.locals) (hk : k + rm.cells ≤ R.cells) (hn : n + rm.slots ≤ R.slots)
    (K : ∀ o L, Q' o L → Go wd EL p l e R Z s m args below meth c Q L (k + rm.cells) (n + rm.slots) (mkF m pc' Ls (o.toList ++ rest))) : Go wd EL p l e R Z s m args below meth c Q L k n (mkF m pc Ls st) := by
  obtain ⟨d, rfl⟩ := D
  subst hs
  cases wd
  · refine Go.byN X (fun s X T lc H S => ?_) (fun _ => trivial) K
    exact superBack S X.1 X.2.1 X.2.2.1 w1 w5 w2 w6 hy1 (backN (W := (rest.map fun v => v.category).sum) B X.2.1 w4 w3 hf hlo) rfl (E _ H) (g := mkF m pc Ls (argsL.reverse ++ .ref a :: rest)) rfl (by rw [X.2.2.2.2.1]; exact hm) w4 (argsL := argsL) (rest := rest) (lenOf pd hl) rfl (by rw [mroom]; omega) (hb X.2.2.2.1 d) (fun _ _ => ⟨rfl, H, hk, hn⟩)
  · refine Go.byW X (fun vm X T lc I S => ?_) K
    obtain ⟨a1, hE⟩ := X.2.2.2.2.2.2.2.2 rfl
    exact superBackS S X.1 X.2.1 X.2.2.1 w1 w5 w2 w6 hy1 (backW (W := (rest.map fun v => v.category).sum) B X.2.1 w4 w3 hf hlo hE I) rfl (E _ I.1) (g := mkF m pc Ls (argsL.reverse ++ .ref a :: rest)) rfl (by rw [X.2.2.2.2.1]; exact hm) w4 (argsL := argsL) (rest := rest) (lenOf pd hl) rfl (by rw [mroom]; omega) (hb X.2.2.2.1 d) (fun _ _ => ⟨rfl, rfl, hk, hn⟩)
/-- a method of a class that is no interface: the lookup from its own class finds it -/
theorem sameSelf {y x y2 : MethodName} (w2 : (Cond.instanceMethod y).before a0 Z = true) (ws : (Cond.selects C x y2).before a0 Z = true) (hc : y2.cls = y.cls) (hy : y.cls ≠ "java/lang/invoke/MethodHandle" ∧ y.cls ≠ "java/lang/invoke/VarHandle") : (Cond.sameMethod y.cls y.cls y.name y.desc).before a0 Z = true := by
  obtain ⟨mk, methM, hnamed, -⟩ := Cond.instanceMethod_spec w2
  obtain ⟨c2, r2, m2, q1, q2, q3, q4, kP, hkP, hkPi⟩ := Cond.selects_spec ws
  have c1 := findClass_of_methodNamed hnamed
  have c3 := findClass_of_methodNamed q3
  rw [hc, c1] at c3
  have ec : mk.cls = m2.cls := Option.some.inj c3
  have hf := State.methodFound?_of_named hnamed hy
  have e : (⟨y.cls, y.name, y.desc⟩ : MethodName) = y := rfl
  rw [← ec] at hkP
  simp [Cond.before, Cond.holds, Cond.value, c1, hf, e, hnamed, hkP, hkPi]
theorem selP2 {x y : MethodName} (ws : (Cond.selects C x y).before a0 Z = true) (wp : (Cond.privateMethod y).before a0 Z = true) (w2 : (Cond.instanceMethod y).before a0 Z = true) (hy : y.cls ≠ "java/lang/invoke/MethodHandle" ∧ y.cls ≠ "java/lang/invoke/VarHandle") : (Cond.selects y.cls y y).before a0 Z = true := by
  obtain ⟨c2, r2, m2, q1, q2, q3, q4, kP, hkP, hkPi⟩ := Cond.selects_spec ws
  exact Jvm.Stand.selects_self_of_private (findClass_of_methodNamed q3) hkP hkPi (Cond.privateMethod_at wp) w2 hy
theorem nfX {x z y : MethodName} (ws : (Cond.selects C x z).before a0 Z = true) (hc : z.cls = y.cls) : ∀ s : State, Z.Warmed39 s.vm → NotFace s y := fun s q r0 hr => by
  obtain ⟨c2, r2, m2, q1, q2, q3, q4, kP, hkP, hkPi⟩ := Cond.selects_spec (mvT (args := #[]) q ws)
  have c1 := findClass_of_methodNamed hr
  have c3 := findClass_of_methodNamed q3
  rw [hc, c1] at c3
  rw [Option.some.inj c3]
  exact ⟨kP, hkP, hkPi⟩
/-! ### statics that hold an array -/
theorem lenLt {args : Array Value} {t : Term} {cl : Cell} {v : Value} (ea : t.eval args Z none [] Z = some (.ref a)) (hA : Z.arrayAt? a = some cl) (L : (Term.length t).eval args Z none [] Z = some v) : cl.slots.size < 2 ^ 31 := by
  rcases Nat.lt_or_ge cl.slots.size (2 ^ 31) with q | q
  · exact q
  · exfalso
    have q' : ¬ cl.slots.size < 2147483648 := Nat.not_lt.mpr q
    simp [Term.eval, ea, hA, q'] at L
theorem staArr {args : Array Value} {C n d A : String} {z : Int32} (hi : (Cond.initializedFor C n d).before args Z = true ∨ ((Cond.initialized C).before args Z = true ∧ (Cond.laysStatic C n d).before args Z = true)) (wa : (Cond.arrayOf (Term.static C n d) ty).before args Z = true) (wx : (Cond.exactly (Term.static C n d) A).before args Z = true) (wl : (Cond.eq (Term.length (Term.static C n d)) (Term.int z)).before args Z = true) :
    ∃ a cl, Sta Z Z.heap C n d (.ref a) ∧ Arr Z Z.heap a cl ty ∧ Z.vm.findClass A = some cl.cls ∧ cl.slots.size < 2 ^ 31 ∧ cl.slots.size.toInt32 = z ∧ ∀ idx, (Term.static C n d).eval args Z none idx Z = some (.ref a) := by
  have wx' := Cond.before_iff.mp wx
  obtain ⟨a, ea⟩ := exa_v wx'
  obtain ⟨cl, A'⟩ := Arr.start ea (Cond.before_iff.mp wa)
  obtain ⟨cell, k, x1, x2, -⟩ := Exa.start ea wx'
  cases A'.1.symm.trans x1
  have L := eqv_i (Term.int_eval z) (Cond.before_iff.mp wl)
  have hA := A'.fin (U := Z) (Vm.Alike.refl _)
  have hl : cl.slots.size < 2 ^ 31 := lenLt ea hA L
  rw [len_f ea hA hl] at L
  simp only [Option.some.injEq, Value.int.injEq] at L
  exact ⟨a, cl, Sta.start ea hi, A', x2, hl, L, fun idx => ea⟩
theorem staInt {args : Array Value} {C n d : String} {z : Int32} (hi : (Cond.initializedFor C n d).before args Z = true ∨ ((Cond.initialized C).before args Z = true ∧ (Cond.laysStatic C n d).before args Z = true)) (wl : (Cond.eq (Term.static C n d) (Term.int z)).before args Z = true) : Sta Z Z.heap C n d (.int z) :=
  Sta.start (eqv_i (Term.int_eval z) (Cond.before_iff.mp wl)) hi
/-- an empty array that stood at the start -/
theorem emptyAr {cl : Cell} (A : Arr Z Z.heap a cl ty) (h0 : cl.slots.size.toInt32 = 0) (hl : cl.slots.size < 2 ^ 31) : Ar Z ty cl.cls [] cl := by
  have e : cl.slots.size = 0 := by
    have := len_toInt hl
    rw [h0] at this
    have q : (0 : Int32).toInt = 0 := rfl
    omega
  refine ⟨A.2.1, A.2.2, rfl, ?_, by simp, fun v hv => nomatch hv⟩
  exact Array.eq_empty_of_size_eq_zero e
/-- .. a known object that stood at the start -/
theorem oldOb (E : Exa Z Z.heap a C) (hl : vs.length = ns.length) (F : ∀ (j : Nat) (q : Nm) (v : Value), ns[j]? = some q → vs[j]? = some v → Fld Z Z.heap a q.1 q.2.1 q.2.2 v) : a < Z.heap.size ∧ ∀ h, Hp Z h L → ∃ c, h[a]? = some c ∧ Ob Z C ns vs c := by
  obtain ⟨cell, k, h1, r⟩ := E
  refine ⟨(Array.getElem?_eq_some_iff.mp h1).1, fun h H => ⟨cell, H.1.2 _ _ h1, ⟨k, r⟩, hl, fun j q v hj hv => ?_⟩⟩
  obtain ⟨c2, cf, k2, i2, f2, g1, g2⟩ := F j q v hj hv
  cases h1.symm.trans g1
  exact ⟨cf, k2, i2, f2, g2⟩
end More2
end Jvm.OwnKit
namespace Jvm.OwnKit
open Sem ClassFile Op Lib Jvm.Stand Jvm.Free Jvm.LawKit Jvm.RoadKit
section More3
variable {wd : Bool} {EL : List (String × Nat)} {p : Program} {l : Launch} {e : Env} {R : Room} {Z s : State} {m : MethodId} {args : Array Value} {below : List Frame} {meth : Method} {c : Code} {Q : Option Value → List Ent → Prop} {L L' : List Ent} {k n : Nat} {own nm : String} {code : ByteArray} {ml : Nat} {ret : Option FieldType} {a0 : Array Value}
variable {pc pc' : Nat} {Ls : Array Slot} {st : List Value} {i j : Nat} {a b : Addr} {C : String} {ns : List Nm} {vs vd : List Value} {v : Value} {h h' : Heap} {vm : Vm} {P P' : Cell → Prop} {f : Bool} {ty ty' : FieldType} {K K' : ClassId}
variable {y : MethodName} {code' : ByteArray} {ml' : Nat} {ret' : Option FieldType} {rm : Room} {argsL rest : List Value} {Q' : Option Value → List Ent → Prop}
/-! ### floats, by their bits -/
theorem Go.ldcF (X : Cx wd EL p Z s m meth c own nm code ml ret) {i : Nat} {v : UInt32} (w : (Cond.constantFloat own i v).before a0 Z = true) (D : D1 code pc (.ldc i) 2 pc') (K : Go wd EL p l e R Z s m args below meth c Q L k n (mkF m pc' Ls (.float v :: st))) : Go wd EL p l e R Z s m args below meth c Q L k n (mkF m pc Ls st) := by
  obtain ⟨d, rfl⟩ := D
  exact K.to X fun s X T lc H S t r => S.ldcFloatC X.1 X.2.2.1 (mv X.2.1 w) (g := mkF m pc Ls st) rfl (hb X.2.2.2.1 d) t r
theorem Go.ldcwI (X : Cx wd EL p Z s m meth c own nm code ml ret) {i : Nat} {v : Int32} (w : (Cond.constant own i v).before a0 Z = true) (D : D1 code pc (.ldc_w i) 3 pc') (K : Go wd EL p l e R Z s m args below meth c Q L k n (mkF m pc' Ls (.int v :: st))) : Go wd EL p l e R Z s m args below meth c Q L k n (mkF m pc Ls st) := by
  obtain ⟨d, rfl⟩ := D
  exact K.to X fun s X T lc H S t r => S.ldcWI X.1 X.2.2.1 (mv X.2.1 w) rfl (hb X.2.2.2.1 d) r
theorem Go.fconst0 (X : Cx wd EL p Z s m meth c own nm code ml ret) {v : UInt32} (D : D1 code pc (.fconst 0) 1 pc') (hv : FP.fconst0 = v) (K : Go wd EL p l e R Z s m args below meth c Q L k n (mkF m pc' Ls (.float v :: st))) : Go wd EL p l e R Z s m args below meth c Q L k n (mkF m pc Ls st) := by
  obtain ⟨d, rfl⟩ := D
  exact K.to X fun s X T lc H S t r => Jvm.Free.XS.fconst0 S.here X.1 (g := mkF m pc Ls st) rfl (hb X.2.2.2.1 d) hv r
theorem Go.fcmp (X : Cx wd EL p Z s m meth c own nm code ml ret) {o : CmpOp} {x y : UInt32} {v : Int32} (D : D1 code pc (.fcmp o) 1 pc') (hv : cmpValue (FP.fcmp x y) o = v) (K : Go wd EL p l e R Z s m args below meth c Q L k n (mkF m pc' Ls (.int v :: st))) : Go wd EL p l e R Z s m args below meth c Q L k n (mkF m pc Ls (.float y :: .float x :: st)) := by
  obtain ⟨d, rfl⟩ := D
  exact K.to X fun s X T lc H S t r => Jvm.Free.XS.fcmpS S.here X.1 (g := mkF m pc Ls (.float y :: .float x :: st)) rfl (hb X.2.2.2.1 d) rfl hv r
/-! ### calls -/
/-- invokevirtual of a method that the class named inherits from 'owner' -/
theorem Go.callVU (X : Cx wd EL p Z s m meth c own nm code ml ret) {x : MethodName} {owner : String} (E : ∀ h, Hp Z h L → Exa Z h a C) (B : Ct wd EL l Z y code' ml' ret' rm (Value.ref a :: argsL).toArray L Q')
    {idx : Nat} (w1 : (Cond.methodLink own idx x).before a0 Z = true) (wsm : (Cond.sameMethod x.cls owner x.name x.desc).before a0 Z = true) (hsm : (Cond.sameMethod x.cls owner x.name x.desc).onTables && (Cond.sameMethod x.cls owner x.name x.desc).keepsFace) (wdc : (Cond.declares ⟨owner, x.name, x.desc⟩).before a0 Z = true) (ho : owner ≠ "java/lang/invoke/MethodHandle" ∧ owner ≠ "java/lang/invoke/VarHandle") (ws : (Cond.selects C x y).before a0 Z = true) (w2 : (Cond.instanceMethod y).before a0 Z = true) (w3 : (Cond.initialized y.cls).before a0 Z = true) (w4 : (Cond.code y code' ml' ret').before a0 Z = true)
    {ps : List FieldType} {rt : Option FieldType} (pd : parseMethodDescriptor x.desc = some ⟨ps, rt⟩) (hl : argsL.length = ps.length) (hs : st = argsL.reverse ++ .ref a :: rest) (D : D1 code pc (.invokevirtual idx) 3 pc') (hm : Ls.size = ml)
    (hf : rm.frames + 1 ≤ R.frames) (hlo : (rest.map fun v => v.category).sum + (ml' + 11) + rm.locals ≤ R.locals) (hk : k + rm.cells ≤ R.cells) (hn : n + rm.slots ≤ R.slots)
    (K : ∀ o L, Q' o L → Go wd EL p l e R Z s m args below meth c Q L (k + rm.cells) (n + rm.slots) (mkF m pc' Ls (o.toList ++ rest))) : Go wd EL p l e R Z s m args below meth c Q L k n (mkF m pc Ls st) := by
  obtain ⟨d, rfl⟩ := D
  subst hs
  cases wd
  · refine Go.byN X (fun s X T lc H S => ?_) (fun _ => trivial) K
    obtain ⟨cq, kq, qa, qb, qc⟩ := isOf (T := T) X.2.1 rfl (E _ H)
    exact S.virtualBackUp X.1 X.2.2.1 (mvT X.2.1 w1) (mv X.2.1 wsm hsm) (mvT X.2.1 wdc) ho (mvT X.2.1 ws) (mvT X.2.1 w2) (backN (W := (rest.map fun v => v.category).sum) B X.2.1 w4 w3 hf hlo) qa qc (g := mkF m pc Ls (argsL.reverse ++ .ref a :: rest)) rfl (by rw [X.2.2.2.2.1]; exact hm) (Steps.refl _) (argsL := argsL) (rest := rest) (lenOf pd hl) rfl (by rw [mroom]; omega) (hb X.2.2.2.1 d) (fun _ _ => ⟨rfl, H, hk, hn⟩)
  · refine Go.byW X (fun vm X T lc I S => ?_) K
    obtain ⟨a1, hE⟩ := X.2.2.2.2.2.2.2.2 rfl
    obtain ⟨cq, kq, qa, qb, qc⟩ := isOf (T := T) X.2.1 rfl (E _ I.1)
    exact S.virtualBackUpS X.1 X.2.2.1 (mvT X.2.1 w1) (mv X.2.1 wsm hsm) (mvT X.2.1 wdc) ho (mvT X.2.1 ws) (mvT X.2.1 w2) (backW (W := (rest.map fun v => v.category).sum) B X.2.1 w4 w3 hf hlo hE I) qa qc (g := mkF m pc Ls (argsL.reverse ++ .ref a :: rest)) rfl (by rw [X.2.2.2.2.1]; exact hm) (Steps.refl _) (argsL := argsL) (rest := rest) (lenOf pd hl) rfl (by rw [mroom]; omega) (hb X.2.2.2.1 d) (fun _ _ => ⟨rfl, rfl, hk, hn⟩)
/-- x.getClass() through an interface -/
theorem Go.getclsI (X : Cx wd EL p Z s m meth c own nm code ml ret) {idx cnt : Nat} {mir : Addr} {xi : MethodName} (w1 : (Cond.methodLink own idx xi).before a0 Z = true) (wdc : (Cond.declares Jvm.Stand.gcN).before a0 Z = true) (wf : (Cond.interfaceMethod xi.cls "java/lang/Object" xi.name xi.desc).before a0 Z = true) (ws : (Cond.selects C xi Jvm.Stand.gcN).before a0 Z = true) (w2 : (Cond.instanceMethod Jvm.Stand.gcN).before a0 Z = true) (wp : (Cond.publicMethod Jvm.Stand.gcN).before a0 Z = true) (wu : (Cond.unhidden C xi.name xi.desc).before a0 Z = true) (wc : (Cond.castable C xi.cls).before a0 Z = true) (w3 : (Cond.native Jvm.Stand.gcN).before a0 Z = true)
    (hx : xi.cls ≠ "java/lang/invoke/MethodHandle" ∧ xi.cls ≠ "java/lang/invoke/VarHandle") (hxo : xi.cls ≠ "java/lang/Object") (hn1 : xi.name = "getClass") (hn2 : xi.desc = "()Ljava/lang/Class;") (hM : MirC Z C K mir) (E : ∀ h, Hp Z h L → Exa Z h a C)
    (D : D1 code pc (.invokeinterface idx cnt) 5 pc') (hm : Ls.size = ml) (hf : 1 ≤ R.frames) (hlo : (st.map fun v => v.category).sum + (nativeFrameWords "java/lang/Object" "getClass" 1 + 11) ≤ R.locals)
    (K1 : Go wd EL p l e R Z s m args below meth c Q L k n (mkF m pc' Ls (.ref mir :: st))) : Go wd EL p l e R Z s m args below meth c Q L k n (mkF m pc Ls (.ref a :: st)) := by
  obtain ⟨d, rfl⟩ := D
  intro vm T lc F B I S
  replace X := X.re B
  obtain ⟨hK, kc, hkc, hmi⟩ := hM
  obtain ⟨k', k1, k2⟩ := X.2.1.alike.2.2 _ _ hkc
  obtain ⟨cell, kk, e1, e2, e3, e4, -⟩ := E _ I.1
  cases hK.symm.trans e2
  obtain ⟨vm', S', stp⟩ := S.getClassOfI X.1 X.2.2.1 (mvT X.2.1 w1) (mvT X.2.1 wdc) (Jvm.Free.ULB.iface_rides X.2.1.alike wf) (mvT X.2.1 ws) (mvT X.2.1 w2) (mvT X.2.1 wp) (mvT X.2.1 wu) (mvT X.2.1 wc) (mvT X.2.1 w3) hx hxo hn1 hn2 (cB := cell.cls) (by rw [X.2.1.alike.findClass]; exact hK) k1 ⟨cell, e1, rfl, e4⟩ (mir := mir) (by rw [k2]; exact hmi) (g := mkF m pc Ls (.ref a :: st)) rfl (by rw [X.2.2.2.2.1]; exact hm) rfl (hb X.2.2.2.1 d) hf (by rw [mroom]; omega)
  obtain ⟨u, o, st', r⟩ := K1 vm (T.setVm vm') lc F B I S'
  exact ⟨u, o, stp _ st', r⟩
/-! ### a body with an exception table, whose walk throws nothing -/
abbrev Hs : Type := List (Nat × Nat × Nat × Nat)
def CtH (EL : List (String × Nat)) (l : Launch) (Z : State) (y : MethodName) (code : ByteArray) (ml : Nat) (ret : Option FieldType) (hs : Hs) (rm : Room) (as : Array Value) (L : List Ent) (Q : Option Value → List Ent → Prop) : Prop :=
  MetFree l y (head1 [Jvm.Cond.codeWith y code ml ret hs] rm) (fun a U => a = as ∧ Z.Warmed39 U.vm ∧ Iv true Z EL U.vm U.heap L) (fun _ _ _ _ _ => True) (fun _ U o U' => ∃ v L' lc, o = .returned v ∧ Q v L' ∧ Iv true Z EL U'.vm U'.heap L' ∧ Fr Z.heap.size lc ∧ ReturnedEndW U o U' lc rm.cells rm.slots)
theorem CtH.intro {hs : Hs} {as : Array Value} (hp : plainFor y = true) (hE : ∃ a0, EW Z a0 EL)
    (B : ∀ (p : Program) e s m below meth c, Cx true EL p Z s m meth c y.cls y.name code ml ret → Go true EL p l e rm Z s m as below meth c Q L 0 0 (entryFrame m as ml)) : CtH EL l Z y code ml ret hs rm as L Q := by
  refine MetFree.of_bodySF hp hisWith ?_
  intro p e s m args below meth c s₁ Bd hml hP hK
  obtain ⟨rfl, hZ, hh⟩ := hP
  have X0 : Stand p l e rm s m args below meth c s₁ [] 0 0 := Stand.of_body Bd
  have e0 : s₁.heap = s.heap := by rw [Bd.state]; rfl
  exact B p e s m below meth c ⟨Bd.exec, hZ, findClass_of_methodNamed Bd.named, Bd.bytes, hml, Bd.returns, Bd.notSynchronized, (name_of_methodNamed Bd.named Bd.method).1, fun _ => hE⟩ s.vm s₁ [] (Fr.nil _) (Bse.start s _) (by rw [e0]; exact hh) X0
/-- .. as the call laws ask it (wide) -/
theorem backWH {hs : Hs} {as : Array Value} {len W : Nat} {sargs : Array Value} (hM : CtH EL l Z y code' ml' ret' hs rm as L Q') (hZ : Z.Warmed39 vm) (wc : (Cond.codeWith y code' ml' ret' hs).before a0 Z = true) (wz : (Cond.initialized y.cls).before a0 Z = true) (hf : rm.frames + 1 ≤ R.frames) (hl : W + (ml' + 11) + rm.locals ≤ R.locals) {a1 : Array Value} (hEL : EW Z a1 EL) (H : Iv true Z EL vm h L) :
    BackS l R p e below (s.setVm vm) sargs y len W (fun A a => a = as ∧ A.U.heap = h ∧ A.cells + rm.cells ≤ R.cells ∧ A.slots + rm.slots ≤ R.slots)
      (fun A _ v B => ∃ L' lc, Q' v L' ∧ Iv true Z EL B.U.vm B.U.heap L' ∧ Fr Z.heap.size lc ∧ B.locs = A.locs ++ lc ∧ B.cells = A.cells + rm.cells ∧ B.slots = A.slots + rm.slots) := by
  rintro m meth c ⟨U, Ls, c0, s0⟩ g ig mk a X rfl hsize hdg hW hn ⟨rfl, hh, hk, hsl⟩
  dsimp only [Pt.U, Pt.locs, Pt.cells, Pt.slots] at X hn hh hk hsl ⊢
  have hU : Z.Warmed39 U.vm := wtrans (s := s.setVm vm) hZ X.warmed
  have wcU := mv (args := a) hU wc
  have hI : Iv true Z EL U.vm U.heap L := by
    have r := CHv.at X hZ hEL (H.2 rfl).1
    rw [hh]
    exact ⟨H.1, fun _ => ⟨r.1, fun x hx hf => r.safe (by obtain ⟨-, cc, h1, -⟩ := H.1.2.1 x hx; exact (Array.getElem?_eq_some_iff.mp h1).1) ((H.2 rfl).2 x hx hf)⟩⟩
  obtain ⟨mY, mtY, cY, r1, r2, r3, -, r5, -⟩ := Cond.codeWith_spec wcU
  cases hn.symm.trans r1
  obtain ⟨kY, r6, -⟩ := className_of_methodNamed hn
  obtain ⟨mid, hmid⟩ := X.here.above
  obtain ⟨o, t, go, -, fin, v, L', lc, rfl, hQ, hI', hF, hE⟩ := Steps.callFree hM p X.admits X.cas X.clock (acts := []) (e := e)
    (show (U.setTop g).frames = (.java g :: mid) ++ below by rw [State.frames_setTop' g X.here.top, hmid]; rfl)
    (Spec.appliesLoose_calling (g := g) X.here hdg hn r6 (Cond.initialized_spec (findClass_of_methodNamed hn) r6 (mv (args := a) hU wz)) (X.room_calling (g := g) (R' := rm) hsize r2 r3 hf (by rw [r5]; omega) hk hsl)
      (by show (Cond.and _ .tt).before a U = true; rw [Cond.before_and, wcU]; rfl))
    ⟨rfl, hU, hI⟩ trivial
  have top := X.here.top
  rw [State.frames_setTop' g top] at fin
  obtain ⟨cE, iE, lenE, f1, f2, f3⟩ := fin
  obtain ⟨-, hW39, hBk, e2, hrest⟩ := id hE
  have hal : U.vm.Alike t.vm := State.Warmed39.alike (s := U) hW39
  obtain rfl : cE = c := Option.some.inj (f1.symm.trans (((show t.code? g.method = U.code? g.method by rw [State.code?_eq, State.code?_eq, hal.method?]).trans X.here.code)))
  obtain rfl : lenE = len := by rw [hdg] at f2; cases f2; rfl
  obtain ⟨g0, hg0⟩ := Option.isSome_iff_exists.mp top
  obtain ⟨rs, hrs⟩ := State.topJava?_eq_some.mp hg0
  generalize hN : (({ U with heap := t.heap, slotsUsed := t.slotsUsed } : State).setVm t.vm) = N
  have hNf : N.frames = .java g0 :: rs := by rw [← hN]; exact hrs
  have ht : t = N.setTop { g with pc := g.pc + lenE, stack := v.toList ++ g.stack } := by
    have e3 : ({ t with vm := (U.calling g mk a).vm } : State) = { (U.calling g mk a).setFrames t.frames with heap := t.heap, slotsUsed := t.slotsUsed } := e2
    have h1 : t = ({ (U.calling g mk a).setFrames t.frames with heap := t.heap, slotsUsed := t.slotsUsed } : State).setVm t.vm :=
      (show t = ({ t with vm := (U.calling g mk a).vm } : State).setVm t.vm from rfl).trans (congrArg (fun z : State => z.setVm t.vm) e3)
    refine h1.trans ?_
    rw [f3, State.calling_eq top, State.setFrames_setFrames, State.setTop_of_frames _ hNf, ← hN, hrs]
    rfl
  have same : U.sameButNew ({ U with heap := t.heap, slotsUsed := t.slotsUsed } : State) lc rm.cells rm.slots := by
    obtain ⟨th, hth, -⟩ := State.frames_cons hrs
    refine ⟨?_, hrest⟩
    show ({ U with heap := t.heap, slotsUsed := t.slotsUsed } : State) = { U.setFrames U.frames with heap := t.heap, slotsUsed := t.slotsUsed }
    rw [State.setFrames_self hth]
  subst hN
  obtain ⟨X', hS⟩ := X.movedW (T₂ := (({ U with heap := t.heap, slotsUsed := t.slotsUsed } : State).setVm t.vm)) ((X.here.setHeapUsed t.heap t.slotsUsed).setVm hal) X.tail rfl rfl hW39 hBk same
  refine ⟨v, ⟨_, Ls ++ lc, c0 + rm.cells, s0 + rm.slots⟩, X', hS, same.2.1, ⟨L', lc, hQ, hI', hF, rfl, rfl, rfl⟩, ?_⟩
  rw [ht] at go
  exact go
/-- invokeinterface that lands in such a body -/
theorem Go.callNH (X : Cx true EL p Z s m meth c own nm code ml ret) {xi : MethodName} {hds : Hs} (E : ∀ h, Hp Z h L → Exa Z h a C) (B : CtH EL l Z y code' ml' ret' hds rm (Value.ref a :: argsL).toArray L Q')
    {idx cnt : Nat} (w1 : (Cond.methodLink own idx xi).before a0 Z = true) (wdc : (Cond.declares xi).before a0 Z = true) (hfa : (Cond.interfaceMethod xi.cls xi.cls xi.name xi.desc).faceAtom = true) (wf : (Cond.interfaceMethod xi.cls xi.cls xi.name xi.desc).before a0 Z = true) (ws : (Cond.selects C xi y).before a0 Z = true) (w2 : (Cond.instanceMethod y).before a0 Z = true) (wp : (Cond.publicMethod y).before a0 Z = true) (wu : (Cond.unhidden C xi.name xi.desc).before a0 Z = true) (wc : (Cond.castable C xi.cls).before a0 Z = true) (w3 : (Cond.initialized y.cls).before a0 Z = true) (w4 : (Cond.codeWith y code' ml' ret' hds).before a0 Z = true) (hy : xi.cls ≠ "java/lang/invoke/MethodHandle" ∧ xi.cls ≠ "java/lang/invoke/VarHandle")
    {ps : List FieldType} {rt : Option FieldType} (pd : parseMethodDescriptor xi.desc = some ⟨ps, rt⟩) (hl : argsL.length = ps.length) (hs : st = argsL.reverse ++ .ref a :: rest) (D : D1 code pc (.invokeinterface idx cnt) 5 pc') (hm : Ls.size = ml)
    (hf : rm.frames + 1 ≤ R.frames) (hlo : (rest.map fun v => v.category).sum + (ml' + 11) + rm.locals ≤ R.locals) (hk : k + rm.cells ≤ R.cells) (hn : n + rm.slots ≤ R.slots)
    (K : ∀ o L, Q' o L → Go true EL p l e R Z s m args below meth c Q L (k + rm.cells) (n + rm.slots) (mkF m pc' Ls (o.toList ++ rest))) : Go true EL p l e R Z s m args below meth c Q L k n (mkF m pc Ls st) := by
  obtain ⟨d, rfl⟩ := D
  subst hs
  refine Go.byW X (fun vm X T lc I S => ?_) K
  obtain ⟨a1, hE⟩ := X.2.2.2.2.2.2.2.2 rfl
  obtain ⟨cq, kq, qa, qb, qc⟩ := isOf (T := T) X.2.1 rfl (E _ I.1)
  exact S.interfaceBackS X.1 X.2.2.1 (mvT X.2.1 w1) (mvT X.2.1 wdc) (mvT X.2.1 wf (by simp [Cond.onTables, Cond.keepsFace, Cond.keeps, Cond.steady, hfa])) (mvT X.2.1 ws) (mvT X.2.1 w2) (mvT X.2.1 wp) (mvT X.2.1 wu) (mvT X.2.1 wc) hy (backWH (W := (rest.map fun v => v.category).sum) B X.2.1 w4 w3 hf hlo hE I) qa qb qc (g := mkF m pc Ls (argsL.reverse ++ .ref a :: rest)) rfl (by rw [X.2.2.2.2.1]; exact hm) (Steps.refl _) (argsL := argsL) (rest := rest) (lenOf pd hl) rfl (by rw [mroom]; omega) (hb X.2.2.2.1 d) (fun _ _ => ⟨rfl, rfl, hk, hn⟩)
/-! ### end -/
end More3
end Jvm.OwnKit
namespace Jvm.Pilot.@@N@@
open Jvm Jvm.ClassFile Sem Op Lib Jvm.Free Jvm.Stand Jvm.LawKit Jvm.RoadKit Jvm.OwnKit Bundle Jvm.Pilot.@@N@@.Jvm.D

/-- the empty list of List.of() -/
def EmF (Z : State) (em ea : Addr) : Prop := Sta Z Z.heap "java/util/ImmutableCollections" "EMPTY_LIST" "Ljava/util/ImmutableCollections$ListN;" (.ref em) ∧ Exa Z Z.heap em "java/util/ImmutableCollections$ListN" ∧ Fld Z Z.heap em "java/util/ImmutableCollections$ListN" "elements" "[Ljava/lang/Object;" (.ref ea) ∧ ∃ cl, Arr Z Z.heap ea cl (.object "java/lang/Object") ∧ cl.slots.size = 0
/-- the enum's two constants -/
def KdF (Z : State) (ki ke : Addr) : Prop := Sta Z Z.heap "com/example/mussel/mussel/rule/Selection$Kind" "IGNORE" "Lcom/example/mussel/mussel/rule/Selection$Kind;" (.ref ki) ∧ Sta Z Z.heap "com/example/mussel/mussel/rule/Selection$Kind" "EXCLUDE" "Lcom/example/mussel/mussel/rule/Selection$Kind;" (.ref ke) ∧ ki ≠ ke ∧ Exa Z Z.heap ki "com/example/mussel/mussel/rule/Selection$Kind" ∧ Fld Z Z.heap ki "java/lang/Enum" "ordinal" "I" (.int 0)
abbrev WD : Bool := true
abbrev EL0 : List (String × Nat) := consts_1
/-- what is known throughout -/
def Gl (a0 : Array Value) (Z : State) : Prop := (∀ d ∈ tables_1, d.before a0 Z = true) ∧ (WD = true → ∃ a0, EW Z a0 EL0) ∧ (∃ cs : Int32, cs ≠ 0 ∧ Sta Z Z.heap "java/lang/String" "COMPACT_STRINGS" "Z" (.int cs)) ∧ (∃ em ea, EmF Z em ea) ∧ (∃ ki ke, KdF Z ki ke) ∧ (∃ K1 m1 K2 m2, MirC Z "java/util/LinkedHashSet" K1 m1 ∧ MirC Z "java/util/Collections$UnmodifiableSet" K2 m2 ∧ m1 ≠ m2)
theorem g_cs {a0 : Array Value} {Z : State} (G : Gl a0 Z) : ∃ cs : Int32, cs ≠ 0 ∧ Sta Z Z.heap "java/lang/String" "COMPACT_STRINGS" "Z" (.int cs) := G.2.2.1
theorem g_em {a0 : Array Value} {Z : State} (G : Gl a0 Z) : ∃ em ea, EmF Z em ea := G.2.2.2.1
theorem g_kd {a0 : Array Value} {Z : State} (G : Gl a0 Z) : ∃ ki ke, KdF Z ki ke := G.2.2.2.2.1
theorem g_mm {a0 : Array Value} {Z : State} (G : Gl a0 Z) : ∃ K1 m1 K2 m2, MirC Z "java/util/LinkedHashSet" K1 m1 ∧ MirC Z "java/util/Collections$UnmodifiableSet" K2 m2 ∧ m1 ≠ m2 := G.2.2.2.2.2
-- %%% strings
theorem w2 {a0 : Array Value} {Z : State} (G : Gl a0 Z) : (Jvm.Cond.instantiable "java/lang/String" (4 : Nat)).before a0 Z = true := G.1 _ (List.mem_of_getElem? (i := 2) rfl)
theorem w3 {a0 : Array Value} {Z : State} (G : Gl a0 Z) : (Jvm.Cond.initialized "java/lang/String").before a0 Z = true := G.1 _ (List.mem_of_getElem? (i := 3) rfl)
theorem w7 {a0 : Array Value} {Z : State} (G : Gl a0 Z) : (Jvm.Cond.methodLink "java/lang/String" (27 : Nat) ({ cls := "java/lang/String", name := "<init>", desc := "([CIILjava/lang/Void;)V" } : Jvm.MethodName)).before a0 Z = true := G.1 _ (List.mem_of_getElem? (i := 7) rfl)
theorem w8 {a0 : Array Value} {Z : State} (G : Gl a0 Z) : (Jvm.Cond.instanceMethod ({ cls := "java/lang/String", name := "<init>", desc := "([CIILjava/lang/Void;)V" } : Jvm.MethodName)).before a0 Z = true := G.1 _ (List.mem_of_getElem? (i := 8) rfl)
theorem w10 {a0 : Array Value} {Z : State} (G : Gl a0 Z) : (Jvm.Cond.code ({ cls := "java/lang/String", name := "<init>", desc := "([CIILjava/lang/Void;)V" } : Jvm.MethodName) jdk_42_method_149_code (6 : Nat) (Option.none : Option Jvm.ClassFile.FieldType)).before a0 Z = true := G.1 _ (List.mem_of_getElem? (i := 10) rfl)
theorem w11 {a0 : Array Value} {Z : State} (G : Gl a0 Z) : (Jvm.Cond.methodLink "java/lang/String" (1 : Nat) ({ cls := "java/lang/Object", name := "<init>", desc := "()V" } : Jvm.MethodName)).before a0 Z = true := G.1 _ (List.mem_of_getElem? (i := 11) rfl)
theorem w12 {a0 : Array Value} {Z : State} (G : Gl a0 Z) : (Jvm.Cond.instanceMethod ({ cls := "java/lang/Object", name := "<init>", desc := "()V" } : Jvm.MethodName)).before a0 Z = true := G.1 _ (List.mem_of_getElem? (i := 12) rfl)
theorem w13 {a0 : Array Value} {Z : State} (G : Gl a0 Z) : (Jvm.Cond.code ({ cls := "java/lang/Object", name := "<init>", desc := "()V" } : Jvm.MethodName) object_method_1_code (1 : Nat) (Option.none : Option Jvm.ClassFile.FieldType)).before a0 Z = true := G.1 _ (List.mem_of_getElem? (i := 13) rfl)
theorem w14 {a0 : Array Value} {Z : State} (G : Gl a0 Z) : (Jvm.Cond.stringLink "java/lang/String" (7 : Nat) "").before a0 Z = true := G.1 _ (List.mem_of_getElem? (i := 14) rfl)
theorem w15 {a0 : Array Value} {Z : State} (G : Gl a0 Z) : (Jvm.Cond.arrayClass Jvm.ClassFile.FieldType.byte).before a0 Z = true := G.1 _ (List.mem_of_getElem? (i := 15) rfl)
theorem w16 {a0 : Array Value} {Z : State} (G : Gl a0 Z) : (Jvm.Cond.laysFinal "java/lang/String" "java/lang/String" "value" "[B").before a0 Z = true := G.1 _ (List.mem_of_getElem? (i := 16) rfl)
theorem w17 {a0 : Array Value} {Z : State} (G : Gl a0 Z) : (Jvm.Cond.laysFinal "java/lang/String" "java/lang/String" "coder" "B").before a0 Z = true := G.1 _ (List.mem_of_getElem? (i := 17) rfl)
theorem w18 {a0 : Array Value} {Z : State} (G : Gl a0 Z) : (Jvm.Cond.soleField "java/lang/String" "value").before a0 Z = true := G.1 _ (List.mem_of_getElem? (i := 18) rfl)
theorem w19 {a0 : Array Value} {Z : State} (G : Gl a0 Z) : (Jvm.Cond.soleField "java/lang/String" "coder").before a0 Z = true := G.1 _ (List.mem_of_getElem? (i := 19) rfl)
theorem w20 {a0 : Array Value} {Z : State} (G : Gl a0 Z) : (Jvm.Cond.fieldLink "java/lang/String" (9 : Nat) "java/lang/String" "value" "[B").before a0 Z = true := G.1 _ (List.mem_of_getElem? (i := 20) rfl)
theorem w21 {a0 : Array Value} {Z : State} (G : Gl a0 Z) : (Jvm.Cond.fieldLink "java/lang/String" (15 : Nat) "java/lang/String" "coder" "B").before a0 Z = true := G.1 _ (List.mem_of_getElem? (i := 21) rfl)
theorem w380 {a0 : Array Value} {Z : State} (G : Gl a0 Z) : (Jvm.Cond.fieldLink "java/lang/String" (38 : Nat) "java/lang/String" "COMPACT_STRINGS" "Z").before a0 Z = true := G.1 _ (List.mem_of_getElem? (i := 380) rfl)
theorem w381 {a0 : Array Value} {Z : State} (G : Gl a0 Z) : (Jvm.Cond.methodLink "java/lang/String" (177 : Nat) ({ cls := "java/lang/StringUTF16", name := "compress", desc := "([CII)[B" } : Jvm.MethodName)).before a0 Z = true := G.1 _ (List.mem_of_getElem? (i := 381) rfl)
theorem w382 {a0 : Array Value} {Z : State} (G : Gl a0 Z) : (Jvm.Cond.static ({ cls := "java/lang/StringUTF16", name := "compress", desc := "([CII)[B" } : Jvm.MethodName)).before a0 Z = true := G.1 _ (List.mem_of_getElem? (i := 382) rfl)
theorem w383 {a0 : Array Value} {Z : State} (G : Gl a0 Z) : (Jvm.Cond.initialized "java/lang/StringUTF16").before a0 Z = true := G.1 _ (List.mem_of_getElem? (i := 383) rfl)
theorem w384 {a0 : Array Value} {Z : State} (G : Gl a0 Z) : (Jvm.Cond.code ({ cls := "java/lang/StringUTF16", name := "compress", desc := "([CII)[B" } : Jvm.MethodName) jdk_52_method_16_code (6 : Nat) (Option.some (Jvm.ClassFile.FieldType.array Jvm.ClassFile.FieldType.byte))).before a0 Z = true := G.1 _ (List.mem_of_getElem? (i := 384) rfl)
theorem w385 {a0 : Array Value} {Z : State} (G : Gl a0 Z) : (Jvm.Cond.methodLink "java/lang/StringUTF16" (115 : Nat) ({ cls := "java/lang/StringUTF16", name := "compress", desc := "([CI[BII)I" } : Jvm.MethodName)).before a0 Z = true := G.1 _ (List.mem_of_getElem? (i := 385) rfl)
theorem w386 {a0 : Array Value} {Z : State} (G : Gl a0 Z) : (Jvm.Cond.static ({ cls := "java/lang/StringUTF16", name := "compress", desc := "([CI[BII)I" } : Jvm.MethodName)).before a0 Z = true := G.1 _ (List.mem_of_getElem? (i := 386) rfl)
theorem w387 {a0 : Array Value} {Z : State} (G : Gl a0 Z) : (Jvm.Cond.code ({ cls := "java/lang/StringUTF16", name := "compress", desc := "([CI[BII)I" } : Jvm.MethodName) jdk_52_method_21_code (7 : Nat) (Option.some Jvm.ClassFile.FieldType.int)).before a0 Z = true := G.1 _ (List.mem_of_getElem? (i := 387) rfl)
theorem w388 {a0 : Array Value} {Z : State} (G : Gl a0 Z) : (Jvm.Cond.methodLink "java/lang/String" (47 : Nat) ({ cls := "java/lang/StringUTF16", name := "coderFromArrayLen", desc := "([BI)B" } : Jvm.MethodName)).before a0 Z = true := G.1 _ (List.mem_of_getElem? (i := 388) rfl)
theorem w389 {a0 : Array Value} {Z : State} (G : Gl a0 Z) : (Jvm.Cond.static ({ cls := "java/lang/StringUTF16", name := "coderFromArrayLen", desc := "([BI)B" } : Jvm.MethodName)).before a0 Z = true := G.1 _ (List.mem_of_getElem? (i := 389) rfl)
theorem w390 {a0 : Array Value} {Z : State} (G : Gl a0 Z) : (Jvm.Cond.code ({ cls := "java/lang/StringUTF16", name := "coderFromArrayLen", desc := "([BI)B" } : Jvm.MethodName) jdk_52_method_15_code (2 : Nat) (Option.some Jvm.ClassFile.FieldType.byte)).before a0 Z = true := G.1 _ (List.mem_of_getElem? (i := 390) rfl)
theorem d1_0 : D1 jdk_42_method_3_code 0 (.aload_n 0) 1 1 := ⟨by decide +kernel, rfl⟩
theorem d1_1 : D1 jdk_42_method_3_code 1 (.aload_n 1) 1 2 := ⟨by decide +kernel, rfl⟩
theorem d1_2 : D1 jdk_42_method_3_code 2 (.iconst 0) 1 3 := ⟨by decide +kernel, rfl⟩
theorem d1_3 : D1 jdk_42_method_3_code 3 (.aload_n 1) 1 4 := ⟨by decide +kernel, rfl⟩
theorem d1_4 : D1 jdk_42_method_3_code 4 (.arraylength) 1 5 := ⟨by decide +kernel, rfl⟩
theorem d1_5 : D1 jdk_42_method_3_code 5 (.aconst_null) 1 6 := ⟨by decide +kernel, rfl⟩
theorem d1_6 : D1 jdk_42_method_3_code 6 (.invokespecial 27) 3 9 := ⟨by decide +kernel, rfl⟩
theorem d1_9 : D1 jdk_42_method_3_code 9 (.return_) 1 10 := ⟨by decide +kernel, rfl⟩
theorem d2_0 : D1 jdk_42_method_149_code 0 (.aload_n 0) 1 1 := ⟨by decide +kernel, rfl⟩
theorem d2_1 : D1 jdk_42_method_149_code 1 (.invokespecial 1) 3 4 := ⟨by decide +kernel, rfl⟩
theorem d2_4 : D1 jdk_42_method_149_code 4 (.iload_n 3) 1 5 := ⟨by decide +kernel, rfl⟩
theorem d2_5 : D1 jdk_42_method_149_code 5 (.ifCond .ne 22) 3 8 := ⟨by decide +kernel, rfl⟩
theorem d2_8 : D1 jdk_42_method_149_code 8 (.aload_n 0) 1 9 := ⟨by decide +kernel, rfl⟩
theorem d2_9 : D1 jdk_42_method_149_code 9 (.ldc 7) 2 11 := ⟨by decide +kernel, rfl⟩
theorem d2_11 : D1 jdk_42_method_149_code 11 (.getfield 9) 3 14 := ⟨by decide +kernel, rfl⟩
theorem d2_14 : D1 jdk_42_method_149_code 14 (.putfield 9) 3 17 := ⟨by decide +kernel, rfl⟩
theorem d2_17 : D1 jdk_42_method_149_code 17 (.aload_n 0) 1 18 := ⟨by decide +kernel, rfl⟩
theorem d2_18 : D1 jdk_42_method_149_code 18 (.ldc 7) 2 20 := ⟨by decide +kernel, rfl⟩
theorem d2_20 : D1 jdk_42_method_149_code 20 (.getfield 15) 3 23 := ⟨by decide +kernel, rfl⟩
theorem d2_23 : D1 jdk_42_method_149_code 23 (.putfield 15) 3 26 := ⟨by decide +kernel, rfl⟩
theorem d2_26 : D1 jdk_42_method_149_code 26 (.return_) 1 27 := ⟨by decide +kernel, rfl⟩
theorem d2_27 : D1 jdk_42_method_149_code 27 (.getstatic 38) 3 30 := ⟨by decide +kernel, rfl⟩
theorem d2_30 : D1 jdk_42_method_149_code 30 (.ifCond .eq 28) 3 33 := ⟨by decide +kernel, rfl⟩
theorem d2_33 : D1 jdk_42_method_149_code 33 (.aload_n 1) 1 34 := ⟨by decide +kernel, rfl⟩
theorem d2_34 : D1 jdk_42_method_149_code 34 (.iload_n 2) 1 35 := ⟨by decide +kernel, rfl⟩
theorem d2_35 : D1 jdk_42_method_149_code 35 (.iload_n 3) 1 36 := ⟨by decide +kernel, rfl⟩
theorem d2_36 : D1 jdk_42_method_149_code 36 (.invokestatic 177) 3 39 := ⟨by decide +kernel, rfl⟩
theorem d2_39 : D1 jdk_42_method_149_code 39 (.astore 5) 2 41 := ⟨by decide +kernel, rfl⟩
theorem d2_41 : D1 jdk_42_method_149_code 41 (.aload_n 0) 1 42 := ⟨by decide +kernel, rfl⟩
theorem d2_42 : D1 jdk_42_method_149_code 42 (.aload 5) 2 44 := ⟨by decide +kernel, rfl⟩
theorem d2_44 : D1 jdk_42_method_149_code 44 (.iload_n 3) 1 45 := ⟨by decide +kernel, rfl⟩
theorem d2_45 : D1 jdk_42_method_149_code 45 (.invokestatic 47) 3 48 := ⟨by decide +kernel, rfl⟩
theorem d2_48 : D1 jdk_42_method_149_code 48 (.putfield 15) 3 51 := ⟨by decide +kernel, rfl⟩
theorem d2_51 : D1 jdk_42_method_149_code 51 (.aload_n 0) 1 52 := ⟨by decide +kernel, rfl⟩
theorem d2_52 : D1 jdk_42_method_149_code 52 (.aload 5) 2 54 := ⟨by decide +kernel, rfl⟩
theorem d2_54 : D1 jdk_42_method_149_code 54 (.putfield 9) 3 57 := ⟨by decide +kernel, rfl⟩
theorem d2_57 : D1 jdk_42_method_149_code 57 (.return_) 1 58 := ⟨by decide +kernel, rfl⟩
theorem d47_0 : D1 jdk_52_method_16_code 0 (.iload_n 2) 1 1 := ⟨by decide +kernel, rfl⟩
theorem d47_1 : D1 jdk_52_method_16_code 1 (.newarray .byte) 2 3 := ⟨by decide +kernel, rfl⟩
theorem d47_3 : D1 jdk_52_method_16_code 3 (.astore_n 3) 1 4 := ⟨by decide +kernel, rfl⟩
theorem d47_4 : D1 jdk_52_method_16_code 4 (.aload_n 0) 1 5 := ⟨by decide +kernel, rfl⟩
theorem d47_5 : D1 jdk_52_method_16_code 5 (.iload_n 1) 1 6 := ⟨by decide +kernel, rfl⟩
theorem d47_6 : D1 jdk_52_method_16_code 6 (.aload_n 3) 1 7 := ⟨by decide +kernel, rfl⟩
theorem d47_7 : D1 jdk_52_method_16_code 7 (.iconst 0) 1 8 := ⟨by decide +kernel, rfl⟩
theorem d47_8 : D1 jdk_52_method_16_code 8 (.iload_n 2) 1 9 := ⟨by decide +kernel, rfl⟩
theorem d47_9 : D1 jdk_52_method_16_code 9 (.invokestatic 115) 3 12 := ⟨by decide +kernel, rfl⟩
theorem d47_12 : D1 jdk_52_method_16_code 12 (.istore 4) 2 14 := ⟨by decide +kernel, rfl⟩
theorem d47_14 : D1 jdk_52_method_16_code 14 (.iload 4) 2 16 := ⟨by decide +kernel, rfl⟩
theorem d47_16 : D1 jdk_52_method_16_code 16 (.iload_n 2) 1 17 := ⟨by decide +kernel, rfl⟩
theorem d47_17 : D1 jdk_52_method_16_code 17 (.if_icmp .eq 40) 3 20 := ⟨by decide +kernel, rfl⟩
theorem d47_57 : D1 jdk_52_method_16_code 57 (.aload_n 3) 1 58 := ⟨by decide +kernel, rfl⟩
theorem d47_58 : D1 jdk_52_method_16_code 58 (.areturn) 1 59 := ⟨by decide +kernel, rfl⟩
theorem d48_0 : D1 jdk_52_method_21_code 0 (.iconst 0) 1 1 := ⟨by decide +kernel, rfl⟩
theorem d48_1 : D1 jdk_52_method_21_code 1 (.istore 5) 2 3 := ⟨by decide +kernel, rfl⟩
theorem d48_3 : D1 jdk_52_method_21_code 3 (.iload 5) 2 5 := ⟨by decide +kernel, rfl⟩
theorem d48_5 : D1 jdk_52_method_21_code 5 (.iload 4) 2 7 := ⟨by decide +kernel, rfl⟩
theorem d48_7 : D1 jdk_52_method_21_code 7 (.if_icmp .ge 37) 3 10 := ⟨by decide +kernel, rfl⟩
theorem d48_10 : D1 jdk_52_method_21_code 10 (.aload_n 0) 1 11 := ⟨by decide +kernel, rfl⟩
theorem d48_11 : D1 jdk_52_method_21_code 11 (.iload_n 1) 1 12 := ⟨by decide +kernel, rfl⟩
theorem d48_12 : D1 jdk_52_method_21_code 12 (.caload) 1 13 := ⟨by decide +kernel, rfl⟩
theorem d48_13 : D1 jdk_52_method_21_code 13 (.istore 6) 2 15 := ⟨by decide +kernel, rfl⟩
theorem d48_15 : D1 jdk_52_method_21_code 15 (.iload 6) 2 17 := ⟨by decide +kernel, rfl⟩
theorem d48_17 : D1 jdk_52_method_21_code 17 (.sipush 255) 3 20 := ⟨by decide +kernel, rfl⟩
theorem d48_20 : D1 jdk_52_method_21_code 20 (.if_icmp .le 6) 3 23 := ⟨by decide +kernel, rfl⟩
theorem d48_26 : D1 jdk_52_method_21_code 26 (.aload_n 2) 1 27 := ⟨by decide +kernel, rfl⟩
theorem d48_27 : D1 jdk_52_method_21_code 27 (.iload_n 3) 1 28 := ⟨by decide +kernel, rfl⟩
theorem d48_28 : D1 jdk_52_method_21_code 28 (.iload 6) 2 30 := ⟨by decide +kernel, rfl⟩
theorem d48_30 : D1 jdk_52_method_21_code 30 (.i2b) 1 31 := ⟨by decide +kernel, rfl⟩
theorem d48_31 : D1 jdk_52_method_21_code 31 (.bastore) 1 32 := ⟨by decide +kernel, rfl⟩
theorem d48_32 : D1 jdk_52_method_21_code 32 (.iinc 1 1) 3 35 := ⟨by decide +kernel, rfl⟩
theorem d48_35 : D1 jdk_52_method_21_code 35 (.iinc 3 1) 3 38 := ⟨by decide +kernel, rfl⟩
theorem d48_38 : D1 jdk_52_method_21_code 38 (.iinc 5 1) 3 41 := ⟨by decide +kernel, rfl⟩
theorem d48_41 : D1 jdk_52_method_21_code 41 (.goto (-38)) 3 44 := ⟨by decide +kernel, rfl⟩
theorem d48_44 : D1 jdk_52_method_21_code 44 (.iload 4) 2 46 := ⟨by decide +kernel, rfl⟩
theorem d48_46 : D1 jdk_52_method_21_code 46 (.ireturn) 1 47 := ⟨by decide +kernel, rfl⟩
theorem d49_0 : D1 jdk_52_method_15_code 0 (.iload_n 1) 1 1 := ⟨by decide +kernel, rfl⟩
theorem d49_1 : D1 jdk_52_method_15_code 1 (.aload_n 0) 1 2 := ⟨by decide +kernel, rfl⟩
theorem d49_2 : D1 jdk_52_method_15_code 2 (.arraylength) 1 3 := ⟨by decide +kernel, rfl⟩
theorem d49_3 : D1 jdk_52_method_15_code 3 (.isub) 1 4 := ⟨by decide +kernel, rfl⟩
theorem d49_4 : D1 jdk_52_method_15_code 4 (.bipush 31) 2 6 := ⟨by decide +kernel, rfl⟩
theorem d49_6 : D1 jdk_52_method_15_code 6 (.iushr) 1 7 := ⟨by decide +kernel, rfl⟩
theorem d49_7 : D1 jdk_52_method_15_code 7 (.i2b) 1 8 := ⟨by decide +kernel, rfl⟩
theorem d49_8 : D1 jdk_52_method_15_code 8 (.ireturn) 1 9 := ⟨by decide +kernel, rfl⟩
def ns0 : List Nm := [("java/lang/String", "value", "[B"), ("java/lang/String", "coder", "B")]
theorem lay0 {a0 : Array Value} {Z : State} (G : Gl a0 Z) : LayC Z a0 "java/lang/String" ns0 := LayC.of (fun q hq => by
  simp only [ns0, List.mem_cons, List.not_mem_nil, or_false] at hq
  rcases hq with rfl | rfl
  · exact Or.inr (G.1 _ (List.mem_of_getElem? (i := 16) rfl))
  · exact Or.inr (G.1 _ (List.mem_of_getElem? (i := 17) rfl))) (by decide +kernel) (fun q hq => by
  simp only [ns0, List.mem_cons, List.not_mem_nil, or_false] at hq
  rcases hq with rfl | rfl
  · exact ⟨(.array .byte), by decide +kernel⟩
  · exact ⟨.byte, by decide +kernel⟩)
theorem df0 : dfl ns0 = ([.null, .int 0] : List Value).map some := by decide +kernel
theorem pd0 : parseMethodDescriptor "([CI[BII)I" = some ⟨[(.array .char), .int, (.array .byte), .int, .int], some .int⟩ := by decide +kernel
theorem pd1 : parseMethodDescriptor "([CII)[B" = some ⟨[(.array .char), .int, .int], some (.array .byte)⟩ := by decide +kernel
theorem pd2 : parseMethodDescriptor "([BI)B" = some ⟨[(.array .byte), .int], some .byte⟩ := by decide +kernel
theorem pd3 : parseMethodDescriptor "([CIILjava/lang/Void;)V" = some ⟨[(.array .char), .int, .int, (.object "java/lang/Void")], none⟩ := by decide +kernel
theorem pf0 : parseFieldDescriptor "[B" = some (.array .byte) := by decide +kernel
theorem pf1 : parseFieldDescriptor "B" = some .byte := by decide +kernel

/-- the bytes and the chars of a text whose signs are below 256 -/
def bsOf (cl : List Nat) : List Value := cl.map fun c => .int (Int32.ofNat c).toInt8.toInt32
def csOf (cl : List Nat) : List Value := cl.map fun c => .int (Int32.ofNat c)
/-- the class number of a text's byte array is byte[]'s (where the text isn't empty) -/
def FcB (Z : State) (cl : List Nat) (K : ClassId) : Prop := cl = [] ∨ Z.vm.findClass "[B" = some K
/-- the String at a is known: its bytes are the array b's and spell cl; its coder is 0 -/
def Sx (Z : State) (L : List Ent) (a b : Addr) (cl : List Nat) : Prop := (∃ K f, (b, Ar Z .byte K (bsOf cl), f) ∈ L) ∧ ∀ h, Hp Z h L → Exa Z h a "java/lang/String" ∧ Fld Z h a "java/lang/String" "value" "[B" (.ref b) ∧ Fld Z h a "java/lang/String" "coder" "B" (.int 0)
theorem bs_len (cl : List Nat) : (bsOf cl).length = cl.length := by simp [bsOf]
theorem bs_at {cl : List Nat} {i c : Nat} (q : cl[i]? = some c) : (bsOf cl)[i]? = some (.int (Int32.ofNat c).toInt8.toInt32) := by simp [bsOf, q]
theorem upd_mid {α : Type} (A B : List α) (x y : α) : updL (A ++ x :: B) A.length y = A ++ y :: B := by
  induction A with
  | nil => rfl
  | cons z r ih => simp [updL, ih]
theorem rep_at {α : Type} {x : α} {M i : Nat} (h : i < M) : (List.replicate M x)[i]? = some x := by simp [h]
theorem len_small {L : List Ent} {Z : State} {h : Heap} {b : Addr} {ty : FieldType} {K : ClassId} {vs : List Value} {f : Bool} (H : Hp Z h L) (q : (b, Ar Z ty K vs, f) ∈ L) : vs.length < 2 ^ 31 := by
  obtain ⟨cl, -, -, -, r, -⟩ := H.arrM q; exact r

theorem sAtoms {a0 : Array Value} {Z : State} (G : Gl a0 Z) : ∀ d ∈ Bundle.stringAtoms, d.before a0 Z = true := by
  intro d hd
  simp only [Bundle.stringAtoms, Bundle.sN, List.mem_cons, List.not_mem_nil, or_false] at hd
  rcases hd with rfl | rfl | rfl | rfl | rfl | rfl | rfl
  · exact (w3 G)
  · exact (w2 G)
  · exact (w15 G)
  · exact (w16 G)
  · exact (w17 G)
  · exact (w18 G)
  · exact (w19 G)
set_option maxRecDepth 65536 in
set_option maxHeartbeats 4000000 in
theorem s_cmp_loop {p : Program} {l : Launch} {e : Env} {R : Room} {Z s : State} {m : MethodId} {args : Array Value} {below : List Frame} {meth : Method} {c : Code} {L : List Ent} {ca b : Addr} {K Kc : ClassId} {cs : List Value} {f : Bool} {o N : Nat} (hc : (ca, Ar Z .char Kc cs, f) ∈ L)
    (X : Cx WD EL0 p Z s m meth c "java/lang/StringUTF16" "compress" jdk_52_method_21_code 7 (some .int)) : ∀ (suf pre : List Nat) (u : Slot), (u = .unset ∨ ∃ w, u = .val (.int w)) → pre.length + suf.length = N → (∀ c ∈ suf, c < 256) → (∀ (i c : Nat), suf[i]? = some c → cs[o + pre.length + i]? = some (Value.int (Int32.ofNat c))) → o + N < 2 ^ 31 →
    Go WD EL0 p l e R Z s m args below meth c (rvQ fun v M => v = .int (Int32.ofNat N) ∧ M = ow b (Ar Z .byte K (bsOf (pre ++ suf))) :: L) (ow b (Ar Z .byte K (bsOf pre ++ List.replicate suf.length (.int 0))) :: L) 0 0 (mkF m 3 #[.val (.ref ca), .val (.int (Int32.ofNat (o + pre.length))), .val (.ref b), .val (.int (Int32.ofNat pre.length)), .val (.int (Int32.ofNat N)), .val (.int (Int32.ofNat pre.length)), u] []) := by
  intro suf
  induction suf with
  | nil =>
    intro pre u hu hN hlt hcs ho
    have hN : pre.length = N := by simpa using hN
    refine Go.iload X d48_3 rfl ?_
    refine Go.iload X d48_5 rfl ?_
    refine Go.icmp X d48_7 (pt := 44) ⟨by decide, by decide⟩ ?_ ?_
    · intro _
      refine Go.iload X d48_44 rfl ?_
      exact Go.iret X d48_46 (Nat.zero_le _) (Nat.zero_le _) ⟨rfl, by simp⟩
    intro q
    exact absurd (show Int32.ofNat N ≤ Int32.ofNat pre.length by rw [hN]; exact Int32.le_refl _) q
  | cons x suf ih =>
    intro pre u hu hN hlt hcs ho
    have hN' : pre.length + 1 + suf.length = N := by simp at hN; omega
    have hx := hlt x List.mem_cons_self
    have hst : ∀ w, storeLocals #[.val (.ref ca), .val (.int (Int32.ofNat (o + pre.length))), .val (.ref b), .val (.int (Int32.ofNat pre.length)), .val (.int (Int32.ofNat N)), .val (.int (Int32.ofNat pre.length)), u] 6 (.int w) = some #[.val (.ref ca), .val (.int (Int32.ofNat (o + pre.length))), .val (.ref b), .val (.int (Int32.ofNat pre.length)), .val (.int (Int32.ofNat N)), .val (.int (Int32.ofNat pre.length)), .val (.int w)] := by intro w; rcases hu with rfl | ⟨w', rfl⟩ <;> rfl
    obtain ⟨n1, n2, n3⟩ := nat32 (i := pre.length) (by omega)
    obtain ⟨m1, m2, m3⟩ := nat32 (i := o + pre.length) (by omega)
    obtain ⟨k1, k2, k3⟩ := nat32 (i := N) (by omega)
    obtain ⟨x1, x2, x3⟩ := nat32 (i := x) (by omega)
    refine Go.iload X d48_3 rfl ?_
    refine Go.iload X d48_5 rfl ?_
    refine Go.icmp X d48_7 (pt := 44) ⟨by decide, by decide⟩ ?_ ?_
    · intro q
      have q : (N : Int) ≤ pre.length := ccL q n1 k1
      omega
    intro _
    refine Go.aloadN X d48_10 rfl rfl ?_
    refine Go.iloadN X d48_11 rfl ?_
    refine Go.cald X m2 (x := Int32.ofNat x) (fun h H => H.elM (List.mem_cons_of_mem _ hc) (by rw [m3]; simpa using hcs 0 x rfl)) d48_12 ?_
    refine Go.istore X d48_13 (hst _) ?_
    refine Go.iload X d48_15 rfl ?_
    refine Go.sipush X (v := 255) d48_17 (by decide) ?_
    refine Go.icmp X d48_20 (pt := 26) ⟨by decide, by decide⟩ ?_ ?_
    rotate_left
    · intro q
      have q : ¬ (x : Int) ≤ 255 := ccN (b := 255) q x1 rfl
      omega
    intro _
    refine Go.aloadN X d48_26 rfl rfl ?_
    refine Go.iloadN X d48_27 rfl ?_
    refine Go.iload X d48_28 rfl ?_
    refine Go.i2b X d48_30 ?_
    refine Go.bast X (i := 0) rfl n2 (by rw [n3]; simp [bsOf]) (y := (Int32.ofNat x).toInt8.toInt32) (by simp) d48_31 ?_
    have e1 : updL (bsOf pre ++ List.replicate (x :: suf).length (.int 0)) (Int32.ofNat pre.length).toNatClampNeg (.int (Int32.ofNat x).toInt8.toInt32) = bsOf (pre ++ [x]) ++ List.replicate suf.length (.int 0) := by
      rw [n3]
      have := upd_mid (bsOf pre) (List.replicate suf.length (Value.int 0)) (.int 0) (.int (Int32.ofNat x).toInt8.toInt32)
      rw [bs_len] at this
      rw [show (x :: suf).length = suf.length + 1 from rfl, List.replicate_succ, this]
      simp [bsOf]
    rw [upd_zero, e1]
    refine Go.iinc X d48_32 rfl rfl ?_
    refine Go.iinc X d48_35 rfl rfl ?_
    refine Go.iinc X d48_38 rfl rfl ?_
    refine Go.goto X d48_41 (pt := 3) ⟨by decide, by decide⟩ ?_
    have a1 : Int32.ofNat (o + pre.length) + Int32.ofInt 1 = Int32.ofNat (o + (pre ++ [x]).length) := by
      rw [show o + (pre ++ [x]).length = o + pre.length + 1 by simp; omega]; exact (inc_ofNat _).symm
    have a2 : Int32.ofNat pre.length + Int32.ofInt 1 = Int32.ofNat (pre ++ [x]).length := by
      rw [show (pre ++ [x]).length = pre.length + 1 by simp]; exact (inc_ofNat _).symm
    rw [a1, a2]
    have r := ih (pre ++ [x]) (.val (.int (Int32.ofNat x))) (Or.inr ⟨_, rfl⟩) (by simp; omega) (fun c hc => hlt c (List.mem_cons_of_mem _ hc)) (fun i c hi => by
      have := hcs (i + 1) c (by simpa using hi)
      rw [show o + (pre ++ [x]).length + i = o + pre.length + (i + 1) by simp; omega]; exact this) ho
    simpa using r
set_option maxRecDepth 65536 in
set_option maxHeartbeats 4000000 in
theorem s_cmp5 (l : Launch) {Z : State} {a0 : Array Value} (G : Gl a0 Z) {L : List Ent} {ca b : Addr} {K Kc : ClassId} {cs : List Value} {f : Bool} {o : Nat} {cl : List Nat} (hc : (ca, Ar Z .char Kc cs, f) ∈ L) (hlt : ∀ c ∈ cl, c < 256) (hcs : ∀ (i c : Nat), cl[i]? = some c → cs[o + i]? = some (Value.int (Int32.ofNat c))) (ho : o + cl.length < 2 ^ 31) : Ct WD EL0 l Z (⟨"java/lang/StringUTF16", "compress", "([CI[BII)I"⟩ : MethodName) jdk_52_method_21_code 7 (some .int) ({ frames := 0, cells := 0, slots := 0, locals := 0 } : Room) #[.ref ca, .int (Int32.ofNat o), .ref b, .int 0, .int (Int32.ofNat cl.length)] (ow b (Ar Z .byte K (List.replicate cl.length (.int 0))) :: L) (rvQ (fun v M => v = .int (Int32.ofNat cl.length) ∧ M = ow b (Ar Z .byte K (bsOf cl)) :: L)) := by
  refine Ct.intro (by decide +kernel) G.2.1 ?_
  intro p e s m below meth c X
  replace X : Cx WD EL0 p Z s m meth c "java/lang/StringUTF16" "compress" jdk_52_method_21_code 7 (some .int) := X
  refine Go.cast (g' := mkF m 0 #[.val (.ref ca), .val (.int (Int32.ofNat o)), .val (.ref b), .val (.int 0), .val (.int (Int32.ofNat cl.length)), .unset, .unset] []) (by first | rfl | (simp [entryFrame, mkF, argsToLocals, Value.category, maxLocals]; done)) ?_
  refine Go.iconst X (v := 0) d48_0 (by decide) ?_
  refine Go.istore X d48_1 rfl ?_
  have r := s_cmp_loop (p := p) (l := l) (e := e) (R := ({ frames := 0, cells := 0, slots := 0, locals := 0 } : Room)) (args := #[.ref ca, .int (Int32.ofNat o), .ref b, .int 0, .int (Int32.ofNat cl.length)]) (below := below) (b := b) (K := K) (o := o) (N := cl.length) hc X cl [] .unset (Or.inl rfl) (by simp) hlt (by simpa using hcs) ho
  exact r
set_option maxRecDepth 65536 in
set_option maxHeartbeats 4000000 in
theorem s_cmp3 (l : Launch) {Z : State} {a0 : Array Value} (G : Gl a0 Z) {L : List Ent} {ca : Addr} {Kc : ClassId} {cs : List Value} {f : Bool} {o cap : Nat} {cl : List Nat} (hc : (ca, Ar Z .char Kc cs, f) ∈ L) (hlt : ∀ c ∈ cl, c < 256) (hcs : ∀ (i c : Nat), cl[i]? = some c → cs[o + i]? = some (Value.int (Int32.ofNat c))) (ho : o + cl.length < 2 ^ 31) (hcap : cl.length ≤ cap) (hcap2 : cap ≤ 4096) : Ct WD EL0 l Z (⟨"java/lang/StringUTF16", "compress", "([CII)[B"⟩ : MethodName) jdk_52_method_16_code 6 (some (.array .byte)) ({ frames := 1, cells := 1, slots := cap, locals := 18 } : Room) #[.ref ca, .int (Int32.ofNat o), .int (Int32.ofNat cl.length)] L (rvQ (fun v M => ∃ b K, v = .ref b ∧ FcB Z cl K ∧ M = ow b (Ar Z .byte K (bsOf cl)) :: L)) := by
  refine Ct.intro (by decide +kernel) G.2.1 ?_
  intro p e s m below meth c X
  replace X : Cx WD EL0 p Z s m meth c "java/lang/StringUTF16" "compress" jdk_52_method_16_code 6 (some (.array .byte)) := X
  refine Go.cast (g' := mkF m 0 #[.val (.ref ca), .val (.int (Int32.ofNat o)), .val (.int (Int32.ofNat cl.length)), .unset, .unset, .unset] []) (by first | rfl | (simp [entryFrame, mkF, argsToLocals, Value.category, maxLocals]; done)) ?_
  refine Go.iloadN X d47_0 rfl ?_
  obtain ⟨n1, n2, n3⟩ := nat32 (i := cl.length) (by omega)
  refine Go.newarrF X (aty := .byte) (N := cl.length) (cap := cap) (w15 G) n2 n3 hcap (by omega) d47_1 (by first | exact Nat.le_of_ble_eq_true rfl | (simp; done) | (simp; omega)) (by first | exact Nat.le_of_ble_eq_true rfl | (simp; done) | (simp; omega)) ?_
  intro b K hK
  refine Go.astoreN X d47_3 rfl rfl ?_
  refine Go.aloadN X d47_4 rfl rfl ?_
  refine Go.iloadN X d47_5 rfl ?_
  refine Go.aloadN X d47_6 rfl rfl ?_
  refine Go.iconst X (v := 0) d47_7 (by decide) ?_
  refine Go.iloadN X d47_8 rfl ?_
  refine Go.callS X (s_cmp5 l G (L := L) (b := b) (K := K) (o := o) (cl := cl) hc hlt hcs ho) (rest := []) (w385 G) (w386 G) (w383 G) (w387 G) (by decide) pd0 rfl rfl d47_9 rfl (Nat.le_of_ble_eq_true rfl) (Nat.le_of_ble_eq_true rfl) (by first | exact Nat.le_of_ble_eq_true rfl | (simp; done) | (simp; omega)) (by first | exact Nat.le_of_ble_eq_true rfl | (simp; done) | (simp; omega)) (Kv ?_)
  rintro v M ⟨rfl, rfl⟩
  refine Go.istore X d47_12 rfl ?_
  refine Go.iload X d47_14 rfl ?_
  refine Go.iloadN X d47_16 rfl ?_
  refine Go.icmp X d47_17 (pt := 57) ⟨by decide, by decide⟩ ?_ ?_
  · intro _
    refine Go.aloadN X d47_57 rfl rfl ?_
    exact Go.aret X d47_58 (by rfl) (by rfl) (by rfl) (by first | exact Nat.le_of_ble_eq_true rfl | (simp; done) | (simp; omega)) (by first | exact Nat.le_of_ble_eq_true rfl | (simp; done) | (simp; omega)) ⟨b, K, rfl, Or.inr hK, rfl⟩
  intro q
  exact absurd rfl q
set_option maxRecDepth 65536 in
set_option maxHeartbeats 4000000 in
theorem s_coderlen (l : Launch) {Z : State} {a0 : Array Value} (G : Gl a0 Z) {L : List Ent} {b : Addr} {K : ClassId} {vs : List Value} {f : Bool} (hb' : (b, Ar Z .byte K vs, f) ∈ L) : Ct WD EL0 l Z (⟨"java/lang/StringUTF16", "coderFromArrayLen", "([BI)B"⟩ : MethodName) jdk_52_method_15_code 2 (some .byte) ({ frames := 0, cells := 0, slots := 0, locals := 0 } : Room) #[.ref b, .int (Int32.ofNat vs.length)] L (rvQ (fun v M => v = .int 0 ∧ M = L)) := by
  refine Ct.intro (by decide +kernel) G.2.1 ?_
  intro p e s m below meth c X
  replace X : Cx WD EL0 p Z s m meth c "java/lang/StringUTF16" "coderFromArrayLen" jdk_52_method_15_code 2 (some .byte) := X
  refine Go.cast (g' := mkF m 0 #[.val (.ref b), .val (.int (Int32.ofNat vs.length))] []) (by first | rfl | (simp [entryFrame, mkF, argsToLocals, Value.category, maxLocals]; done)) ?_
  refine Go.iloadN X d49_0 rfl ?_
  refine Go.aloadN X d49_1 rfl rfl ?_
  refine Go.alenA X (fun h H => H.lenM hb') d49_2 ?_
  refine Go.isub X d49_3 ?_
  refine Go.bipush X (v := 31) d49_4 (by decide) ?_
  refine Go.iushr X d49_6 ?_
  refine Go.i2b X d49_7 ?_
  refine Go.bret X d49_8 ?_ (Nat.zero_le _) (Nat.zero_le _) ⟨?_, rfl⟩
  · rw [show Int32.ofNat vs.length - vs.length.toInt32 = 0 from Int32.sub_self _]; decide
  · rw [show Int32.ofNat vs.length - vs.length.toInt32 = 0 from Int32.sub_self _]; congr 1
set_option maxRecDepth 65536 in
set_option maxHeartbeats 4000000 in
theorem s_initV (l : Launch) {Z : State} {a0 : Array Value} (G : Gl a0 Z) {L : List Ent} {a ca : Addr} {Kc : ClassId} {cs : List Value} {f : Bool} {o cap : Nat} {cl : List Nat} (hc : (ca, Ar Z .char Kc cs, f) ∈ L) (hlt : ∀ c ∈ cl, c < 256) (hcs : ∀ (i c : Nat), cl[i]? = some c → cs[o + i]? = some (Value.int (Int32.ofNat c))) (ho : o + cl.length < 2 ^ 31) (hcap : cl.length ≤ cap) (hcap2 : cap ≤ 4096) : Ct WD EL0 l Z (⟨"java/lang/String", "<init>", "([CIILjava/lang/Void;)V"⟩ : MethodName) jdk_42_method_149_code 6 none ({ frames := 2, cells := 4, slots := cap + 8, locals := 35 } : Room) #[.ref a, .ref ca, .int (Int32.ofNat o), .int (Int32.ofNat cl.length), .null] (ow a (Ob Z "java/lang/String" ns0 [.null, .int 0]) :: L) (r0Q (fun M => ∃ b K f, FcB Z cl K ∧ M = (b, Ar Z .byte K (bsOf cl), f) :: ow a (Ob Z "java/lang/String" ns0 [.ref b, .int 0]) :: L)) := by
  refine Ct.intro (by decide +kernel) G.2.1 ?_
  intro p e s m below meth c X
  replace X : Cx WD EL0 p Z s m meth c "java/lang/String" "<init>" jdk_42_method_149_code 6 none := X
  refine Go.cast (g' := mkF m 0 #[.val (.ref a), .val (.ref ca), .val (.int (Int32.ofNat o)), .val (.int (Int32.ofNat cl.length)), .val .null, .unset] []) (by first | rfl | (simp [entryFrame, mkF, argsToLocals, Value.category, maxLocals]; done)) ?_
  refine Go.aloadN X d2_0 rfl rfl ?_
  refine Go.initObj X (w11 G) (w12 G) (w13 G) d2_1 rfl (Nat.le_of_ble_eq_true rfl) (Nat.le_of_ble_eq_true rfl) ?_
  refine Go.iloadN X d2_4 rfl ?_
  obtain ⟨n1, n2, n3⟩ := nat32 (i := cl.length) (by omega)
  refine Go.ifc X d2_5 (pt := 27) ⟨by decide, by decide⟩ ?_ ?_
  rotate_left
  · intro q
    have q : cl.length = 0 := by have := Decidable.of_not_not (ccN (a := cl.length) (b := 0) q n1 rfl); omega
    obtain rfl : cl = [] := List.eq_nil_of_length_eq_zero q
    refine Go.aloadN X d2_8 rfl rfl ?_
    refine Go.ldcS X (text := "") (vs := []) (z := 0) (N := 0) (w14 G) (sAtoms G) (by decide) ⟨by decide, by decide⟩ (by decide) (by decide) d2_9 (by decide) (by decide) (by first | exact Nat.le_of_ble_eq_true rfl | (simp; done) | (simp; omega)) (by first | exact Nat.le_of_ble_eq_true rfl | (simp; done) | (simp; omega)) ?_
    intro a1 b1 K1
    refine Go.getFld X (w20 G) Via.refl (fun h H => (H.ltC (i := 0) rfl).2.2) d2_11 ?_
    refine Go.putFld X (i := 2) rfl (j := 0) rfl (lay0 G) (w20 G) Via.refl (Or.inr ⟨(w16 G), rfl, rfl⟩) (w2 G) pf0 d2_14 (by rfl) (by rfl) ?_
    refine Go.aloadN X d2_17 rfl rfl ?_
    refine Go.ldcS X (text := "") (vs := []) (z := 0) (N := 0) (w14 G) (sAtoms G) (by decide) ⟨by decide, by decide⟩ (by decide) (by decide) d2_18 (by decide) (by decide) (by first | exact Nat.le_of_ble_eq_true rfl | (simp; done) | (simp; omega)) (by first | exact Nat.le_of_ble_eq_true rfl | (simp; done) | (simp; omega)) ?_
    intro a2 b2 K2
    refine Go.getFld X (w21 G) Via.refl (fun h H => (H.ltC (i := 0) rfl).2.1) d2_20 ?_
    refine Go.putFld X (i := 4) rfl (j := 1) rfl (lay0 G) (w21 G) Via.refl (Or.inr ⟨(w17 G), rfl, rfl⟩) (w2 G) pf1 d2_23 (by rfl) (by rfl) ?_
    refine Go.drop (Go.drop (Go.drop ?_))
    exact Go.ret0 X d2_26 (by first | exact Nat.le_of_ble_eq_true rfl | (simp; done) | (simp; omega)) (by first | exact Nat.le_of_ble_eq_true rfl | (simp; done) | (simp; omega)) ⟨b1, K1, false, Or.inl rfl, rfl⟩
  intro q
  have q : cl.length ≠ 0 := by have := ccL (a := cl.length) (b := 0) q n1 rfl; intro z; exact this (by rw [z]; rfl)
  obtain ⟨cst, hcst, Fcst⟩ := g_cs G
  refine Go.getSta X (w380 G) Via.refl Fcst d2_27 ?_
  refine Go.ifc X d2_30 (pt := 58) ⟨by decide, by decide⟩ ?_ ?_
  · intro q; exact absurd q hcst
  intro _
  refine Go.aloadN X d2_33 rfl rfl ?_
  refine Go.iloadN X d2_34 rfl ?_
  refine Go.iloadN X d2_35 rfl ?_
  refine Go.callS X (s_cmp3 l G (o := o) (cap := cap) (cl := cl) (List.mem_cons_of_mem _ hc) hlt hcs ho hcap hcap2) (rest := []) (w381 G) (w382 G) (w383 G) (w384 G) (by decide) pd1 rfl rfl d2_36 rfl (Nat.le_of_ble_eq_true rfl) (Nat.le_of_ble_eq_true rfl) (by first | exact Nat.le_of_ble_eq_true rfl | (simp; done) | (simp; omega)) (by first | exact Nat.le_of_ble_eq_true rfl | (simp; done) | (simp; omega)) (Kv ?_)
  rintro v M ⟨b, K, rfl, hK, rfl⟩
  refine Go.astore X d2_39 rfl rfl ?_
  refine Go.aloadN X d2_41 rfl rfl ?_
  refine Go.aload X d2_42 rfl rfl ?_
  refine Go.iloadN X d2_44 rfl ?_
  refine Go.callS X ((bs_len cl) ▸ s_coderlen l G (L := ow b (Ar Z .byte K (bsOf cl)) :: ow a (Ob Z "java/lang/String" ns0 [.null, .int 0]) :: L) (vs := bsOf cl) (List.mem_cons_self)) (rest := [.ref a]) (w388 G) (w389 G) (w383 G) (w390 G) (by decide) pd2 rfl rfl d2_45 rfl (Nat.le_of_ble_eq_true rfl) (Nat.le_of_ble_eq_true rfl) (by first | exact Nat.le_of_ble_eq_true rfl | (simp; done) | (simp; omega)) (by first | exact Nat.le_of_ble_eq_true rfl | (simp; done) | (simp; omega)) (Kv ?_)
  rintro v M ⟨rfl, rfl⟩
  refine Go.putFld X (i := 1) rfl (j := 1) rfl (lay0 G) (w21 G) Via.refl (Or.inr ⟨(w17 G), rfl, rfl⟩) (w2 G) pf1 d2_48 (by rfl) (by rfl) ?_
  refine Go.aloadN X d2_51 rfl rfl ?_
  refine Go.aload X d2_52 rfl rfl ?_
  refine Go.putFld X (i := 1) rfl (j := 0) rfl (lay0 G) (w20 G) Via.refl (Or.inr ⟨(w16 G), rfl, rfl⟩) (w2 G) pf0 d2_54 (by rfl) (by rfl) ?_
  exact Go.ret0 X d2_57 (by first | exact Nat.le_of_ble_eq_true rfl | (simp; done) | (simp; omega)) (by first | exact Nat.le_of_ble_eq_true rfl | (simp; done) | (simp; omega)) ⟨b, K, true, hK, rfl⟩
set_option maxRecDepth 65536 in
set_option maxHeartbeats 4000000 in
theorem s_initC (l : Launch) {Z : State} {a0 : Array Value} (G : Gl a0 Z) {L : List Ent} {a ca : Addr} {Kc : ClassId} {f : Bool} {cap : Nat} {cl : List Nat} (hc : (ca, Ar Z .char Kc (csOf cl), f) ∈ L) (hlt : ∀ c ∈ cl, c < 256) (hcap : cl.length ≤ cap) (hcap2 : cap ≤ 4096) : Ct WD EL0 l Z (⟨"java/lang/String", "<init>", "([C)V"⟩ : MethodName) jdk_42_method_3_code 2 none ({ frames := 3, cells := 4, slots := cap + 8, locals := 53 } : Room) #[.ref a, .ref ca] (ow a (Ob Z "java/lang/String" ns0 [.null, .int 0]) :: L) (r0Q (fun M => ∃ b K f, FcB Z cl K ∧ M = (b, Ar Z .byte K (bsOf cl), f) :: ow a (Ob Z "java/lang/String" ns0 [.ref b, .int 0]) :: L)) := by
  refine Ct.intro (by decide +kernel) G.2.1 ?_
  intro p e s m below meth c X
  replace X : Cx WD EL0 p Z s m meth c "java/lang/String" "<init>" jdk_42_method_3_code 2 none := X
  refine Go.cast (g' := mkF m 0 #[.val (.ref a), .val (.ref ca)] []) (by first | rfl | (simp [entryFrame, mkF, argsToLocals, Value.category, maxLocals]; done)) ?_
  refine Go.aloadN X d1_0 rfl rfl ?_
  refine Go.aloadN X d1_1 rfl rfl ?_
  refine Go.iconst X (v := 0) d1_2 (by decide) ?_
  refine Go.aloadN X d1_3 rfl rfl ?_
  refine Go.alenA X (fun h H => H.lenM (List.mem_cons_of_mem _ hc)) d1_4 ?_
  rw [show (csOf cl).length.toInt32 = Int32.ofNat cl.length by simp [csOf]]
  refine Go.aconstNull X d1_5 ?_
  refine Go.fact (fun h H => len_small H (List.mem_cons_of_mem _ hc)) fun hM => ?_
  have hM : cl.length < 2 ^ 31 := by simpa [csOf] using hM
  refine Go.callI X (s_initV l G (o := 0) (cap := cap) (cl := cl) hc hlt (fun i c h => by simp [csOf, h]) (by omega) hcap hcap2) rfl (rest := []) (w7 G) (w8 G) (w3 G) (w10 G) (by decide) pd3 rfl rfl d1_6 rfl (by first | exact Nat.le_of_ble_eq_true rfl | (simp; done) | (simp; omega)) (by first | exact Nat.le_of_ble_eq_true rfl | (simp; done) | (simp; omega)) (by first | exact Nat.le_of_ble_eq_true rfl | (simp; done) | (simp; omega)) (by first | exact Nat.le_of_ble_eq_true rfl | (simp; done) | (simp; omega)) (K0 ?_)
  rintro M ⟨b, K, f, hK, rfl⟩
  exact Go.ret0 X d1_9 (by first | exact Nat.le_of_ble_eq_true rfl | (simp; done) | (simp; omega)) (by first | exact Nat.le_of_ble_eq_true rfl | (simp; done) | (simp; omega)) ⟨b, K, f, hK, rfl⟩
-- %%% sets
theorem w44 {a0 : Array Value} {Z : State} (G : Gl a0 Z) : (Jvm.Cond.instantiable "java/util/LinkedHashSet" (1 : Nat)).before a0 Z = true := G.1 _ (List.mem_of_getElem? (i := 44) rfl)
theorem w49 {a0 : Array Value} {Z : State} (G : Gl a0 Z) : (Jvm.Cond.constantFloat "java/util/LinkedHashSet" (7 : Nat) (1061158912 : UInt32)).before a0 Z = true := G.1 _ (List.mem_of_getElem? (i := 49) rfl)
theorem w50 {a0 : Array Value} {Z : State} (G : Gl a0 Z) : (Jvm.Cond.methodLink "java/util/LinkedHashSet" (1 : Nat) ({ cls := "java/util/HashSet", name := "<init>", desc := "(IFZ)V" } : Jvm.MethodName)).before a0 Z = true := G.1 _ (List.mem_of_getElem? (i := 50) rfl)
theorem w51 {a0 : Array Value} {Z : State} (G : Gl a0 Z) : (Jvm.Cond.instanceMethod ({ cls := "java/util/HashSet", name := "<init>", desc := "(IFZ)V" } : Jvm.MethodName)).before a0 Z = true := G.1 _ (List.mem_of_getElem? (i := 51) rfl)
theorem w54 {a0 : Array Value} {Z : State} (G : Gl a0 Z) : (Jvm.Cond.initialized "java/util/HashSet").before a0 Z = true := G.1 _ (List.mem_of_getElem? (i := 54) rfl)
theorem w55 {a0 : Array Value} {Z : State} (G : Gl a0 Z) : (Jvm.Cond.code ({ cls := "java/util/HashSet", name := "<init>", desc := "(IFZ)V" } : Jvm.MethodName) jdk_93_method_5_code (4 : Nat) (Option.none : Option Jvm.ClassFile.FieldType)).before a0 Z = true := G.1 _ (List.mem_of_getElem? (i := 55) rfl)
theorem w56 {a0 : Array Value} {Z : State} (G : Gl a0 Z) : (Jvm.Cond.methodLink "java/util/HashSet" (1 : Nat) ({ cls := "java/util/AbstractSet", name := "<init>", desc := "()V" } : Jvm.MethodName)).before a0 Z = true := G.1 _ (List.mem_of_getElem? (i := 56) rfl)
theorem w57 {a0 : Array Value} {Z : State} (G : Gl a0 Z) : (Jvm.Cond.instanceMethod ({ cls := "java/util/AbstractSet", name := "<init>", desc := "()V" } : Jvm.MethodName)).before a0 Z = true := G.1 _ (List.mem_of_getElem? (i := 57) rfl)
theorem w60 {a0 : Array Value} {Z : State} (G : Gl a0 Z) : (Jvm.Cond.initialized "java/util/AbstractSet").before a0 Z = true := G.1 _ (List.mem_of_getElem? (i := 60) rfl)
theorem w61 {a0 : Array Value} {Z : State} (G : Gl a0 Z) : (Jvm.Cond.code ({ cls := "java/util/AbstractSet", name := "<init>", desc := "()V" } : Jvm.MethodName) jdk_91_method_1_code (1 : Nat) (Option.none : Option Jvm.ClassFile.FieldType)).before a0 Z = true := G.1 _ (List.mem_of_getElem? (i := 61) rfl)
theorem w62 {a0 : Array Value} {Z : State} (G : Gl a0 Z) : (Jvm.Cond.methodLink "java/util/AbstractSet" (1 : Nat) ({ cls := "java/util/AbstractCollection", name := "<init>", desc := "()V" } : Jvm.MethodName)).before a0 Z = true := G.1 _ (List.mem_of_getElem? (i := 62) rfl)
theorem w63 {a0 : Array Value} {Z : State} (G : Gl a0 Z) : (Jvm.Cond.instanceMethod ({ cls := "java/util/AbstractCollection", name := "<init>", desc := "()V" } : Jvm.MethodName)).before a0 Z = true := G.1 _ (List.mem_of_getElem? (i := 63) rfl)
theorem w66 {a0 : Array Value} {Z : State} (G : Gl a0 Z) : (Jvm.Cond.initialized "java/util/AbstractCollection").before a0 Z = true := G.1 _ (List.mem_of_getElem? (i := 66) rfl)
theorem w67 {a0 : Array Value} {Z : State} (G : Gl a0 Z) : (Jvm.Cond.code ({ cls := "java/util/AbstractCollection", name := "<init>", desc := "()V" } : Jvm.MethodName) jdk_22_method_1_code (1 : Nat) (Option.none : Option Jvm.ClassFile.FieldType)).before a0 Z = true := G.1 _ (List.mem_of_getElem? (i := 67) rfl)
theorem w68 {a0 : Array Value} {Z : State} (G : Gl a0 Z) : (Jvm.Cond.methodLink "java/util/AbstractCollection" (1 : Nat) ({ cls := "java/lang/Object", name := "<init>", desc := "()V" } : Jvm.MethodName)).before a0 Z = true := G.1 _ (List.mem_of_getElem? (i := 68) rfl)
theorem w69 {a0 : Array Value} {Z : State} (G : Gl a0 Z) : (Jvm.Cond.classLink "java/util/HashSet" (42 : Nat) "java/util/LinkedHashMap").before a0 Z = true := G.1 _ (List.mem_of_getElem? (i := 69) rfl)
theorem w70 {a0 : Array Value} {Z : State} (G : Gl a0 Z) : (Jvm.Cond.instantiable "java/util/LinkedHashMap" (12 : Nat)).before a0 Z = true := G.1 _ (List.mem_of_getElem? (i := 70) rfl)
theorem w71 {a0 : Array Value} {Z : State} (G : Gl a0 Z) : (Jvm.Cond.initialized "java/util/LinkedHashMap").before a0 Z = true := G.1 _ (List.mem_of_getElem? (i := 71) rfl)
theorem w72 {a0 : Array Value} {Z : State} (G : Gl a0 Z) : (Jvm.Cond.methodLink "java/util/HashSet" (44 : Nat) ({ cls := "java/util/LinkedHashMap", name := "<init>", desc := "(IF)V" } : Jvm.MethodName)).before a0 Z = true := G.1 _ (List.mem_of_getElem? (i := 72) rfl)
theorem w73 {a0 : Array Value} {Z : State} (G : Gl a0 Z) : (Jvm.Cond.instanceMethod ({ cls := "java/util/LinkedHashMap", name := "<init>", desc := "(IF)V" } : Jvm.MethodName)).before a0 Z = true := G.1 _ (List.mem_of_getElem? (i := 73) rfl)
theorem w75 {a0 : Array Value} {Z : State} (G : Gl a0 Z) : (Jvm.Cond.code ({ cls := "java/util/LinkedHashMap", name := "<init>", desc := "(IF)V" } : Jvm.MethodName) jdk_94_method_14_code (3 : Nat) (Option.none : Option Jvm.ClassFile.FieldType)).before a0 Z = true := G.1 _ (List.mem_of_getElem? (i := 75) rfl)
theorem w76 {a0 : Array Value} {Z : State} (G : Gl a0 Z) : (Jvm.Cond.methodLink "java/util/LinkedHashMap" (81 : Nat) ({ cls := "java/util/HashMap", name := "<init>", desc := "(IF)V" } : Jvm.MethodName)).before a0 Z = true := G.1 _ (List.mem_of_getElem? (i := 76) rfl)
theorem w77 {a0 : Array Value} {Z : State} (G : Gl a0 Z) : (Jvm.Cond.instanceMethod ({ cls := "java/util/HashMap", name := "<init>", desc := "(IF)V" } : Jvm.MethodName)).before a0 Z = true := G.1 _ (List.mem_of_getElem? (i := 77) rfl)
theorem w80 {a0 : Array Value} {Z : State} (G : Gl a0 Z) : (Jvm.Cond.initialized "java/util/HashMap").before a0 Z = true := G.1 _ (List.mem_of_getElem? (i := 80) rfl)
theorem w81 {a0 : Array Value} {Z : State} (G : Gl a0 Z) : (Jvm.Cond.code ({ cls := "java/util/HashMap", name := "<init>", desc := "(IF)V" } : Jvm.MethodName) jdk_69_method_5_code (3 : Nat) (Option.none : Option Jvm.ClassFile.FieldType)).before a0 Z = true := G.1 _ (List.mem_of_getElem? (i := 81) rfl)
theorem w82 {a0 : Array Value} {Z : State} (G : Gl a0 Z) : (Jvm.Cond.methodLink "java/util/HashMap" (43 : Nat) ({ cls := "java/util/AbstractMap", name := "<init>", desc := "()V" } : Jvm.MethodName)).before a0 Z = true := G.1 _ (List.mem_of_getElem? (i := 82) rfl)
theorem w83 {a0 : Array Value} {Z : State} (G : Gl a0 Z) : (Jvm.Cond.instanceMethod ({ cls := "java/util/AbstractMap", name := "<init>", desc := "()V" } : Jvm.MethodName)).before a0 Z = true := G.1 _ (List.mem_of_getElem? (i := 83) rfl)
theorem w86 {a0 : Array Value} {Z : State} (G : Gl a0 Z) : (Jvm.Cond.initialized "java/util/AbstractMap").before a0 Z = true := G.1 _ (List.mem_of_getElem? (i := 86) rfl)
theorem w87 {a0 : Array Value} {Z : State} (G : Gl a0 Z) : (Jvm.Cond.code ({ cls := "java/util/AbstractMap", name := "<init>", desc := "()V" } : Jvm.MethodName) jdk_71_method_1_code (1 : Nat) (Option.none : Option Jvm.ClassFile.FieldType)).before a0 Z = true := G.1 _ (List.mem_of_getElem? (i := 87) rfl)
theorem w88 {a0 : Array Value} {Z : State} (G : Gl a0 Z) : (Jvm.Cond.methodLink "java/util/AbstractMap" (1 : Nat) ({ cls := "java/lang/Object", name := "<init>", desc := "()V" } : Jvm.MethodName)).before a0 Z = true := G.1 _ (List.mem_of_getElem? (i := 88) rfl)
theorem w89 {a0 : Array Value} {Z : State} (G : Gl a0 Z) : (Jvm.Cond.constant "java/util/HashMap" (42 : Nat) (1073741824 : Int32)).before a0 Z = true := G.1 _ (List.mem_of_getElem? (i := 89) rfl)
theorem w90 {a0 : Array Value} {Z : State} (G : Gl a0 Z) : (Jvm.Cond.methodLink "java/util/HashMap" (70 : Nat) ({ cls := "java/lang/Float", name := "isNaN", desc := "(F)Z" } : Jvm.MethodName)).before a0 Z = true := G.1 _ (List.mem_of_getElem? (i := 90) rfl)
theorem w91 {a0 : Array Value} {Z : State} (G : Gl a0 Z) : (Jvm.Cond.static ({ cls := "java/lang/Float", name := "isNaN", desc := "(F)Z" } : Jvm.MethodName)).before a0 Z = true := G.1 _ (List.mem_of_getElem? (i := 91) rfl)
theorem w92 {a0 : Array Value} {Z : State} (G : Gl a0 Z) : (Jvm.Cond.initialized "java/lang/Float").before a0 Z = true := G.1 _ (List.mem_of_getElem? (i := 92) rfl)
theorem w93 {a0 : Array Value} {Z : State} (G : Gl a0 Z) : (Jvm.Cond.code ({ cls := "java/lang/Float", name := "isNaN", desc := "(F)Z" } : Jvm.MethodName) jdk_118_method_6_code (1 : Nat) (Option.some Jvm.ClassFile.FieldType.boolean)).before a0 Z = true := G.1 _ (List.mem_of_getElem? (i := 93) rfl)
theorem w94 {a0 : Array Value} {Z : State} (G : Gl a0 Z) : (Jvm.Cond.fieldLink "java/util/HashMap" (81 : Nat) "java/util/HashMap" "loadFactor" "F").before a0 Z = true := G.1 _ (List.mem_of_getElem? (i := 94) rfl)
theorem w95 {a0 : Array Value} {Z : State} (G : Gl a0 Z) : (Jvm.Cond.laysFinal "java/util/LinkedHashMap" "java/util/HashMap" "loadFactor" "F").before a0 Z = true := G.1 _ (List.mem_of_getElem? (i := 95) rfl)
theorem w96 {a0 : Array Value} {Z : State} (G : Gl a0 Z) : (Jvm.Cond.methodLink "java/util/HashMap" (85 : Nat) ({ cls := "java/util/HashMap", name := "tableSizeFor", desc := "(I)I" } : Jvm.MethodName)).before a0 Z = true := G.1 _ (List.mem_of_getElem? (i := 96) rfl)
theorem w97 {a0 : Array Value} {Z : State} (G : Gl a0 Z) : (Jvm.Cond.static ({ cls := "java/util/HashMap", name := "tableSizeFor", desc := "(I)I" } : Jvm.MethodName)).before a0 Z = true := G.1 _ (List.mem_of_getElem? (i := 97) rfl)
theorem w98 {a0 : Array Value} {Z : State} (G : Gl a0 Z) : (Jvm.Cond.code ({ cls := "java/util/HashMap", name := "tableSizeFor", desc := "(I)I" } : Jvm.MethodName) jdk_69_method_4_code (2 : Nat) (Option.some Jvm.ClassFile.FieldType.int)).before a0 Z = true := G.1 _ (List.mem_of_getElem? (i := 98) rfl)
theorem w99 {a0 : Array Value} {Z : State} (G : Gl a0 Z) : (Jvm.Cond.methodLink "java/util/HashMap" (34 : Nat) ({ cls := "java/lang/Integer", name := "numberOfLeadingZeros", desc := "(I)I" } : Jvm.MethodName)).before a0 Z = true := G.1 _ (List.mem_of_getElem? (i := 99) rfl)
theorem w100 {a0 : Array Value} {Z : State} (G : Gl a0 Z) : (Jvm.Cond.static ({ cls := "java/lang/Integer", name := "numberOfLeadingZeros", desc := "(I)I" } : Jvm.MethodName)).before a0 Z = true := G.1 _ (List.mem_of_getElem? (i := 100) rfl)
theorem w101 {a0 : Array Value} {Z : State} (G : Gl a0 Z) : (Jvm.Cond.initialized "java/lang/Integer").before a0 Z = true := G.1 _ (List.mem_of_getElem? (i := 101) rfl)
theorem w102 {a0 : Array Value} {Z : State} (G : Gl a0 Z) : (Jvm.Cond.code ({ cls := "java/lang/Integer", name := "numberOfLeadingZeros", desc := "(I)I" } : Jvm.MethodName) jdk_33_method_47_code (2 : Nat) (Option.some Jvm.ClassFile.FieldType.int)).before a0 Z = true := G.1 _ (List.mem_of_getElem? (i := 102) rfl)
theorem w103 {a0 : Array Value} {Z : State} (G : Gl a0 Z) : (Jvm.Cond.constant "java/lang/Integer" (264 : Nat) (65536 : Int32)).before a0 Z = true := G.1 _ (List.mem_of_getElem? (i := 103) rfl)
theorem w104 {a0 : Array Value} {Z : State} (G : Gl a0 Z) : (Jvm.Cond.fieldLink "java/util/HashMap" (88 : Nat) "java/util/HashMap" "threshold" "I").before a0 Z = true := G.1 _ (List.mem_of_getElem? (i := 104) rfl)
theorem w105 {a0 : Array Value} {Z : State} (G : Gl a0 Z) : (Jvm.Cond.lays "java/util/LinkedHashMap" "java/util/HashMap" "threshold" "I").before a0 Z = true := G.1 _ (List.mem_of_getElem? (i := 105) rfl)
theorem w106 {a0 : Array Value} {Z : State} (G : Gl a0 Z) : (Jvm.Cond.fieldLink "java/util/LinkedHashMap" (1 : Nat) "java/util/LinkedHashMap" "putMode" "I").before a0 Z = true := G.1 _ (List.mem_of_getElem? (i := 106) rfl)
theorem w107 {a0 : Array Value} {Z : State} (G : Gl a0 Z) : (Jvm.Cond.lays "java/util/LinkedHashMap" "java/util/LinkedHashMap" "putMode" "I").before a0 Z = true := G.1 _ (List.mem_of_getElem? (i := 107) rfl)
theorem w108 {a0 : Array Value} {Z : State} (G : Gl a0 Z) : (Jvm.Cond.fieldLink "java/util/LinkedHashMap" (64 : Nat) "java/util/LinkedHashMap" "accessOrder" "Z").before a0 Z = true := G.1 _ (List.mem_of_getElem? (i := 108) rfl)
theorem w109 {a0 : Array Value} {Z : State} (G : Gl a0 Z) : (Jvm.Cond.laysFinal "java/util/LinkedHashMap" "java/util/LinkedHashMap" "accessOrder" "Z").before a0 Z = true := G.1 _ (List.mem_of_getElem? (i := 109) rfl)
theorem w110 {a0 : Array Value} {Z : State} (G : Gl a0 Z) : (Jvm.Cond.fieldLink "java/util/HashSet" (10 : Nat) "java/util/HashSet" "map" "Ljava/util/HashMap;").before a0 Z = true := G.1 _ (List.mem_of_getElem? (i := 110) rfl)
theorem w111 {a0 : Array Value} {Z : State} (G : Gl a0 Z) : (Jvm.Cond.lays "java/util/LinkedHashSet" "java/util/HashSet" "map" "Ljava/util/HashMap;").before a0 Z = true := G.1 _ (List.mem_of_getElem? (i := 111) rfl)
theorem d7_0 : D1 jdk_2620_method_3_code 0 (.aload_n 0) 1 1 := ⟨by decide +kernel, rfl⟩
theorem d7_1 : D1 jdk_2620_method_3_code 1 (.bipush 16) 2 3 := ⟨by decide +kernel, rfl⟩
theorem d7_3 : D1 jdk_2620_method_3_code 3 (.ldc 7) 2 5 := ⟨by decide +kernel, rfl⟩
theorem d7_5 : D1 jdk_2620_method_3_code 5 (.iconst 1) 1 6 := ⟨by decide +kernel, rfl⟩
theorem d7_6 : D1 jdk_2620_method_3_code 6 (.invokespecial 1) 3 9 := ⟨by decide +kernel, rfl⟩
theorem d7_9 : D1 jdk_2620_method_3_code 9 (.return_) 1 10 := ⟨by decide +kernel, rfl⟩
theorem d8_0 : D1 jdk_93_method_5_code 0 (.aload_n 0) 1 1 := ⟨by decide +kernel, rfl⟩
theorem d8_1 : D1 jdk_93_method_5_code 1 (.invokespecial 1) 3 4 := ⟨by decide +kernel, rfl⟩
theorem d8_4 : D1 jdk_93_method_5_code 4 (.aload_n 0) 1 5 := ⟨by decide +kernel, rfl⟩
theorem d8_5 : D1 jdk_93_method_5_code 5 (.new 42) 3 8 := ⟨by decide +kernel, rfl⟩
theorem d8_8 : D1 jdk_93_method_5_code 8 (.dup) 1 9 := ⟨by decide +kernel, rfl⟩
theorem d8_9 : D1 jdk_93_method_5_code 9 (.iload_n 1) 1 10 := ⟨by decide +kernel, rfl⟩
theorem d8_10 : D1 jdk_93_method_5_code 10 (.fload_n 2) 1 11 := ⟨by decide +kernel, rfl⟩
theorem d8_11 : D1 jdk_93_method_5_code 11 (.invokespecial 44) 3 14 := ⟨by decide +kernel, rfl⟩
theorem d8_14 : D1 jdk_93_method_5_code 14 (.putfield 10) 3 17 := ⟨by decide +kernel, rfl⟩
theorem d8_17 : D1 jdk_93_method_5_code 17 (.return_) 1 18 := ⟨by decide +kernel, rfl⟩
theorem d9_0 : D1 jdk_91_method_1_code 0 (.aload_n 0) 1 1 := ⟨by decide +kernel, rfl⟩
theorem d9_1 : D1 jdk_91_method_1_code 1 (.invokespecial 1) 3 4 := ⟨by decide +kernel, rfl⟩
theorem d9_4 : D1 jdk_91_method_1_code 4 (.return_) 1 5 := ⟨by decide +kernel, rfl⟩
theorem d10_0 : D1 jdk_22_method_1_code 0 (.aload_n 0) 1 1 := ⟨by decide +kernel, rfl⟩
theorem d10_1 : D1 jdk_22_method_1_code 1 (.invokespecial 1) 3 4 := ⟨by decide +kernel, rfl⟩
theorem d10_4 : D1 jdk_22_method_1_code 4 (.return_) 1 5 := ⟨by decide +kernel, rfl⟩
theorem d11_0 : D1 jdk_94_method_14_code 0 (.aload_n 0) 1 1 := ⟨by decide +kernel, rfl⟩
theorem d11_1 : D1 jdk_94_method_14_code 1 (.iload_n 1) 1 2 := ⟨by decide +kernel, rfl⟩
theorem d11_2 : D1 jdk_94_method_14_code 2 (.fload_n 2) 1 3 := ⟨by decide +kernel, rfl⟩
theorem d11_3 : D1 jdk_94_method_14_code 3 (.invokespecial 81) 3 6 := ⟨by decide +kernel, rfl⟩
theorem d11_6 : D1 jdk_94_method_14_code 6 (.aload_n 0) 1 7 := ⟨by decide +kernel, rfl⟩
theorem d11_7 : D1 jdk_94_method_14_code 7 (.iconst 0) 1 8 := ⟨by decide +kernel, rfl⟩
theorem d11_8 : D1 jdk_94_method_14_code 8 (.putfield 1) 3 11 := ⟨by decide +kernel, rfl⟩
theorem d11_11 : D1 jdk_94_method_14_code 11 (.aload_n 0) 1 12 := ⟨by decide +kernel, rfl⟩
theorem d11_12 : D1 jdk_94_method_14_code 12 (.iconst 0) 1 13 := ⟨by decide +kernel, rfl⟩
theorem d11_13 : D1 jdk_94_method_14_code 13 (.putfield 64) 3 16 := ⟨by decide +kernel, rfl⟩
theorem d11_16 : D1 jdk_94_method_14_code 16 (.return_) 1 17 := ⟨by decide +kernel, rfl⟩
theorem d12_0 : D1 jdk_69_method_5_code 0 (.aload_n 0) 1 1 := ⟨by decide +kernel, rfl⟩
theorem d12_1 : D1 jdk_69_method_5_code 1 (.invokespecial 43) 3 4 := ⟨by decide +kernel, rfl⟩
theorem d12_4 : D1 jdk_69_method_5_code 4 (.iload_n 1) 1 5 := ⟨by decide +kernel, rfl⟩
theorem d12_5 : D1 jdk_69_method_5_code 5 (.ifCond .ge 30) 3 8 := ⟨by decide +kernel, rfl⟩
theorem d12_35 : D1 jdk_69_method_5_code 35 (.iload_n 1) 1 36 := ⟨by decide +kernel, rfl⟩
theorem d12_36 : D1 jdk_69_method_5_code 36 (.ldc 42) 2 38 := ⟨by decide +kernel, rfl⟩
theorem d12_38 : D1 jdk_69_method_5_code 38 (.if_icmp .le 6) 3 41 := ⟨by decide +kernel, rfl⟩
theorem d12_44 : D1 jdk_69_method_5_code 44 (.fload_n 2) 1 45 := ⟨by decide +kernel, rfl⟩
theorem d12_45 : D1 jdk_69_method_5_code 45 (.fconst 0) 1 46 := ⟨by decide +kernel, rfl⟩
theorem d12_46 : D1 jdk_69_method_5_code 46 (.fcmp .g) 1 47 := ⟨by decide +kernel, rfl⟩
theorem d12_47 : D1 jdk_69_method_5_code 47 (.ifCond .le 10) 3 50 := ⟨by decide +kernel, rfl⟩
theorem d12_50 : D1 jdk_69_method_5_code 50 (.fload_n 2) 1 51 := ⟨by decide +kernel, rfl⟩
theorem d12_51 : D1 jdk_69_method_5_code 51 (.invokestatic 70) 3 54 := ⟨by decide +kernel, rfl⟩
theorem d12_54 : D1 jdk_69_method_5_code 54 (.ifCond .eq 30) 3 57 := ⟨by decide +kernel, rfl⟩
theorem d12_84 : D1 jdk_69_method_5_code 84 (.aload_n 0) 1 85 := ⟨by decide +kernel, rfl⟩
theorem d12_85 : D1 jdk_69_method_5_code 85 (.fload_n 2) 1 86 := ⟨by decide +kernel, rfl⟩
theorem d12_86 : D1 jdk_69_method_5_code 86 (.putfield 81) 3 89 := ⟨by decide +kernel, rfl⟩
theorem d12_89 : D1 jdk_69_method_5_code 89 (.aload_n 0) 1 90 := ⟨by decide +kernel, rfl⟩
theorem d12_90 : D1 jdk_69_method_5_code 90 (.iload_n 1) 1 91 := ⟨by decide +kernel, rfl⟩
theorem d12_91 : D1 jdk_69_method_5_code 91 (.invokestatic 85) 3 94 := ⟨by decide +kernel, rfl⟩
theorem d12_94 : D1 jdk_69_method_5_code 94 (.putfield 88) 3 97 := ⟨by decide +kernel, rfl⟩
theorem d12_97 : D1 jdk_69_method_5_code 97 (.return_) 1 98 := ⟨by decide +kernel, rfl⟩
theorem d13_0 : D1 jdk_71_method_1_code 0 (.aload_n 0) 1 1 := ⟨by decide +kernel, rfl⟩
theorem d13_1 : D1 jdk_71_method_1_code 1 (.invokespecial 1) 3 4 := ⟨by decide +kernel, rfl⟩
theorem d13_4 : D1 jdk_71_method_1_code 4 (.return_) 1 5 := ⟨by decide +kernel, rfl⟩
theorem d14_0 : D1 jdk_118_method_6_code 0 (.fload_n 0) 1 1 := ⟨by decide +kernel, rfl⟩
theorem d14_1 : D1 jdk_118_method_6_code 1 (.fload_n 0) 1 2 := ⟨by decide +kernel, rfl⟩
theorem d14_2 : D1 jdk_118_method_6_code 2 (.fcmp .l) 1 3 := ⟨by decide +kernel, rfl⟩
theorem d14_3 : D1 jdk_118_method_6_code 3 (.ifCond .eq 7) 3 6 := ⟨by decide +kernel, rfl⟩
theorem d14_10 : D1 jdk_118_method_6_code 10 (.iconst 0) 1 11 := ⟨by decide +kernel, rfl⟩
theorem d14_11 : D1 jdk_118_method_6_code 11 (.ireturn) 1 12 := ⟨by decide +kernel, rfl⟩
theorem d15_0 : D1 jdk_69_method_4_code 0 (.iconst (-1)) 1 1 := ⟨by decide +kernel, rfl⟩
theorem d15_1 : D1 jdk_69_method_4_code 1 (.iload_n 0) 1 2 := ⟨by decide +kernel, rfl⟩
theorem d15_2 : D1 jdk_69_method_4_code 2 (.iconst 1) 1 3 := ⟨by decide +kernel, rfl⟩
theorem d15_3 : D1 jdk_69_method_4_code 3 (.isub) 1 4 := ⟨by decide +kernel, rfl⟩
theorem d15_4 : D1 jdk_69_method_4_code 4 (.invokestatic 34) 3 7 := ⟨by decide +kernel, rfl⟩
theorem d15_7 : D1 jdk_69_method_4_code 7 (.iushr) 1 8 := ⟨by decide +kernel, rfl⟩
theorem d15_8 : D1 jdk_69_method_4_code 8 (.istore_n 1) 1 9 := ⟨by decide +kernel, rfl⟩
theorem d15_9 : D1 jdk_69_method_4_code 9 (.iload_n 1) 1 10 := ⟨by decide +kernel, rfl⟩
theorem d15_10 : D1 jdk_69_method_4_code 10 (.ifCond .ge 7) 3 13 := ⟨by decide +kernel, rfl⟩
theorem d15_17 : D1 jdk_69_method_4_code 17 (.iload_n 1) 1 18 := ⟨by decide +kernel, rfl⟩
theorem d15_18 : D1 jdk_69_method_4_code 18 (.ldc 42) 2 20 := ⟨by decide +kernel, rfl⟩
theorem d15_20 : D1 jdk_69_method_4_code 20 (.if_icmp .lt 8) 3 23 := ⟨by decide +kernel, rfl⟩
theorem d15_28 : D1 jdk_69_method_4_code 28 (.iload_n 1) 1 29 := ⟨by decide +kernel, rfl⟩
theorem d15_29 : D1 jdk_69_method_4_code 29 (.iconst 1) 1 30 := ⟨by decide +kernel, rfl⟩
theorem d15_30 : D1 jdk_69_method_4_code 30 (.iadd) 1 31 := ⟨by decide +kernel, rfl⟩
theorem d15_31 : D1 jdk_69_method_4_code 31 (.ireturn) 1 32 := ⟨by decide +kernel, rfl⟩
theorem d16_0 : D1 jdk_33_method_47_code 0 (.iload_n 0) 1 1 := ⟨by decide +kernel, rfl⟩
theorem d16_1 : D1 jdk_33_method_47_code 1 (.ifCond .gt 14) 3 4 := ⟨by decide +kernel, rfl⟩
theorem d16_15 : D1 jdk_33_method_47_code 15 (.bipush 31) 2 17 := ⟨by decide +kernel, rfl⟩
theorem d16_17 : D1 jdk_33_method_47_code 17 (.istore_n 1) 1 18 := ⟨by decide +kernel, rfl⟩
theorem d16_18 : D1 jdk_33_method_47_code 18 (.iload_n 0) 1 19 := ⟨by decide +kernel, rfl⟩
theorem d16_19 : D1 jdk_33_method_47_code 19 (.ldc_w 264) 3 22 := ⟨by decide +kernel, rfl⟩
theorem d16_22 : D1 jdk_33_method_47_code 22 (.if_icmp .lt 11) 3 25 := ⟨by decide +kernel, rfl⟩
theorem d16_33 : D1 jdk_33_method_47_code 33 (.iload_n 0) 1 34 := ⟨by decide +kernel, rfl⟩
theorem d16_34 : D1 jdk_33_method_47_code 34 (.sipush 256) 3 37 := ⟨by decide +kernel, rfl⟩
theorem d16_37 : D1 jdk_33_method_47_code 37 (.if_icmp .lt 11) 3 40 := ⟨by decide +kernel, rfl⟩
theorem d16_48 : D1 jdk_33_method_47_code 48 (.iload_n 0) 1 49 := ⟨by decide +kernel, rfl⟩
theorem d16_49 : D1 jdk_33_method_47_code 49 (.bipush 16) 2 51 := ⟨by decide +kernel, rfl⟩
theorem d16_51 : D1 jdk_33_method_47_code 51 (.if_icmp .lt 10) 3 54 := ⟨by decide +kernel, rfl⟩
theorem d16_61 : D1 jdk_33_method_47_code 61 (.iload_n 0) 1 62 := ⟨by decide +kernel, rfl⟩
theorem d16_62 : D1 jdk_33_method_47_code 62 (.iconst 4) 1 63 := ⟨by decide +kernel, rfl⟩
theorem d16_63 : D1 jdk_33_method_47_code 63 (.if_icmp .lt 10) 3 66 := ⟨by decide +kernel, rfl⟩
theorem d16_66 : D1 jdk_33_method_47_code 66 (.iinc 1 (-2)) 3 69 := ⟨by decide +kernel, rfl⟩
theorem d16_69 : D1 jdk_33_method_47_code 69 (.iload_n 0) 1 70 := ⟨by decide +kernel, rfl⟩
theorem d16_70 : D1 jdk_33_method_47_code 70 (.iconst 2) 1 71 := ⟨by decide +kernel, rfl⟩
theorem d16_71 : D1 jdk_33_method_47_code 71 (.iushr) 1 72 := ⟨by decide +kernel, rfl⟩
theorem d16_72 : D1 jdk_33_method_47_code 72 (.istore_n 0) 1 73 := ⟨by decide +kernel, rfl⟩
theorem d16_73 : D1 jdk_33_method_47_code 73 (.iload_n 1) 1 74 := ⟨by decide +kernel, rfl⟩
theorem d16_74 : D1 jdk_33_method_47_code 74 (.iload_n 0) 1 75 := ⟨by decide +kernel, rfl⟩
theorem d16_75 : D1 jdk_33_method_47_code 75 (.iconst 1) 1 76 := ⟨by decide +kernel, rfl⟩
theorem d16_76 : D1 jdk_33_method_47_code 76 (.iushr) 1 77 := ⟨by decide +kernel, rfl⟩
theorem d16_77 : D1 jdk_33_method_47_code 77 (.isub) 1 78 := ⟨by decide +kernel, rfl⟩
theorem d16_78 : D1 jdk_33_method_47_code 78 (.ireturn) 1 79 := ⟨by decide +kernel, rfl⟩
def ns1 : List Nm := [("java/util/HashMap", "loadFactor", "F"), ("java/util/HashMap", "threshold", "I"), ("java/util/LinkedHashMap", "putMode", "I"), ("java/util/LinkedHashMap", "accessOrder", "Z"), ("java/util/HashMap", "size", "I"), ("java/util/AbstractMap", "keySet", "Ljava/util/Set;"), ("java/util/LinkedHashMap", "head", "Ljava/util/LinkedHashMap$Entry;"), ("java/util/HashMap", "modCount", "I")]
theorem lay1 {a0 : Array Value} {Z : State} (G : Gl a0 Z) : LayC Z a0 "java/util/LinkedHashMap" ns1 := LayC.of (fun q hq => by
  simp only [ns1, List.mem_cons, List.not_mem_nil, or_false] at hq
  rcases hq with rfl | rfl | rfl | rfl | rfl | rfl | rfl | rfl
  · exact Or.inr (G.1 _ (List.mem_of_getElem? (i := 95) rfl))
  · exact Or.inl (G.1 _ (List.mem_of_getElem? (i := 105) rfl))
  · exact Or.inl (G.1 _ (List.mem_of_getElem? (i := 107) rfl))
  · exact Or.inr (G.1 _ (List.mem_of_getElem? (i := 109) rfl))
  · exact Or.inl (G.1 _ (List.mem_of_getElem? (i := 265) rfl))
  · exact Or.inl (G.1 _ (List.mem_of_getElem? (i := 311) rfl))
  · exact Or.inl (G.1 _ (List.mem_of_getElem? (i := 354) rfl))
  · exact Or.inl (G.1 _ (List.mem_of_getElem? (i := 359) rfl))) (by decide +kernel) (fun q hq => by
  simp only [ns1, List.mem_cons, List.not_mem_nil, or_false] at hq
  rcases hq with rfl | rfl | rfl | rfl | rfl | rfl | rfl | rfl
  · exact ⟨.float, by decide +kernel⟩
  · exact ⟨.int, by decide +kernel⟩
  · exact ⟨.int, by decide +kernel⟩
  · exact ⟨.boolean, by decide +kernel⟩
  · exact ⟨.int, by decide +kernel⟩
  · exact ⟨(.object "java/util/Set"), by decide +kernel⟩
  · exact ⟨(.object "java/util/LinkedHashMap$Entry"), by decide +kernel⟩
  · exact ⟨.int, by decide +kernel⟩)
theorem df1 : dfl ns1 = ([.float 0, .int 0, .int 0, .int 0, .int 0, .null, .null, .int 0] : List Value).map some := by decide +kernel
def ns2 : List Nm := [("java/util/HashSet", "map", "Ljava/util/HashMap;")]
theorem lay2 {a0 : Array Value} {Z : State} (G : Gl a0 Z) : LayC Z a0 "java/util/LinkedHashSet" ns2 := LayC.of (fun q hq => by
  simp only [ns2, List.mem_cons, List.not_mem_nil, or_false] at hq
  rcases hq with rfl
  · exact Or.inl (G.1 _ (List.mem_of_getElem? (i := 111) rfl))) (by decide +kernel) (fun q hq => by
  simp only [ns2, List.mem_cons, List.not_mem_nil, or_false] at hq
  rcases hq with rfl
  · exact ⟨(.object "java/util/HashMap"), by decide +kernel⟩)
theorem df2 : dfl ns2 = ([.null] : List Value).map some := by decide +kernel
theorem pd4 : parseMethodDescriptor "()V" = some ⟨[], none⟩ := by decide +kernel
theorem pd5 : parseMethodDescriptor "(I)I" = some ⟨[.int], some .int⟩ := by decide +kernel
theorem pd6 : parseMethodDescriptor "(F)Z" = some ⟨[.float], some .boolean⟩ := by decide +kernel
theorem pd7 : parseMethodDescriptor "(IF)V" = some ⟨[.int, .float], none⟩ := by decide +kernel
theorem pd8 : parseMethodDescriptor "(IFZ)V" = some ⟨[.int, .float, .boolean], none⟩ := by decide +kernel
theorem pf2 : parseFieldDescriptor "F" = some .float := by decide +kernel
theorem pf3 : parseFieldDescriptor "I" = some .int := by decide +kernel
theorem pf4 : parseFieldDescriptor "Z" = some .boolean := by decide +kernel
theorem pf5 : parseFieldDescriptor "Ljava/util/HashMap;" = some (.object "java/util/HashMap") := by decide +kernel
set_option maxRecDepth 65536 in
set_option maxHeartbeats 4000000 in
theorem c_ac (l : Launch) {Z : State} {a0 : Array Value} (G : Gl a0 Z) {L : List Ent} {a : Addr} : Ct WD EL0 l Z (⟨"java/util/AbstractCollection", "<init>", "()V"⟩ : MethodName) jdk_22_method_1_code 1 none ({ frames := 1, cells := 0, slots := 0, locals := 12 } : Room) #[.ref a] L (r0Q (fun M => M = L)) := by
  refine Ct.intro (by decide +kernel) G.2.1 ?_
  intro p e s m below meth c X
  replace X : Cx WD EL0 p Z s m meth c "java/util/AbstractCollection" "<init>" jdk_22_method_1_code 1 none := X
  refine Go.cast (g' := mkF m 0 #[.val (.ref a)] []) (by first | rfl | (simp [entryFrame, mkF, argsToLocals, Value.category, maxLocals]; done)) ?_
  refine Go.aloadN X d10_0 rfl rfl ?_
  refine Go.initObj X (w68 G) (w12 G) (w13 G) d10_1 rfl (Nat.le_of_ble_eq_true rfl) (Nat.le_of_ble_eq_true rfl) ?_
  exact Go.ret0 X d10_4 (by first | exact Nat.le_of_ble_eq_true rfl | (simp; done) | (simp; omega)) (by first | exact Nat.le_of_ble_eq_true rfl | (simp; done) | (simp; omega)) rfl
set_option maxRecDepth 65536 in
set_option maxHeartbeats 4000000 in
theorem c_as (l : Launch) {Z : State} {a0 : Array Value} (G : Gl a0 Z) {L : List Ent} {a : Addr} : Ct WD EL0 l Z (⟨"java/util/AbstractSet", "<init>", "()V"⟩ : MethodName) jdk_91_method_1_code 1 none ({ frames := 2, cells := 0, slots := 0, locals := 24 } : Room) #[.ref a] L (r0Q (fun M => M = L)) := by
  refine Ct.intro (by decide +kernel) G.2.1 ?_
  intro p e s m below meth c X
  replace X : Cx WD EL0 p Z s m meth c "java/util/AbstractSet" "<init>" jdk_91_method_1_code 1 none := X
  refine Go.cast (g' := mkF m 0 #[.val (.ref a)] []) (by first | rfl | (simp [entryFrame, mkF, argsToLocals, Value.category, maxLocals]; done)) ?_
  refine Go.aloadN X d9_0 rfl rfl ?_
  refine Go.callI X (c_ac l G) rfl (rest := []) (w62 G) (w63 G) (w66 G) (w67 G) (by decide) pd4 rfl rfl d9_1 rfl (by first | exact Nat.le_of_ble_eq_true rfl | (simp; done) | (simp; omega)) (by first | exact Nat.le_of_ble_eq_true rfl | (simp; done) | (simp; omega)) (by first | exact Nat.le_of_ble_eq_true rfl | (simp; done) | (simp; omega)) (by first | exact Nat.le_of_ble_eq_true rfl | (simp; done) | (simp; omega)) (K0 ?_)
  rintro M rfl
  exact Go.ret0 X d9_4 (by first | exact Nat.le_of_ble_eq_true rfl | (simp; done) | (simp; omega)) (by first | exact Nat.le_of_ble_eq_true rfl | (simp; done) | (simp; omega)) rfl
set_option maxRecDepth 65536 in
set_option maxHeartbeats 4000000 in
theorem c_am (l : Launch) {Z : State} {a0 : Array Value} (G : Gl a0 Z) {L : List Ent} {a : Addr} : Ct WD EL0 l Z (⟨"java/util/AbstractMap", "<init>", "()V"⟩ : MethodName) jdk_71_method_1_code 1 none ({ frames := 1, cells := 0, slots := 0, locals := 12 } : Room) #[.ref a] L (r0Q (fun M => M = L)) := by
  refine Ct.intro (by decide +kernel) G.2.1 ?_
  intro p e s m below meth c X
  replace X : Cx WD EL0 p Z s m meth c "java/util/AbstractMap" "<init>" jdk_71_method_1_code 1 none := X
  refine Go.cast (g' := mkF m 0 #[.val (.ref a)] []) (by first | rfl | (simp [entryFrame, mkF, argsToLocals, Value.category, maxLocals]; done)) ?_
  refine Go.aloadN X d13_0 rfl rfl ?_
  refine Go.initObj X (w88 G) (w12 G) (w13 G) d13_1 rfl (Nat.le_of_ble_eq_true rfl) (Nat.le_of_ble_eq_true rfl) ?_
  exact Go.ret0 X d13_4 (by first | exact Nat.le_of_ble_eq_true rfl | (simp; done) | (simp; omega)) (by first | exact Nat.le_of_ble_eq_true rfl | (simp; done) | (simp; omega)) rfl
set_option maxRecDepth 65536 in
set_option maxHeartbeats 4000000 in
theorem f_nan (l : Launch) {Z : State} {a0 : Array Value} (G : Gl a0 Z) {L : List Ent} : Ct WD EL0 l Z (⟨"java/lang/Float", "isNaN", "(F)Z"⟩ : MethodName) jdk_118_method_6_code 1 (some .boolean) ({ frames := 0, cells := 0, slots := 0, locals := 0 } : Room) #[.float 1061158912] L (rvQ (fun v M => v = .int 0 ∧ M = L)) := by
  refine Ct.intro (by decide +kernel) G.2.1 ?_
  intro p e s m below meth c X
  replace X : Cx WD EL0 p Z s m meth c "java/lang/Float" "isNaN" jdk_118_method_6_code 1 (some .boolean) := X
  refine Go.cast (g' := mkF m 0 #[.val (.float 1061158912)] []) (by first | rfl | (simp [entryFrame, mkF, argsToLocals, Value.category, maxLocals]; done)) ?_
  refine Go.floadN X d14_0 rfl ?_
  refine Go.floadN X d14_1 rfl ?_
  refine Go.fcmp X (v := 0) d14_2 (by decide +kernel) ?_
  refine Go.ifc X d14_3 (pt := 10) ⟨by decide, by decide⟩ ?_ ?_
  rotate_left
  · intro q; exact absurd rfl q
  intro _
  refine Go.iconst X (v := 0) d14_10 (by decide) ?_
  exact Go.zret X d14_11 (Or.inl rfl) (by first | exact Nat.le_of_ble_eq_true rfl | (simp; done) | (simp; omega)) (by first | exact Nat.le_of_ble_eq_true rfl | (simp; done) | (simp; omega)) ⟨rfl, rfl⟩
set_option maxRecDepth 65536 in
set_option maxHeartbeats 4000000 in
theorem i_nlz (l : Launch) {Z : State} {a0 : Array Value} (G : Gl a0 Z) {L : List Ent} : Ct WD EL0 l Z (⟨"java/lang/Integer", "numberOfLeadingZeros", "(I)I"⟩ : MethodName) jdk_33_method_47_code 2 (some .int) ({ frames := 0, cells := 0, slots := 0, locals := 0 } : Room) #[.int 15] L (rvQ (fun v M => v = .int 28 ∧ M = L)) := by
  refine Ct.intro (by decide +kernel) G.2.1 ?_
  intro p e s m below meth c X
  replace X : Cx WD EL0 p Z s m meth c "java/lang/Integer" "numberOfLeadingZeros" jdk_33_method_47_code 2 (some .int) := X
  refine Go.cast (g' := mkF m 0 #[.val (.int 15), .unset] []) (by first | rfl | (simp [entryFrame, mkF, argsToLocals, Value.category, maxLocals]; done)) ?_
  refine Go.iloadN X d16_0 rfl ?_
  refine Go.ifc X d16_1 (pt := 15) ⟨by decide, by decide⟩ ?_ ?_
  rotate_left
  · intro q; exact absurd (show (0 : Int32) < 15 by decide) q
  intro _
  refine Go.bipush X (v := 31) d16_15 (by decide) ?_
  refine Go.istoreN X d16_17 rfl ?_
  refine Go.iloadN X d16_18 rfl ?_
  refine Go.ldcwI X (w103 G) d16_19 ?_
  refine Go.icmp X d16_22 (pt := 33) ⟨by decide, by decide⟩ ?_ ?_
  rotate_left
  · intro q; exact absurd (show (15 : Int32) < 65536 by decide) q
  intro _
  refine Go.iloadN X d16_33 rfl ?_
  refine Go.sipush X (v := 256) d16_34 (by decide) ?_
  refine Go.icmp X d16_37 (pt := 48) ⟨by decide, by decide⟩ ?_ ?_
  rotate_left
  · intro q; exact absurd (show (15 : Int32) < 256 by decide) q
  intro _
  refine Go.iloadN X d16_48 rfl ?_
  refine Go.bipush X (v := 16) d16_49 (by decide) ?_
  refine Go.icmp X d16_51 (pt := 61) ⟨by decide, by decide⟩ ?_ ?_
  rotate_left
  · intro q; exact absurd (show (15 : Int32) < 16 by decide) q
  intro _
  refine Go.iloadN X d16_61 rfl ?_
  refine Go.iconst X (v := 4) d16_62 (by decide) ?_
  refine Go.icmp X d16_63 (pt := 73) ⟨by decide, by decide⟩ ?_ ?_
  · intro q; exact absurd (show (15 : Int32) < 4 from q) (by decide)
  intro _
  refine Go.iinc X d16_66 rfl rfl ?_
  refine Go.iloadN X d16_69 rfl ?_
  refine Go.iconst X (v := 2) d16_70 (by decide) ?_
  refine Go.iushr X d16_71 ?_
  refine Go.istoreN X d16_72 rfl ?_
  refine Go.iloadN X d16_73 rfl ?_
  refine Go.iloadN X d16_74 rfl ?_
  refine Go.iconst X (v := 1) d16_75 (by decide) ?_
  refine Go.iushr X d16_76 ?_
  refine Go.isub X d16_77 ?_
  exact Go.iret X d16_78 (by first | exact Nat.le_of_ble_eq_true rfl | (simp; done) | (simp; omega)) (by first | exact Nat.le_of_ble_eq_true rfl | (simp; done) | (simp; omega)) ⟨by decide +kernel, rfl⟩
set_option maxRecDepth 65536 in
set_option maxHeartbeats 4000000 in
theorem h_tsf (l : Launch) {Z : State} {a0 : Array Value} (G : Gl a0 Z) {L : List Ent} : Ct WD EL0 l Z (⟨"java/util/HashMap", "tableSizeFor", "(I)I"⟩ : MethodName) jdk_69_method_4_code 2 (some .int) ({ frames := 1, cells := 0, slots := 0, locals := 14 } : Room) #[.int 16] L (rvQ (fun v M => v = .int 16 ∧ M = L)) := by
  refine Ct.intro (by decide +kernel) G.2.1 ?_
  intro p e s m below meth c X
  replace X : Cx WD EL0 p Z s m meth c "java/util/HashMap" "tableSizeFor" jdk_69_method_4_code 2 (some .int) := X
  refine Go.cast (g' := mkF m 0 #[.val (.int 16), .unset] []) (by first | rfl | (simp [entryFrame, mkF, argsToLocals, Value.category, maxLocals]; done)) ?_
  refine Go.iconst X (v := (-1)) d15_0 (by decide) ?_
  refine Go.iloadN X d15_1 rfl ?_
  refine Go.iconst X (v := 1) d15_2 (by decide) ?_
  refine Go.isub X d15_3 ?_
  rw [show (16 : Int32) - 1 = 15 from by decide]
  refine Go.callS X (i_nlz l G) (rest := [.int (-1)]) (w99 G) (w100 G) (w101 G) (w102 G) (by decide) pd5 rfl rfl d15_4 rfl (by first | exact Nat.le_of_ble_eq_true rfl | (simp; done) | (simp; omega)) (by first | exact Nat.le_of_ble_eq_true rfl | (simp; done) | (simp; omega)) (by first | exact Nat.le_of_ble_eq_true rfl | (simp; done) | (simp; omega)) (by first | exact Nat.le_of_ble_eq_true rfl | (simp; done) | (simp; omega)) (Kv ?_)
  rintro v M ⟨rfl, rfl⟩
  refine Go.iushr X d15_7 ?_
  rw [show XT.ushr (-1) 28 = (15 : Int32) from by decide +kernel]
  refine Go.istoreN X d15_8 rfl ?_
  refine Go.iloadN X d15_9 rfl ?_
  refine Go.ifc X d15_10 (pt := 17) ⟨by decide, by decide⟩ ?_ ?_
  rotate_left
  · intro q; exact absurd (show (0 : Int32) ≤ 15 by decide) q
  intro _
  refine Go.iloadN X d15_17 rfl ?_
  refine Go.ldcI X (w89 G) d15_18 ?_
  refine Go.icmp X d15_20 (pt := 28) ⟨by decide, by decide⟩ ?_ ?_
  rotate_left
  · intro q; exact absurd (show (15 : Int32) < 1073741824 by decide) q
  intro _
  refine Go.iloadN X d15_28 rfl ?_
  refine Go.iconst X (v := 1) d15_29 (by decide) ?_
  refine Go.iadd X d15_30 ?_
  exact Go.iret X d15_31 (by first | exact Nat.le_of_ble_eq_true rfl | (simp; done) | (simp; omega)) (by first | exact Nat.le_of_ble_eq_true rfl | (simp; done) | (simp; omega)) ⟨by decide, rfl⟩
set_option maxRecDepth 65536 in
set_option maxHeartbeats 4000000 in
theorem h_init (l : Launch) {Z : State} {a0 : Array Value} (G : Gl a0 Z) {L : List Ent} {a : Addr} : Ct WD EL0 l Z (⟨"java/util/HashMap", "<init>", "(IF)V"⟩ : MethodName) jdk_69_method_5_code 3 none ({ frames := 2, cells := 0, slots := 0, locals := 28 } : Room) #[.ref a, .int 16, .float 1061158912] (ow a (Ob Z "java/util/LinkedHashMap" ns1 [.float 0, .int 0, .int 0, .int 0, .int 0, .null, .null, .int 0]) :: L) (r0Q (fun M => M = ow a (Ob Z "java/util/LinkedHashMap" ns1 [.float 1061158912, .int 16, .int 0, .int 0, .int 0, .null, .null, .int 0]) :: L)) := by
  refine Ct.intro (by decide +kernel) G.2.1 ?_
  intro p e s m below meth c X
  replace X : Cx WD EL0 p Z s m meth c "java/util/HashMap" "<init>" jdk_69_method_5_code 3 none := X
  refine Go.cast (g' := mkF m 0 #[.val (.ref a), .val (.int 16), .val (.float 1061158912)] []) (by first | rfl | (simp [entryFrame, mkF, argsToLocals, Value.category, maxLocals]; done)) ?_
  refine Go.aloadN X d12_0 rfl rfl ?_
  refine Go.callI X (c_am l G) rfl (rest := []) (w82 G) (w83 G) (w86 G) (w87 G) (by decide) pd4 rfl rfl d12_1 rfl (by first | exact Nat.le_of_ble_eq_true rfl | (simp; done) | (simp; omega)) (by first | exact Nat.le_of_ble_eq_true rfl | (simp; done) | (simp; omega)) (by first | exact Nat.le_of_ble_eq_true rfl | (simp; done) | (simp; omega)) (by first | exact Nat.le_of_ble_eq_true rfl | (simp; done) | (simp; omega)) (K0 ?_)
  rintro M rfl
  refine Go.iloadN X d12_4 rfl ?_
  refine Go.ifc X d12_5 (pt := 35) ⟨by decide, by decide⟩ ?_ ?_
  rotate_left
  · intro q; exact absurd (show (0 : Int32) ≤ 16 by decide) q
  intro _
  refine Go.iloadN X d12_35 rfl ?_
  refine Go.ldcI X (w89 G) d12_36 ?_
  refine Go.icmp X d12_38 (pt := 44) ⟨by decide, by decide⟩ ?_ ?_
  rotate_left
  · intro q; exact absurd (show (16 : Int32) ≤ 1073741824 by decide) q
  intro _
  refine Go.floadN X d12_44 rfl ?_
  refine Go.fconst0 X (v := 0) d12_45 (by decide +kernel) ?_
  refine Go.fcmp X (v := 1) d12_46 (by decide +kernel) ?_
  refine Go.ifc X d12_47 (pt := 57) ⟨by decide, by decide⟩ ?_ ?_
  · intro q; exact absurd (show (1 : Int32) ≤ 0 from q) (by decide)
  intro _
  refine Go.floadN X d12_50 rfl ?_
  refine Go.callS X (f_nan l G) (rest := []) (w90 G) (w91 G) (w92 G) (w93 G) (by decide) pd6 rfl rfl d12_51 rfl (by first | exact Nat.le_of_ble_eq_true rfl | (simp; done) | (simp; omega)) (by first | exact Nat.le_of_ble_eq_true rfl | (simp; done) | (simp; omega)) (by first | exact Nat.le_of_ble_eq_true rfl | (simp; done) | (simp; omega)) (by first | exact Nat.le_of_ble_eq_true rfl | (simp; done) | (simp; omega)) (Kv ?_)
  rintro v M ⟨rfl, rfl⟩
  refine Go.ifc X d12_54 (pt := 84) ⟨by decide, by decide⟩ ?_ ?_
  rotate_left
  · intro q; exact absurd rfl q
  intro _
  refine Go.aloadN X d12_84 rfl rfl ?_
  refine Go.floadN X d12_85 rfl ?_
  refine Go.putFld X (i := 0) rfl (j := 0) rfl (lay1 G) (w94 G) Via.refl (Or.inr ⟨(w95 G), rfl, rfl⟩) (w70 G) pf2 d12_86 (by rfl) (by rfl) ?_
  refine Go.aloadN X d12_89 rfl rfl ?_
  refine Go.iloadN X d12_90 rfl ?_
  refine Go.callS X (h_tsf l G) (rest := [.ref a]) (w96 G) (w97 G) (w80 G) (w98 G) (by decide) pd5 rfl rfl d12_91 rfl (by first | exact Nat.le_of_ble_eq_true rfl | (simp; done) | (simp; omega)) (by first | exact Nat.le_of_ble_eq_true rfl | (simp; done) | (simp; omega)) (by first | exact Nat.le_of_ble_eq_true rfl | (simp; done) | (simp; omega)) (by first | exact Nat.le_of_ble_eq_true rfl | (simp; done) | (simp; omega)) (Kv ?_)
  rintro v M ⟨rfl, rfl⟩
  refine Go.putFld X (i := 0) rfl (j := 1) rfl (lay1 G) (w104 G) Via.refl (Or.inl (w105 G)) (w70 G) pf3 d12_94 (by rfl) (by rfl) ?_
  exact Go.ret0 X d12_97 (by first | exact Nat.le_of_ble_eq_true rfl | (simp; done) | (simp; omega)) (by first | exact Nat.le_of_ble_eq_true rfl | (simp; done) | (simp; omega)) rfl
set_option maxRecDepth 65536 in
set_option maxHeartbeats 4000000 in
theorem m_init (l : Launch) {Z : State} {a0 : Array Value} (G : Gl a0 Z) {L : List Ent} {a : Addr} : Ct WD EL0 l Z (⟨"java/util/LinkedHashMap", "<init>", "(IF)V"⟩ : MethodName) jdk_94_method_14_code 3 none ({ frames := 3, cells := 0, slots := 0, locals := 42 } : Room) #[.ref a, .int 16, .float 1061158912] (ow a (Ob Z "java/util/LinkedHashMap" ns1 [.float 0, .int 0, .int 0, .int 0, .int 0, .null, .null, .int 0]) :: L) (r0Q (fun M => M = ow a (Ob Z "java/util/LinkedHashMap" ns1 [.float 1061158912, .int 16, .int 0, .int 0, .int 0, .null, .null, .int 0]) :: L)) := by
  refine Ct.intro (by decide +kernel) G.2.1 ?_
  intro p e s m below meth c X
  replace X : Cx WD EL0 p Z s m meth c "java/util/LinkedHashMap" "<init>" jdk_94_method_14_code 3 none := X
  refine Go.cast (g' := mkF m 0 #[.val (.ref a), .val (.int 16), .val (.float 1061158912)] []) (by first | rfl | (simp [entryFrame, mkF, argsToLocals, Value.category, maxLocals]; done)) ?_
  refine Go.aloadN X d11_0 rfl rfl ?_
  refine Go.iloadN X d11_1 rfl ?_
  refine Go.floadN X d11_2 rfl ?_
  refine Go.callI X (h_init l G (a := a)) rfl (rest := []) (w76 G) (w77 G) (w80 G) (w81 G) (by decide) pd7 rfl rfl d11_3 rfl (by first | exact Nat.le_of_ble_eq_true rfl | (simp; done) | (simp; omega)) (by first | exact Nat.le_of_ble_eq_true rfl | (simp; done) | (simp; omega)) (by first | exact Nat.le_of_ble_eq_true rfl | (simp; done) | (simp; omega)) (by first | exact Nat.le_of_ble_eq_true rfl | (simp; done) | (simp; omega)) (K0 ?_)
  rintro M rfl
  refine Go.aloadN X d11_6 rfl rfl ?_
  refine Go.iconst X (v := 0) d11_7 (by decide) ?_
  refine Go.putFld X (i := 0) rfl (j := 2) rfl (lay1 G) (w106 G) Via.refl (Or.inl (w107 G)) (w70 G) pf3 d11_8 (by rfl) (by rfl) ?_
  refine Go.aloadN X d11_11 rfl rfl ?_
  refine Go.iconst X (v := 0) d11_12 (by decide) ?_
  refine Go.putFld X (i := 0) rfl (j := 3) rfl (lay1 G) (w108 G) Via.refl (Or.inr ⟨(w109 G), rfl, rfl⟩) (w70 G) pf4 d11_13 (by rfl) (by rfl) ?_
  exact Go.ret0 X d11_16 (by first | exact Nat.le_of_ble_eq_true rfl | (simp; done) | (simp; omega)) (by first | exact Nat.le_of_ble_eq_true rfl | (simp; done) | (simp; omega)) rfl
set_option maxRecDepth 65536 in
set_option maxHeartbeats 4000000 in
theorem s_hinit (l : Launch) {Z : State} {a0 : Array Value} (G : Gl a0 Z) {L : List Ent} {a : Addr} : Ct WD EL0 l Z (⟨"java/util/HashSet", "<init>", "(IFZ)V"⟩ : MethodName) jdk_93_method_5_code 4 none ({ frames := 4, cells := 1, slots := 12, locals := 58 } : Room) #[.ref a, .int 16, .float 1061158912, .int 1] (ow a (Ob Z "java/util/LinkedHashSet" ns2 [.null]) :: L) (r0Q (fun M => ∃ lm, M = ow lm (Ob Z "java/util/LinkedHashMap" ns1 [.float 1061158912, .int 16, .int 0, .int 0, .int 0, .null, .null, .int 0]) :: ow a (Ob Z "java/util/LinkedHashSet" ns2 [.ref lm]) :: L)) := by
  refine Ct.intro (by decide +kernel) G.2.1 ?_
  intro p e s m below meth c X
  replace X : Cx WD EL0 p Z s m meth c "java/util/HashSet" "<init>" jdk_93_method_5_code 4 none := X
  refine Go.cast (g' := mkF m 0 #[.val (.ref a), .val (.int 16), .val (.float 1061158912), .val (.int 1)] []) (by first | rfl | (simp [entryFrame, mkF, argsToLocals, Value.category, maxLocals]; done)) ?_
  refine Go.aloadN X d8_0 rfl rfl ?_
  refine Go.callI X (c_as l G) rfl (rest := []) (w56 G) (w57 G) (w60 G) (w61 G) (by decide) pd4 rfl rfl d8_1 rfl (by first | exact Nat.le_of_ble_eq_true rfl | (simp; done) | (simp; omega)) (by first | exact Nat.le_of_ble_eq_true rfl | (simp; done) | (simp; omega)) (by first | exact Nat.le_of_ble_eq_true rfl | (simp; done) | (simp; omega)) (by first | exact Nat.le_of_ble_eq_true rfl | (simp; done) | (simp; omega)) (K0 ?_)
  rintro M rfl
  refine Go.aloadN X d8_4 rfl rfl ?_
  refine Go.new X (w69 G) (w70 G) (w71 G) (lay1 G) df1 d8_5 (by first | exact Nat.le_of_ble_eq_true rfl | (simp; done) | (simp; omega)) (by first | exact Nat.le_of_ble_eq_true rfl | (simp; done) | (simp; omega)) ?_
  intro lm
  refine Go.dup X d8_8 rfl ?_
  refine Go.iloadN X d8_9 rfl ?_
  refine Go.floadN X d8_10 rfl ?_
  refine Go.callI X (m_init l G (a := lm)) rfl (rest := [.ref lm, .ref a]) (w72 G) (w73 G) (w71 G) (w75 G) (by decide) pd7 rfl rfl d8_11 rfl (by first | exact Nat.le_of_ble_eq_true rfl | (simp; done) | (simp; omega)) (by first | exact Nat.le_of_ble_eq_true rfl | (simp; done) | (simp; omega)) (by first | exact Nat.le_of_ble_eq_true rfl | (simp; done) | (simp; omega)) (by first | exact Nat.le_of_ble_eq_true rfl | (simp; done) | (simp; omega)) (K0 ?_)
  rintro M rfl
  refine Go.putFld X (i := 1) rfl (j := 0) rfl (lay2 G) (w110 G) Via.refl (Or.inl (w111 G)) (w44 G) pf5 d8_14 (by rfl) (by rfl) ?_
  exact Go.ret0 X d8_17 (by first | exact Nat.le_of_ble_eq_true rfl | (simp; done) | (simp; omega)) (by first | exact Nat.le_of_ble_eq_true rfl | (simp; done) | (simp; omega)) ⟨lm, rfl⟩
set_option maxRecDepth 65536 in
set_option maxHeartbeats 4000000 in
theorem s_linit (l : Launch) {Z : State} {a0 : Array Value} (G : Gl a0 Z) {L : List Ent} {a : Addr} : Ct WD EL0 l Z (⟨"java/util/LinkedHashSet", "<init>", "()V"⟩ : MethodName) jdk_2620_method_3_code 1 none ({ frames := 5, cells := 1, slots := 12, locals := 73 } : Room) #[.ref a] (ow a (Ob Z "java/util/LinkedHashSet" ns2 [.null]) :: L) (r0Q (fun M => ∃ lm, M = ow lm (Ob Z "java/util/LinkedHashMap" ns1 [.float 1061158912, .int 16, .int 0, .int 0, .int 0, .null, .null, .int 0]) :: ow a (Ob Z "java/util/LinkedHashSet" ns2 [.ref lm]) :: L)) := by
  refine Ct.intro (by decide +kernel) G.2.1 ?_
  intro p e s m below meth c X
  replace X : Cx WD EL0 p Z s m meth c "java/util/LinkedHashSet" "<init>" jdk_2620_method_3_code 1 none := X
  refine Go.cast (g' := mkF m 0 #[.val (.ref a)] []) (by first | rfl | (simp [entryFrame, mkF, argsToLocals, Value.category, maxLocals]; done)) ?_
  refine Go.aloadN X d7_0 rfl rfl ?_
  refine Go.bipush X (v := 16) d7_1 (by decide) ?_
  refine Go.ldcF X (w49 G) d7_3 ?_
  refine Go.iconst X (v := 1) d7_5 (by decide) ?_
  refine Go.callI X (s_hinit l G (a := a)) rfl (rest := []) (w50 G) (w51 G) (w54 G) (w55 G) (by decide) pd8 rfl rfl d7_6 rfl (by first | exact Nat.le_of_ble_eq_true rfl | (simp; done) | (simp; omega)) (by first | exact Nat.le_of_ble_eq_true rfl | (simp; done) | (simp; omega)) (by first | exact Nat.le_of_ble_eq_true rfl | (simp; done) | (simp; omega)) (by first | exact Nat.le_of_ble_eq_true rfl | (simp; done) | (simp; omega)) (K0 ?_)
  rintro M ⟨lm, rfl⟩
  exact Go.ret0 X d7_9 (by first | exact Nat.le_of_ble_eq_true rfl | (simp; done) | (simp; omega)) (by first | exact Nat.le_of_ble_eq_true rfl | (simp; done) | (simp; omega)) ⟨lm, rfl⟩
-- %%% empty list
theorem w35 {a0 : Array Value} {Z : State} (G : Gl a0 Z) : (Jvm.Cond.fieldLink "java/util/List" (90 : Nat) "java/util/ImmutableCollections" "EMPTY_LIST" "Ljava/util/ImmutableCollections$ListN;").before a0 Z = true := G.1 _ (List.mem_of_getElem? (i := 35) rfl)
theorem w122 {a0 : Array Value} {Z : State} (G : Gl a0 Z) : (Jvm.Cond.classLink "java/util/ImmutableCollections$AbstractImmutableList" (61 : Nat) "java/util/ImmutableCollections$ListItr").before a0 Z = true := G.1 _ (List.mem_of_getElem? (i := 122) rfl)
theorem w123 {a0 : Array Value} {Z : State} (G : Gl a0 Z) : (Jvm.Cond.instantiable "java/util/ImmutableCollections$ListItr" (4 : Nat)).before a0 Z = true := G.1 _ (List.mem_of_getElem? (i := 123) rfl)
theorem w124 {a0 : Array Value} {Z : State} (G : Gl a0 Z) : (Jvm.Cond.initialized "java/util/ImmutableCollections$ListItr").before a0 Z = true := G.1 _ (List.mem_of_getElem? (i := 124) rfl)
theorem w125 {a0 : Array Value} {Z : State} (G : Gl a0 Z) : (Jvm.Cond.methodLink "java/util/ImmutableCollections$AbstractImmutableList" (13 : Nat) ({ cls := "java/util/ImmutableCollections$AbstractImmutableList", name := "size", desc := "()I" } : Jvm.MethodName)).before a0 Z = true := G.1 _ (List.mem_of_getElem? (i := 125) rfl)
theorem w126 {a0 : Array Value} {Z : State} (G : Gl a0 Z) : (Jvm.Cond.sameMethod "java/util/ImmutableCollections$AbstractImmutableList" "java/util/AbstractCollection" "size" "()I").before a0 Z = true := G.1 _ (List.mem_of_getElem? (i := 126) rfl)
theorem w127 {a0 : Array Value} {Z : State} (G : Gl a0 Z) : (Jvm.Cond.declares ({ cls := "java/util/AbstractCollection", name := "size", desc := "()I" } : Jvm.MethodName)).before a0 Z = true := G.1 _ (List.mem_of_getElem? (i := 127) rfl)
theorem w128 {a0 : Array Value} {Z : State} (G : Gl a0 Z) : (Jvm.Cond.selects "java/util/ImmutableCollections$ListN" ({ cls := "java/util/ImmutableCollections$AbstractImmutableList", name := "size", desc := "()I" } : Jvm.MethodName) ({ cls := "java/util/ImmutableCollections$ListN", name := "size", desc := "()I" } : Jvm.MethodName)).before a0 Z = true := G.1 _ (List.mem_of_getElem? (i := 128) rfl)
theorem w129 {a0 : Array Value} {Z : State} (G : Gl a0 Z) : (Jvm.Cond.instanceMethod ({ cls := "java/util/ImmutableCollections$ListN", name := "size", desc := "()I" } : Jvm.MethodName)).before a0 Z = true := G.1 _ (List.mem_of_getElem? (i := 129) rfl)
theorem w130 {a0 : Array Value} {Z : State} (G : Gl a0 Z) : (Jvm.Cond.initialized "java/util/ImmutableCollections$ListN").before a0 Z = true := G.1 _ (List.mem_of_getElem? (i := 130) rfl)
theorem w131 {a0 : Array Value} {Z : State} (G : Gl a0 Z) : (Jvm.Cond.code ({ cls := "java/util/ImmutableCollections$ListN", name := "size", desc := "()I" } : Jvm.MethodName) jdk_45_method_3_code (1 : Nat) (Option.some Jvm.ClassFile.FieldType.int)).before a0 Z = true := G.1 _ (List.mem_of_getElem? (i := 131) rfl)
theorem w132 {a0 : Array Value} {Z : State} (G : Gl a0 Z) : (Jvm.Cond.fieldLink "java/util/ImmutableCollections$ListN" (7 : Nat) "java/util/ImmutableCollections$ListN" "elements" "[Ljava/lang/Object;").before a0 Z = true := G.1 _ (List.mem_of_getElem? (i := 132) rfl)
theorem w134 {a0 : Array Value} {Z : State} (G : Gl a0 Z) : (Jvm.Cond.methodLink "java/util/ImmutableCollections$AbstractImmutableList" (63 : Nat) ({ cls := "java/util/ImmutableCollections$ListItr", name := "<init>", desc := "(Ljava/util/List;I)V" } : Jvm.MethodName)).before a0 Z = true := G.1 _ (List.mem_of_getElem? (i := 134) rfl)
theorem w135 {a0 : Array Value} {Z : State} (G : Gl a0 Z) : (Jvm.Cond.instanceMethod ({ cls := "java/util/ImmutableCollections$ListItr", name := "<init>", desc := "(Ljava/util/List;I)V" } : Jvm.MethodName)).before a0 Z = true := G.1 _ (List.mem_of_getElem? (i := 135) rfl)
theorem w137 {a0 : Array Value} {Z : State} (G : Gl a0 Z) : (Jvm.Cond.code ({ cls := "java/util/ImmutableCollections$ListItr", name := "<init>", desc := "(Ljava/util/List;I)V" } : Jvm.MethodName) jdk_53_method_1_code (3 : Nat) (Option.none : Option Jvm.ClassFile.FieldType)).before a0 Z = true := G.1 _ (List.mem_of_getElem? (i := 137) rfl)
theorem w138 {a0 : Array Value} {Z : State} (G : Gl a0 Z) : (Jvm.Cond.methodLink "java/util/ImmutableCollections$ListItr" (1 : Nat) ({ cls := "java/lang/Object", name := "<init>", desc := "()V" } : Jvm.MethodName)).before a0 Z = true := G.1 _ (List.mem_of_getElem? (i := 138) rfl)
theorem w139 {a0 : Array Value} {Z : State} (G : Gl a0 Z) : (Jvm.Cond.fieldLink "java/util/ImmutableCollections$ListItr" (7 : Nat) "java/util/ImmutableCollections$ListItr" "list" "Ljava/util/List;").before a0 Z = true := G.1 _ (List.mem_of_getElem? (i := 139) rfl)
theorem w140 {a0 : Array Value} {Z : State} (G : Gl a0 Z) : (Jvm.Cond.laysFinal "java/util/ImmutableCollections$ListItr" "java/util/ImmutableCollections$ListItr" "list" "Ljava/util/List;").before a0 Z = true := G.1 _ (List.mem_of_getElem? (i := 140) rfl)
theorem w141 {a0 : Array Value} {Z : State} (G : Gl a0 Z) : (Jvm.Cond.fieldLink "java/util/ImmutableCollections$ListItr" (13 : Nat) "java/util/ImmutableCollections$ListItr" "size" "I").before a0 Z = true := G.1 _ (List.mem_of_getElem? (i := 141) rfl)
theorem w142 {a0 : Array Value} {Z : State} (G : Gl a0 Z) : (Jvm.Cond.laysFinal "java/util/ImmutableCollections$ListItr" "java/util/ImmutableCollections$ListItr" "size" "I").before a0 Z = true := G.1 _ (List.mem_of_getElem? (i := 142) rfl)
theorem w143 {a0 : Array Value} {Z : State} (G : Gl a0 Z) : (Jvm.Cond.fieldLink "java/util/ImmutableCollections$ListItr" (17 : Nat) "java/util/ImmutableCollections$ListItr" "cursor" "I").before a0 Z = true := G.1 _ (List.mem_of_getElem? (i := 143) rfl)
theorem w144 {a0 : Array Value} {Z : State} (G : Gl a0 Z) : (Jvm.Cond.lays "java/util/ImmutableCollections$ListItr" "java/util/ImmutableCollections$ListItr" "cursor" "I").before a0 Z = true := G.1 _ (List.mem_of_getElem? (i := 144) rfl)
theorem w145 {a0 : Array Value} {Z : State} (G : Gl a0 Z) : (Jvm.Cond.fieldLink "java/util/ImmutableCollections$ListItr" (20 : Nat) "java/util/ImmutableCollections$ListItr" "isListIterator" "Z").before a0 Z = true := G.1 _ (List.mem_of_getElem? (i := 145) rfl)
theorem w146 {a0 : Array Value} {Z : State} (G : Gl a0 Z) : (Jvm.Cond.laysFinal "java/util/ImmutableCollections$ListItr" "java/util/ImmutableCollections$ListItr" "isListIterator" "Z").before a0 Z = true := G.1 _ (List.mem_of_getElem? (i := 146) rfl)
theorem d5_0 : D1 jdk_40_method_36_code 0 (.getstatic 90) 3 3 := ⟨by decide +kernel, rfl⟩
theorem d5_3 : D1 jdk_40_method_36_code 3 (.areturn) 1 4 := ⟨by decide +kernel, rfl⟩
theorem d17_0 : D1 jdk_46_method_10_code 0 (.new 61) 3 3 := ⟨by decide +kernel, rfl⟩
theorem d17_3 : D1 jdk_46_method_10_code 3 (.dup) 1 4 := ⟨by decide +kernel, rfl⟩
theorem d17_4 : D1 jdk_46_method_10_code 4 (.aload_n 0) 1 5 := ⟨by decide +kernel, rfl⟩
theorem d17_5 : D1 jdk_46_method_10_code 5 (.aload_n 0) 1 6 := ⟨by decide +kernel, rfl⟩
theorem d17_6 : D1 jdk_46_method_10_code 6 (.invokevirtual 13) 3 9 := ⟨by decide +kernel, rfl⟩
theorem d17_9 : D1 jdk_46_method_10_code 9 (.invokespecial 63) 3 12 := ⟨by decide +kernel, rfl⟩
theorem d17_12 : D1 jdk_46_method_10_code 12 (.areturn) 1 13 := ⟨by decide +kernel, rfl⟩
theorem d18_0 : D1 jdk_45_method_3_code 0 (.aload_n 0) 1 1 := ⟨by decide +kernel, rfl⟩
theorem d18_1 : D1 jdk_45_method_3_code 1 (.getfield 7) 3 4 := ⟨by decide +kernel, rfl⟩
theorem d18_4 : D1 jdk_45_method_3_code 4 (.arraylength) 1 5 := ⟨by decide +kernel, rfl⟩
theorem d18_5 : D1 jdk_45_method_3_code 5 (.ireturn) 1 6 := ⟨by decide +kernel, rfl⟩
theorem d19_0 : D1 jdk_53_method_1_code 0 (.aload_n 0) 1 1 := ⟨by decide +kernel, rfl⟩
theorem d19_1 : D1 jdk_53_method_1_code 1 (.invokespecial 1) 3 4 := ⟨by decide +kernel, rfl⟩
theorem d19_4 : D1 jdk_53_method_1_code 4 (.aload_n 0) 1 5 := ⟨by decide +kernel, rfl⟩
theorem d19_5 : D1 jdk_53_method_1_code 5 (.aload_n 1) 1 6 := ⟨by decide +kernel, rfl⟩
theorem d19_6 : D1 jdk_53_method_1_code 6 (.putfield 7) 3 9 := ⟨by decide +kernel, rfl⟩
theorem d19_9 : D1 jdk_53_method_1_code 9 (.aload_n 0) 1 10 := ⟨by decide +kernel, rfl⟩
theorem d19_10 : D1 jdk_53_method_1_code 10 (.iload_n 2) 1 11 := ⟨by decide +kernel, rfl⟩
theorem d19_11 : D1 jdk_53_method_1_code 11 (.putfield 13) 3 14 := ⟨by decide +kernel, rfl⟩
theorem d19_14 : D1 jdk_53_method_1_code 14 (.aload_n 0) 1 15 := ⟨by decide +kernel, rfl⟩
theorem d19_15 : D1 jdk_53_method_1_code 15 (.iconst 0) 1 16 := ⟨by decide +kernel, rfl⟩
theorem d19_16 : D1 jdk_53_method_1_code 16 (.putfield 17) 3 19 := ⟨by decide +kernel, rfl⟩
theorem d19_19 : D1 jdk_53_method_1_code 19 (.aload_n 0) 1 20 := ⟨by decide +kernel, rfl⟩
theorem d19_20 : D1 jdk_53_method_1_code 20 (.iconst 0) 1 21 := ⟨by decide +kernel, rfl⟩
theorem d19_21 : D1 jdk_53_method_1_code 21 (.putfield 20) 3 24 := ⟨by decide +kernel, rfl⟩
theorem d19_24 : D1 jdk_53_method_1_code 24 (.return_) 1 25 := ⟨by decide +kernel, rfl⟩
theorem d20_0 : D1 jdk_53_method_3_code 0 (.aload_n 0) 1 1 := ⟨by decide +kernel, rfl⟩
theorem d20_1 : D1 jdk_53_method_3_code 1 (.getfield 17) 3 4 := ⟨by decide +kernel, rfl⟩
theorem d20_4 : D1 jdk_53_method_3_code 4 (.aload_n 0) 1 5 := ⟨by decide +kernel, rfl⟩
theorem d20_5 : D1 jdk_53_method_3_code 5 (.getfield 13) 3 8 := ⟨by decide +kernel, rfl⟩
theorem d20_8 : D1 jdk_53_method_3_code 8 (.if_icmp .eq 7) 3 11 := ⟨by decide +kernel, rfl⟩
theorem d20_15 : D1 jdk_53_method_3_code 15 (.iconst 0) 1 16 := ⟨by decide +kernel, rfl⟩
theorem d20_16 : D1 jdk_53_method_3_code 16 (.ireturn) 1 17 := ⟨by decide +kernel, rfl⟩
theorem d25_0 : D1 jdk_40_method_47_code 0 (.aload_n 0) 1 1 := ⟨by decide +kernel, rfl⟩
theorem d25_1 : D1 jdk_40_method_47_code 1 (.arraylength) 1 2 := ⟨by decide +kernel, rfl⟩
theorem d25_2 : D1 jdk_40_method_47_code 2 (.tableswitch 57 0 2 #[26, 32, 43]) 26 28 := ⟨by decide +kernel, rfl⟩
theorem d25_28 : D1 jdk_40_method_47_code 28 (.getstatic 90) 3 31 := ⟨by decide +kernel, rfl⟩
theorem d25_31 : D1 jdk_40_method_47_code 31 (.astore_n 1) 1 32 := ⟨by decide +kernel, rfl⟩
theorem d25_32 : D1 jdk_40_method_47_code 32 (.aload_n 1) 1 33 := ⟨by decide +kernel, rfl⟩
theorem d25_33 : D1 jdk_40_method_47_code 33 (.areturn) 1 34 := ⟨by decide +kernel, rfl⟩
def ns3 : List Nm := [("java/util/ImmutableCollections$ListItr", "list", "Ljava/util/List;"), ("java/util/ImmutableCollections$ListItr", "size", "I"), ("java/util/ImmutableCollections$ListItr", "cursor", "I"), ("java/util/ImmutableCollections$ListItr", "isListIterator", "Z")]
theorem lay3 {a0 : Array Value} {Z : State} (G : Gl a0 Z) : LayC Z a0 "java/util/ImmutableCollections$ListItr" ns3 := LayC.of (fun q hq => by
  simp only [ns3, List.mem_cons, List.not_mem_nil, or_false] at hq
  rcases hq with rfl | rfl | rfl | rfl
  · exact Or.inr (G.1 _ (List.mem_of_getElem? (i := 140) rfl))
  · exact Or.inr (G.1 _ (List.mem_of_getElem? (i := 142) rfl))
  · exact Or.inl (G.1 _ (List.mem_of_getElem? (i := 144) rfl))
  · exact Or.inr (G.1 _ (List.mem_of_getElem? (i := 146) rfl))) (by decide +kernel) (fun q hq => by
  simp only [ns3, List.mem_cons, List.not_mem_nil, or_false] at hq
  rcases hq with rfl | rfl | rfl | rfl
  · exact ⟨(.object "java/util/List"), by decide +kernel⟩
  · exact ⟨.int, by decide +kernel⟩
  · exact ⟨.int, by decide +kernel⟩
  · exact ⟨.boolean, by decide +kernel⟩)
theorem df3 : dfl ns3 = ([.null, .int 0, .int 0, .int 0] : List Value).map some := by decide +kernel
theorem pd9 : parseMethodDescriptor "()I" = some ⟨[], some .int⟩ := by decide +kernel
theorem pd10 : parseMethodDescriptor "(Ljava/util/List;I)V" = some ⟨[(.object "java/util/List"), .int], none⟩ := by decide +kernel
theorem pf6 : parseFieldDescriptor "Ljava/util/List;" = some (.object "java/util/List") := by decide +kernel
set_option maxRecDepth 65536 in
set_option maxHeartbeats 4000000 in
theorem e_of (l : Launch) {Z : State} {a0 : Array Value} (G : Gl a0 Z) {L : List Ent} {em ea : Addr} (hEm : EmF Z em ea) : Ct WD EL0 l Z (⟨"java/util/List", "of", "()Ljava/util/List;"⟩ : MethodName) jdk_40_method_36_code 0 (some (.object "java/util/List")) ({ frames := 0, cells := 0, slots := 0, locals := 0 } : Room) #[] L (rvQ (fun v M => v = .ref em ∧ M = L)) := by
  refine Ct.intro (by decide +kernel) G.2.1 ?_
  intro p e s m below meth c X
  replace X : Cx WD EL0 p Z s m meth c "java/util/List" "of" jdk_40_method_36_code 0 (some (.object "java/util/List")) := X
  refine Go.cast (g' := mkF m 0 #[] []) (by first | rfl | (simp [entryFrame, mkF, argsToLocals, Value.category, maxLocals]; done)) ?_
  refine Go.getSta X (w35 G) Via.refl hEm.1 d5_0 ?_
  exact Go.aret X d5_3 (by rfl) (by rfl) (by rfl) (by first | exact Nat.le_of_ble_eq_true rfl | (simp; done) | (simp; omega)) (by first | exact Nat.le_of_ble_eq_true rfl | (simp; done) | (simp; omega)) ⟨rfl, rfl⟩
set_option maxRecDepth 65536 in
set_option maxHeartbeats 4000000 in
theorem e_ofA (l : Launch) {Z : State} {a0 : Array Value} (G : Gl a0 Z) {L : List Ent} {em ea : Addr} (hEm : EmF Z em ea) {ar : Addr} {ty : FieldType} {K : ClassId} {f : Bool} (hA : (ar, Ar Z ty K [], f) ∈ L) : Ct WD EL0 l Z (⟨"java/util/List", "of", "([Ljava/lang/Object;)Ljava/util/List;"⟩ : MethodName) jdk_40_method_47_code 2 (some (.object "java/util/List")) ({ frames := 0, cells := 0, slots := 0, locals := 0 } : Room) #[.ref ar] L (rvQ (fun v M => v = .ref em ∧ M = L)) := by
  refine Ct.intro (by decide +kernel) G.2.1 ?_
  intro p e s m below meth c X
  replace X : Cx WD EL0 p Z s m meth c "java/util/List" "of" jdk_40_method_47_code 2 (some (.object "java/util/List")) := X
  refine Go.cast (g' := mkF m 0 #[.val (.ref ar), .unset] []) (by first | rfl | (simp [entryFrame, mkF, argsToLocals, Value.category, maxLocals]; done)) ?_
  refine Go.aloadN X d25_0 rfl rfl ?_
  refine Go.alenA X (N := 0) (fun h H => by obtain ⟨cl, A, q⟩ := H.lenM hA; exact ⟨cl, A, q⟩) d25_1 ?_
  refine Go.tswY X d25_2 (by decide) (off := 26) (pt := 28) (by decide) ⟨by decide, by decide⟩ ?_
  refine Go.getSta X (w35 G) Via.refl hEm.1 d25_28 ?_
  refine Go.astoreN X d25_31 rfl rfl ?_
  refine Go.aloadN X d25_32 rfl rfl ?_
  exact Go.aret X d25_33 (by rfl) (by rfl) (by rfl) (by first | exact Nat.le_of_ble_eq_true rfl | (simp; done) | (simp; omega)) (by first | exact Nat.le_of_ble_eq_true rfl | (simp; done) | (simp; omega)) ⟨rfl, rfl⟩
set_option maxRecDepth 65536 in
set_option maxHeartbeats 4000000 in
theorem e_size (l : Launch) {Z : State} {a0 : Array Value} (G : Gl a0 Z) {L : List Ent} {em ea : Addr} (hEm : EmF Z em ea) : Ct WD EL0 l Z (⟨"java/util/ImmutableCollections$ListN", "size", "()I"⟩ : MethodName) jdk_45_method_3_code 1 (some .int) ({ frames := 0, cells := 0, slots := 0, locals := 0 } : Room) #[.ref em] L (rvQ (fun v M => v = .int 0 ∧ M = L)) := by
  refine Ct.intro (by decide +kernel) G.2.1 ?_
  intro p e s m below meth c X
  replace X : Cx WD EL0 p Z s m meth c "java/util/ImmutableCollections$ListN" "size" jdk_45_method_3_code 1 (some .int) := X
  refine Go.cast (g' := mkF m 0 #[.val (.ref em)] []) (by first | rfl | (simp [entryFrame, mkF, argsToLocals, Value.category, maxLocals]; done)) ?_
  refine Go.aloadN X d18_0 rfl rfl ?_
  refine Go.getFld X (w132 G) Via.refl (fun h H => Fld.ext H.1 hEm.2.2.1) d18_1 ?_
  refine Go.alenA X (N := 0) (fun h H => by obtain ⟨cl, A, q⟩ := hEm.2.2.2; exact ⟨cl, A.ext H.1, q⟩) d18_4 ?_
  exact Go.iret X d18_5 (by first | exact Nat.le_of_ble_eq_true rfl | (simp; done) | (simp; omega)) (by first | exact Nat.le_of_ble_eq_true rfl | (simp; done) | (simp; omega)) ⟨rfl, rfl⟩
set_option maxRecDepth 65536 in
set_option maxHeartbeats 4000000 in
theorem e_iti (l : Launch) {Z : State} {a0 : Array Value} (G : Gl a0 Z) {L : List Ent} {a em : Addr} : Ct WD EL0 l Z (⟨"java/util/ImmutableCollections$ListItr", "<init>", "(Ljava/util/List;I)V"⟩ : MethodName) jdk_53_method_1_code 3 none ({ frames := 1, cells := 0, slots := 0, locals := 12 } : Room) #[.ref a, .ref em, .int 0] (ow a (Ob Z "java/util/ImmutableCollections$ListItr" ns3 [.null, .int 0, .int 0, .int 0]) :: L) (r0Q (fun M => M = ow a (Ob Z "java/util/ImmutableCollections$ListItr" ns3 [.ref em, .int 0, .int 0, .int 0]) :: L)) := by
  refine Ct.intro (by decide +kernel) G.2.1 ?_
  intro p e s m below meth c X
  replace X : Cx WD EL0 p Z s m meth c "java/util/ImmutableCollections$ListItr" "<init>" jdk_53_method_1_code 3 none := X
  refine Go.cast (g' := mkF m 0 #[.val (.ref a), .val (.ref em), .val (.int 0)] []) (by first | rfl | (simp [entryFrame, mkF, argsToLocals, Value.category, maxLocals]; done)) ?_
  refine Go.aloadN X d19_0 rfl rfl ?_
  refine Go.initObj X (w138 G) (w12 G) (w13 G) d19_1 rfl (Nat.le_of_ble_eq_true rfl) (Nat.le_of_ble_eq_true rfl) ?_
  refine Go.aloadN X d19_4 rfl rfl ?_
  refine Go.aloadN X d19_5 rfl rfl ?_
  refine Go.putFld X (i := 0) rfl (j := 0) rfl (lay3 G) (w139 G) Via.refl (Or.inr ⟨(w140 G), rfl, rfl⟩) (w123 G) pf6 d19_6 (by rfl) (by rfl) ?_
  refine Go.aloadN X d19_9 rfl rfl ?_
  refine Go.iloadN X d19_10 rfl ?_
  refine Go.putFld X (i := 0) rfl (j := 1) rfl (lay3 G) (w141 G) Via.refl (Or.inr ⟨(w142 G), rfl, rfl⟩) (w123 G) pf3 d19_11 (by rfl) (by rfl) ?_
  refine Go.aloadN X d19_14 rfl rfl ?_
  refine Go.iconst X (v := 0) d19_15 (by decide) ?_
  refine Go.putFld X (i := 0) rfl (j := 2) rfl (lay3 G) (w143 G) Via.refl (Or.inl (w144 G)) (w123 G) pf3 d19_16 (by rfl) (by rfl) ?_
  refine Go.aloadN X d19_19 rfl rfl ?_
  refine Go.iconst X (v := 0) d19_20 (by decide) ?_
  refine Go.putFld X (i := 0) rfl (j := 3) rfl (lay3 G) (w145 G) Via.refl (Or.inr ⟨(w146 G), rfl, rfl⟩) (w123 G) pf4 d19_21 (by rfl) (by rfl) ?_
  exact Go.ret0 X d19_24 (by first | exact Nat.le_of_ble_eq_true rfl | (simp; done) | (simp; omega)) (by first | exact Nat.le_of_ble_eq_true rfl | (simp; done) | (simp; omega)) rfl
set_option maxRecDepth 65536 in
set_option maxHeartbeats 4000000 in
theorem e_iter (l : Launch) {Z : State} {a0 : Array Value} (G : Gl a0 Z) {L : List Ent} {em ea : Addr} (hEm : EmF Z em ea) : Ct WD EL0 l Z (⟨"java/util/ImmutableCollections$AbstractImmutableList", "iterator", "()Ljava/util/Iterator;"⟩ : MethodName) jdk_46_method_10_code 1 (some (.object "java/util/Iterator")) ({ frames := 2, cells := 1, slots := 4, locals := 27 } : Room) #[.ref em] L (rvQ (fun v M => ∃ it, v = .ref it ∧ M = ow it (Ob Z "java/util/ImmutableCollections$ListItr" ns3 [.ref em, .int 0, .int 0, .int 0]) :: L)) := by
  refine Ct.intro (by decide +kernel) G.2.1 ?_
  intro p e s m below meth c X
  replace X : Cx WD EL0 p Z s m meth c "java/util/ImmutableCollections$AbstractImmutableList" "iterator" jdk_46_method_10_code 1 (some (.object "java/util/Iterator")) := X
  refine Go.cast (g' := mkF m 0 #[.val (.ref em)] []) (by first | rfl | (simp [entryFrame, mkF, argsToLocals, Value.category, maxLocals]; done)) ?_
  refine Go.new X (w122 G) (w123 G) (w124 G) (lay3 G) df3 d17_0 (by first | exact Nat.le_of_ble_eq_true rfl | (simp; done) | (simp; omega)) (by first | exact Nat.le_of_ble_eq_true rfl | (simp; done) | (simp; omega)) ?_
  intro it
  refine Go.dup X d17_3 rfl ?_
  refine Go.aloadN X d17_4 rfl rfl ?_
  refine Go.aloadN X d17_5 rfl rfl ?_
  refine Go.callVU X (x := (⟨"java/util/ImmutableCollections$AbstractImmutableList", "size", "()I"⟩ : MethodName)) (owner := "java/util/AbstractCollection") (fun h H => Exa.ext H.1 hEm.2.1) (e_size l G hEm) (rest := [.ref em, .ref it, .ref it]) (w125 G) (w126 G) (by first | rfl | decide +kernel | simp [Cond.onTables, Cond.keepsFace, Cond.keeps, Cond.steady]) (w127 G) (by decide) (w128 G) (w129 G) (w130 G) (w131 G) pd9 rfl rfl d17_6 rfl (by first | exact Nat.le_of_ble_eq_true rfl | (simp; done) | (simp; omega)) (by first | exact Nat.le_of_ble_eq_true rfl | (simp; done) | (simp; omega)) (by first | exact Nat.le_of_ble_eq_true rfl | (simp; done) | (simp; omega)) (by first | exact Nat.le_of_ble_eq_true rfl | (simp; done) | (simp; omega)) (Kv ?_)
  rintro v M ⟨rfl, rfl⟩
  refine Go.callI X (e_iti l G (a := it) (em := em)) rfl (rest := [.ref it]) (w134 G) (w135 G) (w124 G) (w137 G) (by decide) pd10 rfl rfl d17_9 rfl (by first | exact Nat.le_of_ble_eq_true rfl | (simp; done) | (simp; omega)) (by first | exact Nat.le_of_ble_eq_true rfl | (simp; done) | (simp; omega)) (by first | exact Nat.le_of_ble_eq_true rfl | (simp; done) | (simp; omega)) (by first | exact Nat.le_of_ble_eq_true rfl | (simp; done) | (simp; omega)) (K0 ?_)
  rintro M rfl
  exact Go.aret X d17_12 (by rfl) (by rfl) (by rfl) (by first | exact Nat.le_of_ble_eq_true rfl | (simp; done) | (simp; omega)) (by first | exact Nat.le_of_ble_eq_true rfl | (simp; done) | (simp; omega)) ⟨it, rfl, rfl⟩
set_option maxRecDepth 65536 in
set_option maxHeartbeats 4000000 in
theorem e_has (l : Launch) {Z : State} {a0 : Array Value} (G : Gl a0 Z) {L : List Ent} {it em : Addr} : Ct WD EL0 l Z (⟨"java/util/ImmutableCollections$ListItr", "hasNext", "()Z"⟩ : MethodName) jdk_53_method_3_code 1 (some .boolean) ({ frames := 0, cells := 0, slots := 0, locals := 0 } : Room) #[.ref it] (ow it (Ob Z "java/util/ImmutableCollections$ListItr" ns3 [.ref em, .int 0, .int 0, .int 0]) :: L) (rvQ (fun v M => v = .int 0 ∧ M = ow it (Ob Z "java/util/ImmutableCollections$ListItr" ns3 [.ref em, .int 0, .int 0, .int 0]) :: L)) := by
  refine Ct.intro (by decide +kernel) G.2.1 ?_
  intro p e s m below meth c X
  replace X : Cx WD EL0 p Z s m meth c "java/util/ImmutableCollections$ListItr" "hasNext" jdk_53_method_3_code 1 (some .boolean) := X
  refine Go.cast (g' := mkF m 0 #[.val (.ref it)] []) (by first | rfl | (simp [entryFrame, mkF, argsToLocals, Value.category, maxLocals]; done)) ?_
  refine Go.aloadN X d20_0 rfl rfl ?_
  refine Go.getFld X (w143 G) Via.refl (fun h H => H.fld (i := 0) rfl (j := 2) rfl rfl) d20_1 ?_
  refine Go.aloadN X d20_4 rfl rfl ?_
  refine Go.getFld X (w141 G) Via.refl (fun h H => H.fld (i := 0) rfl (j := 1) rfl rfl) d20_5 ?_
  refine Go.icmp X d20_8 (pt := 15) ⟨by decide, by decide⟩ ?_ ?_
  rotate_left
  · intro q; exact absurd rfl q
  intro _
  refine Go.iconst X (v := 0) d20_15 (by decide) ?_
  exact Go.zret X d20_16 (Or.inl rfl) (by first | exact Nat.le_of_ble_eq_true rfl | (simp; done) | (simp; omega)) (by first | exact Nat.le_of_ble_eq_true rfl | (simp; done) | (simp; omega)) ⟨rfl, rfl⟩
-- %%% selection
theorem w24 {a0 : Array Value} {Z : State} (G : Gl a0 Z) : (Jvm.Cond.initialized "com/example/mussel/mussel/rule/Selection").before a0 Z = true := G.1 _ (List.mem_of_getElem? (i := 24) rfl)
theorem w26 {a0 : Array Value} {Z : State} (G : Gl a0 Z) : (Jvm.Cond.classLink "com/example/mussel/mussel/rule/Selection" (8 : Nat) "com/example/mussel/mussel/rule/Selection").before a0 Z = true := G.1 _ (List.mem_of_getElem? (i := 26) rfl)
theorem w27 {a0 : Array Value} {Z : State} (G : Gl a0 Z) : (Jvm.Cond.instantiable "com/example/mussel/mussel/rule/Selection" (2 : Nat)).before a0 Z = true := G.1 _ (List.mem_of_getElem? (i := 27) rfl)
theorem w28 {a0 : Array Value} {Z : State} (G : Gl a0 Z) : (Jvm.Cond.fieldLink "com/example/mussel/mussel/rule/Selection" (58 : Nat) "com/example/mussel/mussel/rule/Selection$Kind" "IGNORE" "Lcom/example/mussel/mussel/rule/Selection$Kind;").before a0 Z = true := G.1 _ (List.mem_of_getElem? (i := 28) rfl)
theorem w31 {a0 : Array Value} {Z : State} (G : Gl a0 Z) : (Jvm.Cond.methodLink "com/example/mussel/mussel/rule/Selection" (63 : Nat) ({ cls := "java/util/List", name := "of", desc := "()Ljava/util/List;" } : Jvm.MethodName)).before a0 Z = true := G.1 _ (List.mem_of_getElem? (i := 31) rfl)
theorem w32 {a0 : Array Value} {Z : State} (G : Gl a0 Z) : (Jvm.Cond.static ({ cls := "java/util/List", name := "of", desc := "()Ljava/util/List;" } : Jvm.MethodName)).before a0 Z = true := G.1 _ (List.mem_of_getElem? (i := 32) rfl)
theorem w33 {a0 : Array Value} {Z : State} (G : Gl a0 Z) : (Jvm.Cond.initialized "java/util/List").before a0 Z = true := G.1 _ (List.mem_of_getElem? (i := 33) rfl)
theorem w34 {a0 : Array Value} {Z : State} (G : Gl a0 Z) : (Jvm.Cond.code ({ cls := "java/util/List", name := "of", desc := "()Ljava/util/List;" } : Jvm.MethodName) jdk_40_method_36_code (0 : Nat) (Option.some (Jvm.ClassFile.FieldType.object "java/util/List"))).before a0 Z = true := G.1 _ (List.mem_of_getElem? (i := 34) rfl)
theorem w37 {a0 : Array Value} {Z : State} (G : Gl a0 Z) : (Jvm.Cond.methodLink "com/example/mussel/mussel/rule/Selection" (69 : Nat) ({ cls := "com/example/mussel/mussel/rule/Selection", name := "<init>", desc := "(Lcom/example/mussel/mussel/rule/Selection$Kind;Ljava/util/Collection;)V" } : Jvm.MethodName)).before a0 Z = true := G.1 _ (List.mem_of_getElem? (i := 37) rfl)
theorem w38 {a0 : Array Value} {Z : State} (G : Gl a0 Z) : (Jvm.Cond.instanceMethod ({ cls := "com/example/mussel/mussel/rule/Selection", name := "<init>", desc := "(Lcom/example/mussel/mussel/rule/Selection$Kind;Ljava/util/Collection;)V" } : Jvm.MethodName)).before a0 Z = true := G.1 _ (List.mem_of_getElem? (i := 38) rfl)
theorem w39 {a0 : Array Value} {Z : State} (G : Gl a0 Z) : (Jvm.Cond.code ({ cls := "com/example/mussel/mussel/rule/Selection", name := "<init>", desc := "(Lcom/example/mussel/mussel/rule/Selection$Kind;Ljava/util/Collection;)V" } : Jvm.MethodName) prog_9_method_1_code (6 : Nat) (Option.none : Option Jvm.ClassFile.FieldType)).before a0 Z = true := G.1 _ (List.mem_of_getElem? (i := 39) rfl)
theorem w40 {a0 : Array Value} {Z : State} (G : Gl a0 Z) : (Jvm.Cond.methodLink "com/example/mussel/mussel/rule/Selection" (1 : Nat) ({ cls := "java/lang/Object", name := "<init>", desc := "()V" } : Jvm.MethodName)).before a0 Z = true := G.1 _ (List.mem_of_getElem? (i := 40) rfl)
theorem w41 {a0 : Array Value} {Z : State} (G : Gl a0 Z) : (Jvm.Cond.fieldLink "com/example/mussel/mussel/rule/Selection" (7 : Nat) "com/example/mussel/mussel/rule/Selection" "kind" "Lcom/example/mussel/mussel/rule/Selection$Kind;").before a0 Z = true := G.1 _ (List.mem_of_getElem? (i := 41) rfl)
theorem w42 {a0 : Array Value} {Z : State} (G : Gl a0 Z) : (Jvm.Cond.laysFinal "com/example/mussel/mussel/rule/Selection" "com/example/mussel/mussel/rule/Selection" "kind" "Lcom/example/mussel/mussel/rule/Selection$Kind;").before a0 Z = true := G.1 _ (List.mem_of_getElem? (i := 42) rfl)
theorem w43 {a0 : Array Value} {Z : State} (G : Gl a0 Z) : (Jvm.Cond.classLink "com/example/mussel/mussel/rule/Selection" (13 : Nat) "java/util/LinkedHashSet").before a0 Z = true := G.1 _ (List.mem_of_getElem? (i := 43) rfl)
theorem w45 {a0 : Array Value} {Z : State} (G : Gl a0 Z) : (Jvm.Cond.initialized "java/util/LinkedHashSet").before a0 Z = true := G.1 _ (List.mem_of_getElem? (i := 45) rfl)
theorem w46 {a0 : Array Value} {Z : State} (G : Gl a0 Z) : (Jvm.Cond.methodLink "com/example/mussel/mussel/rule/Selection" (15 : Nat) ({ cls := "java/util/LinkedHashSet", name := "<init>", desc := "()V" } : Jvm.MethodName)).before a0 Z = true := G.1 _ (List.mem_of_getElem? (i := 46) rfl)
theorem w47 {a0 : Array Value} {Z : State} (G : Gl a0 Z) : (Jvm.Cond.instanceMethod ({ cls := "java/util/LinkedHashSet", name := "<init>", desc := "()V" } : Jvm.MethodName)).before a0 Z = true := G.1 _ (List.mem_of_getElem? (i := 47) rfl)
theorem w48 {a0 : Array Value} {Z : State} (G : Gl a0 Z) : (Jvm.Cond.code ({ cls := "java/util/LinkedHashSet", name := "<init>", desc := "()V" } : Jvm.MethodName) jdk_2620_method_3_code (1 : Nat) (Option.none : Option Jvm.ClassFile.FieldType)).before a0 Z = true := G.1 _ (List.mem_of_getElem? (i := 48) rfl)
theorem w112 {a0 : Array Value} {Z : State} (G : Gl a0 Z) : (Jvm.Cond.methodLink "com/example/mussel/mussel/rule/Selection" (16 : Nat) ({ cls := "java/util/Collection", name := "iterator", desc := "()Ljava/util/Iterator;" } : Jvm.MethodName)).before a0 Z = true := G.1 _ (List.mem_of_getElem? (i := 112) rfl)
theorem w113 {a0 : Array Value} {Z : State} (G : Gl a0 Z) : (Jvm.Cond.declares ({ cls := "java/util/Collection", name := "iterator", desc := "()Ljava/util/Iterator;" } : Jvm.MethodName)).before a0 Z = true := G.1 _ (List.mem_of_getElem? (i := 113) rfl)
theorem w114 {a0 : Array Value} {Z : State} (G : Gl a0 Z) : (Jvm.Cond.interfaceMethod "java/util/Collection" "java/util/Collection" "iterator" "()Ljava/util/Iterator;").before a0 Z = true := G.1 _ (List.mem_of_getElem? (i := 114) rfl)
theorem w115 {a0 : Array Value} {Z : State} (G : Gl a0 Z) : (Jvm.Cond.selects "java/util/ImmutableCollections$ListN" ({ cls := "java/util/Collection", name := "iterator", desc := "()Ljava/util/Iterator;" } : Jvm.MethodName) ({ cls := "java/util/ImmutableCollections$AbstractImmutableList", name := "iterator", desc := "()Ljava/util/Iterator;" } : Jvm.MethodName)).before a0 Z = true := G.1 _ (List.mem_of_getElem? (i := 115) rfl)
theorem w116 {a0 : Array Value} {Z : State} (G : Gl a0 Z) : (Jvm.Cond.instanceMethod ({ cls := "java/util/ImmutableCollections$AbstractImmutableList", name := "iterator", desc := "()Ljava/util/Iterator;" } : Jvm.MethodName)).before a0 Z = true := G.1 _ (List.mem_of_getElem? (i := 116) rfl)
theorem w117 {a0 : Array Value} {Z : State} (G : Gl a0 Z) : (Jvm.Cond.publicMethod ({ cls := "java/util/ImmutableCollections$AbstractImmutableList", name := "iterator", desc := "()Ljava/util/Iterator;" } : Jvm.MethodName)).before a0 Z = true := G.1 _ (List.mem_of_getElem? (i := 117) rfl)
theorem w118 {a0 : Array Value} {Z : State} (G : Gl a0 Z) : (Jvm.Cond.unhidden "java/util/ImmutableCollections$ListN" "iterator" "()Ljava/util/Iterator;").before a0 Z = true := G.1 _ (List.mem_of_getElem? (i := 118) rfl)
theorem w119 {a0 : Array Value} {Z : State} (G : Gl a0 Z) : (Jvm.Cond.castable "java/util/ImmutableCollections$ListN" "java/util/Collection").before a0 Z = true := G.1 _ (List.mem_of_getElem? (i := 119) rfl)
theorem w120 {a0 : Array Value} {Z : State} (G : Gl a0 Z) : (Jvm.Cond.initialized "java/util/ImmutableCollections$AbstractImmutableList").before a0 Z = true := G.1 _ (List.mem_of_getElem? (i := 120) rfl)
theorem w121 {a0 : Array Value} {Z : State} (G : Gl a0 Z) : (Jvm.Cond.code ({ cls := "java/util/ImmutableCollections$AbstractImmutableList", name := "iterator", desc := "()Ljava/util/Iterator;" } : Jvm.MethodName) jdk_46_method_10_code (1 : Nat) (Option.some (Jvm.ClassFile.FieldType.object "java/util/Iterator"))).before a0 Z = true := G.1 _ (List.mem_of_getElem? (i := 121) rfl)
theorem w147 {a0 : Array Value} {Z : State} (G : Gl a0 Z) : (Jvm.Cond.methodLink "com/example/mussel/mussel/rule/Selection" (22 : Nat) ({ cls := "java/util/Iterator", name := "hasNext", desc := "()Z" } : Jvm.MethodName)).before a0 Z = true := G.1 _ (List.mem_of_getElem? (i := 147) rfl)
theorem w148 {a0 : Array Value} {Z : State} (G : Gl a0 Z) : (Jvm.Cond.declares ({ cls := "java/util/Iterator", name := "hasNext", desc := "()Z" } : Jvm.MethodName)).before a0 Z = true := G.1 _ (List.mem_of_getElem? (i := 148) rfl)
theorem w149 {a0 : Array Value} {Z : State} (G : Gl a0 Z) : (Jvm.Cond.interfaceMethod "java/util/Iterator" "java/util/Iterator" "hasNext" "()Z").before a0 Z = true := G.1 _ (List.mem_of_getElem? (i := 149) rfl)
theorem w150 {a0 : Array Value} {Z : State} (G : Gl a0 Z) : (Jvm.Cond.selects "java/util/ImmutableCollections$ListItr" ({ cls := "java/util/Iterator", name := "hasNext", desc := "()Z" } : Jvm.MethodName) ({ cls := "java/util/ImmutableCollections$ListItr", name := "hasNext", desc := "()Z" } : Jvm.MethodName)).before a0 Z = true := G.1 _ (List.mem_of_getElem? (i := 150) rfl)
theorem w151 {a0 : Array Value} {Z : State} (G : Gl a0 Z) : (Jvm.Cond.instanceMethod ({ cls := "java/util/ImmutableCollections$ListItr", name := "hasNext", desc := "()Z" } : Jvm.MethodName)).before a0 Z = true := G.1 _ (List.mem_of_getElem? (i := 151) rfl)
theorem w152 {a0 : Array Value} {Z : State} (G : Gl a0 Z) : (Jvm.Cond.publicMethod ({ cls := "java/util/ImmutableCollections$ListItr", name := "hasNext", desc := "()Z" } : Jvm.MethodName)).before a0 Z = true := G.1 _ (List.mem_of_getElem? (i := 152) rfl)
theorem w153 {a0 : Array Value} {Z : State} (G : Gl a0 Z) : (Jvm.Cond.unhidden "java/util/ImmutableCollections$ListItr" "hasNext" "()Z").before a0 Z = true := G.1 _ (List.mem_of_getElem? (i := 153) rfl)
theorem w154 {a0 : Array Value} {Z : State} (G : Gl a0 Z) : (Jvm.Cond.castable "java/util/ImmutableCollections$ListItr" "java/util/Iterator").before a0 Z = true := G.1 _ (List.mem_of_getElem? (i := 154) rfl)
theorem w155 {a0 : Array Value} {Z : State} (G : Gl a0 Z) : (Jvm.Cond.code ({ cls := "java/util/ImmutableCollections$ListItr", name := "hasNext", desc := "()Z" } : Jvm.MethodName) jdk_53_method_3_code (1 : Nat) (Option.some Jvm.ClassFile.FieldType.boolean)).before a0 Z = true := G.1 _ (List.mem_of_getElem? (i := 155) rfl)
theorem w156 {a0 : Array Value} {Z : State} (G : Gl a0 Z) : (Jvm.Cond.methodLink "com/example/mussel/mussel/rule/Selection" (48 : Nat) ({ cls := "java/util/Collections", name := "unmodifiableSet", desc := "(Ljava/util/Set;)Ljava/util/Set;" } : Jvm.MethodName)).before a0 Z = true := G.1 _ (List.mem_of_getElem? (i := 156) rfl)
theorem w157 {a0 : Array Value} {Z : State} (G : Gl a0 Z) : (Jvm.Cond.static ({ cls := "java/util/Collections", name := "unmodifiableSet", desc := "(Ljava/util/Set;)Ljava/util/Set;" } : Jvm.MethodName)).before a0 Z = true := G.1 _ (List.mem_of_getElem? (i := 157) rfl)
theorem w158 {a0 : Array Value} {Z : State} (G : Gl a0 Z) : (Jvm.Cond.initialized "java/util/Collections").before a0 Z = true := G.1 _ (List.mem_of_getElem? (i := 158) rfl)
theorem w159 {a0 : Array Value} {Z : State} (G : Gl a0 Z) : (Jvm.Cond.code ({ cls := "java/util/Collections", name := "unmodifiableSet", desc := "(Ljava/util/Set;)Ljava/util/Set;" } : Jvm.MethodName) jdk_79_method_31_code (1 : Nat) (Option.some (Jvm.ClassFile.FieldType.object "java/util/Set"))).before a0 Z = true := G.1 _ (List.mem_of_getElem? (i := 159) rfl)
theorem w160 {a0 : Array Value} {Z : State} (G : Gl a0 Z) : (Jvm.Cond.methodLink "java/util/Collections" (179 : Nat) ({ cls := "java/util/Set", name := "getClass", desc := "()Ljava/lang/Class;" } : Jvm.MethodName)).before a0 Z = true := G.1 _ (List.mem_of_getElem? (i := 160) rfl)
theorem w161 {a0 : Array Value} {Z : State} (G : Gl a0 Z) : (Jvm.Cond.declares ({ cls := "java/lang/Object", name := "getClass", desc := "()Ljava/lang/Class;" } : Jvm.MethodName)).before a0 Z = true := G.1 _ (List.mem_of_getElem? (i := 161) rfl)
theorem w162 {a0 : Array Value} {Z : State} (G : Gl a0 Z) : (Jvm.Cond.interfaceMethod "java/util/Set" "java/lang/Object" "getClass" "()Ljava/lang/Class;").before a0 Z = true := G.1 _ (List.mem_of_getElem? (i := 162) rfl)
theorem w163 {a0 : Array Value} {Z : State} (G : Gl a0 Z) : (Jvm.Cond.selects "java/util/LinkedHashSet" ({ cls := "java/util/Set", name := "getClass", desc := "()Ljava/lang/Class;" } : Jvm.MethodName) ({ cls := "java/lang/Object", name := "getClass", desc := "()Ljava/lang/Class;" } : Jvm.MethodName)).before a0 Z = true := G.1 _ (List.mem_of_getElem? (i := 163) rfl)
theorem w164 {a0 : Array Value} {Z : State} (G : Gl a0 Z) : (Jvm.Cond.instanceMethod ({ cls := "java/lang/Object", name := "getClass", desc := "()Ljava/lang/Class;" } : Jvm.MethodName)).before a0 Z = true := G.1 _ (List.mem_of_getElem? (i := 164) rfl)
theorem w165 {a0 : Array Value} {Z : State} (G : Gl a0 Z) : (Jvm.Cond.publicMethod ({ cls := "java/lang/Object", name := "getClass", desc := "()Ljava/lang/Class;" } : Jvm.MethodName)).before a0 Z = true := G.1 _ (List.mem_of_getElem? (i := 165) rfl)
theorem w166 {a0 : Array Value} {Z : State} (G : Gl a0 Z) : (Jvm.Cond.unhidden "java/util/LinkedHashSet" "getClass" "()Ljava/lang/Class;").before a0 Z = true := G.1 _ (List.mem_of_getElem? (i := 166) rfl)
theorem w167 {a0 : Array Value} {Z : State} (G : Gl a0 Z) : (Jvm.Cond.castable "java/util/LinkedHashSet" "java/util/Set").before a0 Z = true := G.1 _ (List.mem_of_getElem? (i := 167) rfl)
theorem w168 {a0 : Array Value} {Z : State} (G : Gl a0 Z) : (Jvm.Cond.native ({ cls := "java/lang/Object", name := "getClass", desc := "()Ljava/lang/Class;" } : Jvm.MethodName)).before a0 Z = true := G.1 _ (List.mem_of_getElem? (i := 168) rfl)
theorem w170 {a0 : Array Value} {Z : State} (G : Gl a0 Z) : (Jvm.Cond.classLink "java/util/Collections" (182 : Nat) "java/util/Collections$UnmodifiableSet").before a0 Z = true := G.1 _ (List.mem_of_getElem? (i := 170) rfl)
theorem w172 {a0 : Array Value} {Z : State} (G : Gl a0 Z) : (Jvm.Cond.instantiable "java/util/Collections$UnmodifiableSet" (1 : Nat)).before a0 Z = true := G.1 _ (List.mem_of_getElem? (i := 172) rfl)
theorem w173 {a0 : Array Value} {Z : State} (G : Gl a0 Z) : (Jvm.Cond.initialized "java/util/Collections$UnmodifiableSet").before a0 Z = true := G.1 _ (List.mem_of_getElem? (i := 173) rfl)
theorem w174 {a0 : Array Value} {Z : State} (G : Gl a0 Z) : (Jvm.Cond.methodLink "java/util/Collections" (184 : Nat) ({ cls := "java/util/Collections$UnmodifiableSet", name := "<init>", desc := "(Ljava/util/Set;)V" } : Jvm.MethodName)).before a0 Z = true := G.1 _ (List.mem_of_getElem? (i := 174) rfl)
theorem w175 {a0 : Array Value} {Z : State} (G : Gl a0 Z) : (Jvm.Cond.instanceMethod ({ cls := "java/util/Collections$UnmodifiableSet", name := "<init>", desc := "(Ljava/util/Set;)V" } : Jvm.MethodName)).before a0 Z = true := G.1 _ (List.mem_of_getElem? (i := 175) rfl)
theorem w176 {a0 : Array Value} {Z : State} (G : Gl a0 Z) : (Jvm.Cond.code ({ cls := "java/util/Collections$UnmodifiableSet", name := "<init>", desc := "(Ljava/util/Set;)V" } : Jvm.MethodName) jdk_122_method_1_code (2 : Nat) (Option.none : Option Jvm.ClassFile.FieldType)).before a0 Z = true := G.1 _ (List.mem_of_getElem? (i := 176) rfl)
theorem w177 {a0 : Array Value} {Z : State} (G : Gl a0 Z) : (Jvm.Cond.methodLink "java/util/Collections$UnmodifiableSet" (1 : Nat) ({ cls := "java/util/Collections$UnmodifiableCollection", name := "<init>", desc := "(Ljava/util/Collection;)V" } : Jvm.MethodName)).before a0 Z = true := G.1 _ (List.mem_of_getElem? (i := 177) rfl)
theorem w178 {a0 : Array Value} {Z : State} (G : Gl a0 Z) : (Jvm.Cond.instanceMethod ({ cls := "java/util/Collections$UnmodifiableCollection", name := "<init>", desc := "(Ljava/util/Collection;)V" } : Jvm.MethodName)).before a0 Z = true := G.1 _ (List.mem_of_getElem? (i := 178) rfl)
theorem w181 {a0 : Array Value} {Z : State} (G : Gl a0 Z) : (Jvm.Cond.initialized "java/util/Collections$UnmodifiableCollection").before a0 Z = true := G.1 _ (List.mem_of_getElem? (i := 181) rfl)
theorem w182 {a0 : Array Value} {Z : State} (G : Gl a0 Z) : (Jvm.Cond.code ({ cls := "java/util/Collections$UnmodifiableCollection", name := "<init>", desc := "(Ljava/util/Collection;)V" } : Jvm.MethodName) jdk_119_method_1_code (2 : Nat) (Option.none : Option Jvm.ClassFile.FieldType)).before a0 Z = true := G.1 _ (List.mem_of_getElem? (i := 182) rfl)
theorem w183 {a0 : Array Value} {Z : State} (G : Gl a0 Z) : (Jvm.Cond.methodLink "java/util/Collections$UnmodifiableCollection" (1 : Nat) ({ cls := "java/lang/Object", name := "<init>", desc := "()V" } : Jvm.MethodName)).before a0 Z = true := G.1 _ (List.mem_of_getElem? (i := 183) rfl)
theorem w184 {a0 : Array Value} {Z : State} (G : Gl a0 Z) : (Jvm.Cond.fieldLink "java/util/Collections$UnmodifiableCollection" (10 : Nat) "java/util/Collections$UnmodifiableCollection" "c" "Ljava/util/Collection;").before a0 Z = true := G.1 _ (List.mem_of_getElem? (i := 184) rfl)
theorem w185 {a0 : Array Value} {Z : State} (G : Gl a0 Z) : (Jvm.Cond.laysFinal "java/util/Collections$UnmodifiableSet" "java/util/Collections$UnmodifiableCollection" "c" "Ljava/util/Collection;").before a0 Z = true := G.1 _ (List.mem_of_getElem? (i := 185) rfl)
theorem w186 {a0 : Array Value} {Z : State} (G : Gl a0 Z) : (Jvm.Cond.fieldLink "com/example/mussel/mussel/rule/Selection" (54 : Nat) "com/example/mussel/mussel/rule/Selection" "names" "Ljava/util/Set;").before a0 Z = true := G.1 _ (List.mem_of_getElem? (i := 186) rfl)
theorem w187 {a0 : Array Value} {Z : State} (G : Gl a0 Z) : (Jvm.Cond.laysFinal "com/example/mussel/mussel/rule/Selection" "com/example/mussel/mussel/rule/Selection" "names" "Ljava/util/Set;").before a0 Z = true := G.1 _ (List.mem_of_getElem? (i := 187) rfl)
theorem w192 {a0 : Array Value} {Z : State} (G : Gl a0 Z) : (Jvm.Cond.fieldLink "com/example/mussel/mussel/rule/Selection" (79 : Nat) "com/example/mussel/mussel/rule/Selection$Kind" "EXCLUDE" "Lcom/example/mussel/mussel/rule/Selection$Kind;").before a0 Z = true := G.1 _ (List.mem_of_getElem? (i := 192) rfl)
theorem w194 {a0 : Array Value} {Z : State} (G : Gl a0 Z) : (Jvm.Cond.methodLink "com/example/mussel/mussel/rule/Selection" (72 : Nat) ({ cls := "java/util/List", name := "of", desc := "([Ljava/lang/Object;)Ljava/util/List;" } : Jvm.MethodName)).before a0 Z = true := G.1 _ (List.mem_of_getElem? (i := 194) rfl)
theorem w195 {a0 : Array Value} {Z : State} (G : Gl a0 Z) : (Jvm.Cond.static ({ cls := "java/util/List", name := "of", desc := "([Ljava/lang/Object;)Ljava/util/List;" } : Jvm.MethodName)).before a0 Z = true := G.1 _ (List.mem_of_getElem? (i := 195) rfl)
theorem w196 {a0 : Array Value} {Z : State} (G : Gl a0 Z) : (Jvm.Cond.code ({ cls := "java/util/List", name := "of", desc := "([Ljava/lang/Object;)Ljava/util/List;" } : Jvm.MethodName) jdk_40_method_47_code (2 : Nat) (Option.some (Jvm.ClassFile.FieldType.object "java/util/List"))).before a0 Z = true := G.1 _ (List.mem_of_getElem? (i := 196) rfl)
theorem d4_0 : D1 prog_9_method_2_code 0 (.new 8) 3 3 := ⟨by decide +kernel, rfl⟩
theorem d4_3 : D1 prog_9_method_2_code 3 (.dup) 1 4 := ⟨by decide +kernel, rfl⟩
theorem d4_4 : D1 prog_9_method_2_code 4 (.getstatic 58) 3 7 := ⟨by decide +kernel, rfl⟩
theorem d4_7 : D1 prog_9_method_2_code 7 (.invokestatic 63) 3 10 := ⟨by decide +kernel, rfl⟩
theorem d4_10 : D1 prog_9_method_2_code 10 (.invokespecial 69) 3 13 := ⟨by decide +kernel, rfl⟩
theorem d4_13 : D1 prog_9_method_2_code 13 (.areturn) 1 14 := ⟨by decide +kernel, rfl⟩
theorem d6_0 : D1 prog_9_method_1_code 0 (.aload_n 0) 1 1 := ⟨by decide +kernel, rfl⟩
theorem d6_1 : D1 prog_9_method_1_code 1 (.invokespecial 1) 3 4 := ⟨by decide +kernel, rfl⟩
theorem d6_4 : D1 prog_9_method_1_code 4 (.aload_n 0) 1 5 := ⟨by decide +kernel, rfl⟩
theorem d6_5 : D1 prog_9_method_1_code 5 (.aload_n 1) 1 6 := ⟨by decide +kernel, rfl⟩
theorem d6_6 : D1 prog_9_method_1_code 6 (.putfield 7) 3 9 := ⟨by decide +kernel, rfl⟩
theorem d6_9 : D1 prog_9_method_1_code 9 (.new 13) 3 12 := ⟨by decide +kernel, rfl⟩
theorem d6_12 : D1 prog_9_method_1_code 12 (.dup) 1 13 := ⟨by decide +kernel, rfl⟩
theorem d6_13 : D1 prog_9_method_1_code 13 (.invokespecial 15) 3 16 := ⟨by decide +kernel, rfl⟩
theorem d6_16 : D1 prog_9_method_1_code 16 (.astore_n 3) 1 17 := ⟨by decide +kernel, rfl⟩
theorem d6_17 : D1 prog_9_method_1_code 17 (.aload_n 2) 1 18 := ⟨by decide +kernel, rfl⟩
theorem d6_18 : D1 prog_9_method_1_code 18 (.invokeinterface 16 1) 5 23 := ⟨by decide +kernel, rfl⟩
theorem d6_23 : D1 prog_9_method_1_code 23 (.astore 4) 2 25 := ⟨by decide +kernel, rfl⟩
theorem d6_25 : D1 prog_9_method_1_code 25 (.aload 4) 2 27 := ⟨by decide +kernel, rfl⟩
theorem d6_27 : D1 prog_9_method_1_code 27 (.invokeinterface 22 1) 5 32 := ⟨by decide +kernel, rfl⟩
theorem d6_32 : D1 prog_9_method_1_code 32 (.ifCond .eq 35) 3 35 := ⟨by decide +kernel, rfl⟩
theorem d6_67 : D1 prog_9_method_1_code 67 (.aload_n 0) 1 68 := ⟨by decide +kernel, rfl⟩
theorem d6_68 : D1 prog_9_method_1_code 68 (.aload_n 3) 1 69 := ⟨by decide +kernel, rfl⟩
theorem d6_69 : D1 prog_9_method_1_code 69 (.invokestatic 48) 3 72 := ⟨by decide +kernel, rfl⟩
theorem d6_72 : D1 prog_9_method_1_code 72 (.putfield 54) 3 75 := ⟨by decide +kernel, rfl⟩
theorem d6_75 : D1 prog_9_method_1_code 75 (.return_) 1 76 := ⟨by decide +kernel, rfl⟩
theorem d21_0 : D1 jdk_79_method_31_code 0 (.aload_n 0) 1 1 := ⟨by decide +kernel, rfl⟩
theorem d21_1 : D1 jdk_79_method_31_code 1 (.invokeinterface 179 1) 5 6 := ⟨by decide +kernel, rfl⟩
theorem d21_6 : D1 jdk_79_method_31_code 6 (.ldc 182) 2 8 := ⟨by decide +kernel, rfl⟩
theorem d21_8 : D1 jdk_79_method_31_code 8 (.if_acmp .ne 5) 3 11 := ⟨by decide +kernel, rfl⟩
theorem d21_13 : D1 jdk_79_method_31_code 13 (.new 182) 3 16 := ⟨by decide +kernel, rfl⟩
theorem d21_16 : D1 jdk_79_method_31_code 16 (.dup) 1 17 := ⟨by decide +kernel, rfl⟩
theorem d21_17 : D1 jdk_79_method_31_code 17 (.aload_n 0) 1 18 := ⟨by decide +kernel, rfl⟩
theorem d21_18 : D1 jdk_79_method_31_code 18 (.invokespecial 184) 3 21 := ⟨by decide +kernel, rfl⟩
theorem d21_21 : D1 jdk_79_method_31_code 21 (.areturn) 1 22 := ⟨by decide +kernel, rfl⟩
theorem d22_0 : D1 jdk_122_method_1_code 0 (.aload_n 0) 1 1 := ⟨by decide +kernel, rfl⟩
theorem d22_1 : D1 jdk_122_method_1_code 1 (.aload_n 1) 1 2 := ⟨by decide +kernel, rfl⟩
theorem d22_2 : D1 jdk_122_method_1_code 2 (.invokespecial 1) 3 5 := ⟨by decide +kernel, rfl⟩
theorem d22_5 : D1 jdk_122_method_1_code 5 (.return_) 1 6 := ⟨by decide +kernel, rfl⟩
theorem d23_0 : D1 jdk_119_method_1_code 0 (.aload_n 0) 1 1 := ⟨by decide +kernel, rfl⟩
theorem d23_1 : D1 jdk_119_method_1_code 1 (.invokespecial 1) 3 4 := ⟨by decide +kernel, rfl⟩
theorem d23_4 : D1 jdk_119_method_1_code 4 (.aload_n 1) 1 5 := ⟨by decide +kernel, rfl⟩
theorem d23_5 : D1 jdk_119_method_1_code 5 (.ifnonnull 11) 3 8 := ⟨by decide +kernel, rfl⟩
theorem d23_16 : D1 jdk_119_method_1_code 16 (.aload_n 0) 1 17 := ⟨by decide +kernel, rfl⟩
theorem d23_17 : D1 jdk_119_method_1_code 17 (.aload_n 1) 1 18 := ⟨by decide +kernel, rfl⟩
theorem d23_18 : D1 jdk_119_method_1_code 18 (.putfield 10) 3 21 := ⟨by decide +kernel, rfl⟩
theorem d23_21 : D1 jdk_119_method_1_code 21 (.return_) 1 22 := ⟨by decide +kernel, rfl⟩
theorem d24_0 : D1 prog_9_method_4_code 0 (.new 8) 3 3 := ⟨by decide +kernel, rfl⟩
theorem d24_3 : D1 prog_9_method_4_code 3 (.dup) 1 4 := ⟨by decide +kernel, rfl⟩
theorem d24_4 : D1 prog_9_method_4_code 4 (.getstatic 79) 3 7 := ⟨by decide +kernel, rfl⟩
theorem d24_7 : D1 prog_9_method_4_code 7 (.aload_n 0) 1 8 := ⟨by decide +kernel, rfl⟩
theorem d24_8 : D1 prog_9_method_4_code 8 (.invokestatic 72) 3 11 := ⟨by decide +kernel, rfl⟩
theorem d24_11 : D1 prog_9_method_4_code 11 (.invokespecial 69) 3 14 := ⟨by decide +kernel, rfl⟩
theorem d24_14 : D1 prog_9_method_4_code 14 (.areturn) 1 15 := ⟨by decide +kernel, rfl⟩
def ns4 : List Nm := [("java/util/Collections$UnmodifiableCollection", "c", "Ljava/util/Collection;")]
theorem lay4 {a0 : Array Value} {Z : State} (G : Gl a0 Z) : LayC Z a0 "java/util/Collections$UnmodifiableSet" ns4 := LayC.of (fun q hq => by
  simp only [ns4, List.mem_cons, List.not_mem_nil, or_false] at hq
  rcases hq with rfl
  · exact Or.inr (G.1 _ (List.mem_of_getElem? (i := 185) rfl))) (by decide +kernel) (fun q hq => by
  simp only [ns4, List.mem_cons, List.not_mem_nil, or_false] at hq
  rcases hq with rfl
  · exact ⟨(.object "java/util/Collection"), by decide +kernel⟩)
theorem df4 : dfl ns4 = ([.null] : List Value).map some := by decide +kernel
def ns5 : List Nm := [("com/example/mussel/mussel/rule/Selection", "kind", "Lcom/example/mussel/mussel/rule/Selection$Kind;"), ("com/example/mussel/mussel/rule/Selection", "names", "Ljava/util/Set;")]
theorem lay5 {a0 : Array Value} {Z : State} (G : Gl a0 Z) : LayC Z a0 "com/example/mussel/mussel/rule/Selection" ns5 := LayC.of (fun q hq => by
  simp only [ns5, List.mem_cons, List.not_mem_nil, or_false] at hq
  rcases hq with rfl | rfl
  · exact Or.inr (G.1 _ (List.mem_of_getElem? (i := 42) rfl))
  · exact Or.inr (G.1 _ (List.mem_of_getElem? (i := 187) rfl))) (by decide +kernel) (fun q hq => by
  simp only [ns5, List.mem_cons, List.not_mem_nil, or_false] at hq
  rcases hq with rfl | rfl
  · exact ⟨(.object "com/example/mussel/mussel/rule/Selection$Kind"), by decide +kernel⟩
  · exact ⟨(.object "java/util/Set"), by decide +kernel⟩)
theorem df5 : dfl ns5 = ([.null, .null] : List Value).map some := by decide +kernel
theorem pd11 : parseMethodDescriptor "(Ljava/util/Collection;)V" = some ⟨[(.object "java/util/Collection")], none⟩ := by decide +kernel
theorem pd12 : parseMethodDescriptor "(Ljava/util/Set;)V" = some ⟨[(.object "java/util/Set")], none⟩ := by decide +kernel
theorem pd13 : parseMethodDescriptor "()Ljava/util/Iterator;" = some ⟨[], some (.object "java/util/Iterator")⟩ := by decide +kernel
theorem pd14 : parseMethodDescriptor "()Z" = some ⟨[], some .boolean⟩ := by decide +kernel
theorem pd15 : parseMethodDescriptor "(Ljava/util/Set;)Ljava/util/Set;" = some ⟨[(.object "java/util/Set")], some (.object "java/util/Set")⟩ := by decide +kernel
theorem pd16 : parseMethodDescriptor "()Ljava/util/List;" = some ⟨[], some (.object "java/util/List")⟩ := by decide +kernel
theorem pd17 : parseMethodDescriptor "(Lcom/example/mussel/mussel/rule/Selection$Kind;Ljava/util/Collection;)V" = some ⟨[(.object "com/example/mussel/mussel/rule/Selection$Kind"), (.object "java/util/Collection")], none⟩ := by decide +kernel
theorem pd18 : parseMethodDescriptor "([Ljava/lang/Object;)Ljava/util/List;" = some ⟨[(.array (.object "java/lang/Object"))], some (.object "java/util/List")⟩ := by decide +kernel
theorem pf7 : parseFieldDescriptor "Ljava/util/Collection;" = some (.object "java/util/Collection") := by decide +kernel
theorem pf8 : parseFieldDescriptor "Lcom/example/mussel/mussel/rule/Selection$Kind;" = some (.object "com/example/mussel/mussel/rule/Selection$Kind") := by decide +kernel
theorem pf9 : parseFieldDescriptor "Ljava/util/Set;" = some (.object "java/util/Set") := by decide +kernel
set_option maxRecDepth 65536 in
set_option maxHeartbeats 4000000 in
theorem u_ci (l : Launch) {Z : State} {a0 : Array Value} (G : Gl a0 Z) {L : List Ent} {a ls : Addr} : Ct WD EL0 l Z (⟨"java/util/Collections$UnmodifiableCollection", "<init>", "(Ljava/util/Collection;)V"⟩ : MethodName) jdk_119_method_1_code 2 none ({ frames := 1, cells := 0, slots := 0, locals := 12 } : Room) #[.ref a, .ref ls] (ow a (Ob Z "java/util/Collections$UnmodifiableSet" ns4 [.null]) :: L) (r0Q (fun M => M = ow a (Ob Z "java/util/Collections$UnmodifiableSet" ns4 [.ref ls]) :: L)) := by
  refine Ct.intro (by decide +kernel) G.2.1 ?_
  intro p e s m below meth c X
  replace X : Cx WD EL0 p Z s m meth c "java/util/Collections$UnmodifiableCollection" "<init>" jdk_119_method_1_code 2 none := X
  refine Go.cast (g' := mkF m 0 #[.val (.ref a), .val (.ref ls)] []) (by first | rfl | (simp [entryFrame, mkF, argsToLocals, Value.category, maxLocals]; done)) ?_
  refine Go.aloadN X d23_0 rfl rfl ?_
  refine Go.initObj X (w183 G) (w12 G) (w13 G) d23_1 rfl (Nat.le_of_ble_eq_true rfl) (Nat.le_of_ble_eq_true rfl) ?_
  refine Go.aloadN X d23_4 rfl rfl ?_
  refine Go.ifnonnullY X d23_5 (pt := 16) ⟨by decide, by decide⟩ ?_
  refine Go.aloadN X d23_16 rfl rfl ?_
  refine Go.aloadN X d23_17 rfl rfl ?_
  refine Go.putFld X (i := 0) rfl (j := 0) rfl (lay4 G) (w184 G) Via.refl (Or.inr ⟨(w185 G), rfl, rfl⟩) (w172 G) pf7 d23_18 (by rfl) (by rfl) ?_
  exact Go.ret0 X d23_21 (by first | exact Nat.le_of_ble_eq_true rfl | (simp; done) | (simp; omega)) (by first | exact Nat.le_of_ble_eq_true rfl | (simp; done) | (simp; omega)) rfl
set_option maxRecDepth 65536 in
set_option maxHeartbeats 4000000 in
theorem u_si (l : Launch) {Z : State} {a0 : Array Value} (G : Gl a0 Z) {L : List Ent} {a ls : Addr} : Ct WD EL0 l Z (⟨"java/util/Collections$UnmodifiableSet", "<init>", "(Ljava/util/Set;)V"⟩ : MethodName) jdk_122_method_1_code 2 none ({ frames := 2, cells := 0, slots := 0, locals := 25 } : Room) #[.ref a, .ref ls] (ow a (Ob Z "java/util/Collections$UnmodifiableSet" ns4 [.null]) :: L) (r0Q (fun M => M = ow a (Ob Z "java/util/Collections$UnmodifiableSet" ns4 [.ref ls]) :: L)) := by
  refine Ct.intro (by decide +kernel) G.2.1 ?_
  intro p e s m below meth c X
  replace X : Cx WD EL0 p Z s m meth c "java/util/Collections$UnmodifiableSet" "<init>" jdk_122_method_1_code 2 none := X
  refine Go.cast (g' := mkF m 0 #[.val (.ref a), .val (.ref ls)] []) (by first | rfl | (simp [entryFrame, mkF, argsToLocals, Value.category, maxLocals]; done)) ?_
  refine Go.aloadN X d22_0 rfl rfl ?_
  refine Go.aloadN X d22_1 rfl rfl ?_
  refine Go.callI X (u_ci l G (a := a) (ls := ls)) rfl (rest := []) (w177 G) (w178 G) (w181 G) (w182 G) (by decide) pd11 rfl rfl d22_2 rfl (by first | exact Nat.le_of_ble_eq_true rfl | (simp; done) | (simp; omega)) (by first | exact Nat.le_of_ble_eq_true rfl | (simp; done) | (simp; omega)) (by first | exact Nat.le_of_ble_eq_true rfl | (simp; done) | (simp; omega)) (by first | exact Nat.le_of_ble_eq_true rfl | (simp; done) | (simp; omega)) (K0 ?_)
  rintro M rfl
  exact Go.ret0 X d22_5 (by first | exact Nat.le_of_ble_eq_true rfl | (simp; done) | (simp; omega)) (by first | exact Nat.le_of_ble_eq_true rfl | (simp; done) | (simp; omega)) rfl
set_option maxRecDepth 65536 in
set_option maxHeartbeats 4000000 in
theorem u_new (l : Launch) {Z : State} {a0 : Array Value} (G : Gl a0 Z) {L : List Ent} {ls lm : Addr} {f : Bool} (hls : (ls, (Ob Z "java/util/LinkedHashSet" ns2 [.ref lm]), f) ∈ L) : Ct WD EL0 l Z (⟨"java/util/Collections", "unmodifiableSet", "(Ljava/util/Set;)Ljava/util/Set;"⟩ : MethodName) jdk_79_method_31_code 1 (some (.object "java/util/Set")) ({ frames := 3, cells := 1, slots := 1, locals := 39 } : Room) #[.ref ls] L (rvQ (fun v M => ∃ us, v = .ref us ∧ M = ow us (Ob Z "java/util/Collections$UnmodifiableSet" ns4 [.ref ls]) :: L)) := by
  refine Ct.intro (by decide +kernel) G.2.1 ?_
  intro p e s m below meth c X
  replace X : Cx WD EL0 p Z s m meth c "java/util/Collections" "unmodifiableSet" jdk_79_method_31_code 1 (some (.object "java/util/Set")) := X
  refine Go.cast (g' := mkF m 0 #[.val (.ref ls)] []) (by first | rfl | (simp [entryFrame, mkF, argsToLocals, Value.category, maxLocals]; done)) ?_
  obtain ⟨K1, m1, K2, m2, hM1, hM2, hne⟩ := g_mm G
  refine Go.aloadN X d21_0 rfl rfl ?_
  refine Go.getclsI X (xi := (⟨"java/util/Set", "getClass", "()Ljava/lang/Class;"⟩ : MethodName)) (w160 G) (w161 G) (w162 G) (w163 G) (w164 G) (w165 G) (w166 G) (w167 G) (w168 G) (by decide) (by decide) rfl rfl hM1 (fun h H => H.exaM hls (fun c q => ⟨_, _, q⟩)) d21_1 rfl (by first | exact Nat.le_of_ble_eq_true rfl | (simp; done) | (simp; omega)) (by first | exact Nat.le_of_ble_eq_true rfl | (simp; done) | (simp; omega)) ?_
  refine Go.ldcM X (w170 G) hM2 d21_6 ?_
  refine Go.acmp X d21_8 (pt := 13) ⟨by decide, by decide⟩ (by rfl) (by rfl) ?_ ?_
  rotate_left
  · intro q; exact absurd (fun z => hne (Value.ref.inj z)) q
  intro _
  refine Go.new X (w170 G) (w172 G) (w173 G) (lay4 G) df4 d21_13 (by first | exact Nat.le_of_ble_eq_true rfl | (simp; done) | (simp; omega)) (by first | exact Nat.le_of_ble_eq_true rfl | (simp; done) | (simp; omega)) ?_
  intro us
  refine Go.dup X d21_16 rfl ?_
  refine Go.aloadN X d21_17 rfl rfl ?_
  refine Go.callI X (u_si l G (a := us) (ls := ls)) rfl (rest := [.ref us]) (w174 G) (w175 G) (w173 G) (w176 G) (by decide) pd12 rfl rfl d21_18 rfl (by first | exact Nat.le_of_ble_eq_true rfl | (simp; done) | (simp; omega)) (by first | exact Nat.le_of_ble_eq_true rfl | (simp; done) | (simp; omega)) (by first | exact Nat.le_of_ble_eq_true rfl | (simp; done) | (simp; omega)) (by first | exact Nat.le_of_ble_eq_true rfl | (simp; done) | (simp; omega)) (K0 ?_)
  rintro M rfl
  exact Go.aret X d21_21 (by rfl) (by rfl) (by rfl) (by first | exact Nat.le_of_ble_eq_true rfl | (simp; done) | (simp; omega)) (by first | exact Nat.le_of_ble_eq_true rfl | (simp; done) | (simp; omega)) ⟨us, rfl, rfl⟩
set_option maxRecDepth 65536 in
set_option maxHeartbeats 4000000 in
theorem x_init (l : Launch) {Z : State} {a0 : Array Value} (G : Gl a0 Z) {L : List Ent} {a kd : Addr} {em ea : Addr} (hEm : EmF Z em ea) : Ct WD EL0 l Z (⟨"com/example/mussel/mussel/rule/Selection", "<init>", "(Lcom/example/mussel/mussel/rule/Selection$Kind;Ljava/util/Collection;)V"⟩ : MethodName) prog_9_method_1_code 6 none ({ frames := 6, cells := 4, slots := 18, locals := 86 } : Room) #[.ref a, .ref kd, .ref em] (ow a (Ob Z "com/example/mussel/mussel/rule/Selection" ns5 [.null, .null]) :: L) (r0Q (fun M => ∃ us it lm ls, M = ow us (Ob Z "java/util/Collections$UnmodifiableSet" ns4 [.ref ls]) :: ow it (Ob Z "java/util/ImmutableCollections$ListItr" ns3 [.ref em, .int 0, .int 0, .int 0]) :: ow lm (Ob Z "java/util/LinkedHashMap" ns1 [.float 1061158912, .int 16, .int 0, .int 0, .int 0, .null, .null, .int 0]) :: ow ls (Ob Z "java/util/LinkedHashSet" ns2 [.ref lm]) :: ow a (Ob Z "com/example/mussel/mussel/rule/Selection" ns5 [.ref kd, .ref us]) :: L)) := by
  refine Ct.intro (by decide +kernel) G.2.1 ?_
  intro p e s m below meth c X
  replace X : Cx WD EL0 p Z s m meth c "com/example/mussel/mussel/rule/Selection" "<init>" prog_9_method_1_code 6 none := X
  refine Go.cast (g' := mkF m 0 #[.val (.ref a), .val (.ref kd), .val (.ref em), .unset, .unset, .unset] []) (by first | rfl | (simp [entryFrame, mkF, argsToLocals, Value.category, maxLocals]; done)) ?_
  refine Go.aloadN X d6_0 rfl rfl ?_
  refine Go.initObj X (w40 G) (w12 G) (w13 G) d6_1 rfl (Nat.le_of_ble_eq_true rfl) (Nat.le_of_ble_eq_true rfl) ?_
  refine Go.aloadN X d6_4 rfl rfl ?_
  refine Go.aloadN X d6_5 rfl rfl ?_
  refine Go.putFld X (i := 0) rfl (j := 0) rfl (lay5 G) (w41 G) Via.refl (Or.inr ⟨(w42 G), rfl, rfl⟩) (w27 G) pf8 d6_6 (by rfl) (by rfl) ?_
  refine Go.new X (w43 G) (w44 G) (w45 G) (lay2 G) df2 d6_9 (by first | exact Nat.le_of_ble_eq_true rfl | (simp; done) | (simp; omega)) (by first | exact Nat.le_of_ble_eq_true rfl | (simp; done) | (simp; omega)) ?_
  intro ls
  refine Go.dup X d6_12 rfl ?_
  refine Go.callI X (s_linit l G (a := ls)) rfl (rest := [.ref ls]) (w46 G) (w47 G) (w45 G) (w48 G) (by decide) pd4 rfl rfl d6_13 rfl (by first | exact Nat.le_of_ble_eq_true rfl | (simp; done) | (simp; omega)) (by first | exact Nat.le_of_ble_eq_true rfl | (simp; done) | (simp; omega)) (by first | exact Nat.le_of_ble_eq_true rfl | (simp; done) | (simp; omega)) (by first | exact Nat.le_of_ble_eq_true rfl | (simp; done) | (simp; omega)) (K0 ?_)
  rintro M ⟨lm, rfl⟩
  refine Go.astoreN X d6_16 rfl rfl ?_
  refine Go.aloadN X d6_17 rfl rfl ?_
  refine Go.callN X (fun h H => Exa.ext H.1 hEm.2.1) (e_iter l G hEm) (rest := []) (w112 G) (w113 G) (by decide +kernel) (w114 G) (w115 G) (w116 G) (w117 G) (w118 G) (w119 G) (w120 G) (w121 G) (by decide) pd13 rfl rfl d6_18 rfl (by first | exact Nat.le_of_ble_eq_true rfl | (simp; done) | (simp; omega)) (by first | exact Nat.le_of_ble_eq_true rfl | (simp; done) | (simp; omega)) (by first | exact Nat.le_of_ble_eq_true rfl | (simp; done) | (simp; omega)) (by first | exact Nat.le_of_ble_eq_true rfl | (simp; done) | (simp; omega)) (Kv ?_)
  rintro v M ⟨it, rfl, rfl⟩
  refine Go.astore X d6_23 rfl rfl ?_
  refine Go.aload X d6_25 rfl rfl ?_
  refine Go.callN X (fun h H => H.exa (i := 0) rfl) (e_has l G (it := it) (em := em)) (rest := []) (w147 G) (w148 G) (by decide +kernel) (w149 G) (w150 G) (w151 G) (w152 G) (w153 G) (w154 G) (w124 G) (w155 G) (by decide) pd14 rfl rfl d6_27 rfl (by first | exact Nat.le_of_ble_eq_true rfl | (simp; done) | (simp; omega)) (by first | exact Nat.le_of_ble_eq_true rfl | (simp; done) | (simp; omega)) (by first | exact Nat.le_of_ble_eq_true rfl | (simp; done) | (simp; omega)) (by first | exact Nat.le_of_ble_eq_true rfl | (simp; done) | (simp; omega)) (Kv ?_)
  rintro v M ⟨rfl, rfl⟩
  refine Go.ifc X d6_32 (pt := 67) ⟨by decide, by decide⟩ ?_ ?_
  rotate_left
  · intro q; exact absurd rfl q
  intro _
  refine Go.aloadN X d6_67 rfl rfl ?_
  refine Go.aloadN X d6_68 rfl rfl ?_
  refine Go.callS X (u_new l G (ls := ls) (lm := lm) (List.mem_of_getElem? (i := 2) rfl)) (rest := [.ref a]) (w156 G) (w157 G) (w158 G) (w159 G) (by decide) pd15 rfl rfl d6_69 rfl (by first | exact Nat.le_of_ble_eq_true rfl | (simp; done) | (simp; omega)) (by first | exact Nat.le_of_ble_eq_true rfl | (simp; done) | (simp; omega)) (by first | exact Nat.le_of_ble_eq_true rfl | (simp; done) | (simp; omega)) (by first | exact Nat.le_of_ble_eq_true rfl | (simp; done) | (simp; omega)) (Kv ?_)
  rintro v M ⟨us, rfl, rfl⟩
  refine Go.putFld X (i := 4) rfl (j := 1) rfl (lay5 G) (w186 G) Via.refl (Or.inr ⟨(w187 G), rfl, rfl⟩) (w27 G) pf9 d6_72 (by rfl) (by rfl) ?_
  exact Go.ret0 X d6_75 (by first | exact Nat.le_of_ble_eq_true rfl | (simp; done) | (simp; omega)) (by first | exact Nat.le_of_ble_eq_true rfl | (simp; done) | (simp; omega)) ⟨us, it, lm, ls, rfl⟩
set_option maxRecDepth 65536 in
set_option maxHeartbeats 4000000 in
theorem x_ignore (l : Launch) {Z : State} {a0 : Array Value} (G : Gl a0 Z) {L : List Ent} {em ea : Addr} (hEm : EmF Z em ea) {ki ke : Addr} (hKd : KdF Z ki ke) : Ct WD EL0 l Z (⟨"com/example/mussel/mussel/rule/Selection", "ignore", "()Lcom/example/mussel/mussel/rule/Selection;"⟩ : MethodName) prog_9_method_2_code 0 (some (.object "com/example/mussel/mussel/rule/Selection")) ({ frames := 7, cells := 5, slots := 20, locals := 104 } : Room) #[] L (rvQ (fun v M => ∃ a us it lm ls, v = .ref a ∧ M = ow us (Ob Z "java/util/Collections$UnmodifiableSet" ns4 [.ref ls]) :: ow it (Ob Z "java/util/ImmutableCollections$ListItr" ns3 [.ref em, .int 0, .int 0, .int 0]) :: ow lm (Ob Z "java/util/LinkedHashMap" ns1 [.float 1061158912, .int 16, .int 0, .int 0, .int 0, .null, .null, .int 0]) :: ow ls (Ob Z "java/util/LinkedHashSet" ns2 [.ref lm]) :: ow a (Ob Z "com/example/mussel/mussel/rule/Selection" ns5 [.ref ki, .ref us]) :: L)) := by
  refine Ct.intro (by decide +kernel) G.2.1 ?_
  intro p e s m below meth c X
  replace X : Cx WD EL0 p Z s m meth c "com/example/mussel/mussel/rule/Selection" "ignore" prog_9_method_2_code 0 (some (.object "com/example/mussel/mussel/rule/Selection")) := X
  refine Go.cast (g' := mkF m 0 #[] []) (by first | rfl | (simp [entryFrame, mkF, argsToLocals, Value.category, maxLocals]; done)) ?_
  refine Go.new X (w26 G) (w27 G) (w24 G) (lay5 G) df5 d4_0 (by first | exact Nat.le_of_ble_eq_true rfl | (simp; done) | (simp; omega)) (by first | exact Nat.le_of_ble_eq_true rfl | (simp; done) | (simp; omega)) ?_
  intro a
  refine Go.dup X d4_3 rfl ?_
  refine Go.getSta X (w28 G) Via.refl hKd.1 d4_4 ?_
  refine Go.callS X (e_of l G hEm) (rest := [.ref ki, .ref a, .ref a]) (w31 G) (w32 G) (w33 G) (w34 G) (by decide) pd16 rfl rfl d4_7 rfl (by first | exact Nat.le_of_ble_eq_true rfl | (simp; done) | (simp; omega)) (by first | exact Nat.le_of_ble_eq_true rfl | (simp; done) | (simp; omega)) (by first | exact Nat.le_of_ble_eq_true rfl | (simp; done) | (simp; omega)) (by first | exact Nat.le_of_ble_eq_true rfl | (simp; done) | (simp; omega)) (Kv ?_)
  rintro v M ⟨rfl, rfl⟩
  refine Go.callI X (x_init l G (a := a) (kd := ki) hEm) rfl (rest := [.ref a]) (w37 G) (w38 G) (w24 G) (w39 G) (by decide) pd17 rfl rfl d4_10 rfl (by first | exact Nat.le_of_ble_eq_true rfl | (simp; done) | (simp; omega)) (by first | exact Nat.le_of_ble_eq_true rfl | (simp; done) | (simp; omega)) (by first | exact Nat.le_of_ble_eq_true rfl | (simp; done) | (simp; omega)) (by first | exact Nat.le_of_ble_eq_true rfl | (simp; done) | (simp; omega)) (K0 ?_)
  rintro M ⟨us, it, lm, ls, rfl⟩
  exact Go.aret X d4_13 (by rfl) (by rfl) (by rfl) (by first | exact Nat.le_of_ble_eq_true rfl | (simp; done) | (simp; omega)) (by first | exact Nat.le_of_ble_eq_true rfl | (simp; done) | (simp; omega)) ⟨a, us, it, lm, ls, rfl, rfl⟩
set_option maxRecDepth 65536 in
set_option maxHeartbeats 4000000 in
theorem x_exclude (l : Launch) {Z : State} {a0 : Array Value} (G : Gl a0 Z) {L : List Ent} {em ea : Addr} (hEm : EmF Z em ea) {ki ke : Addr} (hKd : KdF Z ki ke) {ar : Addr} {ty : FieldType} {K : ClassId} {f : Bool} (hA : (ar, Ar Z ty K [], f) ∈ L) : Ct WD EL0 l Z (⟨"com/example/mussel/mussel/rule/Selection", "exclude", "([Ljava/lang/String;)Lcom/example/mussel/mussel/rule/Selection;"⟩ : MethodName) prog_9_method_4_code 1 (some (.object "com/example/mussel/mussel/rule/Selection")) ({ frames := 7, cells := 5, slots := 20, locals := 104 } : Room) #[.ref ar] L (rvQ (fun v M => ∃ a us it lm ls, v = .ref a ∧ M = ow us (Ob Z "java/util/Collections$UnmodifiableSet" ns4 [.ref ls]) :: ow it (Ob Z "java/util/ImmutableCollections$ListItr" ns3 [.ref em, .int 0, .int 0, .int 0]) :: ow lm (Ob Z "java/util/LinkedHashMap" ns1 [.float 1061158912, .int 16, .int 0, .int 0, .int 0, .null, .null, .int 0]) :: ow ls (Ob Z "java/util/LinkedHashSet" ns2 [.ref lm]) :: ow a (Ob Z "com/example/mussel/mussel/rule/Selection" ns5 [.ref ke, .ref us]) :: L)) := by
  refine Ct.intro (by decide +kernel) G.2.1 ?_
  intro p e s m below meth c X
  replace X : Cx WD EL0 p Z s m meth c "com/example/mussel/mussel/rule/Selection" "exclude" prog_9_method_4_code 1 (some (.object "com/example/mussel/mussel/rule/Selection")) := X
  refine Go.cast (g' := mkF m 0 #[.val (.ref ar)] []) (by first | rfl | (simp [entryFrame, mkF, argsToLocals, Value.category, maxLocals]; done)) ?_
  refine Go.new X (w26 G) (w27 G) (w24 G) (lay5 G) df5 d24_0 (by first | exact Nat.le_of_ble_eq_true rfl | (simp; done) | (simp; omega)) (by first | exact Nat.le_of_ble_eq_true rfl | (simp; done) | (simp; omega)) ?_
  intro a
  refine Go.dup X d24_3 rfl ?_
  refine Go.getSta X (w192 G) Via.refl hKd.2.1 d24_4 ?_
  refine Go.aloadN X d24_7 rfl rfl ?_
  refine Go.callS X (e_ofA l G hEm (List.mem_cons_of_mem _ hA)) (rest := [.ref ke, .ref a, .ref a]) (w194 G) (w195 G) (w33 G) (w196 G) (by decide) pd18 rfl rfl d24_8 rfl (by first | exact Nat.le_of_ble_eq_true rfl | (simp; done) | (simp; omega)) (by first | exact Nat.le_of_ble_eq_true rfl | (simp; done) | (simp; omega)) (by first | exact Nat.le_of_ble_eq_true rfl | (simp; done) | (simp; omega)) (by first | exact Nat.le_of_ble_eq_true rfl | (simp; done) | (simp; omega)) (Kv ?_)
  rintro v M ⟨rfl, rfl⟩
  refine Go.callI X (x_init l G (a := a) (kd := ke) hEm) rfl (rest := [.ref a]) (w37 G) (w38 G) (w24 G) (w39 G) (by decide) pd17 rfl rfl d24_11 rfl (by first | exact Nat.le_of_ble_eq_true rfl | (simp; done) | (simp; omega)) (by first | exact Nat.le_of_ble_eq_true rfl | (simp; done) | (simp; omega)) (by first | exact Nat.le_of_ble_eq_true rfl | (simp; done) | (simp; omega)) (by first | exact Nat.le_of_ble_eq_true rfl | (simp; done) | (simp; omega)) (K0 ?_)
  rintro M ⟨us, it, lm, ls, rfl⟩
  exact Go.aret X d24_14 (by rfl) (by rfl) (by rfl) (by first | exact Nat.le_of_ble_eq_true rfl | (simp; done) | (simp; omega)) (by first | exact Nat.le_of_ble_eq_true rfl | (simp; done) | (simp; omega)) ⟨a, us, it, lm, ls, rfl, rfl⟩
-- %%% sizes, key set
theorem w207 {a0 : Array Value} {Z : State} (G : Gl a0 Z) : (Jvm.Cond.methodLink "com/example/mussel/mussel/rule/Selection" (95 : Nat) ({ cls := "com/example/mussel/mussel/rule/Selection$Kind", name := "ordinal", desc := "()I" } : Jvm.MethodName)).before a0 Z = true := G.1 _ (List.mem_of_getElem? (i := 207) rfl)
theorem w208 {a0 : Array Value} {Z : State} (G : Gl a0 Z) : (Jvm.Cond.sameMethod "com/example/mussel/mussel/rule/Selection$Kind" "java/lang/Enum" "ordinal" "()I").before a0 Z = true := G.1 _ (List.mem_of_getElem? (i := 208) rfl)
theorem w209 {a0 : Array Value} {Z : State} (G : Gl a0 Z) : (Jvm.Cond.declares ({ cls := "java/lang/Enum", name := "ordinal", desc := "()I" } : Jvm.MethodName)).before a0 Z = true := G.1 _ (List.mem_of_getElem? (i := 209) rfl)
theorem w210 {a0 : Array Value} {Z : State} (G : Gl a0 Z) : (Jvm.Cond.instanceMethod ({ cls := "java/lang/Enum", name := "ordinal", desc := "()I" } : Jvm.MethodName)).before a0 Z = true := G.1 _ (List.mem_of_getElem? (i := 210) rfl)
theorem w211 {a0 : Array Value} {Z : State} (G : Gl a0 Z) : (Jvm.Cond.selects "com/example/mussel/mussel/rule/Selection$Kind" ({ cls := "com/example/mussel/mussel/rule/Selection$Kind", name := "ordinal", desc := "()I" } : Jvm.MethodName) ({ cls := "java/lang/Enum", name := "ordinal", desc := "()I" } : Jvm.MethodName)).before a0 Z = true := G.1 _ (List.mem_of_getElem? (i := 211) rfl)
theorem w212 {a0 : Array Value} {Z : State} (G : Gl a0 Z) : (Jvm.Cond.initialized "java/lang/Enum").before a0 Z = true := G.1 _ (List.mem_of_getElem? (i := 212) rfl)
theorem w213 {a0 : Array Value} {Z : State} (G : Gl a0 Z) : (Jvm.Cond.code ({ cls := "java/lang/Enum", name := "ordinal", desc := "()I" } : Jvm.MethodName) jdk_37_method_2_code (1 : Nat) (Option.some Jvm.ClassFile.FieldType.int)).before a0 Z = true := G.1 _ (List.mem_of_getElem? (i := 213) rfl)
theorem w214 {a0 : Array Value} {Z : State} (G : Gl a0 Z) : (Jvm.Cond.fieldLink "java/lang/Enum" (7 : Nat) "java/lang/Enum" "ordinal" "I").before a0 Z = true := G.1 _ (List.mem_of_getElem? (i := 214) rfl)
theorem w240 {a0 : Array Value} {Z : State} (G : Gl a0 Z) : (Jvm.Cond.castable "java/util/LinkedHashSet" "java/util/Collection").before a0 Z = true := G.1 _ (List.mem_of_getElem? (i := 240) rfl)
theorem w246 {a0 : Array Value} {Z : State} (G : Gl a0 Z) : (Jvm.Cond.declares ({ cls := "java/util/Collection", name := "size", desc := "()I" } : Jvm.MethodName)).before a0 Z = true := G.1 _ (List.mem_of_getElem? (i := 246) rfl)
theorem w247 {a0 : Array Value} {Z : State} (G : Gl a0 Z) : (Jvm.Cond.interfaceMethod "java/util/Collection" "java/util/Collection" "size" "()I").before a0 Z = true := G.1 _ (List.mem_of_getElem? (i := 247) rfl)
theorem w253 {a0 : Array Value} {Z : State} (G : Gl a0 Z) : (Jvm.Cond.methodLink "java/util/Collections$UnmodifiableCollection" (16 : Nat) ({ cls := "java/util/Collection", name := "size", desc := "()I" } : Jvm.MethodName)).before a0 Z = true := G.1 _ (List.mem_of_getElem? (i := 253) rfl)
theorem w254 {a0 : Array Value} {Z : State} (G : Gl a0 Z) : (Jvm.Cond.selects "java/util/LinkedHashSet" ({ cls := "java/util/Collection", name := "size", desc := "()I" } : Jvm.MethodName) ({ cls := "java/util/HashSet", name := "size", desc := "()I" } : Jvm.MethodName)).before a0 Z = true := G.1 _ (List.mem_of_getElem? (i := 254) rfl)
theorem w255 {a0 : Array Value} {Z : State} (G : Gl a0 Z) : (Jvm.Cond.instanceMethod ({ cls := "java/util/HashSet", name := "size", desc := "()I" } : Jvm.MethodName)).before a0 Z = true := G.1 _ (List.mem_of_getElem? (i := 255) rfl)
theorem w256 {a0 : Array Value} {Z : State} (G : Gl a0 Z) : (Jvm.Cond.publicMethod ({ cls := "java/util/HashSet", name := "size", desc := "()I" } : Jvm.MethodName)).before a0 Z = true := G.1 _ (List.mem_of_getElem? (i := 256) rfl)
theorem w257 {a0 : Array Value} {Z : State} (G : Gl a0 Z) : (Jvm.Cond.unhidden "java/util/LinkedHashSet" "size" "()I").before a0 Z = true := G.1 _ (List.mem_of_getElem? (i := 257) rfl)
theorem w258 {a0 : Array Value} {Z : State} (G : Gl a0 Z) : (Jvm.Cond.code ({ cls := "java/util/HashSet", name := "size", desc := "()I" } : Jvm.MethodName) jdk_93_method_7_code (1 : Nat) (Option.some Jvm.ClassFile.FieldType.int)).before a0 Z = true := G.1 _ (List.mem_of_getElem? (i := 258) rfl)
theorem w259 {a0 : Array Value} {Z : State} (G : Gl a0 Z) : (Jvm.Cond.methodLink "java/util/HashSet" (55 : Nat) ({ cls := "java/util/HashMap", name := "size", desc := "()I" } : Jvm.MethodName)).before a0 Z = true := G.1 _ (List.mem_of_getElem? (i := 259) rfl)
theorem w260 {a0 : Array Value} {Z : State} (G : Gl a0 Z) : (Jvm.Cond.declares ({ cls := "java/util/HashMap", name := "size", desc := "()I" } : Jvm.MethodName)).before a0 Z = true := G.1 _ (List.mem_of_getElem? (i := 260) rfl)
theorem w261 {a0 : Array Value} {Z : State} (G : Gl a0 Z) : (Jvm.Cond.instanceMethod ({ cls := "java/util/HashMap", name := "size", desc := "()I" } : Jvm.MethodName)).before a0 Z = true := G.1 _ (List.mem_of_getElem? (i := 261) rfl)
theorem w262 {a0 : Array Value} {Z : State} (G : Gl a0 Z) : (Jvm.Cond.selects "java/util/LinkedHashMap" ({ cls := "java/util/HashMap", name := "size", desc := "()I" } : Jvm.MethodName) ({ cls := "java/util/HashMap", name := "size", desc := "()I" } : Jvm.MethodName)).before a0 Z = true := G.1 _ (List.mem_of_getElem? (i := 262) rfl)
theorem w263 {a0 : Array Value} {Z : State} (G : Gl a0 Z) : (Jvm.Cond.code ({ cls := "java/util/HashMap", name := "size", desc := "()I" } : Jvm.MethodName) jdk_69_method_10_code (1 : Nat) (Option.some Jvm.ClassFile.FieldType.int)).before a0 Z = true := G.1 _ (List.mem_of_getElem? (i := 263) rfl)
theorem w264 {a0 : Array Value} {Z : State} (G : Gl a0 Z) : (Jvm.Cond.fieldLink "java/util/HashMap" (156 : Nat) "java/util/HashMap" "size" "I").before a0 Z = true := G.1 _ (List.mem_of_getElem? (i := 264) rfl)
theorem w304 {a0 : Array Value} {Z : State} (G : Gl a0 Z) : (Jvm.Cond.methodLink "java/util/LinkedHashMap" (113 : Nat) ({ cls := "java/util/LinkedHashMap", name := "sequencedKeySet", desc := "()Ljava/util/SequencedSet;" } : Jvm.MethodName)).before a0 Z = true := G.1 _ (List.mem_of_getElem? (i := 304) rfl)
theorem w305 {a0 : Array Value} {Z : State} (G : Gl a0 Z) : (Jvm.Cond.declares ({ cls := "java/util/LinkedHashMap", name := "sequencedKeySet", desc := "()Ljava/util/SequencedSet;" } : Jvm.MethodName)).before a0 Z = true := G.1 _ (List.mem_of_getElem? (i := 305) rfl)
theorem w306 {a0 : Array Value} {Z : State} (G : Gl a0 Z) : (Jvm.Cond.instanceMethod ({ cls := "java/util/LinkedHashMap", name := "sequencedKeySet", desc := "()Ljava/util/SequencedSet;" } : Jvm.MethodName)).before a0 Z = true := G.1 _ (List.mem_of_getElem? (i := 306) rfl)
theorem w307 {a0 : Array Value} {Z : State} (G : Gl a0 Z) : (Jvm.Cond.selects "java/util/LinkedHashMap" ({ cls := "java/util/LinkedHashMap", name := "sequencedKeySet", desc := "()Ljava/util/SequencedSet;" } : Jvm.MethodName) ({ cls := "java/util/LinkedHashMap", name := "sequencedKeySet", desc := "()Ljava/util/SequencedSet;" } : Jvm.MethodName)).before a0 Z = true := G.1 _ (List.mem_of_getElem? (i := 307) rfl)
theorem w308 {a0 : Array Value} {Z : State} (G : Gl a0 Z) : (Jvm.Cond.code ({ cls := "java/util/LinkedHashMap", name := "sequencedKeySet", desc := "()Ljava/util/SequencedSet;" } : Jvm.MethodName) jdk_94_method_25_code (3 : Nat) (Option.some (Jvm.ClassFile.FieldType.object "java/util/SequencedSet"))).before a0 Z = true := G.1 _ (List.mem_of_getElem? (i := 308) rfl)
theorem w309 {a0 : Array Value} {Z : State} (G : Gl a0 Z) : (Jvm.Cond.fieldLink "java/util/LinkedHashMap" (117 : Nat) "java/util/LinkedHashMap" "keySet" "Ljava/util/Set;").before a0 Z = true := G.1 _ (List.mem_of_getElem? (i := 309) rfl)
theorem w310 {a0 : Array Value} {Z : State} (G : Gl a0 Z) : (Jvm.Cond.sameField "java/util/LinkedHashMap" "java/util/AbstractMap" "keySet" "Ljava/util/Set;").before a0 Z = true := G.1 _ (List.mem_of_getElem? (i := 310) rfl)
theorem w311 {a0 : Array Value} {Z : State} (G : Gl a0 Z) : (Jvm.Cond.lays "java/util/LinkedHashMap" "java/util/AbstractMap" "keySet" "Ljava/util/Set;").before a0 Z = true := G.1 _ (List.mem_of_getElem? (i := 311) rfl)
theorem w312 {a0 : Array Value} {Z : State} (G : Gl a0 Z) : (Jvm.Cond.classLink "java/util/LinkedHashMap" (121 : Nat) "java/util/LinkedHashMap$LinkedKeySet").before a0 Z = true := G.1 _ (List.mem_of_getElem? (i := 312) rfl)
theorem w313 {a0 : Array Value} {Z : State} (G : Gl a0 Z) : (Jvm.Cond.instantiable "java/util/LinkedHashMap$LinkedKeySet" (2 : Nat)).before a0 Z = true := G.1 _ (List.mem_of_getElem? (i := 313) rfl)
theorem w314 {a0 : Array Value} {Z : State} (G : Gl a0 Z) : (Jvm.Cond.initialized "java/util/LinkedHashMap$LinkedKeySet").before a0 Z = true := G.1 _ (List.mem_of_getElem? (i := 314) rfl)
theorem w315 {a0 : Array Value} {Z : State} (G : Gl a0 Z) : (Jvm.Cond.methodLink "java/util/LinkedHashMap" (123 : Nat) ({ cls := "java/util/LinkedHashMap$LinkedKeySet", name := "<init>", desc := "(Ljava/util/LinkedHashMap;Z)V" } : Jvm.MethodName)).before a0 Z = true := G.1 _ (List.mem_of_getElem? (i := 315) rfl)
theorem w316 {a0 : Array Value} {Z : State} (G : Gl a0 Z) : (Jvm.Cond.instanceMethod ({ cls := "java/util/LinkedHashMap$LinkedKeySet", name := "<init>", desc := "(Ljava/util/LinkedHashMap;Z)V" } : Jvm.MethodName)).before a0 Z = true := G.1 _ (List.mem_of_getElem? (i := 316) rfl)
theorem w318 {a0 : Array Value} {Z : State} (G : Gl a0 Z) : (Jvm.Cond.code ({ cls := "java/util/LinkedHashMap$LinkedKeySet", name := "<init>", desc := "(Ljava/util/LinkedHashMap;Z)V" } : Jvm.MethodName) jdk_112_method_1_code (3 : Nat) (Option.none : Option Jvm.ClassFile.FieldType)).before a0 Z = true := G.1 _ (List.mem_of_getElem? (i := 318) rfl)
theorem w319 {a0 : Array Value} {Z : State} (G : Gl a0 Z) : (Jvm.Cond.fieldLink "java/util/LinkedHashMap$LinkedKeySet" (1 : Nat) "java/util/LinkedHashMap$LinkedKeySet" "this$0" "Ljava/util/LinkedHashMap;").before a0 Z = true := G.1 _ (List.mem_of_getElem? (i := 319) rfl)
theorem w320 {a0 : Array Value} {Z : State} (G : Gl a0 Z) : (Jvm.Cond.laysFinal "java/util/LinkedHashMap$LinkedKeySet" "java/util/LinkedHashMap$LinkedKeySet" "this$0" "Ljava/util/LinkedHashMap;").before a0 Z = true := G.1 _ (List.mem_of_getElem? (i := 320) rfl)
theorem w321 {a0 : Array Value} {Z : State} (G : Gl a0 Z) : (Jvm.Cond.methodLink "java/util/LinkedHashMap$LinkedKeySet" (7 : Nat) ({ cls := "java/util/AbstractSet", name := "<init>", desc := "()V" } : Jvm.MethodName)).before a0 Z = true := G.1 _ (List.mem_of_getElem? (i := 321) rfl)
theorem w324 {a0 : Array Value} {Z : State} (G : Gl a0 Z) : (Jvm.Cond.fieldLink "java/util/LinkedHashMap$LinkedKeySet" (13 : Nat) "java/util/LinkedHashMap$LinkedKeySet" "reversed" "Z").before a0 Z = true := G.1 _ (List.mem_of_getElem? (i := 324) rfl)
theorem w325 {a0 : Array Value} {Z : State} (G : Gl a0 Z) : (Jvm.Cond.laysFinal "java/util/LinkedHashMap$LinkedKeySet" "java/util/LinkedHashMap$LinkedKeySet" "reversed" "Z").before a0 Z = true := G.1 _ (List.mem_of_getElem? (i := 325) rfl)
theorem d26_0 : D1 prog_9_method_7_code 0 (.aload_n 0) 1 1 := ⟨by decide +kernel, rfl⟩
theorem d26_1 : D1 prog_9_method_7_code 1 (.getfield 7) 3 4 := ⟨by decide +kernel, rfl⟩
theorem d26_4 : D1 prog_9_method_7_code 4 (.getstatic 58) 3 7 := ⟨by decide +kernel, rfl⟩
theorem d26_7 : D1 prog_9_method_7_code 7 (.if_acmp .ne 7) 3 10 := ⟨by decide +kernel, rfl⟩
theorem d26_10 : D1 prog_9_method_7_code 10 (.iconst 1) 1 11 := ⟨by decide +kernel, rfl⟩
theorem d26_11 : D1 prog_9_method_7_code 11 (.goto 4) 3 14 := ⟨by decide +kernel, rfl⟩
theorem d26_15 : D1 prog_9_method_7_code 15 (.ireturn) 1 16 := ⟨by decide +kernel, rfl⟩
theorem d27_0 : D1 prog_9_method_9_code 0 (.aload_n 0) 1 1 := ⟨by decide +kernel, rfl⟩
theorem d27_1 : D1 prog_9_method_9_code 1 (.getfield 7) 3 4 := ⟨by decide +kernel, rfl⟩
theorem d27_4 : D1 prog_9_method_9_code 4 (.invokevirtual 95) 3 7 := ⟨by decide +kernel, rfl⟩
theorem d27_7 : D1 prog_9_method_9_code 7 (.tableswitch 25 0 2 #[35, 39, 52]) 25 32 := ⟨by decide +kernel, rfl⟩
theorem d27_42 : D1 prog_9_method_9_code 42 (.iconst 0) 1 43 := ⟨by decide +kernel, rfl⟩
theorem d27_43 : D1 prog_9_method_9_code 43 (.goto 34) 3 46 := ⟨by decide +kernel, rfl⟩
theorem d27_77 : D1 prog_9_method_9_code 77 (.ireturn) 1 78 := ⟨by decide +kernel, rfl⟩
theorem d28_0 : D1 jdk_37_method_2_code 0 (.aload_n 0) 1 1 := ⟨by decide +kernel, rfl⟩
theorem d28_1 : D1 jdk_37_method_2_code 1 (.getfield 7) 3 4 := ⟨by decide +kernel, rfl⟩
theorem d28_4 : D1 jdk_37_method_2_code 4 (.ireturn) 1 5 := ⟨by decide +kernel, rfl⟩
theorem d32_0 : D1 jdk_119_method_2_code 0 (.aload_n 0) 1 1 := ⟨by decide +kernel, rfl⟩
theorem d32_1 : D1 jdk_119_method_2_code 1 (.getfield 10) 3 4 := ⟨by decide +kernel, rfl⟩
theorem d32_4 : D1 jdk_119_method_2_code 4 (.invokeinterface 16 1) 5 9 := ⟨by decide +kernel, rfl⟩
theorem d32_9 : D1 jdk_119_method_2_code 9 (.ireturn) 1 10 := ⟨by decide +kernel, rfl⟩
theorem d33_0 : D1 jdk_93_method_7_code 0 (.aload_n 0) 1 1 := ⟨by decide +kernel, rfl⟩
theorem d33_1 : D1 jdk_93_method_7_code 1 (.getfield 10) 3 4 := ⟨by decide +kernel, rfl⟩
theorem d33_4 : D1 jdk_93_method_7_code 4 (.invokevirtual 55) 3 7 := ⟨by decide +kernel, rfl⟩
theorem d33_7 : D1 jdk_93_method_7_code 7 (.ireturn) 1 8 := ⟨by decide +kernel, rfl⟩
theorem d34_0 : D1 jdk_69_method_10_code 0 (.aload_n 0) 1 1 := ⟨by decide +kernel, rfl⟩
theorem d34_1 : D1 jdk_69_method_10_code 1 (.getfield 156) 3 4 := ⟨by decide +kernel, rfl⟩
theorem d34_4 : D1 jdk_69_method_10_code 4 (.ireturn) 1 5 := ⟨by decide +kernel, rfl⟩
theorem d39_0 : D1 jdk_94_method_24_code 0 (.aload_n 0) 1 1 := ⟨by decide +kernel, rfl⟩
theorem d39_1 : D1 jdk_94_method_24_code 1 (.invokevirtual 113) 3 4 := ⟨by decide +kernel, rfl⟩
theorem d39_4 : D1 jdk_94_method_24_code 4 (.areturn) 1 5 := ⟨by decide +kernel, rfl⟩
theorem d40_0 : D1 jdk_94_method_25_code 0 (.aload_n 0) 1 1 := ⟨by decide +kernel, rfl⟩
theorem d40_1 : D1 jdk_94_method_25_code 1 (.getfield 117) 3 4 := ⟨by decide +kernel, rfl⟩
theorem d40_4 : D1 jdk_94_method_25_code 4 (.astore_n 1) 1 5 := ⟨by decide +kernel, rfl⟩
theorem d40_5 : D1 jdk_94_method_25_code 5 (.aload_n 1) 1 6 := ⟨by decide +kernel, rfl⟩
theorem d40_6 : D1 jdk_94_method_25_code 6 (.ifnonnull 20) 3 9 := ⟨by decide +kernel, rfl⟩
theorem d40_9 : D1 jdk_94_method_25_code 9 (.new 121) 3 12 := ⟨by decide +kernel, rfl⟩
theorem d40_12 : D1 jdk_94_method_25_code 12 (.dup) 1 13 := ⟨by decide +kernel, rfl⟩
theorem d40_13 : D1 jdk_94_method_25_code 13 (.aload_n 0) 1 14 := ⟨by decide +kernel, rfl⟩
theorem d40_14 : D1 jdk_94_method_25_code 14 (.iconst 0) 1 15 := ⟨by decide +kernel, rfl⟩
theorem d40_15 : D1 jdk_94_method_25_code 15 (.invokespecial 123) 3 18 := ⟨by decide +kernel, rfl⟩
theorem d40_18 : D1 jdk_94_method_25_code 18 (.astore_n 2) 1 19 := ⟨by decide +kernel, rfl⟩
theorem d40_19 : D1 jdk_94_method_25_code 19 (.aload_n 0) 1 20 := ⟨by decide +kernel, rfl⟩
theorem d40_20 : D1 jdk_94_method_25_code 20 (.aload_n 2) 1 21 := ⟨by decide +kernel, rfl⟩
theorem d40_21 : D1 jdk_94_method_25_code 21 (.putfield 117) 3 24 := ⟨by decide +kernel, rfl⟩
theorem d40_24 : D1 jdk_94_method_25_code 24 (.aload_n 2) 1 25 := ⟨by decide +kernel, rfl⟩
theorem d40_25 : D1 jdk_94_method_25_code 25 (.areturn) 1 26 := ⟨by decide +kernel, rfl⟩
theorem d41_0 : D1 jdk_112_method_1_code 0 (.aload_n 0) 1 1 := ⟨by decide +kernel, rfl⟩
theorem d41_1 : D1 jdk_112_method_1_code 1 (.aload_n 1) 1 2 := ⟨by decide +kernel, rfl⟩
theorem d41_2 : D1 jdk_112_method_1_code 2 (.putfield 1) 3 5 := ⟨by decide +kernel, rfl⟩
theorem d41_5 : D1 jdk_112_method_1_code 5 (.aload_n 0) 1 6 := ⟨by decide +kernel, rfl⟩
theorem d41_6 : D1 jdk_112_method_1_code 6 (.invokespecial 7) 3 9 := ⟨by decide +kernel, rfl⟩
theorem d41_9 : D1 jdk_112_method_1_code 9 (.aload_n 0) 1 10 := ⟨by decide +kernel, rfl⟩
theorem d41_10 : D1 jdk_112_method_1_code 10 (.iload_n 2) 1 11 := ⟨by decide +kernel, rfl⟩
theorem d41_11 : D1 jdk_112_method_1_code 11 (.putfield 13) 3 14 := ⟨by decide +kernel, rfl⟩
theorem d41_14 : D1 jdk_112_method_1_code 14 (.return_) 1 15 := ⟨by decide +kernel, rfl⟩
def ns6 : List Nm := [("java/util/LinkedHashMap$LinkedKeySet", "this$0", "Ljava/util/LinkedHashMap;"), ("java/util/LinkedHashMap$LinkedKeySet", "reversed", "Z")]
theorem lay6 {a0 : Array Value} {Z : State} (G : Gl a0 Z) : LayC Z a0 "java/util/LinkedHashMap$LinkedKeySet" ns6 := LayC.of (fun q hq => by
  simp only [ns6, List.mem_cons, List.not_mem_nil, or_false] at hq
  rcases hq with rfl | rfl
  · exact Or.inr (G.1 _ (List.mem_of_getElem? (i := 320) rfl))
  · exact Or.inr (G.1 _ (List.mem_of_getElem? (i := 325) rfl))) (by decide +kernel) (fun q hq => by
  simp only [ns6, List.mem_cons, List.not_mem_nil, or_false] at hq
  rcases hq with rfl | rfl
  · exact ⟨(.object "java/util/LinkedHashMap"), by decide +kernel⟩
  · exact ⟨.boolean, by decide +kernel⟩)
theorem df6 : dfl ns6 = ([.null, .int 0] : List Value).map some := by decide +kernel
theorem pd19 : parseMethodDescriptor "(Ljava/util/LinkedHashMap;Z)V" = some ⟨[(.object "java/util/LinkedHashMap"), .boolean], none⟩ := by decide +kernel
theorem pd20 : parseMethodDescriptor "()Ljava/util/SequencedSet;" = some ⟨[], some (.object "java/util/SequencedSet")⟩ := by decide +kernel
theorem pf10 : parseFieldDescriptor "Ljava/util/LinkedHashMap;" = some (.object "java/util/LinkedHashMap") := by decide +kernel
set_option maxRecDepth 65536 in
set_option maxHeartbeats 4000000 in
theorem q_ign (l : Launch) {Z : State} {a0 : Array Value} (G : Gl a0 Z) {ki ke : Addr} (hKd : KdF Z ki ke) {L : List Ent} {a us : Addr} {f : Bool} (hA : (a, (Ob Z "com/example/mussel/mussel/rule/Selection" ns5 [.ref ki, .ref us]), f) ∈ L) : Ct WD EL0 l Z (⟨"com/example/mussel/mussel/rule/Selection", "ignoresAll", "()Z"⟩ : MethodName) prog_9_method_7_code 1 (some .boolean) ({ frames := 0, cells := 0, slots := 0, locals := 0 } : Room) #[.ref a] L (rvQ (fun v M => v = .int 1 ∧ M = L)) := by
  refine Ct.intro (by decide +kernel) G.2.1 ?_
  intro p e s m below meth c X
  replace X : Cx WD EL0 p Z s m meth c "com/example/mussel/mussel/rule/Selection" "ignoresAll" prog_9_method_7_code 1 (some .boolean) := X
  refine Go.cast (g' := mkF m 0 #[.val (.ref a)] []) (by first | rfl | (simp [entryFrame, mkF, argsToLocals, Value.category, maxLocals]; done)) ?_
  obtain ⟨ia, hia⟩ := List.getElem?_of_mem hA
  refine Go.aloadN X d26_0 rfl rfl ?_
  refine Go.getFld X (w41 G) Via.refl (fun h H => H.fld (i := ia) hia (j := 0) rfl rfl) d26_1 ?_
  refine Go.getSta X (w28 G) Via.refl hKd.1 d26_4 ?_
  refine Go.acmp X d26_7 (pt := 14) ⟨by decide, by decide⟩ (by rfl) (by rfl) ?_ ?_
  · intro q; exact absurd rfl q
  intro _
  refine Go.iconst X (v := 1) d26_10 (by decide) ?_
  refine Go.goto X d26_11 (pt := 15) ⟨by decide, by decide⟩ ?_
  exact Go.zret X d26_15 (Or.inr rfl) (by first | exact Nat.le_of_ble_eq_true rfl | (simp; done) | (simp; omega)) (by first | exact Nat.le_of_ble_eq_true rfl | (simp; done) | (simp; omega)) ⟨rfl, rfl⟩
set_option maxRecDepth 65536 in
set_option maxHeartbeats 4000000 in
theorem q_ord (l : Launch) {Z : State} {a0 : Array Value} (G : Gl a0 Z) {L : List Ent} {ki ke : Addr} (hKd : KdF Z ki ke) : Ct WD EL0 l Z (⟨"java/lang/Enum", "ordinal", "()I"⟩ : MethodName) jdk_37_method_2_code 1 (some .int) ({ frames := 0, cells := 0, slots := 0, locals := 0 } : Room) #[.ref ki] L (rvQ (fun v M => v = .int 0 ∧ M = L)) := by
  refine Ct.intro (by decide +kernel) G.2.1 ?_
  intro p e s m below meth c X
  replace X : Cx WD EL0 p Z s m meth c "java/lang/Enum" "ordinal" jdk_37_method_2_code 1 (some .int) := X
  refine Go.cast (g' := mkF m 0 #[.val (.ref ki)] []) (by first | rfl | (simp [entryFrame, mkF, argsToLocals, Value.category, maxLocals]; done)) ?_
  refine Go.aloadN X d28_0 rfl rfl ?_
  refine Go.getFld X (w214 G) Via.refl (fun h H => Fld.ext H.1 hKd.2.2.2.2) d28_1 ?_
  exact Go.iret X d28_4 (by first | exact Nat.le_of_ble_eq_true rfl | (simp; done) | (simp; omega)) (by first | exact Nat.le_of_ble_eq_true rfl | (simp; done) | (simp; omega)) ⟨rfl, rfl⟩
set_option maxRecDepth 65536 in
set_option maxHeartbeats 4000000 in
theorem q_app (l : Launch) {Z : State} {a0 : Array Value} (G : Gl a0 Z) {ki ke : Addr} (hKd : KdF Z ki ke) {L : List Ent} {a us : Addr} {f : Bool} (hA : (a, (Ob Z "com/example/mussel/mussel/rule/Selection" ns5 [.ref ki, .ref us]), f) ∈ L) {nm' : Addr} : Ct WD EL0 l Z (⟨"com/example/mussel/mussel/rule/Selection", "applies", "(Ljava/lang/String;)Z"⟩ : MethodName) prog_9_method_9_code 2 (some .boolean) ({ frames := 1, cells := 0, slots := 0, locals := 12 } : Room) #[.ref a, .ref nm'] L (rvQ (fun v M => v = .int 0 ∧ M = L)) := by
  refine Ct.intro (by decide +kernel) G.2.1 ?_
  intro p e s m below meth c X
  replace X : Cx WD EL0 p Z s m meth c "com/example/mussel/mussel/rule/Selection" "applies" prog_9_method_9_code 2 (some .boolean) := X
  refine Go.cast (g' := mkF m 0 #[.val (.ref a), .val (.ref nm')] []) (by first | rfl | (simp [entryFrame, mkF, argsToLocals, Value.category, maxLocals]; done)) ?_
  obtain ⟨ia, hia⟩ := List.getElem?_of_mem hA
  refine Go.aloadN X d27_0 rfl rfl ?_
  refine Go.getFld X (w41 G) Via.refl (fun h H => H.fld (i := ia) hia (j := 0) rfl rfl) d27_1 ?_
  refine Go.callVU X (x := (⟨"com/example/mussel/mussel/rule/Selection$Kind", "ordinal", "()I"⟩ : MethodName)) (owner := "java/lang/Enum") (fun h H => Exa.ext H.1 hKd.2.2.2.1) (q_ord l G hKd) (rest := []) (w207 G) (w208 G) (by first | rfl | decide +kernel | simp [Cond.onTables, Cond.keepsFace, Cond.keeps, Cond.steady]) (w209 G) (by decide) (w211 G) (w210 G) (w212 G) (w213 G) pd9 rfl rfl d27_4 rfl (by first | exact Nat.le_of_ble_eq_true rfl | (simp; done) | (simp; omega)) (by first | exact Nat.le_of_ble_eq_true rfl | (simp; done) | (simp; omega)) (by first | exact Nat.le_of_ble_eq_true rfl | (simp; done) | (simp; omega)) (by first | exact Nat.le_of_ble_eq_true rfl | (simp; done) | (simp; omega)) (Kv ?_)
  rintro v M ⟨rfl, rfl⟩
  refine Go.tswY X d27_7 (by decide) (off := 35) (pt := 42) (by decide) ⟨by decide, by decide⟩ ?_
  refine Go.iconst X (v := 0) d27_42 (by decide) ?_
  refine Go.goto X d27_43 (pt := 77) ⟨by decide, by decide⟩ ?_
  exact Go.zret X d27_77 (Or.inl rfl) (by first | exact Nat.le_of_ble_eq_true rfl | (simp; done) | (simp; omega)) (by first | exact Nat.le_of_ble_eq_true rfl | (simp; done) | (simp; omega)) ⟨rfl, rfl⟩
set_option maxRecDepth 65536 in
set_option maxHeartbeats 4000000 in
theorem z_hm (l : Launch) {Z : State} {a0 : Array Value} (G : Gl a0 Z) {L : List Ent} {lm : Addr} {kv : Value} {f : Bool} (hm : (lm, (Ob Z "java/util/LinkedHashMap" ns1 [.float 1061158912, .int 16, .int 0, .int 0, .int 0, kv, .null, .int 0]), f) ∈ L) : Ct WD EL0 l Z (⟨"java/util/HashMap", "size", "()I"⟩ : MethodName) jdk_69_method_10_code 1 (some .int) ({ frames := 0, cells := 0, slots := 0, locals := 0 } : Room) #[.ref lm] L (rvQ (fun v M => v = .int 0 ∧ M = L)) := by
  refine Ct.intro (by decide +kernel) G.2.1 ?_
  intro p e s m below meth c X
  replace X : Cx WD EL0 p Z s m meth c "java/util/HashMap" "size" jdk_69_method_10_code 1 (some .int) := X
  refine Go.cast (g' := mkF m 0 #[.val (.ref lm)] []) (by first | rfl | (simp [entryFrame, mkF, argsToLocals, Value.category, maxLocals]; done)) ?_
  obtain ⟨im, him⟩ := List.getElem?_of_mem hm
  refine Go.aloadN X d34_0 rfl rfl ?_
  refine Go.getFld X (w264 G) Via.refl (fun h H => H.fld (i := im) him (j := 4) rfl rfl) d34_1 ?_
  exact Go.iret X d34_4 (by first | exact Nat.le_of_ble_eq_true rfl | (simp; done) | (simp; omega)) (by first | exact Nat.le_of_ble_eq_true rfl | (simp; done) | (simp; omega)) ⟨rfl, rfl⟩
set_option maxRecDepth 65536 in
set_option maxHeartbeats 4000000 in
theorem z_hs (l : Launch) {Z : State} {a0 : Array Value} (G : Gl a0 Z) {L : List Ent} {lm : Addr} {kv : Value} {f : Bool} (hm : (lm, (Ob Z "java/util/LinkedHashMap" ns1 [.float 1061158912, .int 16, .int 0, .int 0, .int 0, kv, .null, .int 0]), f) ∈ L) {ls : Addr} {fs : Bool} (hs : (ls, (Ob Z "java/util/LinkedHashSet" ns2 [.ref lm]), fs) ∈ L) : Ct WD EL0 l Z (⟨"java/util/HashSet", "size", "()I"⟩ : MethodName) jdk_93_method_7_code 1 (some .int) ({ frames := 1, cells := 0, slots := 0, locals := 12 } : Room) #[.ref ls] L (rvQ (fun v M => v = .int 0 ∧ M = L)) := by
  refine Ct.intro (by decide +kernel) G.2.1 ?_
  intro p e s m below meth c X
  replace X : Cx WD EL0 p Z s m meth c "java/util/HashSet" "size" jdk_93_method_7_code 1 (some .int) := X
  refine Go.cast (g' := mkF m 0 #[.val (.ref ls)] []) (by first | rfl | (simp [entryFrame, mkF, argsToLocals, Value.category, maxLocals]; done)) ?_
  obtain ⟨is, his⟩ := List.getElem?_of_mem hs
  refine Go.aloadN X d33_0 rfl rfl ?_
  refine Go.getFld X (w110 G) Via.refl (fun h H => H.fld (i := is) his (j := 0) rfl rfl) d33_1 ?_
  refine Go.callV X (fun h H => H.exaM hm (fun c q => ⟨_, _, q⟩)) (z_hm l G hm) (rest := []) (w259 G) (w260 G) (nfS (w262 G)) (w262 G) (w261 G) (w80 G) (w263 G) (by decide) pd9 rfl rfl d33_4 rfl (by first | exact Nat.le_of_ble_eq_true rfl | (simp; done) | (simp; omega)) (by first | exact Nat.le_of_ble_eq_true rfl | (simp; done) | (simp; omega)) (by first | exact Nat.le_of_ble_eq_true rfl | (simp; done) | (simp; omega)) (by first | exact Nat.le_of_ble_eq_true rfl | (simp; done) | (simp; omega)) (Kv ?_)
  rintro v M ⟨rfl, rfl⟩
  exact Go.iret X d33_7 (by first | exact Nat.le_of_ble_eq_true rfl | (simp; done) | (simp; omega)) (by first | exact Nat.le_of_ble_eq_true rfl | (simp; done) | (simp; omega)) ⟨rfl, rfl⟩
set_option maxRecDepth 65536 in
set_option maxHeartbeats 4000000 in
theorem z_uc (l : Launch) {Z : State} {a0 : Array Value} (G : Gl a0 Z) {L : List Ent} {lm : Addr} {kv : Value} {f : Bool} (hm : (lm, (Ob Z "java/util/LinkedHashMap" ns1 [.float 1061158912, .int 16, .int 0, .int 0, .int 0, kv, .null, .int 0]), f) ∈ L) {ls : Addr} {fs : Bool} (hs : (ls, (Ob Z "java/util/LinkedHashSet" ns2 [.ref lm]), fs) ∈ L) {us : Addr} {fu : Bool} (hu : (us, (Ob Z "java/util/Collections$UnmodifiableSet" ns4 [.ref ls]), fu) ∈ L) : Ct WD EL0 l Z (⟨"java/util/Collections$UnmodifiableCollection", "size", "()I"⟩ : MethodName) jdk_119_method_2_code 1 (some .int) ({ frames := 2, cells := 0, slots := 0, locals := 24 } : Room) #[.ref us] L (rvQ (fun v M => v = .int 0 ∧ M = L)) := by
  refine Ct.intro (by decide +kernel) G.2.1 ?_
  intro p e s m below meth c X
  replace X : Cx WD EL0 p Z s m meth c "java/util/Collections$UnmodifiableCollection" "size" jdk_119_method_2_code 1 (some .int) := X
  refine Go.cast (g' := mkF m 0 #[.val (.ref us)] []) (by first | rfl | (simp [entryFrame, mkF, argsToLocals, Value.category, maxLocals]; done)) ?_
  obtain ⟨iu, hiu⟩ := List.getElem?_of_mem hu
  refine Go.aloadN X d32_0 rfl rfl ?_
  refine Go.getFld X (w184 G) Via.refl (fun h H => H.fld (i := iu) hiu (j := 0) rfl rfl) d32_1 ?_
  refine Go.callN X (fun h H => H.exaM hs (fun c q => ⟨_, _, q⟩)) (z_hs l G hm hs) (rest := []) (w253 G) (w246 G) (by decide +kernel) (w247 G) (w254 G) (w255 G) (w256 G) (w257 G) (w240 G) (w54 G) (w258 G) (by decide) pd9 rfl rfl d32_4 rfl (by first | exact Nat.le_of_ble_eq_true rfl | (simp; done) | (simp; omega)) (by first | exact Nat.le_of_ble_eq_true rfl | (simp; done) | (simp; omega)) (by first | exact Nat.le_of_ble_eq_true rfl | (simp; done) | (simp; omega)) (by first | exact Nat.le_of_ble_eq_true rfl | (simp; done) | (simp; omega)) (Kv ?_)
  rintro v M ⟨rfl, rfl⟩
  exact Go.iret X d32_9 (by first | exact Nat.le_of_ble_eq_true rfl | (simp; done) | (simp; omega)) (by first | exact Nat.le_of_ble_eq_true rfl | (simp; done) | (simp; omega)) ⟨rfl, rfl⟩
set_option maxRecDepth 65536 in
set_option maxHeartbeats 4000000 in
theorem k_init (l : Launch) {Z : State} {a0 : Array Value} (G : Gl a0 Z) {L : List Ent} {a lm : Addr} : Ct WD EL0 l Z (⟨"java/util/LinkedHashMap$LinkedKeySet", "<init>", "(Ljava/util/LinkedHashMap;Z)V"⟩ : MethodName) jdk_112_method_1_code 3 none ({ frames := 3, cells := 0, slots := 0, locals := 36 } : Room) #[.ref a, .ref lm, .int 0] (ow a (Ob Z "java/util/LinkedHashMap$LinkedKeySet" ns6 [.null, .int 0]) :: L) (r0Q (fun M => M = ow a (Ob Z "java/util/LinkedHashMap$LinkedKeySet" ns6 [.ref lm, .int 0]) :: L)) := by
  refine Ct.intro (by decide +kernel) G.2.1 ?_
  intro p e s m below meth c X
  replace X : Cx WD EL0 p Z s m meth c "java/util/LinkedHashMap$LinkedKeySet" "<init>" jdk_112_method_1_code 3 none := X
  refine Go.cast (g' := mkF m 0 #[.val (.ref a), .val (.ref lm), .val (.int 0)] []) (by first | rfl | (simp [entryFrame, mkF, argsToLocals, Value.category, maxLocals]; done)) ?_
  refine Go.aloadN X d41_0 rfl rfl ?_
  refine Go.aloadN X d41_1 rfl rfl ?_
  refine Go.putFld X (i := 0) rfl (j := 0) rfl (lay6 G) (w319 G) Via.refl (Or.inr ⟨(w320 G), rfl, rfl⟩) (w313 G) pf10 d41_2 (by rfl) (by rfl) ?_
  refine Go.aloadN X d41_5 rfl rfl ?_
  refine Go.callI X (c_as l G) rfl (rest := []) (w321 G) (w57 G) (w60 G) (w61 G) (by decide) pd4 rfl rfl d41_6 rfl (by first | exact Nat.le_of_ble_eq_true rfl | (simp; done) | (simp; omega)) (by first | exact Nat.le_of_ble_eq_true rfl | (simp; done) | (simp; omega)) (by first | exact Nat.le_of_ble_eq_true rfl | (simp; done) | (simp; omega)) (by first | exact Nat.le_of_ble_eq_true rfl | (simp; done) | (simp; omega)) (K0 ?_)
  rintro M rfl
  refine Go.aloadN X d41_9 rfl rfl ?_
  refine Go.iloadN X d41_10 rfl ?_
  refine Go.putFld X (i := 0) rfl (j := 1) rfl (lay6 G) (w324 G) Via.refl (Or.inr ⟨(w325 G), rfl, rfl⟩) (w313 G) pf4 d41_11 (by rfl) (by rfl) ?_
  exact Go.ret0 X d41_14 (by first | exact Nat.le_of_ble_eq_true rfl | (simp; done) | (simp; omega)) (by first | exact Nat.le_of_ble_eq_true rfl | (simp; done) | (simp; omega)) rfl
set_option maxRecDepth 65536 in
set_option maxHeartbeats 4000000 in
theorem k_seq (l : Launch) {Z : State} {a0 : Array Value} (G : Gl a0 Z) {L : List Ent} {lm : Addr} : Ct WD EL0 l Z (⟨"java/util/LinkedHashMap", "sequencedKeySet", "()Ljava/util/SequencedSet;"⟩ : MethodName) jdk_94_method_25_code 3 (some (.object "java/util/SequencedSet")) ({ frames := 4, cells := 1, slots := 2, locals := 51 } : Room) #[.ref lm] (ow lm (Ob Z "java/util/LinkedHashMap" ns1 [.float 1061158912, .int 16, .int 0, .int 0, .int 0, .null, .null, .int 0]) :: L) (rvQ (fun v M => ∃ ks, v = .ref ks ∧ M = ow ks (Ob Z "java/util/LinkedHashMap$LinkedKeySet" ns6 [.ref lm, .int 0]) :: ow lm (Ob Z "java/util/LinkedHashMap" ns1 [.float 1061158912, .int 16, .int 0, .int 0, .int 0, .ref ks, .null, .int 0]) :: L)) := by
  refine Ct.intro (by decide +kernel) G.2.1 ?_
  intro p e s m below meth c X
  replace X : Cx WD EL0 p Z s m meth c "java/util/LinkedHashMap" "sequencedKeySet" jdk_94_method_25_code 3 (some (.object "java/util/SequencedSet")) := X
  refine Go.cast (g' := mkF m 0 #[.val (.ref lm), .unset, .unset] []) (by first | rfl | (simp [entryFrame, mkF, argsToLocals, Value.category, maxLocals]; done)) ?_
  refine Go.aloadN X d40_0 rfl rfl ?_
  refine Go.getFld X (w309 G) (Via.of (w310 G)) (fun h H => H.fld (i := 0) rfl (j := 5) rfl rfl) d40_1 ?_
  refine Go.astoreN X d40_4 rfl rfl ?_
  refine Go.aloadN X d40_5 rfl rfl ?_
  refine Go.ifnonnullN X d40_6 ?_
  refine Go.new X (w312 G) (w313 G) (w314 G) (lay6 G) df6 d40_9 (by first | exact Nat.le_of_ble_eq_true rfl | (simp; done) | (simp; omega)) (by first | exact Nat.le_of_ble_eq_true rfl | (simp; done) | (simp; omega)) ?_
  intro ks
  refine Go.dup X d40_12 rfl ?_
  refine Go.aloadN X d40_13 rfl rfl ?_
  refine Go.iconst X (v := 0) d40_14 (by decide) ?_
  refine Go.callI X (k_init l G (a := ks) (lm := lm)) rfl (rest := [.ref ks]) (w315 G) (w316 G) (w314 G) (w318 G) (by decide) pd19 rfl rfl d40_15 rfl (by first | exact Nat.le_of_ble_eq_true rfl | (simp; done) | (simp; omega)) (by first | exact Nat.le_of_ble_eq_true rfl | (simp; done) | (simp; omega)) (by first | exact Nat.le_of_ble_eq_true rfl | (simp; done) | (simp; omega)) (by first | exact Nat.le_of_ble_eq_true rfl | (simp; done) | (simp; omega)) (K0 ?_)
  rintro M rfl
  refine Go.astoreN X d40_18 rfl rfl ?_
  refine Go.aloadN X d40_19 rfl rfl ?_
  refine Go.aloadN X d40_20 rfl rfl ?_
  refine Go.putFld X (i := 1) rfl (j := 5) rfl (lay1 G) (w309 G) (Via.of (w310 G)) (Or.inl (w311 G)) (w70 G) pf9 d40_21 (by rfl) (by rfl) ?_
  refine Go.aloadN X d40_24 rfl rfl ?_
  exact Go.aret X d40_25 (by rfl) (by rfl) (by rfl) (by first | exact Nat.le_of_ble_eq_true rfl | (simp; done) | (simp; omega)) (by first | exact Nat.le_of_ble_eq_true rfl | (simp; done) | (simp; omega)) ⟨ks, rfl, rfl⟩
set_option maxRecDepth 65536 in
set_option maxHeartbeats 4000000 in
theorem k_set (l : Launch) {Z : State} {a0 : Array Value} (G : Gl a0 Z) {L : List Ent} {lm : Addr} : Ct WD EL0 l Z (⟨"java/util/LinkedHashMap", "keySet", "()Ljava/util/Set;"⟩ : MethodName) jdk_94_method_24_code 1 (some (.object "java/util/Set")) ({ frames := 5, cells := 1, slots := 2, locals := 65 } : Room) #[.ref lm] (ow lm (Ob Z "java/util/LinkedHashMap" ns1 [.float 1061158912, .int 16, .int 0, .int 0, .int 0, .null, .null, .int 0]) :: L) (rvQ (fun v M => ∃ ks, v = .ref ks ∧ M = ow ks (Ob Z "java/util/LinkedHashMap$LinkedKeySet" ns6 [.ref lm, .int 0]) :: ow lm (Ob Z "java/util/LinkedHashMap" ns1 [.float 1061158912, .int 16, .int 0, .int 0, .int 0, .ref ks, .null, .int 0]) :: L)) := by
  refine Ct.intro (by decide +kernel) G.2.1 ?_
  intro p e s m below meth c X
  replace X : Cx WD EL0 p Z s m meth c "java/util/LinkedHashMap" "keySet" jdk_94_method_24_code 1 (some (.object "java/util/Set")) := X
  refine Go.cast (g' := mkF m 0 #[.val (.ref lm)] []) (by first | rfl | (simp [entryFrame, mkF, argsToLocals, Value.category, maxLocals]; done)) ?_
  refine Go.aloadN X d39_0 rfl rfl ?_
  refine Go.callV X (fun h H => H.exa (i := 0) rfl) (k_seq l G (lm := lm)) (rest := []) (w304 G) (w305 G) (nfS (w307 G)) (w307 G) (w306 G) (w71 G) (w308 G) (by decide) pd20 rfl rfl d39_1 rfl (by first | exact Nat.le_of_ble_eq_true rfl | (simp; done) | (simp; omega)) (by first | exact Nat.le_of_ble_eq_true rfl | (simp; done) | (simp; omega)) (by first | exact Nat.le_of_ble_eq_true rfl | (simp; done) | (simp; omega)) (by first | exact Nat.le_of_ble_eq_true rfl | (simp; done) | (simp; omega)) (Kv ?_)
  rintro v M ⟨ks, rfl, rfl⟩
  exact Go.aret X d39_4 (by rfl) (by rfl) (by rfl) (by first | exact Nat.le_of_ble_eq_true rfl | (simp; done) | (simp; omega)) (by first | exact Nat.le_of_ble_eq_true rfl | (simp; done) | (simp; omega)) ⟨ks, rfl, rfl⟩
-- %%% iterators
theorem w244 {a0 : Array Value} {Z : State} (G : Gl a0 Z) : (Jvm.Cond.castable "java/util/Collections$UnmodifiableSet" "java/util/Collection").before a0 Z = true := G.1 _ (List.mem_of_getElem? (i := 244) rfl)
theorem w275 {a0 : Array Value} {Z : State} (G : Gl a0 Z) : (Jvm.Cond.methodLink "java/util/AbstractCollection" (76 : Nat) ({ cls := "java/util/Collection", name := "iterator", desc := "()Ljava/util/Iterator;" } : Jvm.MethodName)).before a0 Z = true := G.1 _ (List.mem_of_getElem? (i := 275) rfl)
theorem w276 {a0 : Array Value} {Z : State} (G : Gl a0 Z) : (Jvm.Cond.selects "java/util/Collections$UnmodifiableSet" ({ cls := "java/util/Collection", name := "iterator", desc := "()Ljava/util/Iterator;" } : Jvm.MethodName) ({ cls := "java/util/Collections$UnmodifiableCollection", name := "iterator", desc := "()Ljava/util/Iterator;" } : Jvm.MethodName)).before a0 Z = true := G.1 _ (List.mem_of_getElem? (i := 276) rfl)
theorem w277 {a0 : Array Value} {Z : State} (G : Gl a0 Z) : (Jvm.Cond.instanceMethod ({ cls := "java/util/Collections$UnmodifiableCollection", name := "iterator", desc := "()Ljava/util/Iterator;" } : Jvm.MethodName)).before a0 Z = true := G.1 _ (List.mem_of_getElem? (i := 277) rfl)
theorem w278 {a0 : Array Value} {Z : State} (G : Gl a0 Z) : (Jvm.Cond.publicMethod ({ cls := "java/util/Collections$UnmodifiableCollection", name := "iterator", desc := "()Ljava/util/Iterator;" } : Jvm.MethodName)).before a0 Z = true := G.1 _ (List.mem_of_getElem? (i := 278) rfl)
theorem w279 {a0 : Array Value} {Z : State} (G : Gl a0 Z) : (Jvm.Cond.unhidden "java/util/Collections$UnmodifiableSet" "iterator" "()Ljava/util/Iterator;").before a0 Z = true := G.1 _ (List.mem_of_getElem? (i := 279) rfl)
theorem w280 {a0 : Array Value} {Z : State} (G : Gl a0 Z) : (Jvm.Cond.code ({ cls := "java/util/Collections$UnmodifiableCollection", name := "iterator", desc := "()Ljava/util/Iterator;" } : Jvm.MethodName) jdk_119_method_9_code (1 : Nat) (Option.some (Jvm.ClassFile.FieldType.object "java/util/Iterator"))).before a0 Z = true := G.1 _ (List.mem_of_getElem? (i := 280) rfl)
theorem w281 {a0 : Array Value} {Z : State} (G : Gl a0 Z) : (Jvm.Cond.classLink "java/util/Collections$UnmodifiableCollection" (44 : Nat) "java/util/Collections$UnmodifiableCollection$1").before a0 Z = true := G.1 _ (List.mem_of_getElem? (i := 281) rfl)
theorem w282 {a0 : Array Value} {Z : State} (G : Gl a0 Z) : (Jvm.Cond.instantiable "java/util/Collections$UnmodifiableCollection$1" (2 : Nat)).before a0 Z = true := G.1 _ (List.mem_of_getElem? (i := 282) rfl)
theorem w283 {a0 : Array Value} {Z : State} (G : Gl a0 Z) : (Jvm.Cond.initialized "java/util/Collections$UnmodifiableCollection$1").before a0 Z = true := G.1 _ (List.mem_of_getElem? (i := 283) rfl)
theorem w284 {a0 : Array Value} {Z : State} (G : Gl a0 Z) : (Jvm.Cond.methodLink "java/util/Collections$UnmodifiableCollection" (46 : Nat) ({ cls := "java/util/Collections$UnmodifiableCollection$1", name := "<init>", desc := "(Ljava/util/Collections$UnmodifiableCollection;)V" } : Jvm.MethodName)).before a0 Z = true := G.1 _ (List.mem_of_getElem? (i := 284) rfl)
theorem w285 {a0 : Array Value} {Z : State} (G : Gl a0 Z) : (Jvm.Cond.instanceMethod ({ cls := "java/util/Collections$UnmodifiableCollection$1", name := "<init>", desc := "(Ljava/util/Collections$UnmodifiableCollection;)V" } : Jvm.MethodName)).before a0 Z = true := G.1 _ (List.mem_of_getElem? (i := 285) rfl)
theorem w287 {a0 : Array Value} {Z : State} (G : Gl a0 Z) : (Jvm.Cond.code ({ cls := "java/util/Collections$UnmodifiableCollection$1", name := "<init>", desc := "(Ljava/util/Collections$UnmodifiableCollection;)V" } : Jvm.MethodName) jdk_135_method_1_code (2 : Nat) (Option.none : Option Jvm.ClassFile.FieldType)).before a0 Z = true := G.1 _ (List.mem_of_getElem? (i := 287) rfl)
theorem w288 {a0 : Array Value} {Z : State} (G : Gl a0 Z) : (Jvm.Cond.fieldLink "java/util/Collections$UnmodifiableCollection$1" (1 : Nat) "java/util/Collections$UnmodifiableCollection$1" "this$0" "Ljava/util/Collections$UnmodifiableCollection;").before a0 Z = true := G.1 _ (List.mem_of_getElem? (i := 288) rfl)
theorem w289 {a0 : Array Value} {Z : State} (G : Gl a0 Z) : (Jvm.Cond.laysFinal "java/util/Collections$UnmodifiableCollection$1" "java/util/Collections$UnmodifiableCollection$1" "this$0" "Ljava/util/Collections$UnmodifiableCollection;").before a0 Z = true := G.1 _ (List.mem_of_getElem? (i := 289) rfl)
theorem w290 {a0 : Array Value} {Z : State} (G : Gl a0 Z) : (Jvm.Cond.methodLink "java/util/Collections$UnmodifiableCollection$1" (7 : Nat) ({ cls := "java/lang/Object", name := "<init>", desc := "()V" } : Jvm.MethodName)).before a0 Z = true := G.1 _ (List.mem_of_getElem? (i := 290) rfl)
theorem w291 {a0 : Array Value} {Z : State} (G : Gl a0 Z) : (Jvm.Cond.fieldLink "java/util/Collections$UnmodifiableCollection$1" (13 : Nat) "java/util/Collections$UnmodifiableCollection" "c" "Ljava/util/Collection;").before a0 Z = true := G.1 _ (List.mem_of_getElem? (i := 291) rfl)
theorem w292 {a0 : Array Value} {Z : State} (G : Gl a0 Z) : (Jvm.Cond.methodLink "java/util/Collections$UnmodifiableCollection$1" (19 : Nat) ({ cls := "java/util/Collection", name := "iterator", desc := "()Ljava/util/Iterator;" } : Jvm.MethodName)).before a0 Z = true := G.1 _ (List.mem_of_getElem? (i := 292) rfl)
theorem w293 {a0 : Array Value} {Z : State} (G : Gl a0 Z) : (Jvm.Cond.selects "java/util/LinkedHashSet" ({ cls := "java/util/Collection", name := "iterator", desc := "()Ljava/util/Iterator;" } : Jvm.MethodName) ({ cls := "java/util/HashSet", name := "iterator", desc := "()Ljava/util/Iterator;" } : Jvm.MethodName)).before a0 Z = true := G.1 _ (List.mem_of_getElem? (i := 293) rfl)
theorem w294 {a0 : Array Value} {Z : State} (G : Gl a0 Z) : (Jvm.Cond.instanceMethod ({ cls := "java/util/HashSet", name := "iterator", desc := "()Ljava/util/Iterator;" } : Jvm.MethodName)).before a0 Z = true := G.1 _ (List.mem_of_getElem? (i := 294) rfl)
theorem w295 {a0 : Array Value} {Z : State} (G : Gl a0 Z) : (Jvm.Cond.publicMethod ({ cls := "java/util/HashSet", name := "iterator", desc := "()Ljava/util/Iterator;" } : Jvm.MethodName)).before a0 Z = true := G.1 _ (List.mem_of_getElem? (i := 295) rfl)
theorem w296 {a0 : Array Value} {Z : State} (G : Gl a0 Z) : (Jvm.Cond.unhidden "java/util/LinkedHashSet" "iterator" "()Ljava/util/Iterator;").before a0 Z = true := G.1 _ (List.mem_of_getElem? (i := 296) rfl)
theorem w297 {a0 : Array Value} {Z : State} (G : Gl a0 Z) : (Jvm.Cond.code ({ cls := "java/util/HashSet", name := "iterator", desc := "()Ljava/util/Iterator;" } : Jvm.MethodName) jdk_93_method_6_code (1 : Nat) (Option.some (Jvm.ClassFile.FieldType.object "java/util/Iterator"))).before a0 Z = true := G.1 _ (List.mem_of_getElem? (i := 297) rfl)
theorem w298 {a0 : Array Value} {Z : State} (G : Gl a0 Z) : (Jvm.Cond.methodLink "java/util/HashSet" (45 : Nat) ({ cls := "java/util/HashMap", name := "keySet", desc := "()Ljava/util/Set;" } : Jvm.MethodName)).before a0 Z = true := G.1 _ (List.mem_of_getElem? (i := 298) rfl)
theorem w299 {a0 : Array Value} {Z : State} (G : Gl a0 Z) : (Jvm.Cond.declares ({ cls := "java/util/HashMap", name := "keySet", desc := "()Ljava/util/Set;" } : Jvm.MethodName)).before a0 Z = true := G.1 _ (List.mem_of_getElem? (i := 299) rfl)
theorem w301 {a0 : Array Value} {Z : State} (G : Gl a0 Z) : (Jvm.Cond.selects "java/util/LinkedHashMap" ({ cls := "java/util/HashMap", name := "keySet", desc := "()Ljava/util/Set;" } : Jvm.MethodName) ({ cls := "java/util/LinkedHashMap", name := "keySet", desc := "()Ljava/util/Set;" } : Jvm.MethodName)).before a0 Z = true := G.1 _ (List.mem_of_getElem? (i := 301) rfl)
theorem w302 {a0 : Array Value} {Z : State} (G : Gl a0 Z) : (Jvm.Cond.instanceMethod ({ cls := "java/util/LinkedHashMap", name := "keySet", desc := "()Ljava/util/Set;" } : Jvm.MethodName)).before a0 Z = true := G.1 _ (List.mem_of_getElem? (i := 302) rfl)
theorem w303 {a0 : Array Value} {Z : State} (G : Gl a0 Z) : (Jvm.Cond.code ({ cls := "java/util/LinkedHashMap", name := "keySet", desc := "()Ljava/util/Set;" } : Jvm.MethodName) jdk_94_method_24_code (1 : Nat) (Option.some (Jvm.ClassFile.FieldType.object "java/util/Set"))).before a0 Z = true := G.1 _ (List.mem_of_getElem? (i := 303) rfl)
theorem w326 {a0 : Array Value} {Z : State} (G : Gl a0 Z) : (Jvm.Cond.methodLink "java/util/HashSet" (49 : Nat) ({ cls := "java/util/Set", name := "iterator", desc := "()Ljava/util/Iterator;" } : Jvm.MethodName)).before a0 Z = true := G.1 _ (List.mem_of_getElem? (i := 326) rfl)
theorem w327 {a0 : Array Value} {Z : State} (G : Gl a0 Z) : (Jvm.Cond.declares ({ cls := "java/util/Set", name := "iterator", desc := "()Ljava/util/Iterator;" } : Jvm.MethodName)).before a0 Z = true := G.1 _ (List.mem_of_getElem? (i := 327) rfl)
theorem w328 {a0 : Array Value} {Z : State} (G : Gl a0 Z) : (Jvm.Cond.interfaceMethod "java/util/Set" "java/util/Set" "iterator" "()Ljava/util/Iterator;").before a0 Z = true := G.1 _ (List.mem_of_getElem? (i := 328) rfl)
theorem w329 {a0 : Array Value} {Z : State} (G : Gl a0 Z) : (Jvm.Cond.selects "java/util/LinkedHashMap$LinkedKeySet" ({ cls := "java/util/Set", name := "iterator", desc := "()Ljava/util/Iterator;" } : Jvm.MethodName) ({ cls := "java/util/LinkedHashMap$LinkedKeySet", name := "iterator", desc := "()Ljava/util/Iterator;" } : Jvm.MethodName)).before a0 Z = true := G.1 _ (List.mem_of_getElem? (i := 329) rfl)
theorem w330 {a0 : Array Value} {Z : State} (G : Gl a0 Z) : (Jvm.Cond.instanceMethod ({ cls := "java/util/LinkedHashMap$LinkedKeySet", name := "iterator", desc := "()Ljava/util/Iterator;" } : Jvm.MethodName)).before a0 Z = true := G.1 _ (List.mem_of_getElem? (i := 330) rfl)
theorem w331 {a0 : Array Value} {Z : State} (G : Gl a0 Z) : (Jvm.Cond.publicMethod ({ cls := "java/util/LinkedHashMap$LinkedKeySet", name := "iterator", desc := "()Ljava/util/Iterator;" } : Jvm.MethodName)).before a0 Z = true := G.1 _ (List.mem_of_getElem? (i := 331) rfl)
theorem w332 {a0 : Array Value} {Z : State} (G : Gl a0 Z) : (Jvm.Cond.unhidden "java/util/LinkedHashMap$LinkedKeySet" "iterator" "()Ljava/util/Iterator;").before a0 Z = true := G.1 _ (List.mem_of_getElem? (i := 332) rfl)
theorem w333 {a0 : Array Value} {Z : State} (G : Gl a0 Z) : (Jvm.Cond.castable "java/util/LinkedHashMap$LinkedKeySet" "java/util/Set").before a0 Z = true := G.1 _ (List.mem_of_getElem? (i := 333) rfl)
theorem w334 {a0 : Array Value} {Z : State} (G : Gl a0 Z) : (Jvm.Cond.code ({ cls := "java/util/LinkedHashMap$LinkedKeySet", name := "iterator", desc := "()Ljava/util/Iterator;" } : Jvm.MethodName) jdk_112_method_4_code (1 : Nat) (Option.some (Jvm.ClassFile.FieldType.object "java/util/Iterator"))).before a0 Z = true := G.1 _ (List.mem_of_getElem? (i := 334) rfl)
theorem w335 {a0 : Array Value} {Z : State} (G : Gl a0 Z) : (Jvm.Cond.classLink "java/util/LinkedHashMap$LinkedKeySet" (26 : Nat) "java/util/LinkedHashMap$LinkedKeyIterator").before a0 Z = true := G.1 _ (List.mem_of_getElem? (i := 335) rfl)
theorem w336 {a0 : Array Value} {Z : State} (G : Gl a0 Z) : (Jvm.Cond.instantiable "java/util/LinkedHashMap$LinkedKeyIterator" (5 : Nat)).before a0 Z = true := G.1 _ (List.mem_of_getElem? (i := 336) rfl)
theorem w337 {a0 : Array Value} {Z : State} (G : Gl a0 Z) : (Jvm.Cond.initialized "java/util/LinkedHashMap$LinkedKeyIterator").before a0 Z = true := G.1 _ (List.mem_of_getElem? (i := 337) rfl)
theorem w338 {a0 : Array Value} {Z : State} (G : Gl a0 Z) : (Jvm.Cond.methodLink "java/util/LinkedHashMap$LinkedKeySet" (28 : Nat) ({ cls := "java/util/LinkedHashMap$LinkedKeyIterator", name := "<init>", desc := "(Ljava/util/LinkedHashMap;Z)V" } : Jvm.MethodName)).before a0 Z = true := G.1 _ (List.mem_of_getElem? (i := 338) rfl)
theorem w339 {a0 : Array Value} {Z : State} (G : Gl a0 Z) : (Jvm.Cond.instanceMethod ({ cls := "java/util/LinkedHashMap$LinkedKeyIterator", name := "<init>", desc := "(Ljava/util/LinkedHashMap;Z)V" } : Jvm.MethodName)).before a0 Z = true := G.1 _ (List.mem_of_getElem? (i := 339) rfl)
theorem w341 {a0 : Array Value} {Z : State} (G : Gl a0 Z) : (Jvm.Cond.code ({ cls := "java/util/LinkedHashMap$LinkedKeyIterator", name := "<init>", desc := "(Ljava/util/LinkedHashMap;Z)V" } : Jvm.MethodName) jdk_2617_method_1_code (3 : Nat) (Option.none : Option Jvm.ClassFile.FieldType)).before a0 Z = true := G.1 _ (List.mem_of_getElem? (i := 341) rfl)
theorem w342 {a0 : Array Value} {Z : State} (G : Gl a0 Z) : (Jvm.Cond.methodLink "java/util/LinkedHashMap$LinkedKeyIterator" (1 : Nat) ({ cls := "java/util/LinkedHashMap$LinkedHashIterator", name := "<init>", desc := "(Ljava/util/LinkedHashMap;Z)V" } : Jvm.MethodName)).before a0 Z = true := G.1 _ (List.mem_of_getElem? (i := 342) rfl)
theorem w343 {a0 : Array Value} {Z : State} (G : Gl a0 Z) : (Jvm.Cond.instanceMethod ({ cls := "java/util/LinkedHashMap$LinkedHashIterator", name := "<init>", desc := "(Ljava/util/LinkedHashMap;Z)V" } : Jvm.MethodName)).before a0 Z = true := G.1 _ (List.mem_of_getElem? (i := 343) rfl)
theorem w346 {a0 : Array Value} {Z : State} (G : Gl a0 Z) : (Jvm.Cond.initialized "java/util/LinkedHashMap$LinkedHashIterator").before a0 Z = true := G.1 _ (List.mem_of_getElem? (i := 346) rfl)
theorem w347 {a0 : Array Value} {Z : State} (G : Gl a0 Z) : (Jvm.Cond.code ({ cls := "java/util/LinkedHashMap$LinkedHashIterator", name := "<init>", desc := "(Ljava/util/LinkedHashMap;Z)V" } : Jvm.MethodName) jdk_2616_method_1_code (3 : Nat) (Option.none : Option Jvm.ClassFile.FieldType)).before a0 Z = true := G.1 _ (List.mem_of_getElem? (i := 347) rfl)
theorem w348 {a0 : Array Value} {Z : State} (G : Gl a0 Z) : (Jvm.Cond.fieldLink "java/util/LinkedHashMap$LinkedHashIterator" (1 : Nat) "java/util/LinkedHashMap$LinkedHashIterator" "this$0" "Ljava/util/LinkedHashMap;").before a0 Z = true := G.1 _ (List.mem_of_getElem? (i := 348) rfl)
theorem w349 {a0 : Array Value} {Z : State} (G : Gl a0 Z) : (Jvm.Cond.laysFinal "java/util/LinkedHashMap$LinkedKeyIterator" "java/util/LinkedHashMap$LinkedHashIterator" "this$0" "Ljava/util/LinkedHashMap;").before a0 Z = true := G.1 _ (List.mem_of_getElem? (i := 349) rfl)
theorem w350 {a0 : Array Value} {Z : State} (G : Gl a0 Z) : (Jvm.Cond.methodLink "java/util/LinkedHashMap$LinkedHashIterator" (7 : Nat) ({ cls := "java/lang/Object", name := "<init>", desc := "()V" } : Jvm.MethodName)).before a0 Z = true := G.1 _ (List.mem_of_getElem? (i := 350) rfl)
theorem w351 {a0 : Array Value} {Z : State} (G : Gl a0 Z) : (Jvm.Cond.fieldLink "java/util/LinkedHashMap$LinkedHashIterator" (13 : Nat) "java/util/LinkedHashMap$LinkedHashIterator" "reversed" "Z").before a0 Z = true := G.1 _ (List.mem_of_getElem? (i := 351) rfl)
theorem w352 {a0 : Array Value} {Z : State} (G : Gl a0 Z) : (Jvm.Cond.lays "java/util/LinkedHashMap$LinkedKeyIterator" "java/util/LinkedHashMap$LinkedHashIterator" "reversed" "Z").before a0 Z = true := G.1 _ (List.mem_of_getElem? (i := 352) rfl)
theorem w353 {a0 : Array Value} {Z : State} (G : Gl a0 Z) : (Jvm.Cond.fieldLink "java/util/LinkedHashMap$LinkedHashIterator" (23 : Nat) "java/util/LinkedHashMap" "head" "Ljava/util/LinkedHashMap$Entry;").before a0 Z = true := G.1 _ (List.mem_of_getElem? (i := 353) rfl)
theorem w355 {a0 : Array Value} {Z : State} (G : Gl a0 Z) : (Jvm.Cond.fieldLink "java/util/LinkedHashMap$LinkedHashIterator" (26 : Nat) "java/util/LinkedHashMap$LinkedHashIterator" "next" "Ljava/util/LinkedHashMap$Entry;").before a0 Z = true := G.1 _ (List.mem_of_getElem? (i := 355) rfl)
theorem w356 {a0 : Array Value} {Z : State} (G : Gl a0 Z) : (Jvm.Cond.lays "java/util/LinkedHashMap$LinkedKeyIterator" "java/util/LinkedHashMap$LinkedHashIterator" "next" "Ljava/util/LinkedHashMap$Entry;").before a0 Z = true := G.1 _ (List.mem_of_getElem? (i := 356) rfl)
theorem w357 {a0 : Array Value} {Z : State} (G : Gl a0 Z) : (Jvm.Cond.fieldLink "java/util/LinkedHashMap$LinkedHashIterator" (29 : Nat) "java/util/LinkedHashMap" "modCount" "I").before a0 Z = true := G.1 _ (List.mem_of_getElem? (i := 357) rfl)
theorem w358 {a0 : Array Value} {Z : State} (G : Gl a0 Z) : (Jvm.Cond.sameField "java/util/LinkedHashMap" "java/util/HashMap" "modCount" "I").before a0 Z = true := G.1 _ (List.mem_of_getElem? (i := 358) rfl)
theorem w360 {a0 : Array Value} {Z : State} (G : Gl a0 Z) : (Jvm.Cond.fieldLink "java/util/LinkedHashMap$LinkedHashIterator" (33 : Nat) "java/util/LinkedHashMap$LinkedHashIterator" "expectedModCount" "I").before a0 Z = true := G.1 _ (List.mem_of_getElem? (i := 360) rfl)
theorem w361 {a0 : Array Value} {Z : State} (G : Gl a0 Z) : (Jvm.Cond.lays "java/util/LinkedHashMap$LinkedKeyIterator" "java/util/LinkedHashMap$LinkedHashIterator" "expectedModCount" "I").before a0 Z = true := G.1 _ (List.mem_of_getElem? (i := 361) rfl)
theorem w362 {a0 : Array Value} {Z : State} (G : Gl a0 Z) : (Jvm.Cond.fieldLink "java/util/LinkedHashMap$LinkedHashIterator" (36 : Nat) "java/util/LinkedHashMap$LinkedHashIterator" "current" "Ljava/util/LinkedHashMap$Entry;").before a0 Z = true := G.1 _ (List.mem_of_getElem? (i := 362) rfl)
theorem w363 {a0 : Array Value} {Z : State} (G : Gl a0 Z) : (Jvm.Cond.lays "java/util/LinkedHashMap$LinkedKeyIterator" "java/util/LinkedHashMap$LinkedHashIterator" "current" "Ljava/util/LinkedHashMap$Entry;").before a0 Z = true := G.1 _ (List.mem_of_getElem? (i := 363) rfl)
theorem w364 {a0 : Array Value} {Z : State} (G : Gl a0 Z) : (Jvm.Cond.fieldLink "java/util/Collections$UnmodifiableCollection$1" (25 : Nat) "java/util/Collections$UnmodifiableCollection$1" "i" "Ljava/util/Iterator;").before a0 Z = true := G.1 _ (List.mem_of_getElem? (i := 364) rfl)
theorem w365 {a0 : Array Value} {Z : State} (G : Gl a0 Z) : (Jvm.Cond.laysFinal "java/util/Collections$UnmodifiableCollection$1" "java/util/Collections$UnmodifiableCollection$1" "i" "Ljava/util/Iterator;").before a0 Z = true := G.1 _ (List.mem_of_getElem? (i := 365) rfl)
theorem w366 {a0 : Array Value} {Z : State} (G : Gl a0 Z) : (Jvm.Cond.methodLink "java/util/AbstractCollection" (17 : Nat) ({ cls := "java/util/Iterator", name := "hasNext", desc := "()Z" } : Jvm.MethodName)).before a0 Z = true := G.1 _ (List.mem_of_getElem? (i := 366) rfl)
theorem w367 {a0 : Array Value} {Z : State} (G : Gl a0 Z) : (Jvm.Cond.selects "java/util/Collections$UnmodifiableCollection$1" ({ cls := "java/util/Iterator", name := "hasNext", desc := "()Z" } : Jvm.MethodName) ({ cls := "java/util/Collections$UnmodifiableCollection$1", name := "hasNext", desc := "()Z" } : Jvm.MethodName)).before a0 Z = true := G.1 _ (List.mem_of_getElem? (i := 367) rfl)
theorem w368 {a0 : Array Value} {Z : State} (G : Gl a0 Z) : (Jvm.Cond.instanceMethod ({ cls := "java/util/Collections$UnmodifiableCollection$1", name := "hasNext", desc := "()Z" } : Jvm.MethodName)).before a0 Z = true := G.1 _ (List.mem_of_getElem? (i := 368) rfl)
theorem w369 {a0 : Array Value} {Z : State} (G : Gl a0 Z) : (Jvm.Cond.publicMethod ({ cls := "java/util/Collections$UnmodifiableCollection$1", name := "hasNext", desc := "()Z" } : Jvm.MethodName)).before a0 Z = true := G.1 _ (List.mem_of_getElem? (i := 369) rfl)
theorem w370 {a0 : Array Value} {Z : State} (G : Gl a0 Z) : (Jvm.Cond.unhidden "java/util/Collections$UnmodifiableCollection$1" "hasNext" "()Z").before a0 Z = true := G.1 _ (List.mem_of_getElem? (i := 370) rfl)
theorem w371 {a0 : Array Value} {Z : State} (G : Gl a0 Z) : (Jvm.Cond.castable "java/util/Collections$UnmodifiableCollection$1" "java/util/Iterator").before a0 Z = true := G.1 _ (List.mem_of_getElem? (i := 371) rfl)
theorem w372 {a0 : Array Value} {Z : State} (G : Gl a0 Z) : (Jvm.Cond.code ({ cls := "java/util/Collections$UnmodifiableCollection$1", name := "hasNext", desc := "()Z" } : Jvm.MethodName) jdk_135_method_2_code (1 : Nat) (Option.some Jvm.ClassFile.FieldType.boolean)).before a0 Z = true := G.1 _ (List.mem_of_getElem? (i := 372) rfl)
theorem w373 {a0 : Array Value} {Z : State} (G : Gl a0 Z) : (Jvm.Cond.methodLink "java/util/Collections$UnmodifiableCollection$1" (29 : Nat) ({ cls := "java/util/Iterator", name := "hasNext", desc := "()Z" } : Jvm.MethodName)).before a0 Z = true := G.1 _ (List.mem_of_getElem? (i := 373) rfl)
theorem w374 {a0 : Array Value} {Z : State} (G : Gl a0 Z) : (Jvm.Cond.selects "java/util/LinkedHashMap$LinkedKeyIterator" ({ cls := "java/util/Iterator", name := "hasNext", desc := "()Z" } : Jvm.MethodName) ({ cls := "java/util/LinkedHashMap$LinkedHashIterator", name := "hasNext", desc := "()Z" } : Jvm.MethodName)).before a0 Z = true := G.1 _ (List.mem_of_getElem? (i := 374) rfl)
theorem w375 {a0 : Array Value} {Z : State} (G : Gl a0 Z) : (Jvm.Cond.instanceMethod ({ cls := "java/util/LinkedHashMap$LinkedHashIterator", name := "hasNext", desc := "()Z" } : Jvm.MethodName)).before a0 Z = true := G.1 _ (List.mem_of_getElem? (i := 375) rfl)
theorem w376 {a0 : Array Value} {Z : State} (G : Gl a0 Z) : (Jvm.Cond.publicMethod ({ cls := "java/util/LinkedHashMap$LinkedHashIterator", name := "hasNext", desc := "()Z" } : Jvm.MethodName)).before a0 Z = true := G.1 _ (List.mem_of_getElem? (i := 376) rfl)
theorem w377 {a0 : Array Value} {Z : State} (G : Gl a0 Z) : (Jvm.Cond.unhidden "java/util/LinkedHashMap$LinkedKeyIterator" "hasNext" "()Z").before a0 Z = true := G.1 _ (List.mem_of_getElem? (i := 377) rfl)
theorem w378 {a0 : Array Value} {Z : State} (G : Gl a0 Z) : (Jvm.Cond.castable "java/util/LinkedHashMap$LinkedKeyIterator" "java/util/Iterator").before a0 Z = true := G.1 _ (List.mem_of_getElem? (i := 378) rfl)
theorem w379 {a0 : Array Value} {Z : State} (G : Gl a0 Z) : (Jvm.Cond.code ({ cls := "java/util/LinkedHashMap$LinkedHashIterator", name := "hasNext", desc := "()Z" } : Jvm.MethodName) jdk_2616_method_2_code (1 : Nat) (Option.some Jvm.ClassFile.FieldType.boolean)).before a0 Z = true := G.1 _ (List.mem_of_getElem? (i := 379) rfl)
theorem d35_0 : D1 jdk_22_method_11_code 0 (.aload_n 1) 1 1 := ⟨by decide +kernel, rfl⟩
theorem d35_1 : D1 jdk_22_method_11_code 1 (.invokeinterface 76 1) 5 6 := ⟨by decide +kernel, rfl⟩
theorem d35_6 : D1 jdk_22_method_11_code 6 (.astore_n 2) 1 7 := ⟨by decide +kernel, rfl⟩
theorem d35_7 : D1 jdk_22_method_11_code 7 (.aload_n 2) 1 8 := ⟨by decide +kernel, rfl⟩
theorem d35_8 : D1 jdk_22_method_11_code 8 (.invokeinterface 17 1) 5 13 := ⟨by decide +kernel, rfl⟩
theorem d35_13 : D1 jdk_22_method_11_code 13 (.ifCond .eq 23) 3 16 := ⟨by decide +kernel, rfl⟩
theorem d35_36 : D1 jdk_22_method_11_code 36 (.iconst 1) 1 37 := ⟨by decide +kernel, rfl⟩
theorem d35_37 : D1 jdk_22_method_11_code 37 (.ireturn) 1 38 := ⟨by decide +kernel, rfl⟩
theorem d36_0 : D1 jdk_119_method_9_code 0 (.new 44) 3 3 := ⟨by decide +kernel, rfl⟩
theorem d36_3 : D1 jdk_119_method_9_code 3 (.dup) 1 4 := ⟨by decide +kernel, rfl⟩
theorem d36_4 : D1 jdk_119_method_9_code 4 (.aload_n 0) 1 5 := ⟨by decide +kernel, rfl⟩
theorem d36_5 : D1 jdk_119_method_9_code 5 (.invokespecial 46) 3 8 := ⟨by decide +kernel, rfl⟩
theorem d36_8 : D1 jdk_119_method_9_code 8 (.areturn) 1 9 := ⟨by decide +kernel, rfl⟩
theorem d37_0 : D1 jdk_135_method_1_code 0 (.aload_n 0) 1 1 := ⟨by decide +kernel, rfl⟩
theorem d37_1 : D1 jdk_135_method_1_code 1 (.aload_n 1) 1 2 := ⟨by decide +kernel, rfl⟩
theorem d37_2 : D1 jdk_135_method_1_code 2 (.putfield 1) 3 5 := ⟨by decide +kernel, rfl⟩
theorem d37_5 : D1 jdk_135_method_1_code 5 (.aload_n 0) 1 6 := ⟨by decide +kernel, rfl⟩
theorem d37_6 : D1 jdk_135_method_1_code 6 (.invokespecial 7) 3 9 := ⟨by decide +kernel, rfl⟩
theorem d37_9 : D1 jdk_135_method_1_code 9 (.aload_n 0) 1 10 := ⟨by decide +kernel, rfl⟩
theorem d37_10 : D1 jdk_135_method_1_code 10 (.aload_n 0) 1 11 := ⟨by decide +kernel, rfl⟩
theorem d37_11 : D1 jdk_135_method_1_code 11 (.getfield 1) 3 14 := ⟨by decide +kernel, rfl⟩
theorem d37_14 : D1 jdk_135_method_1_code 14 (.getfield 13) 3 17 := ⟨by decide +kernel, rfl⟩
theorem d37_17 : D1 jdk_135_method_1_code 17 (.invokeinterface 19 1) 5 22 := ⟨by decide +kernel, rfl⟩
theorem d37_22 : D1 jdk_135_method_1_code 22 (.putfield 25) 3 25 := ⟨by decide +kernel, rfl⟩
theorem d37_25 : D1 jdk_135_method_1_code 25 (.return_) 1 26 := ⟨by decide +kernel, rfl⟩
theorem d38_0 : D1 jdk_93_method_6_code 0 (.aload_n 0) 1 1 := ⟨by decide +kernel, rfl⟩
theorem d38_1 : D1 jdk_93_method_6_code 1 (.getfield 10) 3 4 := ⟨by decide +kernel, rfl⟩
theorem d38_4 : D1 jdk_93_method_6_code 4 (.invokevirtual 45) 3 7 := ⟨by decide +kernel, rfl⟩
theorem d38_7 : D1 jdk_93_method_6_code 7 (.invokeinterface 49 1) 5 12 := ⟨by decide +kernel, rfl⟩
theorem d38_12 : D1 jdk_93_method_6_code 12 (.areturn) 1 13 := ⟨by decide +kernel, rfl⟩
theorem d42_0 : D1 jdk_112_method_4_code 0 (.new 26) 3 3 := ⟨by decide +kernel, rfl⟩
theorem d42_3 : D1 jdk_112_method_4_code 3 (.dup) 1 4 := ⟨by decide +kernel, rfl⟩
theorem d42_4 : D1 jdk_112_method_4_code 4 (.aload_n 0) 1 5 := ⟨by decide +kernel, rfl⟩
theorem d42_5 : D1 jdk_112_method_4_code 5 (.getfield 1) 3 8 := ⟨by decide +kernel, rfl⟩
theorem d42_8 : D1 jdk_112_method_4_code 8 (.aload_n 0) 1 9 := ⟨by decide +kernel, rfl⟩
theorem d42_9 : D1 jdk_112_method_4_code 9 (.getfield 13) 3 12 := ⟨by decide +kernel, rfl⟩
theorem d42_12 : D1 jdk_112_method_4_code 12 (.invokespecial 28) 3 15 := ⟨by decide +kernel, rfl⟩
theorem d42_15 : D1 jdk_112_method_4_code 15 (.areturn) 1 16 := ⟨by decide +kernel, rfl⟩
theorem d43_0 : D1 jdk_2617_method_1_code 0 (.aload_n 0) 1 1 := ⟨by decide +kernel, rfl⟩
theorem d43_1 : D1 jdk_2617_method_1_code 1 (.aload_n 1) 1 2 := ⟨by decide +kernel, rfl⟩
theorem d43_2 : D1 jdk_2617_method_1_code 2 (.iload_n 2) 1 3 := ⟨by decide +kernel, rfl⟩
theorem d43_3 : D1 jdk_2617_method_1_code 3 (.invokespecial 1) 3 6 := ⟨by decide +kernel, rfl⟩
theorem d43_6 : D1 jdk_2617_method_1_code 6 (.return_) 1 7 := ⟨by decide +kernel, rfl⟩
theorem d44_0 : D1 jdk_2616_method_1_code 0 (.aload_n 0) 1 1 := ⟨by decide +kernel, rfl⟩
theorem d44_1 : D1 jdk_2616_method_1_code 1 (.aload_n 1) 1 2 := ⟨by decide +kernel, rfl⟩
theorem d44_2 : D1 jdk_2616_method_1_code 2 (.putfield 1) 3 5 := ⟨by decide +kernel, rfl⟩
theorem d44_5 : D1 jdk_2616_method_1_code 5 (.aload_n 0) 1 6 := ⟨by decide +kernel, rfl⟩
theorem d44_6 : D1 jdk_2616_method_1_code 6 (.invokespecial 7) 3 9 := ⟨by decide +kernel, rfl⟩
theorem d44_9 : D1 jdk_2616_method_1_code 9 (.aload_n 0) 1 10 := ⟨by decide +kernel, rfl⟩
theorem d44_10 : D1 jdk_2616_method_1_code 10 (.iload_n 2) 1 11 := ⟨by decide +kernel, rfl⟩
theorem d44_11 : D1 jdk_2616_method_1_code 11 (.putfield 13) 3 14 := ⟨by decide +kernel, rfl⟩
theorem d44_14 : D1 jdk_2616_method_1_code 14 (.aload_n 0) 1 15 := ⟨by decide +kernel, rfl⟩
theorem d44_15 : D1 jdk_2616_method_1_code 15 (.iload_n 2) 1 16 := ⟨by decide +kernel, rfl⟩
theorem d44_16 : D1 jdk_2616_method_1_code 16 (.ifCond .eq 10) 3 19 := ⟨by decide +kernel, rfl⟩
theorem d44_26 : D1 jdk_2616_method_1_code 26 (.aload_n 1) 1 27 := ⟨by decide +kernel, rfl⟩
theorem d44_27 : D1 jdk_2616_method_1_code 27 (.getfield 23) 3 30 := ⟨by decide +kernel, rfl⟩
theorem d44_30 : D1 jdk_2616_method_1_code 30 (.putfield 26) 3 33 := ⟨by decide +kernel, rfl⟩
theorem d44_33 : D1 jdk_2616_method_1_code 33 (.aload_n 0) 1 34 := ⟨by decide +kernel, rfl⟩
theorem d44_34 : D1 jdk_2616_method_1_code 34 (.aload_n 1) 1 35 := ⟨by decide +kernel, rfl⟩
theorem d44_35 : D1 jdk_2616_method_1_code 35 (.getfield 29) 3 38 := ⟨by decide +kernel, rfl⟩
theorem d44_38 : D1 jdk_2616_method_1_code 38 (.putfield 33) 3 41 := ⟨by decide +kernel, rfl⟩
theorem d44_41 : D1 jdk_2616_method_1_code 41 (.aload_n 0) 1 42 := ⟨by decide +kernel, rfl⟩
theorem d44_42 : D1 jdk_2616_method_1_code 42 (.aconst_null) 1 43 := ⟨by decide +kernel, rfl⟩
theorem d44_43 : D1 jdk_2616_method_1_code 43 (.putfield 36) 3 46 := ⟨by decide +kernel, rfl⟩
theorem d44_46 : D1 jdk_2616_method_1_code 46 (.return_) 1 47 := ⟨by decide +kernel, rfl⟩
theorem d45_0 : D1 jdk_135_method_2_code 0 (.aload_n 0) 1 1 := ⟨by decide +kernel, rfl⟩
theorem d45_1 : D1 jdk_135_method_2_code 1 (.getfield 25) 3 4 := ⟨by decide +kernel, rfl⟩
theorem d45_4 : D1 jdk_135_method_2_code 4 (.invokeinterface 29 1) 5 9 := ⟨by decide +kernel, rfl⟩
theorem d45_9 : D1 jdk_135_method_2_code 9 (.ireturn) 1 10 := ⟨by decide +kernel, rfl⟩
theorem d46_0 : D1 jdk_2616_method_2_code 0 (.aload_n 0) 1 1 := ⟨by decide +kernel, rfl⟩
theorem d46_1 : D1 jdk_2616_method_2_code 1 (.getfield 26) 3 4 := ⟨by decide +kernel, rfl⟩
theorem d46_4 : D1 jdk_2616_method_2_code 4 (.ifnull 7) 3 7 := ⟨by decide +kernel, rfl⟩
theorem d46_11 : D1 jdk_2616_method_2_code 11 (.iconst 0) 1 12 := ⟨by decide +kernel, rfl⟩
theorem d46_12 : D1 jdk_2616_method_2_code 12 (.ireturn) 1 13 := ⟨by decide +kernel, rfl⟩
def ns7 : List Nm := [("java/util/LinkedHashMap$LinkedHashIterator", "this$0", "Ljava/util/LinkedHashMap;"), ("java/util/LinkedHashMap$LinkedHashIterator", "reversed", "Z"), ("java/util/LinkedHashMap$LinkedHashIterator", "next", "Ljava/util/LinkedHashMap$Entry;"), ("java/util/LinkedHashMap$LinkedHashIterator", "expectedModCount", "I"), ("java/util/LinkedHashMap$LinkedHashIterator", "current", "Ljava/util/LinkedHashMap$Entry;")]
theorem lay7 {a0 : Array Value} {Z : State} (G : Gl a0 Z) : LayC Z a0 "java/util/LinkedHashMap$LinkedKeyIterator" ns7 := LayC.of (fun q hq => by
  simp only [ns7, List.mem_cons, List.not_mem_nil, or_false] at hq
  rcases hq with rfl | rfl | rfl | rfl | rfl
  · exact Or.inr (G.1 _ (List.mem_of_getElem? (i := 349) rfl))
  · exact Or.inl (G.1 _ (List.mem_of_getElem? (i := 352) rfl))
  · exact Or.inl (G.1 _ (List.mem_of_getElem? (i := 356) rfl))
  · exact Or.inl (G.1 _ (List.mem_of_getElem? (i := 361) rfl))
  · exact Or.inl (G.1 _ (List.mem_of_getElem? (i := 363) rfl))) (by decide +kernel) (fun q hq => by
  simp only [ns7, List.mem_cons, List.not_mem_nil, or_false] at hq
  rcases hq with rfl | rfl | rfl | rfl | rfl
  · exact ⟨(.object "java/util/LinkedHashMap"), by decide +kernel⟩
  · exact ⟨.boolean, by decide +kernel⟩
  · exact ⟨(.object "java/util/LinkedHashMap$Entry"), by decide +kernel⟩
  · exact ⟨.int, by decide +kernel⟩
  · exact ⟨(.object "java/util/LinkedHashMap$Entry"), by decide +kernel⟩)
theorem df7 : dfl ns7 = ([.null, .int 0, .null, .int 0, .null] : List Value).map some := by decide +kernel
def ns8 : List Nm := [("java/util/Collections$UnmodifiableCollection$1", "this$0", "Ljava/util/Collections$UnmodifiableCollection;"), ("java/util/Collections$UnmodifiableCollection$1", "i", "Ljava/util/Iterator;")]
theorem lay8 {a0 : Array Value} {Z : State} (G : Gl a0 Z) : LayC Z a0 "java/util/Collections$UnmodifiableCollection$1" ns8 := LayC.of (fun q hq => by
  simp only [ns8, List.mem_cons, List.not_mem_nil, or_false] at hq
  rcases hq with rfl | rfl
  · exact Or.inr (G.1 _ (List.mem_of_getElem? (i := 289) rfl))
  · exact Or.inr (G.1 _ (List.mem_of_getElem? (i := 365) rfl))) (by decide +kernel) (fun q hq => by
  simp only [ns8, List.mem_cons, List.not_mem_nil, or_false] at hq
  rcases hq with rfl | rfl
  · exact ⟨(.object "java/util/Collections$UnmodifiableCollection"), by decide +kernel⟩
  · exact ⟨(.object "java/util/Iterator"), by decide +kernel⟩)
theorem df8 : dfl ns8 = ([.null, .null] : List Value).map some := by decide +kernel
theorem pd21 : parseMethodDescriptor "()Ljava/util/Set;" = some ⟨[], some (.object "java/util/Set")⟩ := by decide +kernel
theorem pd22 : parseMethodDescriptor "(Ljava/util/Collections$UnmodifiableCollection;)V" = some ⟨[(.object "java/util/Collections$UnmodifiableCollection")], none⟩ := by decide +kernel
theorem pf11 : parseFieldDescriptor "Ljava/util/LinkedHashMap$Entry;" = some (.object "java/util/LinkedHashMap$Entry") := by decide +kernel
theorem pf12 : parseFieldDescriptor "Ljava/util/Collections$UnmodifiableCollection;" = some (.object "java/util/Collections$UnmodifiableCollection") := by decide +kernel
theorem pf13 : parseFieldDescriptor "Ljava/util/Iterator;" = some (.object "java/util/Iterator") := by decide +kernel
set_option maxRecDepth 65536 in
set_option maxHeartbeats 4000000 in
theorem k_hi (l : Launch) {Z : State} {a0 : Array Value} (G : Gl a0 Z) {L : List Ent} {a lm : Addr} {kv : Value} {f : Bool} (hm : (lm, (Ob Z "java/util/LinkedHashMap" ns1 [.float 1061158912, .int 16, .int 0, .int 0, .int 0, kv, .null, .int 0]), f) ∈ L) : Ct WD EL0 l Z (⟨"java/util/LinkedHashMap$LinkedHashIterator", "<init>", "(Ljava/util/LinkedHashMap;Z)V"⟩ : MethodName) jdk_2616_method_1_code 3 none ({ frames := 1, cells := 0, slots := 0, locals := 12 } : Room) #[.ref a, .ref lm, .int 0] (ow a (Ob Z "java/util/LinkedHashMap$LinkedKeyIterator" ns7 [.null, .int 0, .null, .int 0, .null]) :: L) (r0Q (fun M => M = ow a (Ob Z "java/util/LinkedHashMap$LinkedKeyIterator" ns7 [.ref lm, .int 0, .null, .int 0, .null]) :: L)) := by
  refine Ct.intro (by decide +kernel) G.2.1 ?_
  intro p e s m below meth c X
  replace X : Cx WD EL0 p Z s m meth c "java/util/LinkedHashMap$LinkedHashIterator" "<init>" jdk_2616_method_1_code 3 none := X
  refine Go.cast (g' := mkF m 0 #[.val (.ref a), .val (.ref lm), .val (.int 0)] []) (by first | rfl | (simp [entryFrame, mkF, argsToLocals, Value.category, maxLocals]; done)) ?_
  obtain ⟨im, him⟩ := List.getElem?_of_mem hm
  refine Go.aloadN X d44_0 rfl rfl ?_
  refine Go.aloadN X d44_1 rfl rfl ?_
  refine Go.putFld X (i := 0) rfl (j := 0) rfl (lay7 G) (w348 G) Via.refl (Or.inr ⟨(w349 G), rfl, rfl⟩) (w336 G) pf10 d44_2 (by rfl) (by rfl) ?_
  refine Go.aloadN X d44_5 rfl rfl ?_
  refine Go.initObj X (w350 G) (w12 G) (w13 G) d44_6 rfl (Nat.le_of_ble_eq_true rfl) (Nat.le_of_ble_eq_true rfl) ?_
  refine Go.aloadN X d44_9 rfl rfl ?_
  refine Go.iloadN X d44_10 rfl ?_
  refine Go.putFld X (i := 0) rfl (j := 1) rfl (lay7 G) (w351 G) Via.refl (Or.inl (w352 G)) (w336 G) pf4 d44_11 (by rfl) (by rfl) ?_
  refine Go.aloadN X d44_14 rfl rfl ?_
  refine Go.iloadN X d44_15 rfl ?_
  refine Go.ifc X d44_16 (pt := 26) ⟨by decide, by decide⟩ ?_ ?_
  rotate_left
  · intro q; exact absurd rfl q
  intro _
  refine Go.aloadN X d44_26 rfl rfl ?_
  refine Go.getFld X (w353 G) Via.refl (fun h H => H.fld (i := im + 1) him (j := 6) rfl rfl) d44_27 ?_
  refine Go.putFld X (i := 0) rfl (j := 2) rfl (lay7 G) (w355 G) Via.refl (Or.inl (w356 G)) (w336 G) pf11 d44_30 (by rfl) (by rfl) ?_
  refine Go.aloadN X d44_33 rfl rfl ?_
  refine Go.aloadN X d44_34 rfl rfl ?_
  refine Go.getFld X (w357 G) (Via.of (w358 G)) (fun h H => H.fld (i := im + 1) him (j := 7) rfl rfl) d44_35 ?_
  refine Go.putFld X (i := 0) rfl (j := 3) rfl (lay7 G) (w360 G) Via.refl (Or.inl (w361 G)) (w336 G) pf3 d44_38 (by rfl) (by rfl) ?_
  refine Go.aloadN X d44_41 rfl rfl ?_
  refine Go.aconstNull X d44_42 ?_
  refine Go.putFld X (i := 0) rfl (j := 4) rfl (lay7 G) (w362 G) Via.refl (Or.inl (w363 G)) (w336 G) pf11 d44_43 (by rfl) (by rfl) ?_
  exact Go.ret0 X d44_46 (by first | exact Nat.le_of_ble_eq_true rfl | (simp; done) | (simp; omega)) (by first | exact Nat.le_of_ble_eq_true rfl | (simp; done) | (simp; omega)) rfl
set_option maxRecDepth 65536 in
set_option maxHeartbeats 4000000 in
theorem k_ii (l : Launch) {Z : State} {a0 : Array Value} (G : Gl a0 Z) {L : List Ent} {a lm : Addr} {kv : Value} {f : Bool} (hm : (lm, (Ob Z "java/util/LinkedHashMap" ns1 [.float 1061158912, .int 16, .int 0, .int 0, .int 0, kv, .null, .int 0]), f) ∈ L) : Ct WD EL0 l Z (⟨"java/util/LinkedHashMap$LinkedKeyIterator", "<init>", "(Ljava/util/LinkedHashMap;Z)V"⟩ : MethodName) jdk_2617_method_1_code 3 none ({ frames := 2, cells := 0, slots := 0, locals := 26 } : Room) #[.ref a, .ref lm, .int 0] (ow a (Ob Z "java/util/LinkedHashMap$LinkedKeyIterator" ns7 [.null, .int 0, .null, .int 0, .null]) :: L) (r0Q (fun M => M = ow a (Ob Z "java/util/LinkedHashMap$LinkedKeyIterator" ns7 [.ref lm, .int 0, .null, .int 0, .null]) :: L)) := by
  refine Ct.intro (by decide +kernel) G.2.1 ?_
  intro p e s m below meth c X
  replace X : Cx WD EL0 p Z s m meth c "java/util/LinkedHashMap$LinkedKeyIterator" "<init>" jdk_2617_method_1_code 3 none := X
  refine Go.cast (g' := mkF m 0 #[.val (.ref a), .val (.ref lm), .val (.int 0)] []) (by first | rfl | (simp [entryFrame, mkF, argsToLocals, Value.category, maxLocals]; done)) ?_
  refine Go.aloadN X d43_0 rfl rfl ?_
  refine Go.aloadN X d43_1 rfl rfl ?_
  refine Go.iloadN X d43_2 rfl ?_
  refine Go.callI X (k_hi l G (a := a) hm) rfl (rest := []) (w342 G) (w343 G) (w346 G) (w347 G) (by decide) pd19 rfl rfl d43_3 rfl (by first | exact Nat.le_of_ble_eq_true rfl | (simp; done) | (simp; omega)) (by first | exact Nat.le_of_ble_eq_true rfl | (simp; done) | (simp; omega)) (by first | exact Nat.le_of_ble_eq_true rfl | (simp; done) | (simp; omega)) (by first | exact Nat.le_of_ble_eq_true rfl | (simp; done) | (simp; omega)) (K0 ?_)
  rintro M rfl
  exact Go.ret0 X d43_6 (by first | exact Nat.le_of_ble_eq_true rfl | (simp; done) | (simp; omega)) (by first | exact Nat.le_of_ble_eq_true rfl | (simp; done) | (simp; omega)) rfl
set_option maxRecDepth 65536 in
set_option maxHeartbeats 4000000 in
theorem k_it (l : Launch) {Z : State} {a0 : Array Value} (G : Gl a0 Z) {L : List Ent} {lm : Addr} {kv : Value} {f : Bool} (hm : (lm, (Ob Z "java/util/LinkedHashMap" ns1 [.float 1061158912, .int 16, .int 0, .int 0, .int 0, kv, .null, .int 0]), f) ∈ L) {ks : Addr} {fk : Bool} (hk : (ks, (Ob Z "java/util/LinkedHashMap$LinkedKeySet" ns6 [.ref lm, .int 0]), fk) ∈ L) : Ct WD EL0 l Z (⟨"java/util/LinkedHashMap$LinkedKeySet", "iterator", "()Ljava/util/Iterator;"⟩ : MethodName) jdk_112_method_4_code 1 (some (.object "java/util/Iterator")) ({ frames := 3, cells := 1, slots := 5, locals := 41 } : Room) #[.ref ks] L (rvQ (fun v M => ∃ a, v = .ref a ∧ M = ow a (Ob Z "java/util/LinkedHashMap$LinkedKeyIterator" ns7 [.ref lm, .int 0, .null, .int 0, .null]) :: L)) := by
  refine Ct.intro (by decide +kernel) G.2.1 ?_
  intro p e s m below meth c X
  replace X : Cx WD EL0 p Z s m meth c "java/util/LinkedHashMap$LinkedKeySet" "iterator" jdk_112_method_4_code 1 (some (.object "java/util/Iterator")) := X
  refine Go.cast (g' := mkF m 0 #[.val (.ref ks)] []) (by first | rfl | (simp [entryFrame, mkF, argsToLocals, Value.category, maxLocals]; done)) ?_
  obtain ⟨ik, hik⟩ := List.getElem?_of_mem hk
  refine Go.new X (w335 G) (w336 G) (w337 G) (lay7 G) df7 d42_0 (by first | exact Nat.le_of_ble_eq_true rfl | (simp; done) | (simp; omega)) (by first | exact Nat.le_of_ble_eq_true rfl | (simp; done) | (simp; omega)) ?_
  intro ki2
  refine Go.dup X d42_3 rfl ?_
  refine Go.aloadN X d42_4 rfl rfl ?_
  refine Go.getFld X (w319 G) Via.refl (fun h H => H.fld (i := ik + 1) hik (j := 0) rfl rfl) d42_5 ?_
  refine Go.aloadN X d42_8 rfl rfl ?_
  refine Go.getFld X (w324 G) Via.refl (fun h H => H.fld (i := ik + 1) hik (j := 1) rfl rfl) d42_9 ?_
  refine Go.callI X (k_ii l G (a := ki2) hm) rfl (rest := [.ref ki2]) (w338 G) (w339 G) (w337 G) (w341 G) (by decide) pd19 rfl rfl d42_12 rfl (by first | exact Nat.le_of_ble_eq_true rfl | (simp; done) | (simp; omega)) (by first | exact Nat.le_of_ble_eq_true rfl | (simp; done) | (simp; omega)) (by first | exact Nat.le_of_ble_eq_true rfl | (simp; done) | (simp; omega)) (by first | exact Nat.le_of_ble_eq_true rfl | (simp; done) | (simp; omega)) (K0 ?_)
  rintro M rfl
  exact Go.aret X d42_15 (by rfl) (by rfl) (by rfl) (by first | exact Nat.le_of_ble_eq_true rfl | (simp; done) | (simp; omega)) (by first | exact Nat.le_of_ble_eq_true rfl | (simp; done) | (simp; omega)) ⟨ki2, rfl, rfl⟩
set_option maxRecDepth 65536 in
set_option maxHeartbeats 4000000 in
theorem k_hsit (l : Launch) {Z : State} {a0 : Array Value} (G : Gl a0 Z) {L : List Ent} {lm ls : Addr} {fs : Bool} (hs : (ls, (Ob Z "java/util/LinkedHashSet" ns2 [.ref lm]), fs) ∈ L) : Ct WD EL0 l Z (⟨"java/util/HashSet", "iterator", "()Ljava/util/Iterator;"⟩ : MethodName) jdk_93_method_6_code 1 (some (.object "java/util/Iterator")) ({ frames := 6, cells := 2, slots := 7, locals := 77 } : Room) #[.ref ls] (ow lm (Ob Z "java/util/LinkedHashMap" ns1 [.float 1061158912, .int 16, .int 0, .int 0, .int 0, .null, .null, .int 0]) :: L) (rvQ (fun v M => ∃ ii ks, v = .ref ii ∧ M = ow ii (Ob Z "java/util/LinkedHashMap$LinkedKeyIterator" ns7 [.ref lm, .int 0, .null, .int 0, .null]) :: ow ks (Ob Z "java/util/LinkedHashMap$LinkedKeySet" ns6 [.ref lm, .int 0]) :: ow lm (Ob Z "java/util/LinkedHashMap" ns1 [.float 1061158912, .int 16, .int 0, .int 0, .int 0, .ref ks, .null, .int 0]) :: L)) := by
  refine Ct.intro (by decide +kernel) G.2.1 ?_
  intro p e s m below meth c X
  replace X : Cx WD EL0 p Z s m meth c "java/util/HashSet" "iterator" jdk_93_method_6_code 1 (some (.object "java/util/Iterator")) := X
  refine Go.cast (g' := mkF m 0 #[.val (.ref ls)] []) (by first | rfl | (simp [entryFrame, mkF, argsToLocals, Value.category, maxLocals]; done)) ?_
  obtain ⟨is, his⟩ := List.getElem?_of_mem hs
  refine Go.aloadN X d38_0 rfl rfl ?_
  refine Go.getFld X (w110 G) Via.refl (fun h H => H.fld (i := is + 1) his (j := 0) rfl rfl) d38_1 ?_
  refine Go.callV X (fun h H => H.exa (i := 0) rfl) (k_set l G (lm := lm)) (rest := []) (w298 G) (w299 G) (nfX (w262 G) rfl) (w301 G) (w302 G) (w71 G) (w303 G) (by decide) pd21 rfl rfl d38_4 rfl (by first | exact Nat.le_of_ble_eq_true rfl | (simp; done) | (simp; omega)) (by first | exact Nat.le_of_ble_eq_true rfl | (simp; done) | (simp; omega)) (by first | exact Nat.le_of_ble_eq_true rfl | (simp; done) | (simp; omega)) (by first | exact Nat.le_of_ble_eq_true rfl | (simp; done) | (simp; omega)) (Kv ?_)
  rintro v M ⟨ks, rfl, rfl⟩
  refine Go.callN X (fun h H => H.exa (i := 0) rfl) (k_it l G (lm := lm) (kv := .ref ks) (List.mem_of_getElem? (i := 1) rfl) (List.mem_of_getElem? (i := 0) rfl)) (rest := []) (w326 G) (w327 G) (by decide +kernel) (w328 G) (w329 G) (w330 G) (w331 G) (w332 G) (w333 G) (w314 G) (w334 G) (by decide) pd13 rfl rfl d38_7 rfl (by first | exact Nat.le_of_ble_eq_true rfl | (simp; done) | (simp; omega)) (by first | exact Nat.le_of_ble_eq_true rfl | (simp; done) | (simp; omega)) (by first | exact Nat.le_of_ble_eq_true rfl | (simp; done) | (simp; omega)) (by first | exact Nat.le_of_ble_eq_true rfl | (simp; done) | (simp; omega)) (Kv ?_)
  rintro v M ⟨ii, rfl, rfl⟩
  exact Go.aret X d38_12 (by rfl) (by rfl) (by rfl) (by first | exact Nat.le_of_ble_eq_true rfl | (simp; done) | (simp; omega)) (by first | exact Nat.le_of_ble_eq_true rfl | (simp; done) | (simp; omega)) ⟨ii, ks, rfl, rfl⟩
set_option maxRecDepth 65536 in
set_option maxHeartbeats 4000000 in
theorem v_init (l : Launch) {Z : State} {a0 : Array Value} (G : Gl a0 Z) {L : List Ent} {a lm ls : Addr} {fs : Bool} (hs : (ls, (Ob Z "java/util/LinkedHashSet" ns2 [.ref lm]), fs) ∈ L) {us : Addr} {fu : Bool} (hu : (us, (Ob Z "java/util/Collections$UnmodifiableSet" ns4 [.ref ls]), fu) ∈ L) : Ct WD EL0 l Z (⟨"java/util/Collections$UnmodifiableCollection$1", "<init>", "(Ljava/util/Collections$UnmodifiableCollection;)V"⟩ : MethodName) jdk_135_method_1_code 2 none ({ frames := 7, cells := 2, slots := 7, locals := 90 } : Room) #[.ref a, .ref us] (ow a (Ob Z "java/util/Collections$UnmodifiableCollection$1" ns8 [.null, .null]) :: ow lm (Ob Z "java/util/LinkedHashMap" ns1 [.float 1061158912, .int 16, .int 0, .int 0, .int 0, .null, .null, .int 0]) :: L) (r0Q (fun M => ∃ ii ks, M = ow ii (Ob Z "java/util/LinkedHashMap$LinkedKeyIterator" ns7 [.ref lm, .int 0, .null, .int 0, .null]) :: ow ks (Ob Z "java/util/LinkedHashMap$LinkedKeySet" ns6 [.ref lm, .int 0]) :: ow lm (Ob Z "java/util/LinkedHashMap" ns1 [.float 1061158912, .int 16, .int 0, .int 0, .int 0, .ref ks, .null, .int 0]) :: ow a (Ob Z "java/util/Collections$UnmodifiableCollection$1" ns8 [.ref us, .ref ii]) :: L)) := by
  refine Ct.intro (by decide +kernel) G.2.1 ?_
  intro p e s m below meth c X
  replace X : Cx WD EL0 p Z s m meth c "java/util/Collections$UnmodifiableCollection$1" "<init>" jdk_135_method_1_code 2 none := X
  refine Go.cast (g' := mkF m 0 #[.val (.ref a), .val (.ref us)] []) (by first | rfl | (simp [entryFrame, mkF, argsToLocals, Value.category, maxLocals]; done)) ?_
  obtain ⟨iu, hiu⟩ := List.getElem?_of_mem hu
  refine Go.aloadN X d37_0 rfl rfl ?_
  refine Go.aloadN X d37_1 rfl rfl ?_
  refine Go.putFld X (i := 0) rfl (j := 0) rfl (lay8 G) (w288 G) Via.refl (Or.inr ⟨(w289 G), rfl, rfl⟩) (w282 G) pf12 d37_2 (by rfl) (by rfl) ?_
  refine Go.aloadN X d37_5 rfl rfl ?_
  refine Go.initObj X (w290 G) (w12 G) (w13 G) d37_6 rfl (Nat.le_of_ble_eq_true rfl) (Nat.le_of_ble_eq_true rfl) ?_
  refine Go.aloadN X d37_9 rfl rfl ?_
  refine Go.aloadN X d37_10 rfl rfl ?_
  refine Go.getFld X (w288 G) Via.refl (fun h H => H.fld (i := 0) rfl (j := 0) rfl rfl) d37_11 ?_
  refine Go.getFld X (w291 G) Via.refl (fun h H => H.fld (i := iu + 2) hiu (j := 0) rfl rfl) d37_14 ?_
  refine Go.perm (L' := ow lm (Ob Z "java/util/LinkedHashMap" ns1 [.float 1061158912, .int 16, .int 0, .int 0, .int 0, .null, .null, .int 0]) :: ow a (Ob Z "java/util/Collections$UnmodifiableCollection$1" ns8 [.ref us, .null]) :: L) (List.Perm.swap _ _ _) ?_
  refine Go.callN X (fun h H => H.exaM (List.mem_cons_of_mem _ (List.mem_cons_of_mem _ hs)) (fun c q => ⟨_, _, q⟩)) (k_hsit l G (L := ow a (Ob Z "java/util/Collections$UnmodifiableCollection$1" ns8 [.ref us, .null]) :: L) (lm := lm) (List.mem_cons_of_mem _ hs)) (rest := [.ref a]) (w292 G) (w113 G) (by decide +kernel) (w114 G) (w293 G) (w294 G) (w295 G) (w296 G) (w240 G) (w54 G) (w297 G) (by decide) pd13 rfl rfl d37_17 rfl (by first | exact Nat.le_of_ble_eq_true rfl | (simp; done) | (simp; omega)) (by first | exact Nat.le_of_ble_eq_true rfl | (simp; done) | (simp; omega)) (by first | exact Nat.le_of_ble_eq_true rfl | (simp; done) | (simp; omega)) (by first | exact Nat.le_of_ble_eq_true rfl | (simp; done) | (simp; omega)) (Kv ?_)
  rintro v M ⟨ii, ks, rfl, rfl⟩
  refine Go.putFld X (i := 3) rfl (j := 1) rfl (lay8 G) (w364 G) Via.refl (Or.inr ⟨(w365 G), rfl, rfl⟩) (w282 G) pf13 d37_22 (by rfl) (by rfl) ?_
  exact Go.ret0 X d37_25 (by first | exact Nat.le_of_ble_eq_true rfl | (simp; done) | (simp; omega)) (by first | exact Nat.le_of_ble_eq_true rfl | (simp; done) | (simp; omega)) ⟨ii, ks, rfl⟩
set_option maxRecDepth 65536 in
set_option maxHeartbeats 4000000 in
theorem v_iter (l : Launch) {Z : State} {a0 : Array Value} (G : Gl a0 Z) {L : List Ent} {lm ls : Addr} {fs : Bool} (hs : (ls, (Ob Z "java/util/LinkedHashSet" ns2 [.ref lm]), fs) ∈ L) {us : Addr} {fu : Bool} (hu : (us, (Ob Z "java/util/Collections$UnmodifiableSet" ns4 [.ref ls]), fu) ∈ L) : Ct WD EL0 l Z (⟨"java/util/Collections$UnmodifiableCollection", "iterator", "()Ljava/util/Iterator;"⟩ : MethodName) jdk_119_method_9_code 1 (some (.object "java/util/Iterator")) ({ frames := 8, cells := 3, slots := 9, locals := 104 } : Room) #[.ref us] (ow lm (Ob Z "java/util/LinkedHashMap" ns1 [.float 1061158912, .int 16, .int 0, .int 0, .int 0, .null, .null, .int 0]) :: L) (rvQ (fun v M => ∃ a ii ks, v = .ref a ∧ M = ow ii (Ob Z "java/util/LinkedHashMap$LinkedKeyIterator" ns7 [.ref lm, .int 0, .null, .int 0, .null]) :: ow ks (Ob Z "java/util/LinkedHashMap$LinkedKeySet" ns6 [.ref lm, .int 0]) :: ow lm (Ob Z "java/util/LinkedHashMap" ns1 [.float 1061158912, .int 16, .int 0, .int 0, .int 0, .ref ks, .null, .int 0]) :: ow a (Ob Z "java/util/Collections$UnmodifiableCollection$1" ns8 [.ref us, .ref ii]) :: L)) := by
  refine Ct.intro (by decide +kernel) G.2.1 ?_
  intro p e s m below meth c X
  replace X : Cx WD EL0 p Z s m meth c "java/util/Collections$UnmodifiableCollection" "iterator" jdk_119_method_9_code 1 (some (.object "java/util/Iterator")) := X
  refine Go.cast (g' := mkF m 0 #[.val (.ref us)] []) (by first | rfl | (simp [entryFrame, mkF, argsToLocals, Value.category, maxLocals]; done)) ?_
  refine Go.new X (w281 G) (w282 G) (w283 G) (lay8 G) df8 d36_0 (by first | exact Nat.le_of_ble_eq_true rfl | (simp; done) | (simp; omega)) (by first | exact Nat.le_of_ble_eq_true rfl | (simp; done) | (simp; omega)) ?_
  intro a
  refine Go.dup X d36_3 rfl ?_
  refine Go.aloadN X d36_4 rfl rfl ?_
  refine Go.callI X (v_init l G (a := a) (lm := lm) hs hu) rfl (rest := [.ref a]) (w284 G) (w285 G) (w283 G) (w287 G) (by decide) pd22 rfl rfl d36_5 rfl (by first | exact Nat.le_of_ble_eq_true rfl | (simp; done) | (simp; omega)) (by first | exact Nat.le_of_ble_eq_true rfl | (simp; done) | (simp; omega)) (by first | exact Nat.le_of_ble_eq_true rfl | (simp; done) | (simp; omega)) (by first | exact Nat.le_of_ble_eq_true rfl | (simp; done) | (simp; omega)) (K0 ?_)
  rintro M ⟨ii, ks, rfl⟩
  exact Go.aret X d36_8 (by rfl) (by rfl) (by rfl) (by first | exact Nat.le_of_ble_eq_true rfl | (simp; done) | (simp; omega)) (by first | exact Nat.le_of_ble_eq_true rfl | (simp; done) | (simp; omega)) ⟨a, ii, ks, rfl, rfl⟩
set_option maxRecDepth 65536 in
set_option maxHeartbeats 4000000 in
theorem k_has (l : Launch) {Z : State} {a0 : Array Value} (G : Gl a0 Z) {L : List Ent} {lm ii : Addr} {f : Bool} (hi : (ii, (Ob Z "java/util/LinkedHashMap$LinkedKeyIterator" ns7 [.ref lm, .int 0, .null, .int 0, .null]), f) ∈ L) : Ct WD EL0 l Z (⟨"java/util/LinkedHashMap$LinkedHashIterator", "hasNext", "()Z"⟩ : MethodName) jdk_2616_method_2_code 1 (some .boolean) ({ frames := 0, cells := 0, slots := 0, locals := 0 } : Room) #[.ref ii] L (rvQ (fun v M => v = .int 0 ∧ M = L)) := by
  refine Ct.intro (by decide +kernel) G.2.1 ?_
  intro p e s m below meth c X
  replace X : Cx WD EL0 p Z s m meth c "java/util/LinkedHashMap$LinkedHashIterator" "hasNext" jdk_2616_method_2_code 1 (some .boolean) := X
  refine Go.cast (g' := mkF m 0 #[.val (.ref ii)] []) (by first | rfl | (simp [entryFrame, mkF, argsToLocals, Value.category, maxLocals]; done)) ?_
  obtain ⟨im, him⟩ := List.getElem?_of_mem hi
  refine Go.aloadN X d46_0 rfl rfl ?_
  refine Go.getFld X (w355 G) Via.refl (fun h H => H.fld (i := im) him (j := 2) rfl rfl) d46_1 ?_
  refine Go.ifnullY X d46_4 (pt := 11) ⟨by decide, by decide⟩ ?_
  refine Go.iconst X (v := 0) d46_11 (by decide) ?_
  exact Go.zret X d46_12 (Or.inl rfl) (by first | exact Nat.le_of_ble_eq_true rfl | (simp; done) | (simp; omega)) (by first | exact Nat.le_of_ble_eq_true rfl | (simp; done) | (simp; omega)) ⟨rfl, rfl⟩
set_option maxRecDepth 65536 in
set_option maxHeartbeats 4000000 in
theorem v_has (l : Launch) {Z : State} {a0 : Array Value} (G : Gl a0 Z) {L : List Ent} {lm ii : Addr} {f : Bool} (hi : (ii, (Ob Z "java/util/LinkedHashMap$LinkedKeyIterator" ns7 [.ref lm, .int 0, .null, .int 0, .null]), f) ∈ L) {a us : Addr} {fv : Bool} (hv : (a, (Ob Z "java/util/Collections$UnmodifiableCollection$1" ns8 [.ref us, .ref ii]), fv) ∈ L) : Ct WD EL0 l Z (⟨"java/util/Collections$UnmodifiableCollection$1", "hasNext", "()Z"⟩ : MethodName) jdk_135_method_2_code 1 (some .boolean) ({ frames := 1, cells := 0, slots := 0, locals := 12 } : Room) #[.ref a] L (rvQ (fun v M => v = .int 0 ∧ M = L)) := by
  refine Ct.intro (by decide +kernel) G.2.1 ?_
  intro p e s m below meth c X
  replace X : Cx WD EL0 p Z s m meth c "java/util/Collections$UnmodifiableCollection$1" "hasNext" jdk_135_method_2_code 1 (some .boolean) := X
  refine Go.cast (g' := mkF m 0 #[.val (.ref a)] []) (by first | rfl | (simp [entryFrame, mkF, argsToLocals, Value.category, maxLocals]; done)) ?_
  obtain ⟨iv, hiv⟩ := List.getElem?_of_mem hv
  refine Go.aloadN X d45_0 rfl rfl ?_
  refine Go.getFld X (w364 G) Via.refl (fun h H => H.fld (i := iv) hiv (j := 1) rfl rfl) d45_1 ?_
  refine Go.callN X (fun h H => H.exaM hi (fun c q => ⟨_, _, q⟩)) (k_has l G hi) (rest := []) (w373 G) (w148 G) (by decide +kernel) (w149 G) (w374 G) (w375 G) (w376 G) (w377 G) (w378 G) (w346 G) (w379 G) (by decide) pd14 rfl rfl d45_4 rfl (by first | exact Nat.le_of_ble_eq_true rfl | (simp; done) | (simp; omega)) (by first | exact Nat.le_of_ble_eq_true rfl | (simp; done) | (simp; omega)) (by first | exact Nat.le_of_ble_eq_true rfl | (simp; done) | (simp; omega)) (by first | exact Nat.le_of_ble_eq_true rfl | (simp; done) | (simp; omega)) (Kv ?_)
  rintro v M ⟨rfl, rfl⟩
  exact Go.zret X d45_9 (Or.inl rfl) (by first | exact Nat.le_of_ble_eq_true rfl | (simp; done) | (simp; omega)) (by first | exact Nat.le_of_ble_eq_true rfl | (simp; done) | (simp; omega)) ⟨rfl, rfl⟩
set_option maxRecDepth 65536 in
set_option maxHeartbeats 4000000 in
theorem w_all (l : Launch) {Z : State} {a0 : Array Value} (G : Gl a0 Z) {L : List Ent} {lm ls : Addr} {fs : Bool} (hs : (ls, (Ob Z "java/util/LinkedHashSet" ns2 [.ref lm]), fs) ∈ L) {us : Addr} {fu : Bool} (hu : (us, (Ob Z "java/util/Collections$UnmodifiableSet" ns4 [.ref ls]), fu) ∈ L) {ls1 : Addr} : Ct WD EL0 l Z (⟨"java/util/AbstractCollection", "containsAll", "(Ljava/util/Collection;)Z"⟩ : MethodName) jdk_22_method_11_code 4 (some .boolean) ({ frames := 9, cells := 3, slots := 9, locals := 116 } : Room) #[.ref ls1, .ref us] (ow lm (Ob Z "java/util/LinkedHashMap" ns1 [.float 1061158912, .int 16, .int 0, .int 0, .int 0, .null, .null, .int 0]) :: L) (rvQ (fun v M => v = .int 1 ∧ ∃ a ii ks, M = ow ii (Ob Z "java/util/LinkedHashMap$LinkedKeyIterator" ns7 [.ref lm, .int 0, .null, .int 0, .null]) :: ow ks (Ob Z "java/util/LinkedHashMap$LinkedKeySet" ns6 [.ref lm, .int 0]) :: ow lm (Ob Z "java/util/LinkedHashMap" ns1 [.float 1061158912, .int 16, .int 0, .int 0, .int 0, .ref ks, .null, .int 0]) :: ow a (Ob Z "java/util/Collections$UnmodifiableCollection$1" ns8 [.ref us, .ref ii]) :: L)) := by
  refine Ct.intro (by decide +kernel) G.2.1 ?_
  intro p e s m below meth c X
  replace X : Cx WD EL0 p Z s m meth c "java/util/AbstractCollection" "containsAll" jdk_22_method_11_code 4 (some .boolean) := X
  refine Go.cast (g' := mkF m 0 #[.val (.ref ls1), .val (.ref us), .unset, .unset] []) (by first | rfl | (simp [entryFrame, mkF, argsToLocals, Value.category, maxLocals]; done)) ?_
  refine Go.aloadN X d35_0 rfl rfl ?_
  refine Go.callN X (fun h H => H.exaM (List.mem_cons_of_mem _ hu) (fun c q => ⟨_, _, q⟩)) (v_iter l G (lm := lm) hs hu) (rest := []) (w275 G) (w113 G) (by decide +kernel) (w114 G) (w276 G) (w277 G) (w278 G) (w279 G) (w244 G) (w181 G) (w280 G) (by decide) pd13 rfl rfl d35_1 rfl (by first | exact Nat.le_of_ble_eq_true rfl | (simp; done) | (simp; omega)) (by first | exact Nat.le_of_ble_eq_true rfl | (simp; done) | (simp; omega)) (by first | exact Nat.le_of_ble_eq_true rfl | (simp; done) | (simp; omega)) (by first | exact Nat.le_of_ble_eq_true rfl | (simp; done) | (simp; omega)) (Kv ?_)
  rintro v M ⟨a, ii, ks, rfl, rfl⟩
  refine Go.astoreN X d35_6 rfl rfl ?_
  refine Go.aloadN X d35_7 rfl rfl ?_
  refine Go.callN X (fun h H => H.exa (i := 3) rfl) (v_has l G (List.mem_of_getElem? (i := 0) rfl) (List.mem_of_getElem? (i := 3) rfl)) (rest := []) (w366 G) (w148 G) (by decide +kernel) (w149 G) (w367 G) (w368 G) (w369 G) (w370 G) (w371 G) (w283 G) (w372 G) (by decide) pd14 rfl rfl d35_8 rfl (by first | exact Nat.le_of_ble_eq_true rfl | (simp; done) | (simp; omega)) (by first | exact Nat.le_of_ble_eq_true rfl | (simp; done) | (simp; omega)) (by first | exact Nat.le_of_ble_eq_true rfl | (simp; done) | (simp; omega)) (by first | exact Nat.le_of_ble_eq_true rfl | (simp; done) | (simp; omega)) (Kv ?_)
  rintro v M ⟨rfl, rfl⟩
  refine Go.ifc X d35_13 (pt := 36) ⟨by decide, by decide⟩ ?_ ?_
  rotate_left
  · intro q; exact absurd rfl q
  intro _
  refine Go.iconst X (v := 1) d35_36 (by decide) ?_
  exact Go.zret X d35_37 (Or.inr rfl) (by first | exact Nat.le_of_ble_eq_true rfl | (simp; done) | (simp; omega)) (by first | exact Nat.le_of_ble_eq_true rfl | (simp; done) | (simp; omega)) ⟨rfl, a, ii, ks, rfl⟩
-- %%% equals
theorem w222 {a0 : Array Value} {Z : State} (G : Gl a0 Z) : (Jvm.Cond.methodLink "com/example/mussel/mussel/rule/Selection" (107 : Nat) ({ cls := "java/util/Set", name := "equals", desc := "(Ljava/lang/Object;)Z" } : Jvm.MethodName)).before a0 Z = true := G.1 _ (List.mem_of_getElem? (i := 222) rfl)
theorem w223 {a0 : Array Value} {Z : State} (G : Gl a0 Z) : (Jvm.Cond.declares ({ cls := "java/util/Set", name := "equals", desc := "(Ljava/lang/Object;)Z" } : Jvm.MethodName)).before a0 Z = true := G.1 _ (List.mem_of_getElem? (i := 223) rfl)
theorem w224 {a0 : Array Value} {Z : State} (G : Gl a0 Z) : (Jvm.Cond.interfaceMethod "java/util/Set" "java/util/Set" "equals" "(Ljava/lang/Object;)Z").before a0 Z = true := G.1 _ (List.mem_of_getElem? (i := 224) rfl)
theorem w225 {a0 : Array Value} {Z : State} (G : Gl a0 Z) : (Jvm.Cond.selects "java/util/Collections$UnmodifiableSet" ({ cls := "java/util/Set", name := "equals", desc := "(Ljava/lang/Object;)Z" } : Jvm.MethodName) ({ cls := "java/util/Collections$UnmodifiableSet", name := "equals", desc := "(Ljava/lang/Object;)Z" } : Jvm.MethodName)).before a0 Z = true := G.1 _ (List.mem_of_getElem? (i := 225) rfl)
theorem w226 {a0 : Array Value} {Z : State} (G : Gl a0 Z) : (Jvm.Cond.instanceMethod ({ cls := "java/util/Collections$UnmodifiableSet", name := "equals", desc := "(Ljava/lang/Object;)Z" } : Jvm.MethodName)).before a0 Z = true := G.1 _ (List.mem_of_getElem? (i := 226) rfl)
theorem w227 {a0 : Array Value} {Z : State} (G : Gl a0 Z) : (Jvm.Cond.publicMethod ({ cls := "java/util/Collections$UnmodifiableSet", name := "equals", desc := "(Ljava/lang/Object;)Z" } : Jvm.MethodName)).before a0 Z = true := G.1 _ (List.mem_of_getElem? (i := 227) rfl)
theorem w228 {a0 : Array Value} {Z : State} (G : Gl a0 Z) : (Jvm.Cond.unhidden "java/util/Collections$UnmodifiableSet" "equals" "(Ljava/lang/Object;)Z").before a0 Z = true := G.1 _ (List.mem_of_getElem? (i := 228) rfl)
theorem w229 {a0 : Array Value} {Z : State} (G : Gl a0 Z) : (Jvm.Cond.castable "java/util/Collections$UnmodifiableSet" "java/util/Set").before a0 Z = true := G.1 _ (List.mem_of_getElem? (i := 229) rfl)
theorem w230 {a0 : Array Value} {Z : State} (G : Gl a0 Z) : (Jvm.Cond.code ({ cls := "java/util/Collections$UnmodifiableSet", name := "equals", desc := "(Ljava/lang/Object;)Z" } : Jvm.MethodName) jdk_122_method_2_code (2 : Nat) (Option.some Jvm.ClassFile.FieldType.boolean)).before a0 Z = true := G.1 _ (List.mem_of_getElem? (i := 230) rfl)
theorem w231 {a0 : Array Value} {Z : State} (G : Gl a0 Z) : (Jvm.Cond.fieldLink "java/util/Collections$UnmodifiableSet" (7 : Nat) "java/util/Collections$UnmodifiableSet" "c" "Ljava/util/Collection;").before a0 Z = true := G.1 _ (List.mem_of_getElem? (i := 231) rfl)
theorem w232 {a0 : Array Value} {Z : State} (G : Gl a0 Z) : (Jvm.Cond.sameField "java/util/Collections$UnmodifiableSet" "java/util/Collections$UnmodifiableCollection" "c" "Ljava/util/Collection;").before a0 Z = true := G.1 _ (List.mem_of_getElem? (i := 232) rfl)
theorem w233 {a0 : Array Value} {Z : State} (G : Gl a0 Z) : (Jvm.Cond.methodLink "java/util/Collections$UnmodifiableSet" (13 : Nat) ({ cls := "java/util/Collection", name := "equals", desc := "(Ljava/lang/Object;)Z" } : Jvm.MethodName)).before a0 Z = true := G.1 _ (List.mem_of_getElem? (i := 233) rfl)
theorem w234 {a0 : Array Value} {Z : State} (G : Gl a0 Z) : (Jvm.Cond.declares ({ cls := "java/util/Collection", name := "equals", desc := "(Ljava/lang/Object;)Z" } : Jvm.MethodName)).before a0 Z = true := G.1 _ (List.mem_of_getElem? (i := 234) rfl)
theorem w235 {a0 : Array Value} {Z : State} (G : Gl a0 Z) : (Jvm.Cond.interfaceMethod "java/util/Collection" "java/util/Collection" "equals" "(Ljava/lang/Object;)Z").before a0 Z = true := G.1 _ (List.mem_of_getElem? (i := 235) rfl)
theorem w236 {a0 : Array Value} {Z : State} (G : Gl a0 Z) : (Jvm.Cond.selects "java/util/LinkedHashSet" ({ cls := "java/util/Collection", name := "equals", desc := "(Ljava/lang/Object;)Z" } : Jvm.MethodName) ({ cls := "java/util/AbstractSet", name := "equals", desc := "(Ljava/lang/Object;)Z" } : Jvm.MethodName)).before a0 Z = true := G.1 _ (List.mem_of_getElem? (i := 236) rfl)
theorem w237 {a0 : Array Value} {Z : State} (G : Gl a0 Z) : (Jvm.Cond.instanceMethod ({ cls := "java/util/AbstractSet", name := "equals", desc := "(Ljava/lang/Object;)Z" } : Jvm.MethodName)).before a0 Z = true := G.1 _ (List.mem_of_getElem? (i := 237) rfl)
theorem w238 {a0 : Array Value} {Z : State} (G : Gl a0 Z) : (Jvm.Cond.publicMethod ({ cls := "java/util/AbstractSet", name := "equals", desc := "(Ljava/lang/Object;)Z" } : Jvm.MethodName)).before a0 Z = true := G.1 _ (List.mem_of_getElem? (i := 238) rfl)
theorem w239 {a0 : Array Value} {Z : State} (G : Gl a0 Z) : (Jvm.Cond.unhidden "java/util/LinkedHashSet" "equals" "(Ljava/lang/Object;)Z").before a0 Z = true := G.1 _ (List.mem_of_getElem? (i := 239) rfl)
theorem w241 {a0 : Array Value} {Z : State} (G : Gl a0 Z) : (Jvm.Cond.codeWith ({ cls := "java/util/AbstractSet", name := "equals", desc := "(Ljava/lang/Object;)Z" } : Jvm.MethodName) jdk_91_method_2_code (4 : Nat) (Option.some Jvm.ClassFile.FieldType.boolean) [((36 : Nat), (41 : Nat), (42 : Nat), (22 : Nat)), ((36 : Nat), (41 : Nat), (42 : Nat), (24 : Nat))]).before a0 Z = true := G.1 _ (List.mem_of_getElem? (i := 241) rfl)
theorem w242 {a0 : Array Value} {Z : State} (G : Gl a0 Z) : (Jvm.Cond.classLink "java/util/AbstractSet" (7 : Nat) "java/util/Set").before a0 Z = true := G.1 _ (List.mem_of_getElem? (i := 242) rfl)
theorem w243 {a0 : Array Value} {Z : State} (G : Gl a0 Z) : (Jvm.Cond.classLink "java/util/AbstractSet" (9 : Nat) "java/util/Collection").before a0 Z = true := G.1 _ (List.mem_of_getElem? (i := 243) rfl)
theorem w245 {a0 : Array Value} {Z : State} (G : Gl a0 Z) : (Jvm.Cond.methodLink "java/util/AbstractSet" (11 : Nat) ({ cls := "java/util/Collection", name := "size", desc := "()I" } : Jvm.MethodName)).before a0 Z = true := G.1 _ (List.mem_of_getElem? (i := 245) rfl)
theorem w248 {a0 : Array Value} {Z : State} (G : Gl a0 Z) : (Jvm.Cond.selects "java/util/Collections$UnmodifiableSet" ({ cls := "java/util/Collection", name := "size", desc := "()I" } : Jvm.MethodName) ({ cls := "java/util/Collections$UnmodifiableCollection", name := "size", desc := "()I" } : Jvm.MethodName)).before a0 Z = true := G.1 _ (List.mem_of_getElem? (i := 248) rfl)
theorem w249 {a0 : Array Value} {Z : State} (G : Gl a0 Z) : (Jvm.Cond.instanceMethod ({ cls := "java/util/Collections$UnmodifiableCollection", name := "size", desc := "()I" } : Jvm.MethodName)).before a0 Z = true := G.1 _ (List.mem_of_getElem? (i := 249) rfl)
theorem w250 {a0 : Array Value} {Z : State} (G : Gl a0 Z) : (Jvm.Cond.publicMethod ({ cls := "java/util/Collections$UnmodifiableCollection", name := "size", desc := "()I" } : Jvm.MethodName)).before a0 Z = true := G.1 _ (List.mem_of_getElem? (i := 250) rfl)
theorem w251 {a0 : Array Value} {Z : State} (G : Gl a0 Z) : (Jvm.Cond.unhidden "java/util/Collections$UnmodifiableSet" "size" "()I").before a0 Z = true := G.1 _ (List.mem_of_getElem? (i := 251) rfl)
theorem w252 {a0 : Array Value} {Z : State} (G : Gl a0 Z) : (Jvm.Cond.code ({ cls := "java/util/Collections$UnmodifiableCollection", name := "size", desc := "()I" } : Jvm.MethodName) jdk_119_method_2_code (1 : Nat) (Option.some Jvm.ClassFile.FieldType.int)).before a0 Z = true := G.1 _ (List.mem_of_getElem? (i := 252) rfl)
theorem w266 {a0 : Array Value} {Z : State} (G : Gl a0 Z) : (Jvm.Cond.methodLink "java/util/AbstractSet" (15 : Nat) ({ cls := "java/util/AbstractSet", name := "size", desc := "()I" } : Jvm.MethodName)).before a0 Z = true := G.1 _ (List.mem_of_getElem? (i := 266) rfl)
theorem w267 {a0 : Array Value} {Z : State} (G : Gl a0 Z) : (Jvm.Cond.sameMethod "java/util/AbstractSet" "java/util/AbstractCollection" "size" "()I").before a0 Z = true := G.1 _ (List.mem_of_getElem? (i := 267) rfl)
theorem w268 {a0 : Array Value} {Z : State} (G : Gl a0 Z) : (Jvm.Cond.selects "java/util/LinkedHashSet" ({ cls := "java/util/AbstractSet", name := "size", desc := "()I" } : Jvm.MethodName) ({ cls := "java/util/HashSet", name := "size", desc := "()I" } : Jvm.MethodName)).before a0 Z = true := G.1 _ (List.mem_of_getElem? (i := 268) rfl)
theorem w269 {a0 : Array Value} {Z : State} (G : Gl a0 Z) : (Jvm.Cond.methodLink "java/util/AbstractSet" (18 : Nat) ({ cls := "java/util/AbstractSet", name := "containsAll", desc := "(Ljava/util/Collection;)Z" } : Jvm.MethodName)).before a0 Z = true := G.1 _ (List.mem_of_getElem? (i := 269) rfl)
theorem w270 {a0 : Array Value} {Z : State} (G : Gl a0 Z) : (Jvm.Cond.sameMethod "java/util/AbstractSet" "java/util/AbstractCollection" "containsAll" "(Ljava/util/Collection;)Z").before a0 Z = true := G.1 _ (List.mem_of_getElem? (i := 270) rfl)
theorem w271 {a0 : Array Value} {Z : State} (G : Gl a0 Z) : (Jvm.Cond.declares ({ cls := "java/util/AbstractCollection", name := "containsAll", desc := "(Ljava/util/Collection;)Z" } : Jvm.MethodName)).before a0 Z = true := G.1 _ (List.mem_of_getElem? (i := 271) rfl)
theorem w272 {a0 : Array Value} {Z : State} (G : Gl a0 Z) : (Jvm.Cond.instanceMethod ({ cls := "java/util/AbstractCollection", name := "containsAll", desc := "(Ljava/util/Collection;)Z" } : Jvm.MethodName)).before a0 Z = true := G.1 _ (List.mem_of_getElem? (i := 272) rfl)
theorem w273 {a0 : Array Value} {Z : State} (G : Gl a0 Z) : (Jvm.Cond.selects "java/util/LinkedHashSet" ({ cls := "java/util/AbstractSet", name := "containsAll", desc := "(Ljava/util/Collection;)Z" } : Jvm.MethodName) ({ cls := "java/util/AbstractCollection", name := "containsAll", desc := "(Ljava/util/Collection;)Z" } : Jvm.MethodName)).before a0 Z = true := G.1 _ (List.mem_of_getElem? (i := 273) rfl)
theorem w274 {a0 : Array Value} {Z : State} (G : Gl a0 Z) : (Jvm.Cond.code ({ cls := "java/util/AbstractCollection", name := "containsAll", desc := "(Ljava/util/Collection;)Z" } : Jvm.MethodName) jdk_22_method_11_code (4 : Nat) (Option.some Jvm.ClassFile.FieldType.boolean)).before a0 Z = true := G.1 _ (List.mem_of_getElem? (i := 274) rfl)
theorem d29_0 : D1 prog_9_method_10_code 0 (.aload_n 1) 1 1 := ⟨by decide +kernel, rfl⟩
theorem d29_1 : D1 prog_9_method_10_code 1 (.instanceof 8) 3 4 := ⟨by decide +kernel, rfl⟩
theorem d29_4 : D1 prog_9_method_10_code 4 (.ifCond .eq 39) 3 7 := ⟨by decide +kernel, rfl⟩
theorem d29_7 : D1 prog_9_method_10_code 7 (.aload_n 1) 1 8 := ⟨by decide +kernel, rfl⟩
theorem d29_8 : D1 prog_9_method_10_code 8 (.checkcast 8) 3 11 := ⟨by decide +kernel, rfl⟩
theorem d29_11 : D1 prog_9_method_10_code 11 (.astore_n 2) 1 12 := ⟨by decide +kernel, rfl⟩
theorem d29_12 : D1 prog_9_method_10_code 12 (.aload_n 0) 1 13 := ⟨by decide +kernel, rfl⟩
theorem d29_13 : D1 prog_9_method_10_code 13 (.getfield 7) 3 16 := ⟨by decide +kernel, rfl⟩
theorem d29_16 : D1 prog_9_method_10_code 16 (.aload_n 2) 1 17 := ⟨by decide +kernel, rfl⟩
theorem d29_17 : D1 prog_9_method_10_code 17 (.getfield 7) 3 20 := ⟨by decide +kernel, rfl⟩
theorem d29_20 : D1 prog_9_method_10_code 20 (.if_acmp .ne 23) 3 23 := ⟨by decide +kernel, rfl⟩
theorem d29_23 : D1 prog_9_method_10_code 23 (.aload_n 0) 1 24 := ⟨by decide +kernel, rfl⟩
theorem d29_24 : D1 prog_9_method_10_code 24 (.getfield 54) 3 27 := ⟨by decide +kernel, rfl⟩
theorem d29_27 : D1 prog_9_method_10_code 27 (.aload_n 2) 1 28 := ⟨by decide +kernel, rfl⟩
theorem d29_28 : D1 prog_9_method_10_code 28 (.getfield 54) 3 31 := ⟨by decide +kernel, rfl⟩
theorem d29_31 : D1 prog_9_method_10_code 31 (.invokeinterface 107 2) 5 36 := ⟨by decide +kernel, rfl⟩
theorem d29_36 : D1 prog_9_method_10_code 36 (.ifCond .eq 7) 3 39 := ⟨by decide +kernel, rfl⟩
theorem d29_39 : D1 prog_9_method_10_code 39 (.iconst 1) 1 40 := ⟨by decide +kernel, rfl⟩
theorem d29_40 : D1 prog_9_method_10_code 40 (.goto 4) 3 43 := ⟨by decide +kernel, rfl⟩
theorem d29_43 : D1 prog_9_method_10_code 43 (.iconst 0) 1 44 := ⟨by decide +kernel, rfl⟩
theorem d29_44 : D1 prog_9_method_10_code 44 (.ireturn) 1 45 := ⟨by decide +kernel, rfl⟩
theorem d30_0 : D1 jdk_122_method_2_code 0 (.aload_n 1) 1 1 := ⟨by decide +kernel, rfl⟩
theorem d30_1 : D1 jdk_122_method_2_code 1 (.aload_n 0) 1 2 := ⟨by decide +kernel, rfl⟩
theorem d30_2 : D1 jdk_122_method_2_code 2 (.if_acmp .eq 16) 3 5 := ⟨by decide +kernel, rfl⟩
theorem d30_5 : D1 jdk_122_method_2_code 5 (.aload_n 0) 1 6 := ⟨by decide +kernel, rfl⟩
theorem d30_6 : D1 jdk_122_method_2_code 6 (.getfield 7) 3 9 := ⟨by decide +kernel, rfl⟩
theorem d30_9 : D1 jdk_122_method_2_code 9 (.aload_n 1) 1 10 := ⟨by decide +kernel, rfl⟩
theorem d30_10 : D1 jdk_122_method_2_code 10 (.invokeinterface 13 2) 5 15 := ⟨by decide +kernel, rfl⟩
theorem d30_15 : D1 jdk_122_method_2_code 15 (.ifCond .eq 7) 3 18 := ⟨by decide +kernel, rfl⟩
theorem d30_18 : D1 jdk_122_method_2_code 18 (.iconst 1) 1 19 := ⟨by decide +kernel, rfl⟩
theorem d30_19 : D1 jdk_122_method_2_code 19 (.goto 4) 3 22 := ⟨by decide +kernel, rfl⟩
theorem d30_23 : D1 jdk_122_method_2_code 23 (.ireturn) 1 24 := ⟨by decide +kernel, rfl⟩
theorem d31_0 : D1 jdk_91_method_2_code 0 (.aload_n 1) 1 1 := ⟨by decide +kernel, rfl⟩
theorem d31_1 : D1 jdk_91_method_2_code 1 (.aload_n 0) 1 2 := ⟨by decide +kernel, rfl⟩
theorem d31_2 : D1 jdk_91_method_2_code 2 (.if_acmp .ne 5) 3 5 := ⟨by decide +kernel, rfl⟩
theorem d31_7 : D1 jdk_91_method_2_code 7 (.aload_n 1) 1 8 := ⟨by decide +kernel, rfl⟩
theorem d31_8 : D1 jdk_91_method_2_code 8 (.instanceof 7) 3 11 := ⟨by decide +kernel, rfl⟩
theorem d31_11 : D1 jdk_91_method_2_code 11 (.ifCond .ne 5) 3 14 := ⟨by decide +kernel, rfl⟩
theorem d31_16 : D1 jdk_91_method_2_code 16 (.aload_n 1) 1 17 := ⟨by decide +kernel, rfl⟩
theorem d31_17 : D1 jdk_91_method_2_code 17 (.checkcast 9) 3 20 := ⟨by decide +kernel, rfl⟩
theorem d31_20 : D1 jdk_91_method_2_code 20 (.astore_n 2) 1 21 := ⟨by decide +kernel, rfl⟩
theorem d31_21 : D1 jdk_91_method_2_code 21 (.aload_n 2) 1 22 := ⟨by decide +kernel, rfl⟩
theorem d31_22 : D1 jdk_91_method_2_code 22 (.invokeinterface 11 1) 5 27 := ⟨by decide +kernel, rfl⟩
theorem d31_27 : D1 jdk_91_method_2_code 27 (.aload_n 0) 1 28 := ⟨by decide +kernel, rfl⟩
theorem d31_28 : D1 jdk_91_method_2_code 28 (.invokevirtual 15) 3 31 := ⟨by decide +kernel, rfl⟩
theorem d31_31 : D1 jdk_91_method_2_code 31 (.if_icmp .eq 5) 3 34 := ⟨by decide +kernel, rfl⟩
theorem d31_36 : D1 jdk_91_method_2_code 36 (.aload_n 0) 1 37 := ⟨by decide +kernel, rfl⟩
theorem d31_37 : D1 jdk_91_method_2_code 37 (.aload_n 2) 1 38 := ⟨by decide +kernel, rfl⟩
theorem d31_38 : D1 jdk_91_method_2_code 38 (.invokevirtual 18) 3 41 := ⟨by decide +kernel, rfl⟩
theorem d31_41 : D1 jdk_91_method_2_code 41 (.ireturn) 1 42 := ⟨by decide +kernel, rfl⟩
theorem pd23 : parseMethodDescriptor "(Ljava/util/Collection;)Z" = some ⟨[(.object "java/util/Collection")], some .boolean⟩ := by decide +kernel
theorem pd24 : parseMethodDescriptor "(Ljava/lang/Object;)Z" = some ⟨[(.object "java/lang/Object")], some .boolean⟩ := by decide +kernel
set_option maxRecDepth 65536 in
set_option maxHeartbeats 4000000 in
theorem w_aseq (l : Launch) {Z : State} {a0 : Array Value} (G : Gl a0 Z) {L : List Ent} {lm ls : Addr} {fs : Bool} (hs : (ls, (Ob Z "java/util/LinkedHashSet" ns2 [.ref lm]), fs) ∈ L) {us : Addr} {fu : Bool} (hu : (us, (Ob Z "java/util/Collections$UnmodifiableSet" ns4 [.ref ls]), fu) ∈ L) {ls1 lm1 : Addr} {f1 fm1 : Bool} (h1 : (ls1, (Ob Z "java/util/LinkedHashSet" ns2 [.ref lm1]), f1) ∈ L) (hm1 : (lm1, (Ob Z "java/util/LinkedHashMap" ns1 [.float 1061158912, .int 16, .int 0, .int 0, .int 0, .null, .null, .int 0]), fm1) ∈ L) (hne : us ≠ ls1) : CtH EL0 l Z (⟨"java/util/AbstractSet", "equals", "(Ljava/lang/Object;)Z"⟩ : MethodName) jdk_91_method_2_code 4 (some .boolean) [((36 : Nat), (41 : Nat), (42 : Nat), (22 : Nat)), ((36 : Nat), (41 : Nat), (42 : Nat), (24 : Nat))] ({ frames := 10, cells := 3, slots := 9, locals := 131 } : Room) #[.ref ls1, .ref us] (ow lm (Ob Z "java/util/LinkedHashMap" ns1 [.float 1061158912, .int 16, .int 0, .int 0, .int 0, .null, .null, .int 0]) :: L) (rvQ (fun v M => v = .int 1 ∧ ∃ a ii ks, M = ow ii (Ob Z "java/util/LinkedHashMap$LinkedKeyIterator" ns7 [.ref lm, .int 0, .null, .int 0, .null]) :: ow ks (Ob Z "java/util/LinkedHashMap$LinkedKeySet" ns6 [.ref lm, .int 0]) :: ow lm (Ob Z "java/util/LinkedHashMap" ns1 [.float 1061158912, .int 16, .int 0, .int 0, .int 0, .ref ks, .null, .int 0]) :: ow a (Ob Z "java/util/Collections$UnmodifiableCollection$1" ns8 [.ref us, .ref ii]) :: L)) := by
  refine CtH.intro (by decide +kernel) (G.2.1 rfl) ?_
  intro p e s m below meth c X
  replace X : Cx WD EL0 p Z s m meth c "java/util/AbstractSet" "equals" jdk_91_method_2_code 4 (some .boolean) := X
  refine Go.cast (g' := mkF m 0 #[.val (.ref ls1), .val (.ref us), .unset, .unset] []) (by first | rfl | (simp [entryFrame, mkF, argsToLocals, Value.category, maxLocals]; done)) ?_
  refine Go.aloadN X d31_0 rfl rfl ?_
  refine Go.aloadN X d31_1 rfl rfl ?_
  refine Go.acmp X d31_2 (pt := 7) ⟨by decide, by decide⟩ (by rfl) (by rfl) ?_ ?_
  rotate_left
  · intro q; exact absurd (fun z => hne (Value.ref.inj z)) q
  intro _
  refine Go.aloadN X d31_7 rfl rfl ?_
  refine Go.inst1 X (w242 G) (fun h H => Ins.of_exa (H.exaM (C := "java/util/Collections$UnmodifiableSet") (List.mem_cons_of_mem _ hu) (fun c q => ⟨_, _, q⟩)) (w229 G)) d31_8 ?_
  refine Go.ifc X d31_11 (pt := 16) ⟨by decide, by decide⟩ ?_ ?_
  rotate_left
  · intro q; exact absurd (show (1 : Int32) ≠ 0 by decide) q
  intro _
  refine Go.aloadN X d31_16 rfl rfl ?_
  refine Go.ccast X (w243 G) (fun h H => Ins.of_exa (H.exaM (C := "java/util/Collections$UnmodifiableSet") (List.mem_cons_of_mem _ hu) (fun c q => ⟨_, _, q⟩)) (w244 G)) d31_17 ?_
  refine Go.astoreN X d31_20 rfl rfl ?_
  refine Go.aloadN X d31_21 rfl rfl ?_
  refine Go.callN X (fun h H => H.exaM (List.mem_cons_of_mem _ hu) (fun c q => ⟨_, _, q⟩)) (z_uc l G (lm := lm) (kv := .null) (f := true) List.mem_cons_self (List.mem_cons_of_mem _ hs) (List.mem_cons_of_mem _ hu)) (rest := []) (w245 G) (w246 G) (by decide +kernel) (w247 G) (w248 G) (w249 G) (w250 G) (w251 G) (w244 G) (w181 G) (w252 G) (by decide) pd9 rfl rfl d31_22 rfl (by first | exact Nat.le_of_ble_eq_true rfl | (simp; done) | (simp; omega)) (by first | exact Nat.le_of_ble_eq_true rfl | (simp; done) | (simp; omega)) (by first | exact Nat.le_of_ble_eq_true rfl | (simp; done) | (simp; omega)) (by first | exact Nat.le_of_ble_eq_true rfl | (simp; done) | (simp; omega)) (Kv ?_)
  rintro v M ⟨rfl, rfl⟩
  refine Go.aloadN X d31_27 rfl rfl ?_
  refine Go.callVU X (x := (⟨"java/util/AbstractSet", "size", "()I"⟩ : MethodName)) (owner := "java/util/AbstractCollection") (fun h H => H.exaM (List.mem_cons_of_mem _ h1) (fun c q => ⟨_, _, q⟩)) (z_hs l G (lm := lm1) (ls := ls1) (List.mem_cons_of_mem _ hm1) (List.mem_cons_of_mem _ h1)) (rest := [.int 0]) (w266 G) (w267 G) (by first | rfl | decide +kernel | simp [Cond.onTables, Cond.keepsFace, Cond.keeps, Cond.steady]) (w127 G) (by decide) (w268 G) (w255 G) (w54 G) (w258 G) pd9 rfl rfl d31_28 rfl (by first | exact Nat.le_of_ble_eq_true rfl | (simp; done) | (simp; omega)) (by first | exact Nat.le_of_ble_eq_true rfl | (simp; done) | (simp; omega)) (by first | exact Nat.le_of_ble_eq_true rfl | (simp; done) | (simp; omega)) (by first | exact Nat.le_of_ble_eq_true rfl | (simp; done) | (simp; omega)) (Kv ?_)
  rintro v M ⟨rfl, rfl⟩
  refine Go.icmp X d31_31 (pt := 36) ⟨by decide, by decide⟩ ?_ ?_
  rotate_left
  · intro q; exact absurd rfl q
  intro _
  refine Go.aloadN X d31_36 rfl rfl ?_
  refine Go.aloadN X d31_37 rfl rfl ?_
  refine Go.callVU X (x := (⟨"java/util/AbstractSet", "containsAll", "(Ljava/util/Collection;)Z"⟩ : MethodName)) (owner := "java/util/AbstractCollection") (fun h H => H.exaM (List.mem_cons_of_mem _ h1) (fun c q => ⟨_, _, q⟩)) (w_all l G (lm := lm) (ls1 := ls1) hs hu) (rest := []) (w269 G) (w270 G) (by first | rfl | decide +kernel | simp [Cond.onTables, Cond.keepsFace, Cond.keeps, Cond.steady]) (w271 G) (by decide) (w273 G) (w272 G) (w66 G) (w274 G) pd23 rfl rfl d31_38 rfl (by first | exact Nat.le_of_ble_eq_true rfl | (simp; done) | (simp; omega)) (by first | exact Nat.le_of_ble_eq_true rfl | (simp; done) | (simp; omega)) (by first | exact Nat.le_of_ble_eq_true rfl | (simp; done) | (simp; omega)) (by first | exact Nat.le_of_ble_eq_true rfl | (simp; done) | (simp; omega)) (Kv ?_)
  rintro v M ⟨rfl, a, ii, ks, rfl⟩
  exact Go.zret X d31_41 (Or.inr rfl) (by first | exact Nat.le_of_ble_eq_true rfl | (simp; done) | (simp; omega)) (by first | exact Nat.le_of_ble_eq_true rfl | (simp; done) | (simp; omega)) ⟨rfl, a, ii, ks, rfl⟩
set_option maxRecDepth 65536 in
set_option maxHeartbeats 4000000 in
theorem w_useq (l : Launch) {Z : State} {a0 : Array Value} (G : Gl a0 Z) {L : List Ent} {lm ls : Addr} {fs : Bool} (hs : (ls, (Ob Z "java/util/LinkedHashSet" ns2 [.ref lm]), fs) ∈ L) {us : Addr} {fu : Bool} (hu : (us, (Ob Z "java/util/Collections$UnmodifiableSet" ns4 [.ref ls]), fu) ∈ L) {ls1 lm1 : Addr} {f1 fm1 : Bool} (h1 : (ls1, (Ob Z "java/util/LinkedHashSet" ns2 [.ref lm1]), f1) ∈ L) (hm1 : (lm1, (Ob Z "java/util/LinkedHashMap" ns1 [.float 1061158912, .int 16, .int 0, .int 0, .int 0, .null, .null, .int 0]), fm1) ∈ L) (hne : us ≠ ls1) {us1 : Addr} {fu1 : Bool} (hu1 : (us1, (Ob Z "java/util/Collections$UnmodifiableSet" ns4 [.ref ls1]), fu1) ∈ L) (hne2 : us ≠ us1) : Ct WD EL0 l Z (⟨"java/util/Collections$UnmodifiableSet", "equals", "(Ljava/lang/Object;)Z"⟩ : MethodName) jdk_122_method_2_code 2 (some .boolean) ({ frames := 11, cells := 3, slots := 9, locals := 146 } : Room) #[.ref us1, .ref us] (ow lm (Ob Z "java/util/LinkedHashMap" ns1 [.float 1061158912, .int 16, .int 0, .int 0, .int 0, .null, .null, .int 0]) :: L) (rvQ (fun v M => v = .int 1 ∧ ∃ a ii ks, M = ow ii (Ob Z "java/util/LinkedHashMap$LinkedKeyIterator" ns7 [.ref lm, .int 0, .null, .int 0, .null]) :: ow ks (Ob Z "java/util/LinkedHashMap$LinkedKeySet" ns6 [.ref lm, .int 0]) :: ow lm (Ob Z "java/util/LinkedHashMap" ns1 [.float 1061158912, .int 16, .int 0, .int 0, .int 0, .ref ks, .null, .int 0]) :: ow a (Ob Z "java/util/Collections$UnmodifiableCollection$1" ns8 [.ref us, .ref ii]) :: L)) := by
  refine Ct.intro (by decide +kernel) G.2.1 ?_
  intro p e s m below meth c X
  replace X : Cx WD EL0 p Z s m meth c "java/util/Collections$UnmodifiableSet" "equals" jdk_122_method_2_code 2 (some .boolean) := X
  refine Go.cast (g' := mkF m 0 #[.val (.ref us1), .val (.ref us)] []) (by first | rfl | (simp [entryFrame, mkF, argsToLocals, Value.category, maxLocals]; done)) ?_
  obtain ⟨iu, hiu⟩ := List.getElem?_of_mem hu1
  refine Go.aloadN X d30_0 rfl rfl ?_
  refine Go.aloadN X d30_1 rfl rfl ?_
  refine Go.acmp X d30_2 (pt := 18) ⟨by decide, by decide⟩ (by rfl) (by rfl) ?_ ?_
  · intro q; exact absurd (Value.ref.inj q) hne2
  intro _
  refine Go.aloadN X d30_5 rfl rfl ?_
  refine Go.getFld X (w231 G) (Via.of (w232 G)) (fun h H => H.fld (i := iu + 1) hiu (j := 0) rfl rfl) d30_6 ?_
  refine Go.aloadN X d30_9 rfl rfl ?_
  refine Go.callNH X (fun h H => H.exaM (List.mem_cons_of_mem _ h1) (fun c q => ⟨_, _, q⟩)) (w_aseq l G (lm := lm) hs hu h1 hm1 hne) (rest := []) (w233 G) (w234 G) (by decide +kernel) (w235 G) (w236 G) (w237 G) (w238 G) (w239 G) (w240 G) (w60 G) (w241 G) (by decide) pd24 rfl rfl d30_10 rfl (by first | exact Nat.le_of_ble_eq_true rfl | (simp; done) | (simp; omega)) (by first | exact Nat.le_of_ble_eq_true rfl | (simp; done) | (simp; omega)) (by first | exact Nat.le_of_ble_eq_true rfl | (simp; done) | (simp; omega)) (by first | exact Nat.le_of_ble_eq_true rfl | (simp; done) | (simp; omega)) (Kv ?_)
  rintro v M ⟨rfl, a, ii, ks, rfl⟩
  refine Go.ifc X d30_15 (pt := 22) ⟨by decide, by decide⟩ ?_ ?_
  · intro q; exact absurd (show (1 : Int32) = 0 from q) (by decide)
  intro _
  refine Go.iconst X (v := 1) d30_18 (by decide) ?_
  refine Go.goto X d30_19 (pt := 23) ⟨by decide, by decide⟩ ?_
  exact Go.zret X d30_23 (Or.inr rfl) (by first | exact Nat.le_of_ble_eq_true rfl | (simp; done) | (simp; omega)) (by first | exact Nat.le_of_ble_eq_true rfl | (simp; done) | (simp; omega)) ⟨rfl, a, ii, ks, rfl⟩
set_option maxRecDepth 65536 in
set_option maxHeartbeats 4000000 in
theorem x_eqy (l : Launch) {Z : State} {a0 : Array Value} (G : Gl a0 Z) {L : List Ent} {lm ls : Addr} {fs : Bool} (hs : (ls, (Ob Z "java/util/LinkedHashSet" ns2 [.ref lm]), fs) ∈ L) {us : Addr} {fu : Bool} (hu : (us, (Ob Z "java/util/Collections$UnmodifiableSet" ns4 [.ref ls]), fu) ∈ L) {ls1 lm1 : Addr} {f1 fm1 : Bool} (h1 : (ls1, (Ob Z "java/util/LinkedHashSet" ns2 [.ref lm1]), f1) ∈ L) (hm1 : (lm1, (Ob Z "java/util/LinkedHashMap" ns1 [.float 1061158912, .int 16, .int 0, .int 0, .int 0, .null, .null, .int 0]), fm1) ∈ L) (hne : us ≠ ls1) {us1 : Addr} {fu1 : Bool} (hu1 : (us1, (Ob Z "java/util/Collections$UnmodifiableSet" ns4 [.ref ls1]), fu1) ∈ L) (hne2 : us ≠ us1) {x1 x2 kd : Addr} {g1 g2 : Bool} (hx1 : (x1, (Ob Z "com/example/mussel/mussel/rule/Selection" ns5 [.ref kd, .ref us1]), g1) ∈ L) (hx2 : (x2, (Ob Z "com/example/mussel/mussel/rule/Selection" ns5 [.ref kd, .ref us]), g2) ∈ L) : Ct WD EL0 l Z (⟨"com/example/mussel/mussel/rule/Selection", "equals", "(Ljava/lang/Object;)Z"⟩ : MethodName) prog_9_method_10_code 3 (some .boolean) ({ frames := 12, cells := 3, slots := 9, locals := 159 } : Room) #[.ref x1, .ref x2] (ow lm (Ob Z "java/util/LinkedHashMap" ns1 [.float 1061158912, .int 16, .int 0, .int 0, .int 0, .null, .null, .int 0]) :: L) (rvQ (fun v M => v = .int 1 ∧ ∃ a ii ks, M = ow ii (Ob Z "java/util/LinkedHashMap$LinkedKeyIterator" ns7 [.ref lm, .int 0, .null, .int 0, .null]) :: ow ks (Ob Z "java/util/LinkedHashMap$LinkedKeySet" ns6 [.ref lm, .int 0]) :: ow lm (Ob Z "java/util/LinkedHashMap" ns1 [.float 1061158912, .int 16, .int 0, .int 0, .int 0, .ref ks, .null, .int 0]) :: ow a (Ob Z "java/util/Collections$UnmodifiableCollection$1" ns8 [.ref us, .ref ii]) :: L)) := by
  refine Ct.intro (by decide +kernel) G.2.1 ?_
  intro p e s m below meth c X
  replace X : Cx WD EL0 p Z s m meth c "com/example/mussel/mussel/rule/Selection" "equals" prog_9_method_10_code 3 (some .boolean) := X
  refine Go.cast (g' := mkF m 0 #[.val (.ref x1), .val (.ref x2), .unset] []) (by first | rfl | (simp [entryFrame, mkF, argsToLocals, Value.category, maxLocals]; done)) ?_
  obtain ⟨i1, hi1⟩ := List.getElem?_of_mem hx1
  obtain ⟨i2, hi2⟩ := List.getElem?_of_mem hx2
  refine Go.aloadN X d29_0 rfl rfl ?_
  refine Go.inst1 X (w26 G) (fun h H => Ins.self (H.exaM (C := "com/example/mussel/mussel/rule/Selection") (List.mem_cons_of_mem _ hx2) (fun c q => ⟨_, _, q⟩))) d29_1 ?_
  refine Go.ifc X d29_4 (pt := 43) ⟨by decide, by decide⟩ ?_ ?_
  · intro q; exact absurd (show (1 : Int32) = 0 from q) (by decide)
  intro _
  refine Go.aloadN X d29_7 rfl rfl ?_
  refine Go.ccast X (w26 G) (fun h H => Ins.self (H.exaM (C := "com/example/mussel/mussel/rule/Selection") (List.mem_cons_of_mem _ hx2) (fun c q => ⟨_, _, q⟩))) d29_8 ?_
  refine Go.astoreN X d29_11 rfl rfl ?_
  refine Go.aloadN X d29_12 rfl rfl ?_
  refine Go.getFld X (w41 G) Via.refl (fun h H => H.fld (i := i1 + 1) hi1 (j := 0) rfl rfl) d29_13 ?_
  refine Go.aloadN X d29_16 rfl rfl ?_
  refine Go.getFld X (w41 G) Via.refl (fun h H => H.fld (i := i2 + 1) hi2 (j := 0) rfl rfl) d29_17 ?_
  refine Go.acmp X d29_20 (pt := 43) ⟨by decide, by decide⟩ (by rfl) (by rfl) ?_ ?_
  · intro q; exact absurd rfl q
  intro _
  refine Go.aloadN X d29_23 rfl rfl ?_
  refine Go.getFld X (w186 G) Via.refl (fun h H => H.fld (i := i1 + 1) hi1 (j := 1) rfl rfl) d29_24 ?_
  refine Go.aloadN X d29_27 rfl rfl ?_
  refine Go.getFld X (w186 G) Via.refl (fun h H => H.fld (i := i2 + 1) hi2 (j := 1) rfl rfl) d29_28 ?_
  refine Go.callN X (fun h H => H.exaM (List.mem_cons_of_mem _ hu1) (fun c q => ⟨_, _, q⟩)) (w_useq l G (lm := lm) hs hu h1 hm1 hne hu1 hne2) (rest := []) (w222 G) (w223 G) (by decide +kernel) (w224 G) (w225 G) (w226 G) (w227 G) (w228 G) (w229 G) (w173 G) (w230 G) (by decide) pd24 rfl rfl d29_31 rfl (by first | exact Nat.le_of_ble_eq_true rfl | (simp; done) | (simp; omega)) (by first | exact Nat.le_of_ble_eq_true rfl | (simp; done) | (simp; omega)) (by first | exact Nat.le_of_ble_eq_true rfl | (simp; done) | (simp; omega)) (by first | exact Nat.le_of_ble_eq_true rfl | (simp; done) | (simp; omega)) (Kv ?_)
  rintro v M ⟨rfl, a, ii, ks, rfl⟩
  refine Go.ifc X d29_36 (pt := 43) ⟨by decide, by decide⟩ ?_ ?_
  · intro q; exact absurd (show (1 : Int32) = 0 from q) (by decide)
  intro _
  refine Go.iconst X (v := 1) d29_39 (by decide) ?_
  refine Go.goto X d29_40 (pt := 44) ⟨by decide, by decide⟩ ?_
  exact Go.zret X d29_44 (Or.inr rfl) (by first | exact Nat.le_of_ble_eq_true rfl | (simp; done) | (simp; omega)) (by first | exact Nat.le_of_ble_eq_true rfl | (simp; done) | (simp; omega)) ⟨rfl, a, ii, ks, rfl⟩
set_option maxRecDepth 65536 in
set_option maxHeartbeats 4000000 in
theorem x_eqn (l : Launch) {Z : State} {a0 : Array Value} (G : Gl a0 Z) {L : List Ent} {x1 x2 k1 k2 n1 n2 : Addr} {g1 g2 : Bool} (hx1 : (x1, (Ob Z "com/example/mussel/mussel/rule/Selection" ns5 [.ref k1, .ref n1]), g1) ∈ L) (hx2 : (x2, (Ob Z "com/example/mussel/mussel/rule/Selection" ns5 [.ref k2, .ref n2]), g2) ∈ L) (hk : k1 ≠ k2) : Ct WD EL0 l Z (⟨"com/example/mussel/mussel/rule/Selection", "equals", "(Ljava/lang/Object;)Z"⟩ : MethodName) prog_9_method_10_code 3 (some .boolean) ({ frames := 0, cells := 0, slots := 0, locals := 0 } : Room) #[.ref x1, .ref x2] L (rvQ (fun v M => v = .int 0 ∧ M = L)) := by
  refine Ct.intro (by decide +kernel) G.2.1 ?_
  intro p e s m below meth c X
  replace X : Cx WD EL0 p Z s m meth c "com/example/mussel/mussel/rule/Selection" "equals" prog_9_method_10_code 3 (some .boolean) := X
  refine Go.cast (g' := mkF m 0 #[.val (.ref x1), .val (.ref x2), .unset] []) (by first | rfl | (simp [entryFrame, mkF, argsToLocals, Value.category, maxLocals]; done)) ?_
  obtain ⟨i1, hi1⟩ := List.getElem?_of_mem hx1
  obtain ⟨i2, hi2⟩ := List.getElem?_of_mem hx2
  refine Go.aloadN X d29_0 rfl rfl ?_
  refine Go.inst1 X (w26 G) (fun h H => Ins.self (H.exaM (C := "com/example/mussel/mussel/rule/Selection") hx2 (fun c q => ⟨_, _, q⟩))) d29_1 ?_
  refine Go.ifc X d29_4 (pt := 43) ⟨by decide, by decide⟩ ?_ ?_
  · intro q; exact absurd (show (1 : Int32) = 0 from q) (by decide)
  intro _
  refine Go.aloadN X d29_7 rfl rfl ?_
  refine Go.ccast X (w26 G) (fun h H => Ins.self (H.exaM (C := "com/example/mussel/mussel/rule/Selection") hx2 (fun c q => ⟨_, _, q⟩))) d29_8 ?_
  refine Go.astoreN X d29_11 rfl rfl ?_
  refine Go.aloadN X d29_12 rfl rfl ?_
  refine Go.getFld X (w41 G) Via.refl (fun h H => H.fld (i := i1) hi1 (j := 0) rfl rfl) d29_13 ?_
  refine Go.aloadN X d29_16 rfl rfl ?_
  refine Go.getFld X (w41 G) Via.refl (fun h H => H.fld (i := i2) hi2 (j := 0) rfl rfl) d29_17 ?_
  refine Go.acmp X d29_20 (pt := 43) ⟨by decide, by decide⟩ (by rfl) (by rfl) ?_ ?_
  rotate_left
  · intro q; exact absurd (fun z => hk (Value.ref.inj z)) q
  intro _
  refine Go.iconst X (v := 0) d29_43 (by decide) ?_
  exact Go.zret X d29_44 (Or.inl rfl) (by first | exact Nat.le_of_ble_eq_true rfl | (simp; done) | (simp; omega)) (by first | exact Nat.le_of_ble_eq_true rfl | (simp; done) | (simp; omega)) ⟨rfl, rfl⟩
-- %%% law 69
theorem w1 {a0 : Array Value} {Z : State} (G : Gl a0 Z) : (Jvm.Cond.classLink "com/example/mussel/mussel/rule/SelectionIgnorePinLaw" (7 : Nat) "java/lang/String").before a0 Z = true := G.1 _ (List.mem_of_getElem? (i := 1) rfl)
theorem w22 {a0 : Array Value} {Z : State} (G : Gl a0 Z) : (Jvm.Cond.methodLink "com/example/mussel/mussel/rule/SelectionIgnorePinLaw" (12 : Nat) ({ cls := "com/example/mussel/mussel/rule/Selection", name := "ignore", desc := "()Lcom/example/mussel/mussel/rule/Selection;" } : Jvm.MethodName)).before a0 Z = true := G.1 _ (List.mem_of_getElem? (i := 22) rfl)
theorem w23 {a0 : Array Value} {Z : State} (G : Gl a0 Z) : (Jvm.Cond.static ({ cls := "com/example/mussel/mussel/rule/Selection", name := "ignore", desc := "()Lcom/example/mussel/mussel/rule/Selection;" } : Jvm.MethodName)).before a0 Z = true := G.1 _ (List.mem_of_getElem? (i := 23) rfl)
theorem w25 {a0 : Array Value} {Z : State} (G : Gl a0 Z) : (Jvm.Cond.code ({ cls := "com/example/mussel/mussel/rule/Selection", name := "ignore", desc := "()Lcom/example/mussel/mussel/rule/Selection;" } : Jvm.MethodName) prog_9_method_2_code (0 : Nat) (Option.some (Jvm.ClassFile.FieldType.object "com/example/mussel/mussel/rule/Selection"))).before a0 Z = true := G.1 _ (List.mem_of_getElem? (i := 25) rfl)
theorem w188 {a0 : Array Value} {Z : State} (G : Gl a0 Z) : (Jvm.Cond.arrayOver (Jvm.ClassFile.FieldType.object "java/lang/String")).before a0 Z = true := G.1 _ (List.mem_of_getElem? (i := 188) rfl)
theorem w189 {a0 : Array Value} {Z : State} (G : Gl a0 Z) : (Jvm.Cond.methodLink "com/example/mussel/mussel/rule/SelectionIgnorePinLaw" (18 : Nat) ({ cls := "com/example/mussel/mussel/rule/Selection", name := "exclude", desc := "([Ljava/lang/String;)Lcom/example/mussel/mussel/rule/Selection;" } : Jvm.MethodName)).before a0 Z = true := G.1 _ (List.mem_of_getElem? (i := 189) rfl)
theorem w190 {a0 : Array Value} {Z : State} (G : Gl a0 Z) : (Jvm.Cond.static ({ cls := "com/example/mussel/mussel/rule/Selection", name := "exclude", desc := "([Ljava/lang/String;)Lcom/example/mussel/mussel/rule/Selection;" } : Jvm.MethodName)).before a0 Z = true := G.1 _ (List.mem_of_getElem? (i := 190) rfl)
theorem w191 {a0 : Array Value} {Z : State} (G : Gl a0 Z) : (Jvm.Cond.code ({ cls := "com/example/mussel/mussel/rule/Selection", name := "exclude", desc := "([Ljava/lang/String;)Lcom/example/mussel/mussel/rule/Selection;" } : Jvm.MethodName) prog_9_method_4_code (1 : Nat) (Option.some (Jvm.ClassFile.FieldType.object "com/example/mussel/mussel/rule/Selection"))).before a0 Z = true := G.1 _ (List.mem_of_getElem? (i := 191) rfl)
theorem w197 {a0 : Array Value} {Z : State} (G : Gl a0 Z) : (Jvm.Cond.methodLink "com/example/mussel/mussel/rule/SelectionIgnorePinLaw" (22 : Nat) ({ cls := "com/example/mussel/mussel/rule/Selection", name := "ignoresAll", desc := "()Z" } : Jvm.MethodName)).before a0 Z = true := G.1 _ (List.mem_of_getElem? (i := 197) rfl)
theorem w198 {a0 : Array Value} {Z : State} (G : Gl a0 Z) : (Jvm.Cond.declares ({ cls := "com/example/mussel/mussel/rule/Selection", name := "ignoresAll", desc := "()Z" } : Jvm.MethodName)).before a0 Z = true := G.1 _ (List.mem_of_getElem? (i := 198) rfl)
theorem w199 {a0 : Array Value} {Z : State} (G : Gl a0 Z) : (Jvm.Cond.instanceMethod ({ cls := "com/example/mussel/mussel/rule/Selection", name := "ignoresAll", desc := "()Z" } : Jvm.MethodName)).before a0 Z = true := G.1 _ (List.mem_of_getElem? (i := 199) rfl)
theorem w200 {a0 : Array Value} {Z : State} (G : Gl a0 Z) : (Jvm.Cond.selects "com/example/mussel/mussel/rule/Selection" ({ cls := "com/example/mussel/mussel/rule/Selection", name := "ignoresAll", desc := "()Z" } : Jvm.MethodName) ({ cls := "com/example/mussel/mussel/rule/Selection", name := "ignoresAll", desc := "()Z" } : Jvm.MethodName)).before a0 Z = true := G.1 _ (List.mem_of_getElem? (i := 200) rfl)
theorem w201 {a0 : Array Value} {Z : State} (G : Gl a0 Z) : (Jvm.Cond.code ({ cls := "com/example/mussel/mussel/rule/Selection", name := "ignoresAll", desc := "()Z" } : Jvm.MethodName) prog_9_method_7_code (1 : Nat) (Option.some Jvm.ClassFile.FieldType.boolean)).before a0 Z = true := G.1 _ (List.mem_of_getElem? (i := 201) rfl)
theorem w202 {a0 : Array Value} {Z : State} (G : Gl a0 Z) : (Jvm.Cond.methodLink "com/example/mussel/mussel/rule/SelectionIgnorePinLaw" (26 : Nat) ({ cls := "com/example/mussel/mussel/rule/Selection", name := "applies", desc := "(Ljava/lang/String;)Z" } : Jvm.MethodName)).before a0 Z = true := G.1 _ (List.mem_of_getElem? (i := 202) rfl)
theorem w203 {a0 : Array Value} {Z : State} (G : Gl a0 Z) : (Jvm.Cond.declares ({ cls := "com/example/mussel/mussel/rule/Selection", name := "applies", desc := "(Ljava/lang/String;)Z" } : Jvm.MethodName)).before a0 Z = true := G.1 _ (List.mem_of_getElem? (i := 203) rfl)
theorem w204 {a0 : Array Value} {Z : State} (G : Gl a0 Z) : (Jvm.Cond.instanceMethod ({ cls := "com/example/mussel/mussel/rule/Selection", name := "applies", desc := "(Ljava/lang/String;)Z" } : Jvm.MethodName)).before a0 Z = true := G.1 _ (List.mem_of_getElem? (i := 204) rfl)
theorem w205 {a0 : Array Value} {Z : State} (G : Gl a0 Z) : (Jvm.Cond.selects "com/example/mussel/mussel/rule/Selection" ({ cls := "com/example/mussel/mussel/rule/Selection", name := "applies", desc := "(Ljava/lang/String;)Z" } : Jvm.MethodName) ({ cls := "com/example/mussel/mussel/rule/Selection", name := "applies", desc := "(Ljava/lang/String;)Z" } : Jvm.MethodName)).before a0 Z = true := G.1 _ (List.mem_of_getElem? (i := 205) rfl)
theorem w206 {a0 : Array Value} {Z : State} (G : Gl a0 Z) : (Jvm.Cond.code ({ cls := "com/example/mussel/mussel/rule/Selection", name := "applies", desc := "(Ljava/lang/String;)Z" } : Jvm.MethodName) prog_9_method_9_code (2 : Nat) (Option.some Jvm.ClassFile.FieldType.boolean)).before a0 Z = true := G.1 _ (List.mem_of_getElem? (i := 206) rfl)
theorem w216 {a0 : Array Value} {Z : State} (G : Gl a0 Z) : (Jvm.Cond.methodLink "com/example/mussel/mussel/rule/SelectionIgnorePinLaw" (30 : Nat) ({ cls := "com/example/mussel/mussel/rule/Selection", name := "equals", desc := "(Ljava/lang/Object;)Z" } : Jvm.MethodName)).before a0 Z = true := G.1 _ (List.mem_of_getElem? (i := 216) rfl)
theorem w217 {a0 : Array Value} {Z : State} (G : Gl a0 Z) : (Jvm.Cond.declares ({ cls := "com/example/mussel/mussel/rule/Selection", name := "equals", desc := "(Ljava/lang/Object;)Z" } : Jvm.MethodName)).before a0 Z = true := G.1 _ (List.mem_of_getElem? (i := 217) rfl)
theorem w218 {a0 : Array Value} {Z : State} (G : Gl a0 Z) : (Jvm.Cond.instanceMethod ({ cls := "com/example/mussel/mussel/rule/Selection", name := "equals", desc := "(Ljava/lang/Object;)Z" } : Jvm.MethodName)).before a0 Z = true := G.1 _ (List.mem_of_getElem? (i := 218) rfl)
theorem w219 {a0 : Array Value} {Z : State} (G : Gl a0 Z) : (Jvm.Cond.selects "com/example/mussel/mussel/rule/Selection" ({ cls := "com/example/mussel/mussel/rule/Selection", name := "equals", desc := "(Ljava/lang/Object;)Z" } : Jvm.MethodName) ({ cls := "com/example/mussel/mussel/rule/Selection", name := "equals", desc := "(Ljava/lang/Object;)Z" } : Jvm.MethodName)).before a0 Z = true := G.1 _ (List.mem_of_getElem? (i := 219) rfl)
theorem w220 {a0 : Array Value} {Z : State} (G : Gl a0 Z) : (Jvm.Cond.code ({ cls := "com/example/mussel/mussel/rule/Selection", name := "equals", desc := "(Ljava/lang/Object;)Z" } : Jvm.MethodName) prog_9_method_10_code (3 : Nat) (Option.some Jvm.ClassFile.FieldType.boolean)).before a0 Z = true := G.1 _ (List.mem_of_getElem? (i := 220) rfl)
theorem d0_69 : D1 code 69 (.invokestatic 12) 3 72 := ⟨at_69, rfl⟩
theorem d0_72 : D1 code 72 (.astore 7) 2 74 := ⟨at_72, rfl⟩
theorem d0_74 : D1 code 74 (.invokestatic 12) 3 77 := ⟨at_74, rfl⟩
theorem d0_77 : D1 code 77 (.astore 8) 2 79 := ⟨at_77, rfl⟩
theorem d0_79 : D1 code 79 (.iconst 0) 1 80 := ⟨at_79, rfl⟩
theorem d0_80 : D1 code 80 (.anewarray 7) 3 83 := ⟨at_80, rfl⟩
theorem d0_83 : D1 code 83 (.invokestatic 18) 3 86 := ⟨at_83, rfl⟩
theorem d0_86 : D1 code 86 (.astore 9) 2 88 := ⟨at_86, rfl⟩
theorem d0_88 : D1 code 88 (.aload 7) 2 90 := ⟨at_88, rfl⟩
theorem d0_90 : D1 code 90 (.invokevirtual 22) 3 93 := ⟨at_90, rfl⟩
theorem d0_93 : D1 code 93 (.istore 10) 2 95 := ⟨at_93, rfl⟩
theorem d0_95 : D1 code 95 (.aload 7) 2 97 := ⟨at_95, rfl⟩
theorem d0_97 : D1 code 97 (.aload 6) 2 99 := ⟨at_97, rfl⟩
theorem d0_99 : D1 code 99 (.invokevirtual 26) 3 102 := ⟨at_99, rfl⟩
theorem d0_102 : D1 code 102 (.ifCond .ne 7) 3 105 := ⟨at_102, rfl⟩
theorem d0_105 : D1 code 105 (.iconst 1) 1 106 := ⟨at_105, rfl⟩
theorem d0_106 : D1 code 106 (.goto 4) 3 109 := ⟨at_106, rfl⟩
theorem d0_110 : D1 code 110 (.istore 11) 2 112 := ⟨at_110, rfl⟩
theorem d0_112 : D1 code 112 (.aload 7) 2 114 := ⟨at_112, rfl⟩
theorem d0_114 : D1 code 114 (.aload 8) 2 116 := ⟨at_114, rfl⟩
theorem d0_116 : D1 code 116 (.invokevirtual 30) 3 119 := ⟨at_116, rfl⟩
theorem d0_119 : D1 code 119 (.istore 12) 2 121 := ⟨at_119, rfl⟩
theorem d0_121 : D1 code 121 (.aload 7) 2 123 := ⟨at_121, rfl⟩
theorem d0_123 : D1 code 123 (.aload 9) 2 125 := ⟨at_123, rfl⟩
theorem d0_125 : D1 code 125 (.invokevirtual 30) 3 128 := ⟨at_125, rfl⟩
theorem d0_128 : D1 code 128 (.ifCond .ne 7) 3 131 := ⟨at_128, rfl⟩
theorem d0_131 : D1 code 131 (.iconst 1) 1 132 := ⟨at_131, rfl⟩
theorem d0_132 : D1 code 132 (.goto 4) 3 135 := ⟨at_132, rfl⟩
theorem d0_136 : D1 code 136 (.istore 13) 2 138 := ⟨at_136, rfl⟩
theorem d0_138 : D1 code 138 (.iload 10) 2 140 := ⟨at_138, rfl⟩
theorem d0_140 : D1 code 140 (.ifCond .eq 22) 3 143 := ⟨at_140, rfl⟩
theorem d0_143 : D1 code 143 (.iload 11) 2 145 := ⟨at_143, rfl⟩
theorem d0_145 : D1 code 145 (.ifCond .eq 17) 3 148 := ⟨at_145, rfl⟩
theorem d0_148 : D1 code 148 (.iload 12) 2 150 := ⟨at_148, rfl⟩
theorem d0_150 : D1 code 150 (.ifCond .eq 12) 3 153 := ⟨at_150, rfl⟩
theorem d0_153 : D1 code 153 (.iload 13) 2 155 := ⟨at_153, rfl⟩
theorem d0_155 : D1 code 155 (.ifCond .eq 7) 3 158 := ⟨at_155, rfl⟩
theorem d0_158 : D1 code 158 (.iconst 1) 1 159 := ⟨at_158, rfl⟩
theorem d0_159 : D1 code 159 (.goto 4) 3 162 := ⟨at_159, rfl⟩
theorem d0_163 : D1 code 163 (.ireturn) 1 164 := ⟨at_163, rfl⟩
theorem pd25 : parseMethodDescriptor "()Lcom/example/mussel/mussel/rule/Selection;" = some ⟨[], some (.object "com/example/mussel/mussel/rule/Selection")⟩ := by decide +kernel
theorem pd26 : parseMethodDescriptor "([Ljava/lang/String;)Lcom/example/mussel/mussel/rule/Selection;" = some ⟨[(.array (.object "java/lang/String"))], some (.object "com/example/mussel/mussel/rule/Selection")⟩ := by decide +kernel
theorem pd27 : parseMethodDescriptor "(Ljava/lang/String;)Z" = some ⟨[(.object "java/lang/String")], some .boolean⟩ := by decide +kernel
set_option maxRecDepth 65536 in
set_option maxHeartbeats 4000000 in
theorem k69 {p : Program} {l : Launch} {e : Env} {Z s : State} {a0 : Array Value} {m : MethodId} {below : List Frame} {meth : Method} {c : Code} {i0 i1 i2 i3 : Int32} (X : Cx WD EL0 p Z s m meth c "com/example/mussel/mussel/rule/SelectionIgnorePinLaw" "law" code 14 (some .boolean)) (G : Gl a0 Z) {m0 : Nat} {ca s1 : Addr} {UU : List Ent} : Go WD EL0 p l e room_1 Z s m #[.int i0, .int i1, .int i2, .int i3] below meth c (rvQ fun v _ => v = .int 1) UU 6 20 (mkF m 69 #[.val (.int i0), .val (.int i1), .val (.int i2), .val (.int i3), .val (.int (Int32.ofNat m0)), .val (.ref ca), .val (.ref s1), .unset, .unset, .unset, .unset, .unset, .unset, .unset] []) := by
    obtain ⟨em, ea, hEm⟩ := g_em G
    obtain ⟨ki, ke, hKd⟩ := g_kd G
    refine Go.callS X (x_ignore l G hEm hKd) (rest := []) (w22 G) (w23 G) (w24 G) (w25 G) (by decide) pd25 rfl rfl d0_69 rfl (by first | exact Nat.le_of_ble_eq_true rfl | (simp; done) | (simp; omega)) (by first | exact Nat.le_of_ble_eq_true rfl | (simp; done) | (simp; omega)) (by first | exact Nat.le_of_ble_eq_true rfl | (simp; done) | (simp; omega)) (by first | exact Nat.le_of_ble_eq_true rfl | (simp; done) | (simp; omega)) (Kv ?_)
    rintro v M ⟨x1, us1, it1, lm1, ls1, rfl, rfl⟩
    refine Go.astore X d0_72 rfl (stL rfl rfl (by dsimp only [updL])) ?_
    refine Go.callS X (x_ignore l G hEm hKd) (rest := []) (w22 G) (w23 G) (w24 G) (w25 G) (by decide) pd25 rfl rfl d0_74 rfl (by first | exact Nat.le_of_ble_eq_true rfl | (simp; done) | (simp; omega)) (by first | exact Nat.le_of_ble_eq_true rfl | (simp; done) | (simp; omega)) (by first | exact Nat.le_of_ble_eq_true rfl | (simp; done) | (simp; omega)) (by first | exact Nat.le_of_ble_eq_true rfl | (simp; done) | (simp; omega)) (Kv ?_)
    rintro v M ⟨x2, us2, it2, lm2, ls2, rfl, rfl⟩
    refine Go.astore X d0_77 rfl (stL rfl rfl (by dsimp only [updL])) ?_
    refine Go.iconst X (v := 0) d0_79 (by decide) ?_
    refine Go.anew X (N := 0) (cap := 0) (w1 G) (w188 G) (by decide) (by decide) (by decide) (by decide) d0_80 (by first | exact Nat.le_of_ble_eq_true rfl | (simp; done) | (simp; omega)) (by first | exact Nat.le_of_ble_eq_true rfl | (simp; done) | (simp; omega)) ?_
    intro ar Kr Or1
    refine Go.callS X (x_exclude l G hEm hKd (ty := .object "java/lang/String") (K := Kr) (f := true) List.mem_cons_self) (rest := []) (w189 G) (w190 G) (w24 G) (w191 G) (by decide) pd26 rfl rfl d0_83 rfl (by first | exact Nat.le_of_ble_eq_true rfl | (simp; done) | (simp; omega)) (by first | exact Nat.le_of_ble_eq_true rfl | (simp; done) | (simp; omega)) (by first | exact Nat.le_of_ble_eq_true rfl | (simp; done) | (simp; omega)) (by first | exact Nat.le_of_ble_eq_true rfl | (simp; done) | (simp; omega)) (Kv ?_)
    rintro v M ⟨x3, us3, it3, lm3, ls3, rfl, rfl⟩
    refine Go.astore X d0_86 rfl (stL rfl rfl (by dsimp only [updL])) ?_
    refine Go.aload X d0_88 rfl rfl ?_
    refine Go.callV X (fun h H => H.exa (i := 15) rfl) (q_ign l G hKd (a := x1) (us := us1) (f := true) (List.mem_of_getElem? (i := 15) rfl)) (rest := []) (w197 G) (w198 G) (nfS (w200 G)) (w200 G) (w199 G) (w24 G) (w201 G) (by decide) pd14 rfl rfl d0_90 rfl (by first | exact Nat.le_of_ble_eq_true rfl | (simp; done) | (simp; omega)) (by first | exact Nat.le_of_ble_eq_true rfl | (simp; done) | (simp; omega)) (by first | exact Nat.le_of_ble_eq_true rfl | (simp; done) | (simp; omega)) (by first | exact Nat.le_of_ble_eq_true rfl | (simp; done) | (simp; omega)) (Kv ?_)
    rintro v M ⟨rfl, rfl⟩
    refine Go.istore X d0_93 (stL rfl rfl (by dsimp only [updL])) ?_
    refine Go.aload X d0_95 rfl rfl ?_
    refine Go.aload X d0_97 rfl rfl ?_
    refine Go.callV X (fun h H => H.exa (i := 15) rfl) (q_app l G hKd (a := x1) (us := us1) (f := true) (nm' := s1) (List.mem_of_getElem? (i := 15) rfl)) (rest := []) (w202 G) (w203 G) (nfS (w205 G)) (w205 G) (w204 G) (w24 G) (w206 G) (by decide) pd27 rfl rfl d0_99 rfl (by first | exact Nat.le_of_ble_eq_true rfl | (simp; done) | (simp; omega)) (by first | exact Nat.le_of_ble_eq_true rfl | (simp; done) | (simp; omega)) (by first | exact Nat.le_of_ble_eq_true rfl | (simp; done) | (simp; omega)) (by first | exact Nat.le_of_ble_eq_true rfl | (simp; done) | (simp; omega)) (Kv ?_)
    rintro v M ⟨rfl, rfl⟩
    refine Go.ifc X d0_102 (pt := 109) ⟨by decide, by decide⟩ ?_ ?_
    · intro q; exact absurd rfl q
    intro _
    refine Go.iconst X (v := 1) d0_105 (by decide) ?_
    refine Go.goto X d0_106 (pt := 110) ⟨by decide, by decide⟩ ?_
    refine Go.istore X d0_110 (stL rfl rfl (by dsimp only [updL])) ?_
    refine Go.fact (fun h H => H.ne (i := 6) (j := 14) rfl rfl (by decide)) fun hne => ?_
    refine Go.fact (fun h H => H.ne (i := 6) (j := 11) rfl rfl (by decide)) fun hne2 => ?_
    refine Go.perm (L' := ow lm2 (Ob Z "java/util/LinkedHashMap" ns1 [.float 1061158912, .int 16, .int 0, .int 0, .int 0, .null, .null, .int 0]) :: ow us3 (Ob Z "java/util/Collections$UnmodifiableSet" ns4 [.ref ls3]) :: ow it3 (Ob Z "java/util/ImmutableCollections$ListItr" ns3 [.ref em, .int 0, .int 0, .int 0]) :: ow lm3 (Ob Z "java/util/LinkedHashMap" ns1 [.float 1061158912, .int 16, .int 0, .int 0, .int 0, .null, .null, .int 0]) :: ow ls3 (Ob Z "java/util/LinkedHashSet" ns2 [.ref lm3]) :: ow x3 (Ob Z "com/example/mussel/mussel/rule/Selection" ns5 [.ref ke, .ref us3]) :: ow ar (Ar Z (.object "java/lang/String") Kr []) :: ow us2 (Ob Z "java/util/Collections$UnmodifiableSet" ns4 [.ref ls2]) :: ow it2 (Ob Z "java/util/ImmutableCollections$ListItr" ns3 [.ref em, .int 0, .int 0, .int 0]) :: ow ls2 (Ob Z "java/util/LinkedHashSet" ns2 [.ref lm2]) :: ow x2 (Ob Z "com/example/mussel/mussel/rule/Selection" ns5 [.ref ki, .ref us2]) :: ow us1 (Ob Z "java/util/Collections$UnmodifiableSet" ns4 [.ref ls1]) :: ow it1 (Ob Z "java/util/ImmutableCollections$ListItr" ns3 [.ref em, .int 0, .int 0, .int 0]) :: ow lm1 (Ob Z "java/util/LinkedHashMap" ns1 [.float 1061158912, .int 16, .int 0, .int 0, .int 0, .null, .null, .int 0]) :: ow ls1 (Ob Z "java/util/LinkedHashSet" ns2 [.ref lm1]) :: ow x1 (Ob Z "com/example/mussel/mussel/rule/Selection" ns5 [.ref ki, .ref us1]) :: UU) ((front (i := 15) rfl).trans ((front (i := 15) rfl).trans ((front (i := 15) rfl).trans ((front (i := 15) rfl).trans ((front (i := 15) rfl).trans ((front (i := 15) rfl).trans ((front (i := 15) rfl).trans ((front (i := 14) rfl).trans ((front (i := 14) rfl).trans ((front (i := 14) rfl).trans ((front (i := 14) rfl).trans ((front (i := 14) rfl).trans ((front (i := 14) rfl).trans ((front (i := 14) rfl).trans ((front (i := 14) rfl).trans (front (i := 15) rfl)))))))))))))))) ?_
    refine Go.aload X d0_112 rfl rfl ?_
    refine Go.aload X d0_114 rfl rfl ?_
    refine Go.callV X (fun h H => H.exa (i := 15) rfl) (x_eqy l G (lm := lm2) (ls := ls2) (us := us2) (ls1 := ls1) (lm1 := lm1) (us1 := us1) (x1 := x1) (x2 := x2) (kd := ki) (List.mem_of_getElem? (i := 8) rfl) (List.mem_of_getElem? (i := 6) rfl) (List.mem_of_getElem? (i := 13) rfl) (List.mem_of_getElem? (i := 12) rfl) hne (List.mem_of_getElem? (i := 10) rfl) hne2 (List.mem_of_getElem? (i := 14) rfl) (List.mem_of_getElem? (i := 9) rfl)) (rest := []) (w216 G) (w217 G) (nfS (w219 G)) (w219 G) (w218 G) (w24 G) (w220 G) (by decide) pd24 rfl rfl d0_116 rfl (by first | exact Nat.le_of_ble_eq_true rfl | (simp; done) | (simp; omega)) (by first | exact Nat.le_of_ble_eq_true rfl | (simp; done) | (simp; omega)) (by first | exact Nat.le_of_ble_eq_true rfl | (simp; done) | (simp; omega)) (by first | exact Nat.le_of_ble_eq_true rfl | (simp; done) | (simp; omega)) (Kv ?_)
    rintro v M ⟨rfl, a, ii, ks, rfl⟩
    refine Go.istore X d0_119 (stL rfl rfl (by dsimp only [updL])) ?_
    refine Go.aload X d0_121 rfl rfl ?_
    refine Go.aload X d0_123 rfl rfl ?_
    refine Go.callV X (fun h H => H.exa (i := 18) rfl) (x_eqn l G (x1 := x1) (x2 := x3) (k1 := ki) (k2 := ke) (n1 := us1) (n2 := us3) (g1 := true) (g2 := true) (List.mem_of_getElem? (i := 18) rfl) (List.mem_of_getElem? (i := 8) rfl) hKd.2.2.1) (rest := []) (w216 G) (w217 G) (nfS (w219 G)) (w219 G) (w218 G) (w24 G) (w220 G) (by decide) pd24 rfl rfl d0_125 rfl (by first | exact Nat.le_of_ble_eq_true rfl | (simp; done) | (simp; omega)) (by first | exact Nat.le_of_ble_eq_true rfl | (simp; done) | (simp; omega)) (by first | exact Nat.le_of_ble_eq_true rfl | (simp; done) | (simp; omega)) (by first | exact Nat.le_of_ble_eq_true rfl | (simp; done) | (simp; omega)) (Kv ?_)
    rintro v M ⟨rfl, rfl⟩
    refine Go.ifc X d0_128 (pt := 135) ⟨by decide, by decide⟩ ?_ ?_
    · intro q; exact absurd rfl q
    intro _
    refine Go.iconst X (v := 1) d0_131 (by decide) ?_
    refine Go.goto X d0_132 (pt := 136) ⟨by decide, by decide⟩ ?_
    refine Go.istore X d0_136 (stL rfl rfl (by dsimp only [updL])) ?_
    refine Go.iload X d0_138 rfl ?_
    refine Go.ifc X d0_140 (pt := 162) ⟨by decide, by decide⟩ ?_ ?_
    · intro q; exact absurd (show (1 : Int32) = 0 from q) (by decide)
    intro _
    refine Go.iload X d0_143 rfl ?_
    refine Go.ifc X d0_145 (pt := 162) ⟨by decide, by decide⟩ ?_ ?_
    · intro q; exact absurd (show (1 : Int32) = 0 from q) (by decide)
    intro _
    refine Go.iload X d0_148 rfl ?_
    refine Go.ifc X d0_150 (pt := 162) ⟨by decide, by decide⟩ ?_ ?_
    · intro q; exact absurd (show (1 : Int32) = 0 from q) (by decide)
    intro _
    refine Go.iload X d0_153 rfl ?_
    refine Go.ifc X d0_155 (pt := 162) ⟨by decide, by decide⟩ ?_ ?_
    · intro q; exact absurd (show (1 : Int32) = 0 from q) (by decide)
    intro _
    refine Go.iconst X (v := 1) d0_158 (by decide) ?_
    refine Go.goto X d0_159 (pt := 163) ⟨by decide, by decide⟩ ?_
    exact Go.zret X d0_163 (Or.inr rfl) (by first | exact Nat.le_of_ble_eq_true rfl | (simp; done) | (simp; omega)) (by first | exact Nat.le_of_ble_eq_true rfl | (simp; done) | (simp; omega)) rfl
-- %%% law
theorem w0 {a0 : Array Value} {Z : State} (G : Gl a0 Z) : (Jvm.Cond.arrayClass Jvm.ClassFile.FieldType.char).before a0 Z = true := G.1 _ (List.mem_of_getElem? (i := 0) rfl)
theorem w4 {a0 : Array Value} {Z : State} (G : Gl a0 Z) : (Jvm.Cond.methodLink "com/example/mussel/mussel/rule/SelectionIgnorePinLaw" (9 : Nat) ({ cls := "java/lang/String", name := "<init>", desc := "([C)V" } : Jvm.MethodName)).before a0 Z = true := G.1 _ (List.mem_of_getElem? (i := 4) rfl)
theorem w5 {a0 : Array Value} {Z : State} (G : Gl a0 Z) : (Jvm.Cond.instanceMethod ({ cls := "java/lang/String", name := "<init>", desc := "([C)V" } : Jvm.MethodName)).before a0 Z = true := G.1 _ (List.mem_of_getElem? (i := 5) rfl)
theorem w6 {a0 : Array Value} {Z : State} (G : Gl a0 Z) : (Jvm.Cond.code ({ cls := "java/lang/String", name := "<init>", desc := "([C)V" } : Jvm.MethodName) jdk_42_method_3_code (2 : Nat) (Option.none : Option Jvm.ClassFile.FieldType)).before a0 Z = true := G.1 _ (List.mem_of_getElem? (i := 6) rfl)
theorem d0_0 : D1 code 0 (.iload_n 0) 1 1 := ⟨at_0, rfl⟩
theorem d0_1 : D1 code 1 (.iconst 3) 1 2 := ⟨at_1, rfl⟩
theorem d0_2 : D1 code 2 (.iand) 1 3 := ⟨at_2, rfl⟩
theorem d0_3 : D1 code 3 (.istore 4) 2 5 := ⟨at_3, rfl⟩
theorem d0_5 : D1 code 5 (.iload 4) 2 7 := ⟨at_5, rfl⟩
theorem d0_7 : D1 code 7 (.newarray .char) 2 9 := ⟨at_7, rfl⟩
theorem d0_9 : D1 code 9 (.astore 5) 2 11 := ⟨at_9, rfl⟩
theorem d0_11 : D1 code 11 (.iload 4) 2 13 := ⟨at_11, rfl⟩
theorem d0_13 : D1 code 13 (.ifCond .le 13) 3 16 := ⟨at_13, rfl⟩
theorem d0_16 : D1 code 16 (.aload 5) 2 18 := ⟨at_16, rfl⟩
theorem d0_18 : D1 code 18 (.iconst 0) 1 19 := ⟨at_18, rfl⟩
theorem d0_19 : D1 code 19 (.iload_n 1) 1 20 := ⟨at_19, rfl⟩
theorem d0_20 : D1 code 20 (.sipush 255) 3 23 := ⟨at_20, rfl⟩
theorem d0_23 : D1 code 23 (.iand) 1 24 := ⟨at_23, rfl⟩
theorem d0_24 : D1 code 24 (.i2c) 1 25 := ⟨at_24, rfl⟩
theorem d0_25 : D1 code 25 (.castore) 1 26 := ⟨at_25, rfl⟩
theorem d0_26 : D1 code 26 (.iload 4) 2 28 := ⟨at_26, rfl⟩
theorem d0_28 : D1 code 28 (.iconst 1) 1 29 := ⟨at_28, rfl⟩
theorem d0_29 : D1 code 29 (.if_icmp .le 13) 3 32 := ⟨at_29, rfl⟩
theorem d0_32 : D1 code 32 (.aload 5) 2 34 := ⟨at_32, rfl⟩
theorem d0_34 : D1 code 34 (.iconst 1) 1 35 := ⟨at_34, rfl⟩
theorem d0_35 : D1 code 35 (.iload_n 2) 1 36 := ⟨at_35, rfl⟩
theorem d0_36 : D1 code 36 (.sipush 255) 3 39 := ⟨at_36, rfl⟩
theorem d0_39 : D1 code 39 (.iand) 1 40 := ⟨at_39, rfl⟩
theorem d0_40 : D1 code 40 (.i2c) 1 41 := ⟨at_40, rfl⟩
theorem d0_41 : D1 code 41 (.castore) 1 42 := ⟨at_41, rfl⟩
theorem d0_42 : D1 code 42 (.iload 4) 2 44 := ⟨at_42, rfl⟩
theorem d0_44 : D1 code 44 (.iconst 2) 1 45 := ⟨at_44, rfl⟩
theorem d0_45 : D1 code 45 (.if_icmp .le 13) 3 48 := ⟨at_45, rfl⟩
theorem d0_48 : D1 code 48 (.aload 5) 2 50 := ⟨at_48, rfl⟩
theorem d0_50 : D1 code 50 (.iconst 2) 1 51 := ⟨at_50, rfl⟩
theorem d0_51 : D1 code 51 (.iload_n 3) 1 52 := ⟨at_51, rfl⟩
theorem d0_52 : D1 code 52 (.sipush 255) 3 55 := ⟨at_52, rfl⟩
theorem d0_55 : D1 code 55 (.iand) 1 56 := ⟨at_55, rfl⟩
theorem d0_56 : D1 code 56 (.i2c) 1 57 := ⟨at_56, rfl⟩
theorem d0_57 : D1 code 57 (.castore) 1 58 := ⟨at_57, rfl⟩
theorem d0_58 : D1 code 58 (.new 7) 3 61 := ⟨at_58, rfl⟩
theorem d0_61 : D1 code 61 (.dup) 1 62 := ⟨at_61, rfl⟩
theorem d0_62 : D1 code 62 (.aload 5) 2 64 := ⟨at_62, rfl⟩
theorem d0_64 : D1 code 64 (.invokespecial 9) 3 67 := ⟨at_64, rfl⟩
theorem d0_67 : D1 code 67 (.astore 6) 2 69 := ⟨at_67, rfl⟩
theorem pd28 : parseMethodDescriptor "([C)V" = some ⟨[(.array .char)], none⟩ := by decide +kernel
theorem ch_back : ∀ c : Nat, c < 256 → (Int32.ofNat c).toUInt32.toUInt16.toUInt32.toInt32 = Int32.ofNat c := by decide +kernel
theorem and3 (x : Int32) : ∃ c : Nat, (c = 0 ∨ c = 1 ∨ c = 2 ∨ c = 3) ∧ x &&& 3 = Int32.ofNat c := by
  refine ⟨(x.toBitVec &&& 3#32).toNat, ?_, ?_⟩
  · have : (x.toBitVec &&& 3#32).toNat = x.toBitVec.toNat % 4 := by rw [BitVec.toNat_and]; exact Nat.and_two_pow_sub_one_eq_mod _ 2
    omega
  · apply Int32.toBitVec_inj.mp
    rw [Int32.toBitVec_and]
    apply BitVec.eq_of_toNat_eq
    rw [Int32.toBitVec_ofNat]
    simp
theorem ent0 (v0 v1 v2 v3 : Value) (h0 : v0.category ≠ 2) (h1 : v1.category ≠ 2) (h2 : v2.category ≠ 2) (h3 : v3.category ≠ 2) (n : Nat) : argsToLocals #[v0, v1, v2, v3] (n + 4) = #[.val v0, .val v1, .val v2, .val v3] ++ Array.replicate n .unset := by
  have : (#[v0, v1, v2, v3] : Array Value).foldl (init := #[]) (fun acc v => if v.category = 2 then (acc.push (Slot.val v)).push .second else acc.push (.val v)) = #[.val v0, .val v1, .val v2, .val v3] := by
    simp [h0, h1, h2, h3]
  unfold argsToLocals
  rw [this]
  rfl
theorem ent1 (m : MethodId) (i0 i1 i2 i3 : Int32) : entryFrame m #[.int i0, .int i1, .int i2, .int i3] 14 = mkF m 0 #[.val (.int i0), .val (.int i1), .val (.int i2), .val (.int i3), .unset, .unset, .unset, .unset, .unset, .unset, .unset, .unset, .unset, .unset] [] := by
  have e : Array.replicate 10 Slot.unset = #[.unset, .unset, .unset, .unset, .unset, .unset, .unset, .unset, .unset, .unset] := by rw [← List.toArray_replicate]; rfl
  have e2 : argsToLocals #[.int i0, .int i1, .int i2, .int i3] 14 = #[.val (.int i0), .val (.int i1), .val (.int i2), .val (.int i3), .unset, .unset, .unset, .unset, .unset, .unset, .unset, .unset, .unset, .unset] := by
    rw [ent0 (.int i0) (.int i1) (.int i2) (.int i3) (by simp [Value.category]) (by simp [Value.category]) (by simp [Value.category]) (by simp [Value.category]) 10, e, List.append_toArray]
    simp only [List.cons_append, List.nil_append]
  unfold entryFrame mkF
  rw [e2]
set_option maxRecDepth 65536 in
set_option maxHeartbeats 4000000 in
theorem law_ct (l : Launch) {Z : State} {a0 : Array Value} (G : Gl a0 Z) (i0 i1 i2 i3 : Int32) : Ct WD EL0 l Z x code maxLocals ret room_1 #[.int i0, .int i1, .int i2, .int i3] [] (rvQ (fun v _ => v = .int 1)) := by
  refine Ct.intro (by decide +kernel) G.2.1 ?_
  intro p e s m below meth c X
  replace X : Cx WD EL0 p Z s m meth c "com/example/mussel/mussel/rule/SelectionIgnorePinLaw" "law" code 14 (some .boolean) := X
  refine Go.cast (g' := mkF m 0 #[.val (.int i0), .val (.int i1), .val (.int i2), .val (.int i3), .unset, .unset, .unset, .unset, .unset, .unset, .unset, .unset, .unset, .unset] []) (ent1 m i0 i1 i2 i3) ?_
  refine Go.iloadN X d0_0 rfl ?_
  refine Go.iconst X (v := 3) d0_1 (by decide) ?_
  refine Go.iand X d0_2 ?_
  obtain ⟨m0, hm, em⟩ := and3 i0
  rw [em]
  rcases hm with rfl | rfl | rfl | rfl
  · refine Go.istore X d0_3 (stL rfl rfl (by dsimp only [updL])) ?_
    refine Go.iload X d0_5 rfl ?_
    refine Go.newarr X (aty := .char) (N := 0) (cap := 3) (w0 G) (by decide) (by decide) (by decide) (by decide) d0_7 (by first | exact Nat.le_of_ble_eq_true rfl | (simp; done) | (simp; omega)) (by first | exact Nat.le_of_ble_eq_true rfl | (simp; done) | (simp; omega)) ?_
    intro ca Kc
    refine Go.astore X d0_9 rfl (stL rfl rfl (by dsimp only [updL])) ?_
    refine Go.iload X d0_11 rfl ?_
    refine Go.ifc X d0_13 (pt := 26) ⟨by decide, by decide⟩ ?_ ?_
    rotate_left
    · intro q; exact absurd (show Int32.ofNat 0 ≤ 0 by decide) q
    intro _
    refine Go.iload X d0_26 rfl ?_
    refine Go.iconst X (v := 1) d0_28 (by decide) ?_
    refine Go.icmp X d0_29 (pt := 42) ⟨by decide, by decide⟩ ?_ ?_
    rotate_left
    · intro q; exact absurd (show Int32.ofNat 0 ≤ 1 by decide) q
    intro _
    refine Go.iload X d0_42 rfl ?_
    refine Go.iconst X (v := 2) d0_44 (by decide) ?_
    refine Go.icmp X d0_45 (pt := 58) ⟨by decide, by decide⟩ ?_ ?_
    rotate_left
    · intro q; exact absurd (show Int32.ofNat 0 ≤ 2 by decide) q
    intro _
    refine Go.new X (w1 G) (w2 G) (w3 G) (lay0 G) df0 d0_58 (by first | exact Nat.le_of_ble_eq_true rfl | (simp; done) | (simp; omega)) (by first | exact Nat.le_of_ble_eq_true rfl | (simp; done) | (simp; omega)) ?_
    intro s1
    refine Go.perm (L' := [ow s1 (Ob Z "java/lang/String" ns0 [.null, .int 0]), ow ca (Ar Z .char Kc (csOf []))]) (List.Perm.refl _) ?_
    refine Go.dup X d0_61 rfl ?_
    refine Go.aload X d0_62 rfl rfl ?_
    refine Go.callI X (s_initC l G (a := s1) (cap := 3) (cl := []) (ca := ca) (Kc := Kc) (f := true) (List.mem_cons_self) (by simp; try omega) (by simp) (by omega)) rfl (rest := [.ref s1]) (w4 G) (w5 G) (w3 G) (w6 G) (by decide) pd28 rfl rfl d0_64 rfl (by first | exact Nat.le_of_ble_eq_true rfl | (simp; done) | (simp; omega)) (by first | exact Nat.le_of_ble_eq_true rfl | (simp; done) | (simp; omega)) (by first | exact Nat.le_of_ble_eq_true rfl | (simp; done) | (simp; omega)) (by first | exact Nat.le_of_ble_eq_true rfl | (simp; done) | (simp; omega)) (K0 ?_)
    rintro M ⟨p1, K, f, hK, rfl⟩
    refine Go.astore X d0_67 rfl (stL rfl rfl (by dsimp only [updL])) ?_
    exact Go.book (by first | exact Nat.le_of_ble_eq_true rfl | (simp; done) | (simp; omega)) (by first | exact Nat.le_of_ble_eq_true rfl | (simp; done) | (simp; omega)) (k69 X G)
  · refine Go.istore X d0_3 (stL rfl rfl (by dsimp only [updL])) ?_
    refine Go.iload X d0_5 rfl ?_
    refine Go.newarr X (aty := .char) (N := 1) (cap := 3) (w0 G) (by decide) (by decide) (by decide) (by decide) d0_7 (by first | exact Nat.le_of_ble_eq_true rfl | (simp; done) | (simp; omega)) (by first | exact Nat.le_of_ble_eq_true rfl | (simp; done) | (simp; omega)) ?_
    intro ca Kc
    refine Go.astore X d0_9 rfl (stL rfl rfl (by dsimp only [updL])) ?_
    refine Go.iload X d0_11 rfl ?_
    refine Go.ifc X d0_13 (pt := 26) ⟨by decide, by decide⟩ ?_ ?_
    · intro q; exact absurd (show Int32.ofNat 1 ≤ 0 from q) (by decide)
    intro _
    refine Go.aload X d0_16 rfl rfl ?_
    refine Go.iconst X (v := 0) d0_18 (by decide) ?_
    refine Go.iloadN X d0_19 rfl ?_
    refine Go.sipush X (v := 255) d0_20 (by decide) ?_
    refine Go.iand X d0_23 ?_
    obtain ⟨c0, hc0, ec0⟩ := and255 i1
    rw [ec0]
    refine Go.i2c X d0_24 ?_
    rw [ch_back c0 hc0]
    refine Go.cast' X (i := 0) rfl (by decide) (by first | decide | (simp only [upd_len]; decide)) (y := Int32.ofNat c0) (ch_back c0 hc0) d0_25 ?_
    refine Go.iload X d0_26 rfl ?_
    refine Go.iconst X (v := 1) d0_28 (by decide) ?_
    refine Go.icmp X d0_29 (pt := 42) ⟨by decide, by decide⟩ ?_ ?_
    rotate_left
    · intro q; exact absurd (show Int32.ofNat 1 ≤ 1 by decide) q
    intro _
    refine Go.iload X d0_42 rfl ?_
    refine Go.iconst X (v := 2) d0_44 (by decide) ?_
    refine Go.icmp X d0_45 (pt := 58) ⟨by decide, by decide⟩ ?_ ?_
    rotate_left
    · intro q; exact absurd (show Int32.ofNat 1 ≤ 2 by decide) q
    intro _
    refine Go.new X (w1 G) (w2 G) (w3 G) (lay0 G) df0 d0_58 (by first | exact Nat.le_of_ble_eq_true rfl | (simp; done) | (simp; omega)) (by first | exact Nat.le_of_ble_eq_true rfl | (simp; done) | (simp; omega)) ?_
    intro s1
    refine Go.perm (L' := [ow s1 (Ob Z "java/lang/String" ns0 [.null, .int 0]), ow ca (Ar Z .char Kc (csOf [c0]))]) (List.Perm.refl _) ?_
    refine Go.dup X d0_61 rfl ?_
    refine Go.aload X d0_62 rfl rfl ?_
    refine Go.callI X (s_initC l G (a := s1) (cap := 3) (cl := [c0]) (ca := ca) (Kc := Kc) (f := true) (List.mem_cons_self) (by simp; try omega) (by simp) (by omega)) rfl (rest := [.ref s1]) (w4 G) (w5 G) (w3 G) (w6 G) (by decide) pd28 rfl rfl d0_64 rfl (by first | exact Nat.le_of_ble_eq_true rfl | (simp; done) | (simp; omega)) (by first | exact Nat.le_of_ble_eq_true rfl | (simp; done) | (simp; omega)) (by first | exact Nat.le_of_ble_eq_true rfl | (simp; done) | (simp; omega)) (by first | exact Nat.le_of_ble_eq_true rfl | (simp; done) | (simp; omega)) (K0 ?_)
    rintro M ⟨p1, K, f, hK, rfl⟩
    refine Go.astore X d0_67 rfl (stL rfl rfl (by dsimp only [updL])) ?_
    exact Go.book (by first | exact Nat.le_of_ble_eq_true rfl | (simp; done) | (simp; omega)) (by first | exact Nat.le_of_ble_eq_true rfl | (simp; done) | (simp; omega)) (k69 X G)
  · refine Go.istore X d0_3 (stL rfl rfl (by dsimp only [updL])) ?_
    refine Go.iload X d0_5 rfl ?_
    refine Go.newarr X (aty := .char) (N := 2) (cap := 3) (w0 G) (by decide) (by decide) (by decide) (by decide) d0_7 (by first | exact Nat.le_of_ble_eq_true rfl | (simp; done) | (simp; omega)) (by first | exact Nat.le_of_ble_eq_true rfl | (simp; done) | (simp; omega)) ?_
    intro ca Kc
    refine Go.astore X d0_9 rfl (stL rfl rfl (by dsimp only [updL])) ?_
    refine Go.iload X d0_11 rfl ?_
    refine Go.ifc X d0_13 (pt := 26) ⟨by decide, by decide⟩ ?_ ?_
    · intro q; exact absurd (show Int32.ofNat 2 ≤ 0 from q) (by decide)
    intro _
    refine Go.aload X d0_16 rfl rfl ?_
    refine Go.iconst X (v := 0) d0_18 (by decide) ?_
    refine Go.iloadN X d0_19 rfl ?_
    refine Go.sipush X (v := 255) d0_20 (by decide) ?_
    refine Go.iand X d0_23 ?_
    obtain ⟨c0, hc0, ec0⟩ := and255 i1
    rw [ec0]
    refine Go.i2c X d0_24 ?_
    rw [ch_back c0 hc0]
    refine Go.cast' X (i := 0) rfl (by decide) (by first | decide | (simp only [upd_len]; decide)) (y := Int32.ofNat c0) (ch_back c0 hc0) d0_25 ?_
    refine Go.iload X d0_26 rfl ?_
    refine Go.iconst X (v := 1) d0_28 (by decide) ?_
    refine Go.icmp X d0_29 (pt := 42) ⟨by decide, by decide⟩ ?_ ?_
    · intro q; exact absurd (show Int32.ofNat 2 ≤ 1 from q) (by decide)
    intro _
    refine Go.aload X d0_32 rfl rfl ?_
    refine Go.iconst X (v := 1) d0_34 (by decide) ?_
    refine Go.iloadN X d0_35 rfl ?_
    refine Go.sipush X (v := 255) d0_36 (by decide) ?_
    refine Go.iand X d0_39 ?_
    obtain ⟨c1, hc1, ec1⟩ := and255 i2
    rw [ec1]
    refine Go.i2c X d0_40 ?_
    rw [ch_back c1 hc1]
    refine Go.cast' X (i := 0) rfl (by decide) (by first | decide | (simp only [upd_len]; decide)) (y := Int32.ofNat c1) (ch_back c1 hc1) d0_41 ?_
    refine Go.iload X d0_42 rfl ?_
    refine Go.iconst X (v := 2) d0_44 (by decide) ?_
    refine Go.icmp X d0_45 (pt := 58) ⟨by decide, by decide⟩ ?_ ?_
    rotate_left
    · intro q; exact absurd (show Int32.ofNat 2 ≤ 2 by decide) q
    intro _
    refine Go.new X (w1 G) (w2 G) (w3 G) (lay0 G) df0 d0_58 (by first | exact Nat.le_of_ble_eq_true rfl | (simp; done) | (simp; omega)) (by first | exact Nat.le_of_ble_eq_true rfl | (simp; done) | (simp; omega)) ?_
    intro s1
    refine Go.perm (L' := [ow s1 (Ob Z "java/lang/String" ns0 [.null, .int 0]), ow ca (Ar Z .char Kc (csOf [c0, c1]))]) (List.Perm.refl _) ?_
    refine Go.dup X d0_61 rfl ?_
    refine Go.aload X d0_62 rfl rfl ?_
    refine Go.callI X (s_initC l G (a := s1) (cap := 3) (cl := [c0, c1]) (ca := ca) (Kc := Kc) (f := true) (List.mem_cons_self) (by simp; try omega) (by simp) (by omega)) rfl (rest := [.ref s1]) (w4 G) (w5 G) (w3 G) (w6 G) (by decide) pd28 rfl rfl d0_64 rfl (by first | exact Nat.le_of_ble_eq_true rfl | (simp; done) | (simp; omega)) (by first | exact Nat.le_of_ble_eq_true rfl | (simp; done) | (simp; omega)) (by first | exact Nat.le_of_ble_eq_true rfl | (simp; done) | (simp; omega)) (by first | exact Nat.le_of_ble_eq_true rfl | (simp; done) | (simp; omega)) (K0 ?_)
    rintro M ⟨p1, K, f, hK, rfl⟩
    refine Go.astore X d0_67 rfl (stL rfl rfl (by dsimp only [updL])) ?_
    exact Go.book (by first | exact Nat.le_of_ble_eq_true rfl | (simp; done) | (simp; omega)) (by first | exact Nat.le_of_ble_eq_true rfl | (simp; done) | (simp; omega)) (k69 X G)
  · refine Go.istore X d0_3 (stL rfl rfl (by dsimp only [updL])) ?_
    refine Go.iload X d0_5 rfl ?_
    refine Go.newarr X (aty := .char) (N := 3) (cap := 3) (w0 G) (by decide) (by decide) (by decide) (by decide) d0_7 (by first | exact Nat.le_of_ble_eq_true rfl | (simp; done) | (simp; omega)) (by first | exact Nat.le_of_ble_eq_true rfl | (simp; done) | (simp; omega)) ?_
    intro ca Kc
    refine Go.astore X d0_9 rfl (stL rfl rfl (by dsimp only [updL])) ?_
    refine Go.iload X d0_11 rfl ?_
    refine Go.ifc X d0_13 (pt := 26) ⟨by decide, by decide⟩ ?_ ?_
    · intro q; exact absurd (show Int32.ofNat 3 ≤ 0 from q) (by decide)
    intro _
    refine Go.aload X d0_16 rfl rfl ?_
    refine Go.iconst X (v := 0) d0_18 (by decide) ?_
    refine Go.iloadN X d0_19 rfl ?_
    refine Go.sipush X (v := 255) d0_20 (by decide) ?_
    refine Go.iand X d0_23 ?_
    obtain ⟨c0, hc0, ec0⟩ := and255 i1
    rw [ec0]
    refine Go.i2c X d0_24 ?_
    rw [ch_back c0 hc0]
    refine Go.cast' X (i := 0) rfl (by decide) (by first | decide | (simp only [upd_len]; decide)) (y := Int32.ofNat c0) (ch_back c0 hc0) d0_25 ?_
    refine Go.iload X d0_26 rfl ?_
    refine Go.iconst X (v := 1) d0_28 (by decide) ?_
    refine Go.icmp X d0_29 (pt := 42) ⟨by decide, by decide⟩ ?_ ?_
    · intro q; exact absurd (show Int32.ofNat 3 ≤ 1 from q) (by decide)
    intro _
    refine Go.aload X d0_32 rfl rfl ?_
    refine Go.iconst X (v := 1) d0_34 (by decide) ?_
    refine Go.iloadN X d0_35 rfl ?_
    refine Go.sipush X (v := 255) d0_36 (by decide) ?_
    refine Go.iand X d0_39 ?_
    obtain ⟨c1, hc1, ec1⟩ := and255 i2
    rw [ec1]
    refine Go.i2c X d0_40 ?_
    rw [ch_back c1 hc1]
    refine Go.cast' X (i := 0) rfl (by decide) (by first | decide | (simp only [upd_len]; decide)) (y := Int32.ofNat c1) (ch_back c1 hc1) d0_41 ?_
    refine Go.iload X d0_42 rfl ?_
    refine Go.iconst X (v := 2) d0_44 (by decide) ?_
    refine Go.icmp X d0_45 (pt := 58) ⟨by decide, by decide⟩ ?_ ?_
    · intro q; exact absurd (show Int32.ofNat 3 ≤ 2 from q) (by decide)
    intro _
    refine Go.aload X d0_48 rfl rfl ?_
    refine Go.iconst X (v := 2) d0_50 (by decide) ?_
    refine Go.iloadN X d0_51 rfl ?_
    refine Go.sipush X (v := 255) d0_52 (by decide) ?_
    refine Go.iand X d0_55 ?_
    obtain ⟨c2, hc2, ec2⟩ := and255 i3
    rw [ec2]
    refine Go.i2c X d0_56 ?_
    rw [ch_back c2 hc2]
    refine Go.cast' X (i := 0) rfl (by decide) (by first | decide | (simp only [upd_len]; decide)) (y := Int32.ofNat c2) (ch_back c2 hc2) d0_57 ?_
    refine Go.new X (w1 G) (w2 G) (w3 G) (lay0 G) df0 d0_58 (by first | exact Nat.le_of_ble_eq_true rfl | (simp; done) | (simp; omega)) (by first | exact Nat.le_of_ble_eq_true rfl | (simp; done) | (simp; omega)) ?_
    intro s1
    refine Go.perm (L' := [ow s1 (Ob Z "java/lang/String" ns0 [.null, .int 0]), ow ca (Ar Z .char Kc (csOf [c0, c1, c2]))]) (List.Perm.refl _) ?_
    refine Go.dup X d0_61 rfl ?_
    refine Go.aload X d0_62 rfl rfl ?_
    refine Go.callI X (s_initC l G (a := s1) (cap := 3) (cl := [c0, c1, c2]) (ca := ca) (Kc := Kc) (f := true) (List.mem_cons_self) (by simp; try omega) (by simp) (by omega)) rfl (rest := [.ref s1]) (w4 G) (w5 G) (w3 G) (w6 G) (by decide) pd28 rfl rfl d0_64 rfl (by first | exact Nat.le_of_ble_eq_true rfl | (simp; done) | (simp; omega)) (by first | exact Nat.le_of_ble_eq_true rfl | (simp; done) | (simp; omega)) (by first | exact Nat.le_of_ble_eq_true rfl | (simp; done) | (simp; omega)) (by first | exact Nat.le_of_ble_eq_true rfl | (simp; done) | (simp; omega)) (K0 ?_)
    rintro M ⟨p1, K, f, hK, rfl⟩
    refine Go.astore X d0_67 rfl (stL rfl rfl (by dsimp only [updL])) ?_
    exact Go.book (by first | exact Nat.le_of_ble_eq_true rfl | (simp; done) | (simp; omega)) (by first | exact Nat.le_of_ble_eq_true rfl | (simp; done) | (simp; omega)) (k69 X G)
-- %%% ends

set_option maxRecDepth 65536 in
set_option maxHeartbeats 4000000 in
theorem comes_1 {Post : Tables → Env → Array Value → State → Outcome → State → Prop} (hpost : ∀ tb e args s v u, (limb_1_1.after args s (.returned v) u = true ∧ limb_1_2.after args s (.returned v) u = true ∧ True) → ReturnedEndW s (.returned v) u (Jvm.fieldLocs frame_1_writes args s ++ Jvm.arrayLocs frame_1_arrays args s ++ Jvm.staticLocs frame_1_statics s) 56 1280 → Post tb e args s (.returned v) u) :
    ArmFor flags0 classFile x code maxLocals ret World_1 tables_1 room_1 Calls_1 rest_1 Pre_1 Post := by
  intro l hfl _ _ p e ha hc hk s m args below hf hA hF happ hP
  obtain ⟨hcalls, hrest, hpre⟩ := hP
  obtain ⟨-, -, -, hnamed, -, -, -, hat⟩ := (Spec.applies_iff hf).mp happ
  obtain ⟨hg, hn⟩ := and_e (Cond.before_iff.mp (show (Jvm.Cond.and given_1 narrow_1).before args s = true from hpre))
  obtain ⟨h1, h2⟩ := and_e hg
  obtain ⟨w0, w1, w2, w3, rfl⟩ : ∃ w0 w1 w2 w3 : Value, args = #[w0, w1, w2, w3] := by
    have hs : args.size = 4 := by simpa [Cond.value, given_1] using h1
    obtain ⟨L⟩ := args
    match L, hs with
    | [w0, w1, w2, w3], _ => exact ⟨w0, w1, w2, w3, rfl⟩
  have hw : ∀ d ∈ tables_1, d.before #[w0, w1, w2, w3] s = true := fun d (hd : d ∈ tables_1) => atoms_spec (ws := Jvm.Cond.code x code maxLocals ret :: tables_1) hat d (List.mem_cons_of_mem _ hd)
  have hfit : Fit s := fun {y c} hc i hi => by
    obtain ⟨ha, rfl⟩ := Array.getElem?_eq_some_iff.mp hc
    have q := List.all_eq_true.mp ((Array.all_eq_true_iff_forall_mem.mp hF) _ (Array.getElem_mem ha)) i (List.mem_range.mpr hi)
    simpa [Array.getElem?_eq_getElem hi] using q
  obtain ⟨a0, h3⟩ := and_e h2
  obtain ⟨i0, e0⟩ := is_v a0
  obtain rfl : w0 = (.int i0) := Option.some.inj e0
  obtain ⟨a1, h4⟩ := and_e h3
  obtain ⟨i1, e1⟩ := is_v a1
  obtain rfl : w1 = (.int i1) := Option.some.inj e1
  obtain ⟨a2, h5⟩ := and_e h4
  obtain ⟨i2, e2⟩ := is_v a2
  obtain rfl : w2 = (.int i2) := Option.some.inj e2
  obtain ⟨i3, e3⟩ := is_v h5
  obtain rfl : w3 = (.int i3) := Option.some.inj e3
  have hsets : ∀ d ∈ jdkStatics_1, d.before #[.int i0, .int i1, .int i2, .int i3] s = true := (atoms_of (own := restOwn_1) jdkStatics_1 (show (jdkStatics_1.foldr Jvm.Cond.and restOwn_1).before _ s = true from hrest)).1
  have G_cs : ∃ cs : Int32, cs ≠ 0 ∧ Sta s s.heap "java/lang/String" "COMPACT_STRINGS" "Z" (.int cs) := by
    obtain ⟨x, ex⟩ := is_v (Cond.before_iff.mp (hsets _ (List.mem_of_getElem? (i := 8) rfl)))
    refine ⟨x, fun z => ?_, Sta.start ex (Or.inl (hsets _ (List.mem_of_getElem? (i := 7) rfl)))⟩
    have q := Cond.before_iff.mp (hsets _ (List.mem_of_getElem? (i := 9) rfl))
    subst z
    have q2 : (Cond.eq (Term.static "java/lang/String" "COMPACT_STRINGS" "Z") (Term.int 0)).value #[.int i0, .int i1, .int i2, .int i3] s none s [] = some true := eq_i ex (Term.int_eval (0)) rfl
    simp only [Cond.value] at q q2
    rw [q2] at q
    cases q
  have G_em : ∃ em ea, EmF s em ea := by
    have wx := Cond.before_iff.mp (hsets _ (List.mem_of_getElem? (i := 2) rfl))
    obtain ⟨em, ee⟩ := exa_v wx
    have wa := Cond.before_iff.mp (hsets _ (List.mem_of_getElem? (i := 3) rfl))
    have wf := Cond.before_iff.mp (hsets _ (List.mem_of_getElem? (i := 4) rfl))
    obtain ⟨ea, ef⟩ := exa_v wf
    obtain ⟨cl, A⟩ := Arr.start ef wa
    have L := eqv_i (Term.int_eval 0) (Cond.before_iff.mp (hsets _ (List.mem_of_getElem? (i := 5) rfl)))
    have hA := A.fin (U := s) (Vm.Alike.refl _)
    have hl : cl.slots.size < 2 ^ 31 := lenLt ef hA L
    rw [len_f ef hA hl] at L
    simp only [Option.some.injEq, Value.int.injEq] at L
    have e0 := len_toInt hl
    rw [L] at e0
    have z0 : (0 : Int32).toInt = 0 := rfl
    exact ⟨em, ea, Sta.start ee (Or.inl (hsets _ (List.mem_of_getElem? (i := 1) rfl))), Exa.start ee wx, Fld.start ((fld_at ee).symm.trans ef), cl, A, by omega⟩
  have G_kd : ∃ ki ke, KdF s ki ke := by
    have hn' : (Jvm.Cond.and _ (Jvm.Cond.and _ (Jvm.Cond.and _ _))).value #[.int i0, .int i1, .int i2, .int i3] s none s [] = some true := hn
    obtain ⟨n1, n2⟩ := and_e hn'
    obtain ⟨n2, n3⟩ := and_e n2
    obtain ⟨n3, n4⟩ := and_e n3
    obtain ⟨ki, e1⟩ := exa_v n1
    obtain ⟨ke, e2⟩ := exa_v n2
    have f1 : Fld s s.heap ki "java/lang/Enum" "ordinal" "I" (.int 0) := Fld.start ((fld_at e1).symm.trans (eqv_i (Term.int_eval 0) n3))
    have f2 : Fld s s.heap ke "java/lang/Enum" "ordinal" "I" (.int 2) := Fld.start ((fld_at e2).symm.trans (eqv_i (Term.int_eval 2) n4))
    exact ⟨ki, ke, Sta.start e1 (Or.inr ⟨(hw _ (List.mem_of_getElem? (i := 29) rfl)), (hw _ (List.mem_of_getElem? (i := 30) rfl))⟩), Sta.start e2 (Or.inr ⟨(hw _ (List.mem_of_getElem? (i := 29) rfl)), (hw _ (List.mem_of_getElem? (i := 193) rfl))⟩), Fld.ne f1 f2 (by decide), Exa.start e1 n1, f1⟩
  obtain ⟨K1, k1, m1, a1, a2, a3, c1, a4, a5⟩ := hcalls.1
  obtain ⟨K2, k2, m2, b1, b2, b3, c2, b4, b5⟩ := hcalls.2.1
  have hne : m1 ≠ m2 := fun z => by
    subst z
    cases a4.symm.trans b4
    rw [a5] at b5
    cases b5
    exact Vm.findClass_ne a1 b1 (by decide) rfl
  have hew : EW s _ EL0 := (EW.cons (hw _ (List.mem_of_getElem? (i := 14) rfl)) (by decide) EW.nil)
  have hEW : WD = true → ∃ a0, EW s a0 EL0 := fun _ => ⟨_, hew⟩
  have hIv : WD = true → CHv s EL0 s.vm s.heap ∧ ∀ x ∈ ([] : List Ent), x.2.2 = true → Safe s EL0 s.vm s.heap x.1 := fun _ => ⟨CHv.start hew (fun p hp => hcalls.2.2.1 p hp) (hsets _ (List.mem_of_getElem? (i := 9) rfl)) (hw _ (List.mem_of_getElem? (i := 15) rfl)) (hw _ (List.mem_of_getElem? (i := 2) rfl)), fun _ q => nomatch q⟩
  have G : Gl #[.int i0, .int i1, .int i2, .int i3] s := ⟨hw, hEW, G_cs, G_em, G_kd, K1, m1, K2, m2, ⟨a1, k1, a2, a3⟩, ⟨b1, k2, b2, b3⟩, hne⟩
  obtain ⟨n, o, h1, h2, h3, _, M, lc, rfl, ⟨_, rfl, rfl⟩, -, N, hq⟩ := (law_ct l G i0 i1 i2 i3) tables_1 p e ha hc hk s m _ below hf ((Spec.applies_iff_loose hf).mp happ).1 ⟨rfl, State.Warmed39.refl s, Hp.start s, hIv⟩ trivial
  exact ⟨n, _, h1, h2, h3, hpost _ _ _ _ _ _ ⟨Cond.after_iff.mpr rfl, Cond.after_iff.mpr (eq_i res_at (Term.int_eval (1)) rfl), trivial⟩ ⟨hq.1, hq.2.1, hq.2.2.1, (hq.2.2.2.sift fun y hy => Or.inr (N y hy)).mono (by decide) (by decide)⟩⟩
theorem main_1_1 : Claimed_1_1 := comes_1 fun _ _ _ _ _ _ h hF => ⟨h.1, hF⟩
theorem main_1_2 : Claimed_1_2 := comes_1 fun _ _ _ _ _ _ h hF => ⟨h.2.1, hF⟩
end Jvm.Pilot.@@N@@
namespace Jvm.Pilot.@@N@@
open Jvm Jvm.ClassFile Sem Op Lib Jvm.Free Jvm.Stand Jvm.Pilot.@@N@@.Jvm.D
/-! MADE BY PROGRAM (witnessworld.py) out of the Statement's table words and the real class files: 58 classes; the members and pool entries that the words name. The judged class is class 1, her method 1. -/
namespace start1
open Jvm.ClassFile
def u (s : String) : CpInfo := .utf8 (stringToUtf16 s)
/-- a pool by its gaps: so many unusable entries, then the entry; so many at the end -/
def gap : Nat → List CpInfo → List CpInfo
  | 0, r => r
  | n + 1, r => .unusable :: gap n r
def poolList (es : List (Nat × CpInfo)) (last : Nat) : List CpInfo := es.foldr (fun e r => gap e.1 (e.2 :: r)) (gap last [])
def pool (es : List (Nat × CpInfo)) (last : Nat) : Array CpInfo := ⟨poolList es last⟩
def fileOf (pool : Array CpInfo) (this : Nat) (attrs : Array Attribute := #[]) (ms : Array MethodInfo := #[]) (fl : Nat := 33) (sup : Nat := 0) (ifs : Array Nat := #[]) (fds : Array FieldInfo := #[]) : ClassFile where
  minorVersion := 0
  majorVersion := 65
  constantPool := pool
  accessFlags := fl
  thisClass := this
  superClass := sup
  interfaces := ifs
  fields := fds
  methods := ms
  attributes := attrs
def plain (name : String) (sup : Option ClassId) : Class where
  name := name
  kind := .ordinary
  loader := none
  accessFlags := 33
  super := sup
  interfaces := #[]
  cf := none
  fields := #[]
  methods := #[]
  instanceTypes := #[]
  staticTypes := #[]
  resolved := #[]
  callSites := []
  init := .initialized
  statics := none
  mirror := none

def pool0 : Array CpInfo := pool [(5, u "<init>"), (0, u "()V"), (1, .class_ 10), (1, u "java/lang/Object"), (0, u "getClass"), (0, u "()Ljava/lang/Class;")] 111

def k0c0 : Code := { maxStack := 0, maxLocals := 1, code := object_method_1_code, exceptionTable := #[], attributes := #[] }
def k0m0 : Method := { name := "<init>", desc := "()V", sig := { parameters := [], returnType := none }, accessFlags := 1, code := some k0c0 }
def k0m1 : Method := { name := "getClass", desc := "()Ljava/lang/Class;", sig := { parameters := [], returnType := some (.object "java/lang/Class") }, accessFlags := 273, code := none }
/-- java/lang/Object -/
def k0 : Class := { plain "java/lang/Object" none with
  accessFlags := 33
  interfaces := #[]
  cf := some (fileOf pool0 8 #[] #[{ accessFlags := 1, nameIndex := 5, descriptorIndex := 6, attributes := #[] }, { accessFlags := 273, nameIndex := 11, descriptorIndex := 12, attributes := #[] }] 33 0 #[] #[])
  fields := #[]
  methods := #[k0m0, k0m1]
  instanceTypes := #[]
  staticTypes := #[]
  resolved := Array.replicate 124 none
  statics := none }

def pool1 : Array CpInfo := pool [(2, .class_ 4), (1, u "java/lang/Object"), (0, u "<init>"), (0, u "()V"), (0, .class_ 8), (0, u "java/lang/String"), (0, .methodref 7 10), (0, .nameAndType 5 11), (0, u "([C)V"), (0, .methodref 13 14), (0, .class_ 15), (0, .nameAndType 16 17), (0, u "com/example/mussel/mussel/rule/Selection"), (0, u "ignore"), (0, u "()Lcom/example/mussel/mussel/rule/Selection;"), (0, .methodref 13 19), (0, .nameAndType 20 21), (0, u "exclude"), (0, u "([Ljava/lang/String;)Lcom/example/mussel/mussel/rule/Selection;"), (0, .methodref 13 23), (0, .nameAndType 24 25), (0, u "ignoresAll"), (0, u "()Z"), (0, .methodref 13 27), (0, .nameAndType 28 29), (0, u "applies"), (0, u "(Ljava/lang/String;)Z"), (0, .methodref 13 31), (0, .nameAndType 32 33), (0, u "equals"), (0, u "(Ljava/lang/Object;)Z"), (0, .class_ 35), (0, u "com/example/mussel/mussel/rule/SelectionIgnorePinLaw"), (2, u "law"), (0, u "(IIII)Z")] 5

def k1m0 : Method := { name := "<init>", desc := "()V", sig := { parameters := [], returnType := none }, accessFlags := 1, code := none }
def k1c1 : Code := { maxStack := 4, maxLocals := 14, code := code, exceptionTable := #[], attributes := #[] }
def k1m1 : Method := { name := "law", desc := "(IIII)Z", sig := { parameters := [.int, .int, .int, .int], returnType := some .boolean }, accessFlags := 9, code := some k1c1 }
/-- com/example/mussel/mussel/rule/SelectionIgnorePinLaw -/
def k1 : Class := { plain "com/example/mussel/mussel/rule/SelectionIgnorePinLaw" (some 0) with
  accessFlags := 49
  interfaces := #[]
  cf := some (fileOf pool1 34 #[] #[{ accessFlags := 1, nameIndex := 5, descriptorIndex := 6, attributes := #[] }, { accessFlags := 9, nameIndex := 38, descriptorIndex := 39, attributes := #[] }] 49 2 #[] #[])
  fields := #[]
  methods := #[k1m0, k1m1]
  instanceTypes := #[]
  staticTypes := #[]
  resolved := Array.replicate 45 none
  statics := none }

def pool2 : Array CpInfo := pool [(1, .class_ 2), (0, u "java/io/Serializable"), (0, .class_ 4), (0, u "java/lang/Object")] 2

/-- java/io/Serializable -/
def k2 : Class := { plain "java/io/Serializable" (some 0) with
  accessFlags := 1537
  interfaces := #[]
  cf := some (fileOf pool2 1 #[] #[] 1537 3 #[] #[])
  fields := #[]
  methods := #[]
  instanceTypes := #[]
  staticTypes := #[]
  resolved := Array.replicate 7 none
  statics := none }

def pool3 : Array CpInfo := pool [(1, .class_ 2), (0, u "java/lang/Comparable"), (0, .class_ 4), (0, u "java/lang/Object")] 7

/-- java/lang/Comparable -/
def k3 : Class := { plain "java/lang/Comparable" (some 0) with
  accessFlags := 1537
  interfaces := #[]
  cf := some (fileOf pool3 1 #[] #[] 1537 3 #[] #[])
  fields := #[]
  methods := #[]
  instanceTypes := #[]
  staticTypes := #[]
  resolved := Array.replicate 12 none
  statics := none }

def pool4 : Array CpInfo := pool [(2, .class_ 4), (1, u "java/lang/CharSequence"), (42, .class_ 48), (0, u "java/lang/CharSequence$1CodePointIterator"), (10, .class_ 60), (0, u "java/lang/CharSequence$1CharIterator"), (5, .class_ 67), (0, u "java/lang/Object")] 63

/-- java/lang/CharSequence -/
def k4 : Class := { plain "java/lang/CharSequence" (some 0) with
  accessFlags := 1537
  interfaces := #[]
  cf := some (fileOf pool4 2 #[.nestMembers #[47, 59]] #[] 1537 66 #[] #[])
  fields := #[]
  methods := #[]
  instanceTypes := #[]
  staticTypes := #[]
  resolved := Array.replicate 131 none
  statics := none }

def pool5 : Array CpInfo := pool [(1, .class_ 2), (0, u "java/lang/constant/Constable"), (0, .class_ 4), (0, u "java/lang/Object")] 6

/-- java/lang/constant/Constable -/
def k5 : Class := { plain "java/lang/constant/Constable" (some 0) with
  accessFlags := 1537
  interfaces := #[]
  cf := some (fileOf pool5 1 #[] #[] 1537 3 #[] #[])
  fields := #[]
  methods := #[]
  instanceTypes := #[]
  staticTypes := #[]
  resolved := Array.replicate 11 none
  statics := none }

def pool6 : Array CpInfo := pool [(1, .class_ 2), (0, u "java/lang/constant/ConstantDesc"), (0, .class_ 4), (0, u "java/lang/Object")] 32

/-- java/lang/constant/ConstantDesc -/
def k6 : Class := { plain "java/lang/constant/ConstantDesc" (some 0) with
  accessFlags := 1537
  interfaces := #[]
  cf := some (fileOf pool6 1 #[] #[] 1537 3 #[] #[])
  fields := #[]
  methods := #[]
  instanceTypes := #[]
  staticTypes := #[]
  resolved := Array.replicate 37 none
  statics := none }

def pool7 : Array CpInfo := pool [(1, .methodref 2 3), (0, .class_ 4), (0, .nameAndType 5 6), (0, u "java/lang/Object"), (0, u "<init>"), (0, u "()V"), (0, .string 8), (0, u ""), (0, .fieldref 10 11), (0, .class_ 12), (0, .nameAndType 13 14), (0, u "java/lang/String"), (0, u "value"), (0, u "[B"), (0, .fieldref 10 16), (0, .nameAndType 17 18), (0, u "coder"), (0, u "B"), (2, u "hash"), (0, u "I"), (2, u "hashIsZero"), (0, u "Z"), (0, .methodref 10 28), (0, .nameAndType 5 29), (0, u "([CIILjava/lang/Void;)V"), (8, .fieldref 10 39), (0, .nameAndType 40 26), (0, u "COMPACT_STRINGS"), (1, .class_ 44), (1, u "java/lang/StringUTF16"), (0, u "compress"), (1, .methodref 42 48), (0, .nameAndType 49 50), (0, u "coderFromArrayLen"), (0, u "([BI)B"), (126, .methodref 42 178), (0, .nameAndType 45 179), (0, u "([CII)[B"), (395, .class_ 576), (0, u "java/lang/CharSequence"), (22, u "CASE_INSENSITIVE_ORDER"), (0, u "Ljava/util/Comparator;"), (409, u "([C)V"), (90, u "serialPersistentFields"), (0, u "[Ljava/io/ObjectStreamField;"), (0, .class_ 1104), (0, u "java/lang/String$CaseInsensitiveComparator"), (1, .class_ 1107), (0, u "java/io/Serializable"), (0, .class_ 1109), (0, u "java/lang/Comparable"), (0, .class_ 1111), (0, u "java/lang/constant/Constable"), (0, .class_ 1113), (0, u "java/lang/constant/ConstantDesc"), (2, u "serialVersionUID"), (0, u "J"), (3, u "REPL"), (0, u "C"), (2, u "LATIN1"), (1, u "UTF16")] 323

def k7m0 : Method := { name := "<init>", desc := "()V", sig := { parameters := [], returnType := none }, accessFlags := 1, code := none }
def k7c1 : Code := { maxStack := 5, maxLocals := 2, code := jdk_42_method_3_code, exceptionTable := #[], attributes := #[] }
def k7m1 : Method := { name := "<init>", desc := "([C)V", sig := { parameters := [(.array .char)], returnType := none }, accessFlags := 1, code := some k7c1 }
def k7c2 : Code := { maxStack := 4, maxLocals := 6, code := jdk_42_method_149_code, exceptionTable := #[], attributes := #[] }
def k7m2 : Method := { name := "<init>", desc := "([CIILjava/lang/Void;)V", sig := { parameters := [(.array .char), .int, .int, (.object "java/lang/Void")], returnType := none }, accessFlags := 2, code := some k7c2 }
/-- java/lang/String -/
def k7 : Class := { plain "java/lang/String" (some 0) with
  accessFlags := 49
  interfaces := #[2, 3, 4, 5, 6]
  cf := some (fileOf pool7 10 #[.nestMembers #[1103]] #[{ accessFlags := 1, nameIndex := 5, descriptorIndex := 6, attributes := #[] }, { accessFlags := 1, nameIndex := 5, descriptorIndex := 1010, attributes := #[] }, { accessFlags := 2, nameIndex := 5, descriptorIndex := 29, attributes := #[] }] 49 2 #[1106, 1108, 575, 1110, 1112] #[{ accessFlags := 18, nameIndex := 13, descriptorIndex := 14, attributes := #[] }, { accessFlags := 18, nameIndex := 17, descriptorIndex := 18, attributes := #[] }, { accessFlags := 2, nameIndex := 21, descriptorIndex := 22, attributes := #[] }, { accessFlags := 2, nameIndex := 25, descriptorIndex := 26, attributes := #[] }, { accessFlags := 26, nameIndex := 1116, descriptorIndex := 1117, attributes := #[] }, { accessFlags := 24, nameIndex := 40, descriptorIndex := 26, attributes := #[] }, { accessFlags := 26, nameIndex := 1101, descriptorIndex := 1102, attributes := #[] }, { accessFlags := 26, nameIndex := 1121, descriptorIndex := 1122, attributes := #[] }, { accessFlags := 25, nameIndex := 599, descriptorIndex := 600, attributes := #[] }, { accessFlags := 24, nameIndex := 1125, descriptorIndex := 18, attributes := #[] }, { accessFlags := 24, nameIndex := 1127, descriptorIndex := 18, attributes := #[] }])
  fields := #[{ name := "value", type := (.array .byte), accessFlags := 18, slot := 0, constantValue := 0 }, { name := "coder", type := .byte, accessFlags := 18, slot := 1, constantValue := 0 }, { name := "hash", type := .int, accessFlags := 2, slot := 2, constantValue := 0 }, { name := "hashIsZero", type := .boolean, accessFlags := 2, slot := 3, constantValue := 0 }, { name := "serialVersionUID", type := .long, accessFlags := 26, slot := 0, constantValue := 0 }, { name := "COMPACT_STRINGS", type := .boolean, accessFlags := 24, slot := 1, constantValue := 0 }, { name := "serialPersistentFields", type := (.array (.object "java/io/ObjectStreamField")), accessFlags := 26, slot := 2, constantValue := 0 }, { name := "REPL", type := .char, accessFlags := 26, slot := 3, constantValue := 0 }, { name := "CASE_INSENSITIVE_ORDER", type := (.object "java/util/Comparator"), accessFlags := 25, slot := 4, constantValue := 0 }, { name := "LATIN1", type := .byte, accessFlags := 24, slot := 5, constantValue := 0 }, { name := "UTF16", type := .byte, accessFlags := 24, slot := 6, constantValue := 0 }]
  methods := #[k7m0, k7m1, k7m2]
  instanceTypes := #[(.array .byte), .byte, .int, .boolean]
  staticTypes := #[.long, .boolean, (.array (.object "java/io/ObjectStreamField")), .char, (.object "java/util/Comparator"), .byte, .byte]
  resolved := Array.replicate 1451 none
  statics := some 0 }

def pool8 : Array CpInfo := pool [(1, .methodref 2 3), (0, .class_ 4), (0, .nameAndType 5 6), (0, u "java/lang/Object"), (0, u "<init>"), (0, u "()V"), (0, .fieldref 8 9), (0, .class_ 10), (0, .nameAndType 11 12), (0, u "com/example/mussel/mussel/rule/Selection"), (0, u "kind"), (0, u "Lcom/example/mussel/mussel/rule/Selection$Kind;"), (0, .class_ 14), (0, u "java/util/LinkedHashSet"), (0, .methodref 13 3), (0, .interfaceMethodref 17 18), (0, .class_ 19), (0, .nameAndType 20 21), (0, u "java/util/Collection"), (0, u "iterator"), (0, u "()Ljava/util/Iterator;"), (0, .interfaceMethodref 23 24), (0, .class_ 25), (0, .nameAndType 26 27), (0, u "java/util/Iterator"), (0, u "hasNext"), (0, u "()Z"), (15, .class_ 45), (1, u "java/util/Set"), (1, u "(Ljava/lang/Object;)Z"), (0, .methodref 49 50), (0, .class_ 51), (0, .nameAndType 52 53), (0, u "java/util/Collections"), (0, u "unmodifiableSet"), (0, u "(Ljava/util/Set;)Ljava/util/Set;"), (0, .fieldref 8 55), (0, .nameAndType 56 57), (0, u "names"), (0, u "Ljava/util/Set;"), (0, .fieldref 59 60), (0, .class_ 61), (0, .nameAndType 62 12), (0, u "com/example/mussel/mussel/rule/Selection$Kind"), (0, u "IGNORE"), (0, .interfaceMethodref 64 65), (0, .class_ 66), (0, .nameAndType 67 68), (0, u "java/util/List"), (0, u "of"), (0, u "()Ljava/util/List;"), (0, .methodref 8 70), (0, .nameAndType 5 71), (0, u "(Lcom/example/mussel/mussel/rule/Selection$Kind;Ljava/util/Collection;)V"), (0, .interfaceMethodref 64 73), (0, .nameAndType 67 74), (0, u "([Ljava/lang/Object;)Ljava/util/List;"), (4, .fieldref 59 80), (0, .nameAndType 81 12), (0, u "EXCLUDE"), (13, .methodref 59 96), (0, .nameAndType 97 98), (0, u "ordinal"), (0, u "()I"), (8, .interfaceMethodref 43 108), (0, .nameAndType 109 47), (0, u "equals"), (26, u "ignore"), (0, u "()Lcom/example/mussel/mussel/rule/Selection;"), (1, u "([Ljava/lang/String;)Lcom/example/mussel/mussel/rule/Selection;"), (0, u "exclude"), (3, u "ignoresAll"), (3, u "applies"), (0, u "(Ljava/lang/String;)Z")] 24

def k8c0 : Code := { maxStack := 3, maxLocals := 6, code := prog_9_method_1_code, exceptionTable := #[], attributes := #[] }
def k8m0 : Method := { name := "<init>", desc := "(Lcom/example/mussel/mussel/rule/Selection$Kind;Ljava/util/Collection;)V", sig := { parameters := [(.object "com/example/mussel/mussel/rule/Selection$Kind"), (.object "java/util/Collection")], returnType := none }, accessFlags := 2, code := some k8c0 }
def k8c1 : Code := { maxStack := 4, maxLocals := 0, code := prog_9_method_2_code, exceptionTable := #[], attributes := #[] }
def k8m1 : Method := { name := "ignore", desc := "()Lcom/example/mussel/mussel/rule/Selection;", sig := { parameters := [], returnType := some (.object "com/example/mussel/mussel/rule/Selection") }, accessFlags := 9, code := some k8c1 }
def k8c2 : Code := { maxStack := 4, maxLocals := 1, code := prog_9_method_4_code, exceptionTable := #[], attributes := #[] }
def k8m2 : Method := { name := "exclude", desc := "([Ljava/lang/String;)Lcom/example/mussel/mussel/rule/Selection;", sig := { parameters := [(.array (.object "java/lang/String"))], returnType := some (.object "com/example/mussel/mussel/rule/Selection") }, accessFlags := 137, code := some k8c2 }
def k8c3 : Code := { maxStack := 2, maxLocals := 1, code := prog_9_method_7_code, exceptionTable := #[], attributes := #[] }
def k8m3 : Method := { name := "ignoresAll", desc := "()Z", sig := { parameters := [], returnType := some .boolean }, accessFlags := 1, code := some k8c3 }
def k8c4 : Code := { maxStack := 4, maxLocals := 2, code := prog_9_method_9_code, exceptionTable := #[], attributes := #[] }
def k8m4 : Method := { name := "applies", desc := "(Ljava/lang/String;)Z", sig := { parameters := [(.object "java/lang/String")], returnType := some .boolean }, accessFlags := 0, code := some k8c4 }
def k8c5 : Code := { maxStack := 2, maxLocals := 3, code := prog_9_method_10_code, exceptionTable := #[], attributes := #[] }
def k8m5 : Method := { name := "equals", desc := "(Ljava/lang/Object;)Z", sig := { parameters := [(.object "java/lang/Object")], returnType := some .boolean }, accessFlags := 1, code := some k8c5 }
/-- com/example/mussel/mussel/rule/Selection -/
def k8 : Class := { plain "com/example/mussel/mussel/rule/Selection" (some 0) with
  accessFlags := 33
  interfaces := #[]
  cf := some (fileOf pool8 8 #[.nestMembers #[59]] #[{ accessFlags := 2, nameIndex := 5, descriptorIndex := 71, attributes := #[] }, { accessFlags := 9, nameIndex := 136, descriptorIndex := 137, attributes := #[] }, { accessFlags := 137, nameIndex := 140, descriptorIndex := 139, attributes := #[] }, { accessFlags := 1, nameIndex := 144, descriptorIndex := 27, attributes := #[] }, { accessFlags := 0, nameIndex := 148, descriptorIndex := 149, attributes := #[] }, { accessFlags := 1, nameIndex := 109, descriptorIndex := 47, attributes := #[] }] 33 2 #[] #[{ accessFlags := 18, nameIndex := 11, descriptorIndex := 12, attributes := #[] }, { accessFlags := 18, nameIndex := 56, descriptorIndex := 57, attributes := #[] }])
  fields := #[{ name := "kind", type := (.object "com/example/mussel/mussel/rule/Selection$Kind"), accessFlags := 18, slot := 0, constantValue := 0 }, { name := "names", type := (.object "java/util/Set"), accessFlags := 18, slot := 1, constantValue := 0 }]
  methods := #[k8m0, k8m1, k8m2, k8m3, k8m4, k8m5]
  instanceTypes := #[(.object "com/example/mussel/mussel/rule/Selection$Kind"), (.object "java/util/Set")]
  staticTypes := #[]
  resolved := Array.replicate 174 none
  statics := none }

def pool9 : Array CpInfo := pool [(2, .class_ 4), (1, u "java/lang/Enum"), (0, u "name"), (0, u "Ljava/lang/String;"), (0, .fieldref 2 8), (0, .nameAndType 9 10), (0, u "ordinal"), (0, u "I"), (1, .class_ 14), (1, u "java/lang/Object"), (4, u "hash"), (86, .class_ 108), (1, u "java/lang/Enum$EnumDesc"), (2, .class_ 112), (0, u "java/lang/constant/Constable"), (0, .class_ 114), (0, u "java/lang/Comparable"), (0, .class_ 116), (0, u "java/io/Serializable"), (9, u "()I")] 77

def k9c0 : Code := { maxStack := 1, maxLocals := 1, code := jdk_37_method_2_code, exceptionTable := #[], attributes := #[] }
def k9m0 : Method := { name := "ordinal", desc := "()I", sig := { parameters := [], returnType := some .int }, accessFlags := 17, code := some k9c0 }
/-- java/lang/Enum -/
def k9 : Class := { plain "java/lang/Enum" (some 0) with
  accessFlags := 1057
  interfaces := #[5, 3, 2]
  cf := some (fileOf pool9 2 #[.nestMembers #[106]] #[{ accessFlags := 17, nameIndex := 9, descriptorIndex := 126, attributes := #[] }] 1057 12 #[111, 113, 115] #[{ accessFlags := 18, nameIndex := 5, descriptorIndex := 6, attributes := #[] }, { accessFlags := 18, nameIndex := 9, descriptorIndex := 10, attributes := #[] }, { accessFlags := 2, nameIndex := 19, descriptorIndex := 10, attributes := #[] }])
  fields := #[{ name := "name", type := (.object "java/lang/String"), accessFlags := 18, slot := 0, constantValue := 0 }, { name := "ordinal", type := .int, accessFlags := 18, slot := 1, constantValue := 0 }, { name := "hash", type := .int, accessFlags := 2, slot := 2, constantValue := 0 }]
  methods := #[k9m0]
  instanceTypes := #[(.object "java/lang/String"), .int, .int]
  staticTypes := #[]
  resolved := Array.replicate 204 none
  statics := none }

def pool10 : Array CpInfo := pool [(1, .class_ 2), (0, u "com/example/mussel/mussel/rule/Selection$Kind"), (2, u "IGNORE"), (0, u "Lcom/example/mussel/mussel/rule/Selection$Kind;"), (2, u "INCLUDE"), (2, u "EXCLUDE"), (2, u "$VALUES"), (0, u "[Lcom/example/mussel/mussel/rule/Selection$Kind;"), (6, .class_ 25), (1, u "java/lang/Enum"), (26, .class_ 53), (0, u "com/example/mussel/mussel/rule/Selection")] 2

/-- com/example/mussel/mussel/rule/Selection$Kind -/
def k10 : Class := { plain "com/example/mussel/mussel/rule/Selection$Kind" (some 9) with
  accessFlags := 16432
  interfaces := #[]
  cf := some (fileOf pool10 1 #[.nestHost 52] #[] 16432 23 #[] #[{ accessFlags := 16409, nameIndex := 5, descriptorIndex := 6, attributes := #[] }, { accessFlags := 16409, nameIndex := 9, descriptorIndex := 6, attributes := #[] }, { accessFlags := 16409, nameIndex := 12, descriptorIndex := 6, attributes := #[] }, { accessFlags := 4122, nameIndex := 15, descriptorIndex := 16, attributes := #[] }])
  fields := #[{ name := "IGNORE", type := (.object "com/example/mussel/mussel/rule/Selection$Kind"), accessFlags := 16409, slot := 0, constantValue := 0 }, { name := "INCLUDE", type := (.object "com/example/mussel/mussel/rule/Selection$Kind"), accessFlags := 16409, slot := 1, constantValue := 0 }, { name := "EXCLUDE", type := (.object "com/example/mussel/mussel/rule/Selection$Kind"), accessFlags := 16409, slot := 2, constantValue := 0 }, { name := "$VALUES", type := (.array (.object "com/example/mussel/mussel/rule/Selection$Kind")), accessFlags := 4122, slot := 3, constantValue := 0 }]
  methods := #[]
  instanceTypes := #[(.object "java/lang/String"), .int, .int]
  staticTypes := #[(.object "com/example/mussel/mussel/rule/Selection$Kind"), (.object "com/example/mussel/mussel/rule/Selection$Kind"), (.object "com/example/mussel/mussel/rule/Selection$Kind"), (.array (.object "com/example/mussel/mussel/rule/Selection$Kind"))]
  resolved := Array.replicate 56 none
  statics := some 1 }

def pool11 : Array CpInfo := pool [(8, .class_ 10), (1, u "java/lang/Iterable"), (24, .class_ 36), (0, u "java/lang/Object")] 25

/-- java/lang/Iterable -/
def k11 : Class := { plain "java/lang/Iterable" (some 0) with
  accessFlags := 1537
  interfaces := #[]
  cf := some (fileOf pool11 8 #[] #[] 1537 35 #[] #[])
  fields := #[]
  methods := #[]
  instanceTypes := #[]
  staticTypes := #[]
  resolved := Array.replicate 62 none
  statics := none }

def pool12 : Array CpInfo := pool [(10, .class_ 12), (1, u "java/util/Collection"), (10, u "iterator"), (0, u "()Ljava/util/Iterator;"), (15, u "(Ljava/lang/Object;)Z"), (19, .class_ 61), (0, u "java/lang/Object"), (0, .class_ 63), (0, u "java/lang/Iterable"), (0, u "size"), (0, u "()I"), (40, u "equals")] 8

def k12m0 : Method := { name := "size", desc := "()I", sig := { parameters := [], returnType := some .int }, accessFlags := 1025, code := none }
def k12m1 : Method := { name := "iterator", desc := "()Ljava/util/Iterator;", sig := { parameters := [], returnType := some (.object "java/util/Iterator") }, accessFlags := 1025, code := none }
def k12m2 : Method := { name := "equals", desc := "(Ljava/lang/Object;)Z", sig := { parameters := [(.object "java/lang/Object")], returnType := some .boolean }, accessFlags := 1025, code := none }
/-- java/util/Collection -/
def k12 : Class := { plain "java/util/Collection" (some 0) with
  accessFlags := 1537
  interfaces := #[11]
  cf := some (fileOf pool12 10 #[] #[{ accessFlags := 1025, nameIndex := 64, descriptorIndex := 65, attributes := #[] }, { accessFlags := 1025, nameIndex := 23, descriptorIndex := 24, attributes := #[] }, { accessFlags := 1025, nameIndex := 106, descriptorIndex := 40, attributes := #[] }] 1537 60 #[62] #[])
  fields := #[]
  methods := #[k12m0, k12m1, k12m2]
  instanceTypes := #[]
  staticTypes := #[]
  resolved := Array.replicate 115 none
  statics := none }

def pool13 : Array CpInfo := pool [(8, .class_ 10), (1, u "java/util/SequencedCollection"), (15, .class_ 27), (0, u "java/lang/Object"), (0, .class_ 29), (0, u "java/util/Collection")] 27

/-- java/util/SequencedCollection -/
def k13 : Class := { plain "java/util/SequencedCollection" (some 0) with
  accessFlags := 1537
  interfaces := #[12]
  cf := some (fileOf pool13 8 #[] #[] 1537 26 #[28] #[])
  fields := #[]
  methods := #[]
  instanceTypes := #[]
  staticTypes := #[]
  resolved := Array.replicate 57 none
  statics := none }

def pool14 : Array CpInfo := pool [(8, .class_ 10), (1, u "java/util/List"), (77, u "of"), (1, .fieldref 91 92), (0, .class_ 93), (0, .nameAndType 94 95), (0, u "java/util/ImmutableCollections"), (0, u "EMPTY_LIST"), (0, u "Ljava/util/ImmutableCollections$ListN;"), (7, .class_ 104), (0, u "java/lang/Object"), (3, u "([Ljava/lang/Object;)Ljava/util/List;"), (10, u "()Ljava/util/List;"), (0, .class_ 121), (0, u "java/util/SequencedCollection")] 129

def k14c0 : Code := { maxStack := 1, maxLocals := 0, code := jdk_40_method_36_code, exceptionTable := #[], attributes := #[] }
def k14m0 : Method := { name := "of", desc := "()Ljava/util/List;", sig := { parameters := [], returnType := some (.object "java/util/List") }, accessFlags := 9, code := some k14c0 }
def k14c1 : Code := { maxStack := 5, maxLocals := 2, code := jdk_40_method_47_code, exceptionTable := #[], attributes := #[] }
def k14m1 : Method := { name := "of", desc := "([Ljava/lang/Object;)Ljava/util/List;", sig := { parameters := [(.array (.object "java/lang/Object"))], returnType := some (.object "java/util/List") }, accessFlags := 137, code := some k14c1 }
/-- java/util/List -/
def k14 : Class := { plain "java/util/List" (some 0) with
  accessFlags := 1537
  interfaces := #[13]
  cf := some (fileOf pool14 8 #[] #[{ accessFlags := 9, nameIndex := 88, descriptorIndex := 119, attributes := #[] }, { accessFlags := 137, nameIndex := 88, descriptorIndex := 108, attributes := #[] }] 1537 103 #[120] #[])
  fields := #[]
  methods := #[k14m0, k14m1]
  instanceTypes := #[]
  staticTypes := #[]
  resolved := Array.replicate 251 none
  statics := none }

def pool15 : Array CpInfo := pool [(2, .class_ 4), (1, u "java/lang/Object"), (0, u "<init>"), (0, u "()V"), (3, .class_ 11), (0, u "java/util/ImmutableCollections$List12"), (0, .class_ 13), (0, u "java/util/ImmutableCollections$ListN"), (3, u "Z"), (29, .class_ 49), (1, u "java/util/ImmutableCollections"), (0, u "$assertionsDisabled"), (5, u "[Ljava/lang/Object;"), (5, u "EMPTY_LIST"), (0, u "Ljava/util/ImmutableCollections$ListN;"), (8, u "EMPTY_LIST_NULLS"), (22, u "SALT32L"), (0, u "J"), (2, u "REVERSE"), (6, u "archivedObjects"), (2, u "EMPTY"), (0, u "Ljava/lang/Object;"), (0, .class_ 112), (0, u "java/util/ImmutableCollections$SetN"), (5, u "EMPTY_SET"), (0, u "Ljava/util/ImmutableCollections$SetN;"), (0, .class_ 121), (0, u "java/util/ImmutableCollections$MapN"), (3, u "EMPTY_MAP"), (0, u "Ljava/util/ImmutableCollections$MapN;"), (4, u "EXPAND_FACTOR"), (0, u "I"), (36, .class_ 170), (0, u "java/util/ImmutableCollections$MapN$MapNIterator"), (0, .class_ 172), (0, u "java/util/ImmutableCollections$MapN$1"), (0, .class_ 174), (0, u "java/util/ImmutableCollections$Map1"), (0, .class_ 176), (0, u "java/util/ImmutableCollections$AbstractImmutableMap"), (0, .class_ 178), (0, u "java/util/ImmutableCollections$SetN$SetNIterator"), (0, .class_ 180), (0, u "java/util/ImmutableCollections$Set12"), (0, .class_ 182), (0, u "java/util/ImmutableCollections$Set12$1"), (0, .class_ 184), (0, u "java/util/ImmutableCollections$AbstractImmutableSet"), (0, .class_ 186), (0, u "java/util/ImmutableCollections$SubList"), (0, .class_ 188), (0, u "java/util/ImmutableCollections$ListItr"), (0, .class_ 190), (0, u "java/util/ImmutableCollections$AbstractImmutableList"), (0, .class_ 192), (0, u "java/util/ImmutableCollections$AbstractImmutableCollection"), (0, .class_ 194), (0, u "java/util/ImmutableCollections$Access"), (0, .class_ 196), (0, u "java/util/ImmutableCollections$Access$1")] 16

def k15m0 : Method := { name := "<init>", desc := "()V", sig := { parameters := [], returnType := none }, accessFlags := 2, code := none }
/-- java/util/ImmutableCollections -/
def k15 : Class := { plain "java/util/ImmutableCollections" (some 0) with
  accessFlags := 32
  interfaces := #[]
  cf := some (fileOf pool15 47 #[.nestMembers #[120, 169, 171, 173, 175, 111, 177, 179, 181, 183, 12, 10, 185, 187, 189, 191, 193, 195]] #[{ accessFlags := 2, nameIndex := 5, descriptorIndex := 6, attributes := #[] }] 32 2 #[] #[{ accessFlags := 26, nameIndex := 95, descriptorIndex := 96, attributes := #[] }, { accessFlags := 26, nameIndex := 99, descriptorIndex := 17, attributes := #[] }, { accessFlags := 10, nameIndex := 106, descriptorIndex := 56, attributes := #[] }, { accessFlags := 26, nameIndex := 109, descriptorIndex := 110, attributes := #[] }, { accessFlags := 24, nameIndex := 62, descriptorIndex := 63, attributes := #[] }, { accessFlags := 24, nameIndex := 72, descriptorIndex := 63, attributes := #[] }, { accessFlags := 24, nameIndex := 118, descriptorIndex := 119, attributes := #[] }, { accessFlags := 24, nameIndex := 125, descriptorIndex := 126, attributes := #[] }, { accessFlags := 24, nameIndex := 131, descriptorIndex := 132, attributes := #[] }, { accessFlags := 4120, nameIndex := 50, descriptorIndex := 17, attributes := #[] }])
  fields := #[{ name := "SALT32L", type := .long, accessFlags := 26, slot := 0, constantValue := 0 }, { name := "REVERSE", type := .boolean, accessFlags := 26, slot := 1, constantValue := 0 }, { name := "archivedObjects", type := (.array (.object "java/lang/Object")), accessFlags := 10, slot := 2, constantValue := 0 }, { name := "EMPTY", type := (.object "java/lang/Object"), accessFlags := 26, slot := 3, constantValue := 0 }, { name := "EMPTY_LIST", type := (.object "java/util/ImmutableCollections$ListN"), accessFlags := 24, slot := 4, constantValue := 0 }, { name := "EMPTY_LIST_NULLS", type := (.object "java/util/ImmutableCollections$ListN"), accessFlags := 24, slot := 5, constantValue := 0 }, { name := "EMPTY_SET", type := (.object "java/util/ImmutableCollections$SetN"), accessFlags := 24, slot := 6, constantValue := 0 }, { name := "EMPTY_MAP", type := (.object "java/util/ImmutableCollections$MapN"), accessFlags := 24, slot := 7, constantValue := 0 }, { name := "EXPAND_FACTOR", type := .int, accessFlags := 24, slot := 8, constantValue := 0 }, { name := "$assertionsDisabled", type := .boolean, accessFlags := 4120, slot := 9, constantValue := 0 }]
  methods := #[k15m0]
  instanceTypes := #[]
  staticTypes := #[.long, .boolean, (.array (.object "java/lang/Object")), (.object "java/lang/Object"), (.object "java/util/ImmutableCollections$ListN"), (.object "java/util/ImmutableCollections$ListN"), (.object "java/util/ImmutableCollections$SetN"), (.object "java/util/ImmutableCollections$MapN"), .int, .boolean]
  resolved := Array.replicate 213 none
  statics := some 2 }

def pool16 : Array CpInfo := pool [(1, .methodref 2 3), (0, .class_ 4), (0, .nameAndType 5 6), (0, u "java/lang/Object"), (0, u "<init>"), (0, u "()V"), (1, .class_ 10), (1, u "java/util/AbstractCollection"), (0, u "size"), (0, u "()I"), (1, .nameAndType 15 16), (0, u "iterator"), (0, u "()Ljava/util/Iterator;"), (0, .interfaceMethodref 18 19), (0, .class_ 20), (0, .nameAndType 21 22), (0, u "java/util/Iterator"), (0, u "hasNext"), (0, u "()Z"), (53, .interfaceMethodref 77 14), (0, .class_ 78), (0, u "java/util/Collection"), (62, u "containsAll"), (0, u "(Ljava/util/Collection;)Z")] 17

def k16c0 : Code := { maxStack := 1, maxLocals := 1, code := jdk_22_method_1_code, exceptionTable := #[], attributes := #[] }
def k16m0 : Method := { name := "<init>", desc := "()V", sig := { parameters := [], returnType := none }, accessFlags := 4, code := some k16c0 }
def k16m1 : Method := { name := "size", desc := "()I", sig := { parameters := [], returnType := some .int }, accessFlags := 1025, code := none }
def k16c2 : Code := { maxStack := 2, maxLocals := 4, code := jdk_22_method_11_code, exceptionTable := #[], attributes := #[] }
def k16m2 : Method := { name := "containsAll", desc := "(Ljava/util/Collection;)Z", sig := { parameters := [(.object "java/util/Collection")], returnType := some .boolean }, accessFlags := 1, code := some k16c2 }
/-- java/util/AbstractCollection -/
def k16 : Class := { plain "java/util/AbstractCollection" (some 0) with
  accessFlags := 1057
  interfaces := #[12]
  cf := some (fileOf pool16 8 #[] #[{ accessFlags := 4, nameIndex := 5, descriptorIndex := 6, attributes := #[] }, { accessFlags := 1025, nameIndex := 11, descriptorIndex := 12, attributes := #[] }, { accessFlags := 1, nameIndex := 141, descriptorIndex := 142, attributes := #[] }] 1057 2 #[77] #[])
  fields := #[]
  methods := #[k16m0, k16m1, k16m2]
  instanceTypes := #[]
  staticTypes := #[]
  resolved := Array.replicate 160 none
  statics := none }

def pool17 : Array CpInfo := pool [(26, .class_ 27), (0, u "java/lang/Object"), (5, .class_ 34), (0, u "java/util/Set"), (1, .class_ 38), (1, u "java/util/Collection"), (21, u "(Ljava/lang/Object;)Z"), (0, u "iterator"), (0, u "()Ljava/util/Iterator;"), (16, u "equals")] 64

def k17m0 : Method := { name := "iterator", desc := "()Ljava/util/Iterator;", sig := { parameters := [], returnType := some (.object "java/util/Iterator") }, accessFlags := 1025, code := none }
def k17m1 : Method := { name := "equals", desc := "(Ljava/lang/Object;)Z", sig := { parameters := [(.object "java/lang/Object")], returnType := some .boolean }, accessFlags := 1025, code := none }
/-- java/util/Set -/
def k17 : Class := { plain "java/util/Set" (some 0) with
  accessFlags := 1537
  interfaces := #[12]
  cf := some (fileOf pool17 33 #[] #[{ accessFlags := 1025, nameIndex := 61, descriptorIndex := 62, attributes := #[] }, { accessFlags := 1025, nameIndex := 79, descriptorIndex := 60, attributes := #[] }] 1537 26 #[36] #[])
  fields := #[]
  methods := #[k17m0, k17m1]
  instanceTypes := #[]
  staticTypes := #[]
  resolved := Array.replicate 144 none
  statics := none }

def pool18 : Array CpInfo := pool [(1, .methodref 2 3), (0, .class_ 4), (0, .nameAndType 5 6), (0, u "java/util/AbstractCollection"), (0, u "<init>"), (0, u "()V"), (0, .class_ 8), (0, u "java/util/Set"), (0, .class_ 10), (0, u "java/util/Collection"), (0, .interfaceMethodref 9 12), (0, .nameAndType 13 14), (0, u "size"), (0, u "()I"), (0, .methodref 16 12), (0, .class_ 17), (0, u "java/util/AbstractSet"), (0, .methodref 16 19), (0, .nameAndType 20 21), (0, u "containsAll"), (0, u "(Ljava/util/Collection;)Z"), (33, u "(Ljava/lang/Object;)Z"), (12, u "equals")] 27

def k18c0 : Code := { maxStack := 1, maxLocals := 1, code := jdk_91_method_1_code, exceptionTable := #[], attributes := #[] }
def k18m0 : Method := { name := "<init>", desc := "()V", sig := { parameters := [], returnType := none }, accessFlags := 4, code := some k18c0 }
def k18c1 : Code := { maxStack := 2, maxLocals := 4, code := jdk_91_method_2_code, exceptionTable := #[{ startPc := 36, endPc := 41, handlerPc := 42, catchType := 22 }, { startPc := 36, endPc := 41, handlerPc := 42, catchType := 24 }], attributes := #[] }
def k18m1 : Method := { name := "equals", desc := "(Ljava/lang/Object;)Z", sig := { parameters := [(.object "java/lang/Object")], returnType := some .boolean }, accessFlags := 1, code := some k18c1 }
/-- java/util/AbstractSet -/
def k18 : Class := { plain "java/util/AbstractSet" (some 16) with
  accessFlags := 1057
  interfaces := #[17]
  cf := some (fileOf pool18 16 #[] #[{ accessFlags := 4, nameIndex := 5, descriptorIndex := 6, attributes := #[] }, { accessFlags := 1, nameIndex := 68, descriptorIndex := 55, attributes := #[] }] 1057 2 #[7] #[])
  fields := #[]
  methods := #[k18m0, k18m1]
  instanceTypes := #[]
  staticTypes := #[]
  resolved := Array.replicate 96 none
  statics := none }

def pool19 : Array CpInfo := pool [(1, .class_ 2), (0, u "java/lang/Cloneable"), (0, .class_ 4), (0, u "java/lang/Object")] 2

/-- java/lang/Cloneable -/
def k19 : Class := { plain "java/lang/Cloneable" (some 0) with
  accessFlags := 1537
  interfaces := #[]
  cf := some (fileOf pool19 1 #[] #[] 1537 3 #[] #[])
  fields := #[]
  methods := #[]
  instanceTypes := #[]
  staticTypes := #[]
  resolved := Array.replicate 7 none
  statics := none }

def pool20 : Array CpInfo := pool [(1, .methodref 2 3), (0, .class_ 4), (0, .nameAndType 5 6), (0, u "java/util/AbstractSet"), (0, u "<init>"), (0, u "()V"), (0, .class_ 8), (0, u "java/util/HashMap"), (1, .fieldref 11 12), (0, .class_ 13), (0, .nameAndType 14 15), (0, u "java/util/HashSet"), (0, u "map"), (0, u "Ljava/util/HashMap;"), (2, .nameAndType 20 21), (1, u "size"), (0, u "()I"), (15, .nameAndType 5 38), (0, u "(IF)V"), (3, .class_ 43), (0, u "java/util/LinkedHashMap"), (0, .methodref 42 37), (0, .methodref 7 46), (0, .nameAndType 47 48), (0, u "keySet"), (0, u "()Ljava/util/Set;"), (0, .interfaceMethodref 50 51), (0, .class_ 52), (0, .nameAndType 53 54), (0, u "java/util/Set"), (0, u "iterator"), (0, u "()Ljava/util/Iterator;"), (0, .methodref 7 18), (10, u "PRESENT"), (0, u "Ljava/lang/Object;"), (158, .class_ 227), (0, u "java/lang/Cloneable"), (0, .class_ 229), (0, u "java/io/Serializable"), (0, u "serialVersionUID"), (0, u "J"), (20, u "(IFZ)V")] 50

def k20m0 : Method := { name := "<init>", desc := "()V", sig := { parameters := [], returnType := none }, accessFlags := 1, code := none }
def k20c1 : Code := { maxStack := 5, maxLocals := 4, code := jdk_93_method_5_code, exceptionTable := #[], attributes := #[] }
def k20m1 : Method := { name := "<init>", desc := "(IFZ)V", sig := { parameters := [.int, .float, .boolean], returnType := none }, accessFlags := 0, code := some k20c1 }
def k20c2 : Code := { maxStack := 1, maxLocals := 1, code := jdk_93_method_6_code, exceptionTable := #[], attributes := #[] }
def k20m2 : Method := { name := "iterator", desc := "()Ljava/util/Iterator;", sig := { parameters := [], returnType := some (.object "java/util/Iterator") }, accessFlags := 1, code := some k20c2 }
def k20c3 : Code := { maxStack := 1, maxLocals := 1, code := jdk_93_method_7_code, exceptionTable := #[], attributes := #[] }
def k20m3 : Method := { name := "size", desc := "()I", sig := { parameters := [], returnType := some .int }, accessFlags := 1, code := some k20c3 }
/-- java/util/HashSet -/
def k20 : Class := { plain "java/util/HashSet" (some 18) with
  accessFlags := 33
  interfaces := #[17, 19, 2]
  cf := some (fileOf pool20 11 #[] #[{ accessFlags := 1, nameIndex := 5, descriptorIndex := 6, attributes := #[] }, { accessFlags := 0, nameIndex := 5, descriptorIndex := 252, attributes := #[] }, { accessFlags := 1, nameIndex := 53, descriptorIndex := 54, attributes := #[] }, { accessFlags := 1, nameIndex := 20, descriptorIndex := 21, attributes := #[] }] 33 2 #[50, 226, 228] #[{ accessFlags := 24, nameIndex := 230, descriptorIndex := 231, attributes := #[] }, { accessFlags := 128, nameIndex := 14, descriptorIndex := 15, attributes := #[] }, { accessFlags := 24, nameIndex := 66, descriptorIndex := 67, attributes := #[] }])
  fields := #[{ name := "serialVersionUID", type := .long, accessFlags := 24, slot := 0, constantValue := 0 }, { name := "map", type := (.object "java/util/HashMap"), accessFlags := 128, slot := 0, constantValue := 0 }, { name := "PRESENT", type := (.object "java/lang/Object"), accessFlags := 24, slot := 1, constantValue := 0 }]
  methods := #[k20m0, k20m1, k20m2, k20m3]
  instanceTypes := #[(.object "java/util/HashMap")]
  staticTypes := #[.long, (.object "java/lang/Object")]
  resolved := Array.replicate 303 none
  statics := none }

def pool21 : Array CpInfo := pool [(2, .class_ 4), (1, u "java/util/SequencedSet"), (2, .class_ 8), (0, u "java/lang/Object"), (0, .class_ 10), (0, u "java/util/SequencedCollection"), (0, .class_ 12), (0, u "java/util/Set")] 13

/-- java/util/SequencedSet -/
def k21 : Class := { plain "java/util/SequencedSet" (some 0) with
  accessFlags := 1537
  interfaces := #[13, 17]
  cf := some (fileOf pool21 2 #[] #[] 1537 7 #[9, 11] #[])
  fields := #[]
  methods := #[]
  instanceTypes := #[]
  staticTypes := #[]
  resolved := Array.replicate 26 none
  statics := none }

def pool22 : Array CpInfo := pool [(1, .methodref 2 3), (0, .class_ 4), (0, .nameAndType 5 6), (0, u "java/util/HashSet"), (0, u "<init>"), (0, u "(IFZ)V"), (0, .float 1061158912), (19, .class_ 29), (1, u "java/util/LinkedHashSet"), (16, u "()V"), (44, .class_ 93), (1, u "java/util/SequencedSet"), (11, .class_ 106), (0, u "java/util/LinkedHashSet$1ReverseLinkedHashSetView"), (6, .class_ 114), (0, u "java/lang/Cloneable"), (0, .class_ 116), (0, u "java/io/Serializable"), (0, u "serialVersionUID"), (0, u "J")] 44

def k22c0 : Code := { maxStack := 4, maxLocals := 1, code := jdk_2620_method_3_code, exceptionTable := #[], attributes := #[] }
def k22m0 : Method := { name := "<init>", desc := "()V", sig := { parameters := [], returnType := none }, accessFlags := 1, code := some k22c0 }
/-- java/util/LinkedHashSet -/
def k22 : Class := { plain "java/util/LinkedHashSet" (some 20) with
  accessFlags := 33
  interfaces := #[21, 19, 2]
  cf := some (fileOf pool22 27 #[.nestMembers #[105]] #[{ accessFlags := 1, nameIndex := 5, descriptorIndex := 46, attributes := #[] }] 33 2 #[91, 113, 115] #[{ accessFlags := 26, nameIndex := 117, descriptorIndex := 118, attributes := #[] }])
  fields := #[{ name := "serialVersionUID", type := .long, accessFlags := 26, slot := 0, constantValue := 0 }]
  methods := #[k22m0]
  instanceTypes := #[(.object "java/util/HashMap")]
  staticTypes := #[.long]
  resolved := Array.replicate 163 none
  mirror := some 4
  statics := none }

def pool23 : Array CpInfo := pool [(2, .class_ 4), (1, u "java/util/Map"), (31, .class_ 37), (0, u "java/util/Map$Entry"), (55, .class_ 94), (0, u "java/lang/Object")] 168

/-- java/util/Map -/
def k23 : Class := { plain "java/util/Map" (some 0) with
  accessFlags := 1537
  interfaces := #[]
  cf := some (fileOf pool23 2 #[.nestMembers #[36]] #[] 1537 93 #[] #[])
  fields := #[]
  methods := #[]
  instanceTypes := #[]
  staticTypes := #[]
  resolved := Array.replicate 263 none
  statics := none }

def pool24 : Array CpInfo := pool [(1, .methodref 2 3), (0, .class_ 4), (0, .nameAndType 5 6), (0, u "java/lang/Object"), (0, u "<init>"), (0, u "()V"), (1, .class_ 10), (1, u "java/util/AbstractMap"), (42, .class_ 54), (0, u "java/util/Map"), (9, u "keySet"), (0, u "Ljava/util/Set;"), (0, .class_ 67), (0, u "java/util/AbstractMap$1"), (5, u "values"), (0, u "Ljava/util/Collection;"), (0, .class_ 76), (0, u "java/util/AbstractMap$2"), (104, .class_ 182), (0, u "java/util/AbstractMap$ViewCollection"), (0, .class_ 184), (0, u "java/util/AbstractMap$SimpleImmutableEntry"), (0, .class_ 186), (0, u "java/util/AbstractMap$SimpleEntry"), (0, .class_ 188), (0, u "java/util/AbstractMap$2$1"), (0, .class_ 190), (0, u "java/util/AbstractMap$1$1")] 5

def k24c0 : Code := { maxStack := 1, maxLocals := 1, code := jdk_71_method_1_code, exceptionTable := #[], attributes := #[] }
def k24m0 : Method := { name := "<init>", desc := "()V", sig := { parameters := [], returnType := none }, accessFlags := 4, code := some k24c0 }
/-- java/util/AbstractMap -/
def k24 : Class := { plain "java/util/AbstractMap" (some 0) with
  accessFlags := 1057
  interfaces := #[23]
  cf := some (fileOf pool24 8 #[.nestMembers #[181, 183, 185, 75, 187, 66, 189]] #[{ accessFlags := 4, nameIndex := 5, descriptorIndex := 6, attributes := #[] }] 1057 2 #[53] #[{ accessFlags := 128, nameIndex := 64, descriptorIndex := 65, attributes := #[] }, { accessFlags := 128, nameIndex := 73, descriptorIndex := 74, attributes := #[] }])
  fields := #[{ name := "keySet", type := (.object "java/util/Set"), accessFlags := 128, slot := 0, constantValue := 0 }, { name := "values", type := (.object "java/util/Collection"), accessFlags := 128, slot := 1, constantValue := 0 }]
  methods := #[k24m0]
  instanceTypes := #[(.object "java/util/Set"), (.object "java/util/Collection")]
  staticTypes := #[]
  resolved := Array.replicate 196 none
  statics := none }

def pool25 : Array CpInfo := pool [(6, u "()I"), (27, .methodref 35 36), (0, .class_ 37), (0, .nameAndType 38 39), (0, u "java/lang/Integer"), (0, u "numberOfLeadingZeros"), (0, u "(I)I"), (0, .class_ 41), (0, u "java/util/HashMap"), (0, .integer 1073741824), (0, .methodref 44 45), (0, .class_ 46), (0, .nameAndType 47 48), (0, u "java/util/AbstractMap"), (0, u "<init>"), (0, u "()V"), (21, .methodref 71 72), (0, .class_ 73), (0, .nameAndType 74 75), (0, u "java/lang/Float"), (0, u "isNaN"), (0, u "(F)Z"), (5, .fieldref 40 82), (0, .nameAndType 83 84), (0, u "loadFactor"), (0, u "F"), (0, .methodref 40 86), (0, .nameAndType 87 39), (0, u "tableSizeFor"), (0, .fieldref 40 89), (0, .nameAndType 90 91), (0, u "threshold"), (0, u "I"), (3, u "(IF)V"), (5, .class_ 103), (1, u "java/util/Map"), (0, u "size"), (2, u "table"), (0, u "[Ljava/util/HashMap$Node;"), (14, u "entrySet"), (0, u "()Ljava/util/Set;"), (31, .fieldref 40 157), (0, .nameAndType 104 91), (5, .class_ 165), (1, u "java/util/HashMap$Node"), (14, .class_ 181), (0, u "java/util/HashMap$TreeNode"), (22, u "modCount"), (36, u "keySet"), (0, u "Ljava/util/Set;"), (0, .class_ 244), (0, u "java/util/HashMap$KeySet"), (18, .class_ 264), (0, u "java/util/HashMap$Values"), (3, .class_ 269), (0, u "java/util/HashMap$EntrySet"), (76, .class_ 348), (1, u "java/util/HashMap$UnsafeHolder"), (43, .class_ 393), (0, u "java/lang/Cloneable"), (0, .class_ 395), (0, u "java/io/Serializable"), (0, u "serialVersionUID"), (0, u "J"), (3, u "DEFAULT_INITIAL_CAPACITY"), (1, u "MAXIMUM_CAPACITY"), (0, u "DEFAULT_LOAD_FACTOR"), (0, u "TREEIFY_THRESHOLD"), (1, u "UNTREEIFY_THRESHOLD"), (1, u "MIN_TREEIFY_CAPACITY"), (186, .class_ 597), (0, u "java/util/HashMap$EntrySpliterator"), (0, .class_ 599), (0, u "java/util/HashMap$ValueSpliterator"), (0, .class_ 601), (0, u "java/util/HashMap$KeySpliterator"), (0, .class_ 603), (0, u "java/util/HashMap$HashMapSpliterator"), (0, .class_ 605), (0, u "java/util/HashMap$EntryIterator"), (0, .class_ 607), (0, u "java/util/HashMap$ValueIterator"), (0, .class_ 609), (0, u "java/util/HashMap$KeyIterator"), (0, .class_ 611), (0, u "java/util/HashMap$HashIterator")] 17

def k25c0 : Code := { maxStack := 3, maxLocals := 2, code := jdk_69_method_4_code, exceptionTable := #[], attributes := #[] }
def k25m0 : Method := { name := "tableSizeFor", desc := "(I)I", sig := { parameters := [.int], returnType := some .int }, accessFlags := 24, code := some k25c0 }
def k25c1 : Code := { maxStack := 4, maxLocals := 3, code := jdk_69_method_5_code, exceptionTable := #[], attributes := #[] }
def k25m1 : Method := { name := "<init>", desc := "(IF)V", sig := { parameters := [.int, .float], returnType := none }, accessFlags := 1, code := some k25c1 }
def k25m2 : Method := { name := "<init>", desc := "()V", sig := { parameters := [], returnType := none }, accessFlags := 1, code := none }
def k25c3 : Code := { maxStack := 1, maxLocals := 1, code := jdk_69_method_10_code, exceptionTable := #[], attributes := #[] }
def k25m3 : Method := { name := "size", desc := "()I", sig := { parameters := [], returnType := some .int }, accessFlags := 1, code := some k25c3 }
def k25m4 : Method := { name := "keySet", desc := "()Ljava/util/Set;", sig := { parameters := [], returnType := some (.object "java/util/Set") }, accessFlags := 1, code := none }
/-- java/util/HashMap -/
def k25 : Class := { plain "java/util/HashMap" (some 24) with
  accessFlags := 33
  interfaces := #[23, 19, 2]
  cf := some (fileOf pool25 40 #[.nestMembers #[180, 596, 598, 600, 602, 604, 606, 608, 610, 346, 268, 263, 243, 163]] #[{ accessFlags := 24, nameIndex := 87, descriptorIndex := 39, attributes := #[] }, { accessFlags := 1, nameIndex := 47, descriptorIndex := 95, attributes := #[] }, { accessFlags := 1, nameIndex := 47, descriptorIndex := 48, attributes := #[] }, { accessFlags := 1, nameIndex := 104, descriptorIndex := 6, attributes := #[] }, { accessFlags := 1, nameIndex := 241, descriptorIndex := 124, attributes := #[] }] 33 44 #[101, 392, 394] #[{ accessFlags := 26, nameIndex := 396, descriptorIndex := 397, attributes := #[] }, { accessFlags := 24, nameIndex := 401, descriptorIndex := 91, attributes := #[] }, { accessFlags := 24, nameIndex := 403, descriptorIndex := 91, attributes := #[] }, { accessFlags := 24, nameIndex := 404, descriptorIndex := 84, attributes := #[] }, { accessFlags := 24, nameIndex := 405, descriptorIndex := 91, attributes := #[] }, { accessFlags := 24, nameIndex := 407, descriptorIndex := 91, attributes := #[] }, { accessFlags := 24, nameIndex := 409, descriptorIndex := 91, attributes := #[] }, { accessFlags := 128, nameIndex := 107, descriptorIndex := 108, attributes := #[] }, { accessFlags := 128, nameIndex := 123, descriptorIndex := 242, attributes := #[] }, { accessFlags := 128, nameIndex := 104, descriptorIndex := 91, attributes := #[] }, { accessFlags := 128, nameIndex := 204, descriptorIndex := 91, attributes := #[] }, { accessFlags := 0, nameIndex := 90, descriptorIndex := 91, attributes := #[] }, { accessFlags := 16, nameIndex := 83, descriptorIndex := 84, attributes := #[] }])
  fields := #[{ name := "serialVersionUID", type := .long, accessFlags := 26, slot := 0, constantValue := 0 }, { name := "DEFAULT_INITIAL_CAPACITY", type := .int, accessFlags := 24, slot := 1, constantValue := 0 }, { name := "MAXIMUM_CAPACITY", type := .int, accessFlags := 24, slot := 2, constantValue := 0 }, { name := "DEFAULT_LOAD_FACTOR", type := .float, accessFlags := 24, slot := 3, constantValue := 0 }, { name := "TREEIFY_THRESHOLD", type := .int, accessFlags := 24, slot := 4, constantValue := 0 }, { name := "UNTREEIFY_THRESHOLD", type := .int, accessFlags := 24, slot := 5, constantValue := 0 }, { name := "MIN_TREEIFY_CAPACITY", type := .int, accessFlags := 24, slot := 6, constantValue := 0 }, { name := "table", type := (.array (.object "java/util/HashMap$Node")), accessFlags := 128, slot := 2, constantValue := 0 }, { name := "entrySet", type := (.object "java/util/Set"), accessFlags := 128, slot := 3, constantValue := 0 }, { name := "size", type := .int, accessFlags := 128, slot := 4, constantValue := 0 }, { name := "modCount", type := .int, accessFlags := 128, slot := 5, constantValue := 0 }, { name := "threshold", type := .int, accessFlags := 0, slot := 6, constantValue := 0 }, { name := "loadFactor", type := .float, accessFlags := 16, slot := 7, constantValue := 0 }]
  methods := #[k25m0, k25m1, k25m2, k25m3, k25m4]
  instanceTypes := #[(.object "java/util/Set"), (.object "java/util/Collection"), (.array (.object "java/util/HashMap$Node")), (.object "java/util/Set"), .int, .int, .int, .float]
  staticTypes := #[.long, .int, .int, .float, .int, .int, .int]
  resolved := Array.replicate 629 none
  statics := none }

def pool26 : Array CpInfo := pool [(2, .class_ 4), (1, u "java/util/SequencedMap"), (38, .class_ 44), (0, u "java/util/SequencedMap$1SeqKeySet"), (3, .class_ 49), (0, u "java/util/SequencedMap$1SeqValues"), (1, .class_ 52), (0, u "java/util/SequencedMap$1SeqEntrySet"), (1, .class_ 55), (0, u "java/lang/Object"), (0, .class_ 57), (0, u "java/util/Map")] 48

/-- java/util/SequencedMap -/
def k26 : Class := { plain "java/util/SequencedMap" (some 0) with
  accessFlags := 1537
  interfaces := #[23]
  cf := some (fileOf pool26 2 #[.nestMembers #[51, 48, 43]] #[] 1537 54 #[56] #[])
  fields := #[]
  methods := #[]
  instanceTypes := #[]
  staticTypes := #[]
  resolved := Array.replicate 106 none
  statics := none }

def pool27 : Array CpInfo := pool [(1, .fieldref 2 3), (0, .class_ 4), (0, .nameAndType 5 6), (0, u "java/util/LinkedHashMap"), (0, u "putMode"), (0, u "I"), (2, u "head"), (0, u "Ljava/util/LinkedHashMap$Entry;"), (2, u "tail"), (1, .class_ 17), (1, u "java/util/LinkedHashMap$Entry"), (5, .class_ 25), (1, u "java/util/HashMap"), (1, u "()V"), (2, u "<init>"), (33, .fieldref 2 65), (0, .nameAndType 66 67), (0, u "accessOrder"), (0, u "Z"), (13, .methodref 23 82), (0, .nameAndType 30 83), (0, u "(IF)V"), (29, .methodref 2 114), (0, .nameAndType 115 116), (0, u "sequencedKeySet"), (0, u "()Ljava/util/SequencedSet;"), (0, .fieldref 2 118), (0, .nameAndType 119 120), (0, u "keySet"), (0, u "Ljava/util/Set;"), (0, .class_ 122), (0, u "java/util/LinkedHashMap$LinkedKeySet"), (0, .methodref 121 124), (0, .nameAndType 30 125), (0, u "(Ljava/util/LinkedHashMap;Z)V"), (17, .class_ 144), (0, u "java/util/LinkedHashMap$LinkedValues"), (9, .class_ 155), (0, u "java/util/LinkedHashMap$LinkedEntrySet"), (44, .class_ 201), (0, u "java/util/LinkedHashMap$ReversedLinkedHashMapView"), (3, .class_ 206), (0, u "java/util/SequencedMap"), (0, u "serialVersionUID"), (0, u "J"), (5, u "PUT_NORM"), (1, u "PUT_FIRST"), (1, u "PUT_LAST"), (79, u "()Ljava/util/Set;"), (63, .class_ 363), (0, u "java/util/LinkedHashMap$LinkedEntryIterator"), (0, .class_ 365), (0, u "java/util/LinkedHashMap$LinkedValueIterator"), (0, .class_ 367), (0, u "java/util/LinkedHashMap$LinkedKeyIterator"), (0, .class_ 369), (0, u "java/util/LinkedHashMap$LinkedHashIterator")] 16

def k27c0 : Code := { maxStack := 3, maxLocals := 3, code := jdk_94_method_14_code, exceptionTable := #[], attributes := #[] }
def k27m0 : Method := { name := "<init>", desc := "(IF)V", sig := { parameters := [.int, .float], returnType := none }, accessFlags := 1, code := some k27c0 }
def k27m1 : Method := { name := "<init>", desc := "()V", sig := { parameters := [], returnType := none }, accessFlags := 1, code := none }
def k27c2 : Code := { maxStack := 1, maxLocals := 1, code := jdk_94_method_24_code, exceptionTable := #[], attributes := #[] }
def k27m2 : Method := { name := "keySet", desc := "()Ljava/util/Set;", sig := { parameters := [], returnType := some (.object "java/util/Set") }, accessFlags := 1, code := some k27c2 }
def k27c3 : Code := { maxStack := 4, maxLocals := 3, code := jdk_94_method_25_code, exceptionTable := #[], attributes := #[] }
def k27m3 : Method := { name := "sequencedKeySet", desc := "()Ljava/util/SequencedSet;", sig := { parameters := [], returnType := some (.object "java/util/SequencedSet") }, accessFlags := 1, code := some k27c3 }
/-- java/util/LinkedHashMap -/
def k27 : Class := { plain "java/util/LinkedHashMap" (some 25) with
  accessFlags := 33
  interfaces := #[26]
  cf := some (fileOf pool27 2 #[.nestMembers #[200, 362, 364, 366, 368, 154, 143, 121, 15]] #[{ accessFlags := 1, nameIndex := 30, descriptorIndex := 83, attributes := #[] }, { accessFlags := 1, nameIndex := 30, descriptorIndex := 27, attributes := #[] }, { accessFlags := 1, nameIndex := 119, descriptorIndex := 298, attributes := #[] }, { accessFlags := 1, nameIndex := 115, descriptorIndex := 116, attributes := #[] }] 33 23 #[205] #[{ accessFlags := 26, nameIndex := 207, descriptorIndex := 208, attributes := #[] }, { accessFlags := 128, nameIndex := 9, descriptorIndex := 10, attributes := #[] }, { accessFlags := 128, nameIndex := 13, descriptorIndex := 10, attributes := #[] }, { accessFlags := 16, nameIndex := 66, descriptorIndex := 67, attributes := #[] }, { accessFlags := 24, nameIndex := 214, descriptorIndex := 6, attributes := #[] }, { accessFlags := 24, nameIndex := 216, descriptorIndex := 6, attributes := #[] }, { accessFlags := 24, nameIndex := 218, descriptorIndex := 6, attributes := #[] }, { accessFlags := 128, nameIndex := 5, descriptorIndex := 6, attributes := #[] }])
  fields := #[{ name := "serialVersionUID", type := .long, accessFlags := 26, slot := 0, constantValue := 0 }, { name := "head", type := (.object "java/util/LinkedHashMap$Entry"), accessFlags := 128, slot := 8, constantValue := 0 }, { name := "tail", type := (.object "java/util/LinkedHashMap$Entry"), accessFlags := 128, slot := 9, constantValue := 0 }, { name := "accessOrder", type := .boolean, accessFlags := 16, slot := 10, constantValue := 0 }, { name := "PUT_NORM", type := .int, accessFlags := 24, slot := 1, constantValue := 0 }, { name := "PUT_FIRST", type := .int, accessFlags := 24, slot := 2, constantValue := 0 }, { name := "PUT_LAST", type := .int, accessFlags := 24, slot := 3, constantValue := 0 }, { name := "putMode", type := .int, accessFlags := 128, slot := 11, constantValue := 0 }]
  methods := #[k27m0, k27m1, k27m2, k27m3]
  instanceTypes := #[(.object "java/util/Set"), (.object "java/util/Collection"), (.array (.object "java/util/HashMap$Node")), (.object "java/util/Set"), .int, .int, .int, .float, (.object "java/util/LinkedHashMap$Entry"), (.object "java/util/LinkedHashMap$Entry"), .boolean, .int]
  staticTypes := #[.long, .int, .int, .int]
  resolved := Array.replicate 386 none
  statics := none }

def pool28 : Array CpInfo := pool [(2, .class_ 4), (1, u "java/lang/Object"), (0, u "<init>"), (0, u "()V"), (1, .class_ 10), (1, u "java/lang/Number"), (2, .class_ 14), (0, u "java/io/Serializable"), (0, u "serialVersionUID"), (0, u "J")] 20

def k28m0 : Method := { name := "<init>", desc := "()V", sig := { parameters := [], returnType := none }, accessFlags := 1, code := none }
/-- java/lang/Number -/
def k28 : Class := { plain "java/lang/Number" (some 0) with
  accessFlags := 1057
  interfaces := #[2]
  cf := some (fileOf pool28 8 #[] #[{ accessFlags := 1, nameIndex := 5, descriptorIndex := 6, attributes := #[] }] 1057 2 #[13] #[{ accessFlags := 26, nameIndex := 15, descriptorIndex := 16, attributes := #[] }])
  fields := #[{ name := "serialVersionUID", type := .long, accessFlags := 26, slot := 0, constantValue := 0 }]
  methods := #[k28m0]
  instanceTypes := #[]
  staticTypes := #[.long]
  resolved := Array.replicate 37 none
  statics := none }

def pool29 : Array CpInfo := pool [(1, .class_ 2), (0, u "java/lang/Float"), (48, .class_ 53), (1, u "java/lang/Number"), (3, u "value"), (0, u "F"), (2, u "isNaN"), (0, u "(F)Z"), (28, u "$assertionsDisabled"), (0, u "Z"), (52, u "TYPE"), (0, u "Ljava/lang/Class;"), (0, .class_ 148), (0, u "java/lang/Comparable"), (0, .class_ 150), (0, u "java/lang/constant/Constable"), (0, .class_ 152), (0, u "java/lang/constant/ConstantDesc"), (0, u "POSITIVE_INFINITY"), (1, u "NEGATIVE_INFINITY"), (1, u "NaN"), (1, u "MAX_VALUE"), (0, u "MIN_NORMAL"), (0, u "MIN_VALUE"), (1, u "SIZE"), (0, u "I"), (1, u "PRECISION"), (1, u "MAX_EXPONENT"), (1, u "MIN_EXPONENT"), (1, u "BYTES"), (3, u "serialVersionUID"), (0, u "J")] 101

def k29c0 : Code := { maxStack := 2, maxLocals := 1, code := jdk_118_method_6_code, exceptionTable := #[], attributes := #[] }
def k29m0 : Method := { name := "isNaN", desc := "(F)Z", sig := { parameters := [.float], returnType := some .boolean }, accessFlags := 9, code := some k29c0 }
/-- java/lang/Float -/
def k29 : Class := { plain "java/lang/Float" (some 28) with
  accessFlags := 49
  interfaces := #[3, 5, 6]
  cf := some (fileOf pool29 1 #[] #[{ accessFlags := 9, nameIndex := 61, descriptorIndex := 62, attributes := #[] }] 49 51 #[147, 149, 151] #[{ accessFlags := 25, nameIndex := 153, descriptorIndex := 58, attributes := #[] }, { accessFlags := 25, nameIndex := 155, descriptorIndex := 58, attributes := #[] }, { accessFlags := 25, nameIndex := 157, descriptorIndex := 58, attributes := #[] }, { accessFlags := 25, nameIndex := 159, descriptorIndex := 58, attributes := #[] }, { accessFlags := 25, nameIndex := 160, descriptorIndex := 58, attributes := #[] }, { accessFlags := 25, nameIndex := 161, descriptorIndex := 58, attributes := #[] }, { accessFlags := 25, nameIndex := 163, descriptorIndex := 164, attributes := #[] }, { accessFlags := 25, nameIndex := 166, descriptorIndex := 164, attributes := #[] }, { accessFlags := 25, nameIndex := 168, descriptorIndex := 164, attributes := #[] }, { accessFlags := 25, nameIndex := 170, descriptorIndex := 164, attributes := #[] }, { accessFlags := 25, nameIndex := 172, descriptorIndex := 164, attributes := #[] }, { accessFlags := 25, nameIndex := 145, descriptorIndex := 146, attributes := #[] }, { accessFlags := 18, nameIndex := 57, descriptorIndex := 58, attributes := #[] }, { accessFlags := 26, nameIndex := 176, descriptorIndex := 177, attributes := #[] }, { accessFlags := 4120, nameIndex := 91, descriptorIndex := 92, attributes := #[] }])
  fields := #[{ name := "POSITIVE_INFINITY", type := .float, accessFlags := 25, slot := 0, constantValue := 0 }, { name := "NEGATIVE_INFINITY", type := .float, accessFlags := 25, slot := 1, constantValue := 0 }, { name := "NaN", type := .float, accessFlags := 25, slot := 2, constantValue := 0 }, { name := "MAX_VALUE", type := .float, accessFlags := 25, slot := 3, constantValue := 0 }, { name := "MIN_NORMAL", type := .float, accessFlags := 25, slot := 4, constantValue := 0 }, { name := "MIN_VALUE", type := .float, accessFlags := 25, slot := 5, constantValue := 0 }, { name := "SIZE", type := .int, accessFlags := 25, slot := 6, constantValue := 0 }, { name := "PRECISION", type := .int, accessFlags := 25, slot := 7, constantValue := 0 }, { name := "MAX_EXPONENT", type := .int, accessFlags := 25, slot := 8, constantValue := 0 }, { name := "MIN_EXPONENT", type := .int, accessFlags := 25, slot := 9, constantValue := 0 }, { name := "BYTES", type := .int, accessFlags := 25, slot := 10, constantValue := 0 }, { name := "TYPE", type := (.object "java/lang/Class"), accessFlags := 25, slot := 11, constantValue := 0 }, { name := "value", type := .float, accessFlags := 18, slot := 0, constantValue := 0 }, { name := "serialVersionUID", type := .long, accessFlags := 26, slot := 12, constantValue := 0 }, { name := "$assertionsDisabled", type := .boolean, accessFlags := 4120, slot := 13, constantValue := 0 }]
  methods := #[k29m0]
  instanceTypes := #[.float]
  staticTypes := #[.float, .float, .float, .float, .float, .float, .int, .int, .int, .int, .int, (.object "java/lang/Class"), .long, .boolean]
  resolved := Array.replicate 279 none
  statics := none }

def pool30 : Array CpInfo := pool [(1, .class_ 2), (0, u "java/lang/Integer"), (16, u "digits"), (0, u "[C"), (32, u "numberOfLeadingZeros"), (0, u "(I)I"), (30, u "DigitOnes"), (0, u "[B"), (2, u "DigitTens"), (99, .class_ 190), (0, u "java/lang/Integer$IntegerCache"), (3, u "I"), (8, .class_ 204), (0, u "java/lang/Number"), (2, u "value"), (56, .integer 65536), (37, u "TYPE"), (0, u "Ljava/lang/Class;"), (0, .class_ 305), (0, u "java/lang/Comparable"), (0, .class_ 307), (0, u "java/lang/constant/Constable"), (0, .class_ 309), (0, u "java/lang/constant/ConstantDesc"), (0, u "MIN_VALUE"), (1, u "MAX_VALUE"), (3, u "SIZE"), (1, u "BYTES"), (1, u "serialVersionUID"), (0, u "J")] 131

def k30c0 : Code := { maxStack := 3, maxLocals := 2, code := jdk_33_method_47_code, exceptionTable := #[], attributes := #[] }
def k30m0 : Method := { name := "numberOfLeadingZeros", desc := "(I)I", sig := { parameters := [.int], returnType := some .int }, accessFlags := 9, code := some k30c0 }
/-- java/lang/Integer -/
def k30 : Class := { plain "java/lang/Integer" (some 28) with
  accessFlags := 49
  interfaces := #[3, 5, 6]
  cf := some (fileOf pool30 1 #[.nestMembers #[189]] #[{ accessFlags := 9, nameIndex := 53, descriptorIndex := 54, attributes := #[] }] 49 203 #[304, 306, 308] #[{ accessFlags := 25, nameIndex := 310, descriptorIndex := 194, attributes := #[] }, { accessFlags := 25, nameIndex := 312, descriptorIndex := 194, attributes := #[] }, { accessFlags := 25, nameIndex := 302, descriptorIndex := 303, attributes := #[] }, { accessFlags := 24, nameIndex := 19, descriptorIndex := 20, attributes := #[] }, { accessFlags := 24, nameIndex := 89, descriptorIndex := 86, attributes := #[] }, { accessFlags := 24, nameIndex := 85, descriptorIndex := 86, attributes := #[] }, { accessFlags := 18, nameIndex := 207, descriptorIndex := 194, attributes := #[] }, { accessFlags := 25, nameIndex := 316, descriptorIndex := 194, attributes := #[] }, { accessFlags := 25, nameIndex := 318, descriptorIndex := 194, attributes := #[] }, { accessFlags := 26, nameIndex := 320, descriptorIndex := 321, attributes := #[] }])
  fields := #[{ name := "MIN_VALUE", type := .int, accessFlags := 25, slot := 0, constantValue := 0 }, { name := "MAX_VALUE", type := .int, accessFlags := 25, slot := 1, constantValue := 0 }, { name := "TYPE", type := (.object "java/lang/Class"), accessFlags := 25, slot := 2, constantValue := 0 }, { name := "digits", type := (.array .char), accessFlags := 24, slot := 3, constantValue := 0 }, { name := "DigitTens", type := (.array .byte), accessFlags := 24, slot := 4, constantValue := 0 }, { name := "DigitOnes", type := (.array .byte), accessFlags := 24, slot := 5, constantValue := 0 }, { name := "value", type := .int, accessFlags := 18, slot := 0, constantValue := 0 }, { name := "SIZE", type := .int, accessFlags := 25, slot := 6, constantValue := 0 }, { name := "BYTES", type := .int, accessFlags := 25, slot := 7, constantValue := 0 }, { name := "serialVersionUID", type := .long, accessFlags := 26, slot := 8, constantValue := 0 }]
  methods := #[k30m0]
  instanceTypes := #[.int]
  staticTypes := #[.int, .int, (.object "java/lang/Class"), (.array .char), (.array .byte), (.array .byte), .int, .int, .long]
  resolved := Array.replicate 453 none
  statics := none }

def pool31 : Array CpInfo := pool [(2, .class_ 4), (1, u "java/util/AbstractCollection"), (0, u "<init>"), (0, u "()V"), (1, .class_ 10), (1, u "java/util/ImmutableCollections"), (2, .class_ 14), (0, u "java/util/ImmutableCollections$AbstractImmutableCollection")] 41

def k31m0 : Method := { name := "<init>", desc := "()V", sig := { parameters := [], returnType := none }, accessFlags := 0, code := none }
/-- java/util/ImmutableCollections$AbstractImmutableCollection -/
def k31 : Class := { plain "java/util/ImmutableCollections$AbstractImmutableCollection" (some 16) with
  accessFlags := 1056
  interfaces := #[]
  cf := some (fileOf pool31 13 #[.nestHost 8] #[{ accessFlags := 0, nameIndex := 5, descriptorIndex := 6, attributes := #[] }] 1056 2 #[] #[])
  fields := #[]
  methods := #[k31m0]
  instanceTypes := #[]
  staticTypes := #[]
  resolved := Array.replicate 56 none
  statics := none }

def pool32 : Array CpInfo := pool [(1, .class_ 2), (0, u "java/util/RandomAccess"), (0, .class_ 4), (0, u "java/lang/Object")] 2

/-- java/util/RandomAccess -/
def k32 : Class := { plain "java/util/RandomAccess" (some 0) with
  accessFlags := 1537
  interfaces := #[]
  cf := some (fileOf pool32 1 #[] #[] 1537 3 #[] #[])
  fields := #[]
  methods := #[]
  instanceTypes := #[]
  staticTypes := #[]
  resolved := Array.replicate 7 none
  statics := none }

def pool33 : Array CpInfo := pool [(2, .class_ 4), (1, u "java/util/ImmutableCollections$AbstractImmutableCollection"), (0, u "<init>"), (0, u "()V"), (1, .class_ 10), (1, u "java/util/ImmutableCollections"), (2, .methodref 14 15), (0, .class_ 16), (0, .nameAndType 17 18), (0, u "java/util/ImmutableCollections$AbstractImmutableList"), (0, u "size"), (0, u "()I"), (42, .class_ 62), (0, u "java/util/ImmutableCollections$ListItr"), (0, .methodref 61 64), (0, .nameAndType 5 65), (0, u "(Ljava/util/List;I)V"), (11, .class_ 78), (0, u "java/util/List"), (2, u "iterator"), (0, u "()Ljava/util/Iterator;"), (41, .class_ 125), (0, u "java/util/RandomAccess")] 70

def k33m0 : Method := { name := "<init>", desc := "()V", sig := { parameters := [], returnType := none }, accessFlags := 0, code := none }
def k33c1 : Code := { maxStack := 4, maxLocals := 1, code := jdk_46_method_10_code, exceptionTable := #[], attributes := #[] }
def k33m1 : Method := { name := "iterator", desc := "()Ljava/util/Iterator;", sig := { parameters := [], returnType := some (.object "java/util/Iterator") }, accessFlags := 1, code := some k33c1 }
/-- java/util/ImmutableCollections$AbstractImmutableList -/
def k33 : Class := { plain "java/util/ImmutableCollections$AbstractImmutableList" (some 31) with
  accessFlags := 1056
  interfaces := #[14, 32]
  cf := some (fileOf pool33 14 #[.nestHost 8] #[{ accessFlags := 0, nameIndex := 5, descriptorIndex := 6, attributes := #[] }, { accessFlags := 1, nameIndex := 81, descriptorIndex := 82, attributes := #[] }] 1056 2 #[77, 124] #[])
  fields := #[]
  methods := #[k33m0, k33m1]
  instanceTypes := #[]
  staticTypes := #[]
  resolved := Array.replicate 196 none
  statics := none }

def pool34 : Array CpInfo := pool [(2, .class_ 4), (1, u "java/util/ImmutableCollections$AbstractImmutableList"), (2, .fieldref 8 9), (0, .class_ 10), (0, .nameAndType 11 12), (0, u "java/util/ImmutableCollections$ListN"), (0, u "elements"), (0, u "[Ljava/lang/Object;"), (2, u "allowNulls"), (0, u "Z"), (42, .class_ 60), (0, u "java/io/Serializable"), (16, u "size"), (0, u "()I"), (35, .class_ 115), (0, u "java/util/ImmutableCollections")] 3

def k34c0 : Code := { maxStack := 1, maxLocals := 1, code := jdk_45_method_3_code, exceptionTable := #[], attributes := #[] }
def k34m0 : Method := { name := "size", desc := "()I", sig := { parameters := [], returnType := some .int }, accessFlags := 1, code := some k34c0 }
/-- java/util/ImmutableCollections$ListN -/
def k34 : Class := { plain "java/util/ImmutableCollections$ListN" (some 33) with
  accessFlags := 48
  interfaces := #[2]
  cf := some (fileOf pool34 8 #[.nestHost 114] #[{ accessFlags := 1, nameIndex := 77, descriptorIndex := 78, attributes := #[] }] 48 2 #[59] #[{ accessFlags := 18, nameIndex := 11, descriptorIndex := 12, attributes := #[] }, { accessFlags := 18, nameIndex := 15, descriptorIndex := 16, attributes := #[] }])
  fields := #[{ name := "elements", type := (.array (.object "java/lang/Object")), accessFlags := 18, slot := 0, constantValue := 0 }, { name := "allowNulls", type := .boolean, accessFlags := 18, slot := 1, constantValue := 0 }]
  methods := #[k34m0]
  instanceTypes := #[(.array (.object "java/lang/Object")), .boolean]
  staticTypes := #[]
  resolved := Array.replicate 119 none
  statics := none }

def pool35 : Array CpInfo := pool [(16, .class_ 18), (1, u "java/util/Iterator"), (0, u "hasNext"), (0, u "()Z"), (10, .class_ 32), (0, u "java/lang/Object")] 20

def k35m0 : Method := { name := "hasNext", desc := "()Z", sig := { parameters := [], returnType := some .boolean }, accessFlags := 1025, code := none }
/-- java/util/Iterator -/
def k35 : Class := { plain "java/util/Iterator" (some 0) with
  accessFlags := 1537
  interfaces := #[]
  cf := some (fileOf pool35 16 #[] #[{ accessFlags := 1025, nameIndex := 19, descriptorIndex := 20, attributes := #[] }] 1537 31 #[] #[])
  fields := #[]
  methods := #[k35m0]
  instanceTypes := #[]
  staticTypes := #[]
  resolved := Array.replicate 53 none
  statics := none }

def pool36 : Array CpInfo := pool [(1, .class_ 2), (0, u "java/util/ListIterator"), (0, .class_ 4), (0, u "java/lang/Object"), (0, .class_ 6), (0, u "java/util/Iterator")] 20

/-- java/util/ListIterator -/
def k36 : Class := { plain "java/util/ListIterator" (some 0) with
  accessFlags := 1537
  interfaces := #[35]
  cf := some (fileOf pool36 1 #[] #[] 1537 3 #[5] #[])
  fields := #[]
  methods := #[]
  instanceTypes := #[]
  staticTypes := #[]
  resolved := Array.replicate 27 none
  statics := none }

def pool37 : Array CpInfo := pool [(1, .methodref 2 3), (0, .class_ 4), (0, .nameAndType 5 6), (0, u "java/lang/Object"), (0, u "<init>"), (0, u "()V"), (0, .fieldref 8 9), (0, .class_ 10), (0, .nameAndType 11 12), (0, u "java/util/ImmutableCollections$ListItr"), (0, u "list"), (0, u "Ljava/util/List;"), (0, .fieldref 8 14), (0, .nameAndType 15 16), (0, u "size"), (0, u "I"), (0, .fieldref 8 18), (0, .nameAndType 19 16), (0, u "cursor"), (0, .fieldref 8 21), (0, .nameAndType 22 23), (0, u "isListIterator"), (0, u "Z"), (12, .class_ 38), (1, u "java/util/ImmutableCollections"), (2, .class_ 42), (0, u "java/util/ListIterator"), (4, u "(Ljava/util/List;I)V"), (11, u "hasNext"), (0, u "()Z")] 25

def k37c0 : Code := { maxStack := 2, maxLocals := 3, code := jdk_53_method_1_code, exceptionTable := #[], attributes := #[] }
def k37m0 : Method := { name := "<init>", desc := "(Ljava/util/List;I)V", sig := { parameters := [(.object "java/util/List"), .int], returnType := none }, accessFlags := 0, code := some k37c0 }
def k37c1 : Code := { maxStack := 2, maxLocals := 1, code := jdk_53_method_3_code, exceptionTable := #[], attributes := #[] }
def k37m1 : Method := { name := "hasNext", desc := "()Z", sig := { parameters := [], returnType := some .boolean }, accessFlags := 1, code := some k37c1 }
/-- java/util/ImmutableCollections$ListItr -/
def k37 : Class := { plain "java/util/ImmutableCollections$ListItr" (some 0) with
  accessFlags := 48
  interfaces := #[36]
  cf := some (fileOf pool37 8 #[.nestHost 36] #[{ accessFlags := 0, nameIndex := 5, descriptorIndex := 47, attributes := #[] }, { accessFlags := 1, nameIndex := 59, descriptorIndex := 60, attributes := #[] }] 48 2 #[41] #[{ accessFlags := 18, nameIndex := 11, descriptorIndex := 12, attributes := #[] }, { accessFlags := 18, nameIndex := 15, descriptorIndex := 16, attributes := #[] }, { accessFlags := 18, nameIndex := 22, descriptorIndex := 23, attributes := #[] }, { accessFlags := 2, nameIndex := 19, descriptorIndex := 16, attributes := #[] }])
  fields := #[{ name := "list", type := (.object "java/util/List"), accessFlags := 18, slot := 0, constantValue := 0 }, { name := "size", type := .int, accessFlags := 18, slot := 1, constantValue := 0 }, { name := "isListIterator", type := .boolean, accessFlags := 18, slot := 2, constantValue := 0 }, { name := "cursor", type := .int, accessFlags := 2, slot := 3, constantValue := 0 }]
  methods := #[k37m0, k37m1]
  instanceTypes := #[(.object "java/util/List"), .int, .boolean, .int]
  staticTypes := #[]
  resolved := Array.replicate 86 none
  statics := none }

def pool38 : Array CpInfo := pool [(2, .class_ 4), (1, u "java/lang/Object"), (0, u "<init>"), (0, u "()V"), (12, .class_ 20), (0, u "java/util/Collections"), (63, u "r"), (0, u "Ljava/util/Random;"), (77, .nameAndType 164 165), (0, u "getClass"), (0, u "()Ljava/lang/Class;"), (0, .class_ 167), (0, u "java/util/Collections$UnmodifiableCollection"), (6, .class_ 175), (0, u "java/util/Collections$UnmodifiableSequencedCollection"), (3, .interfaceMethodref 180 163), (0, .class_ 181), (0, u "java/util/Set"), (0, .class_ 183), (0, u "java/util/Collections$UnmodifiableSet"), (0, .methodref 182 185), (0, .nameAndType 5 186), (0, u "(Ljava/util/Set;)V"), (3, .class_ 191), (0, u "java/util/Collections$UnmodifiableSequencedSet"), (6, .class_ 199), (0, u "java/util/Collections$UnmodifiableSortedSet"), (6, .class_ 207), (0, u "java/util/Collections$UnmodifiableNavigableSet"), (4, .class_ 213), (0, u "java/util/Collections$UnmodifiableList"), (1, .class_ 216), (0, u "java/util/Collections$UnmodifiableRandomAccessList"), (6, .class_ 224), (0, u "java/util/Collections$UnmodifiableMap"), (6, .class_ 232), (0, u "java/util/Collections$UnmodifiableSequencedMap"), (4, .class_ 238), (0, u "java/util/Collections$UnmodifiableSortedMap"), (6, .class_ 246), (0, u "java/util/Collections$UnmodifiableNavigableMap"), (3, .class_ 251), (0, u "java/util/Collections$SynchronizedCollection"), (4, .class_ 257), (0, u "java/util/Collections$SynchronizedSet"), (4, .class_ 263), (0, u "java/util/Collections$SynchronizedSortedSet"), (1, .class_ 266), (0, u "java/util/Collections$SynchronizedNavigableSet"), (1, .class_ 269), (0, u "java/util/Collections$SynchronizedRandomAccessList"), (1, .class_ 272), (0, u "java/util/Collections$SynchronizedList"), (5, .class_ 279), (0, u "java/util/Collections$SynchronizedMap"), (1, .class_ 282), (0, u "java/util/Collections$SynchronizedSortedMap"), (1, .class_ 285), (0, u "java/util/Collections$SynchronizedNavigableMap"), (1, .class_ 288), (0, u "java/util/Collections$CheckedCollection"), (11, .class_ 301), (0, u "java/util/Collections$CheckedQueue"), (3, .class_ 306), (0, u "java/util/Collections$CheckedSet"), (3, .class_ 311), (0, u "java/util/Collections$CheckedSortedSet"), (3, .class_ 316), (0, u "java/util/Collections$CheckedNavigableSet"), (3, .class_ 321), (0, u "java/util/Collections$CheckedRandomAccessList"), (3, .class_ 326), (0, u "java/util/Collections$CheckedList"), (1, .class_ 329), (0, u "java/util/Collections$CheckedMap"), (3, .class_ 334), (0, u "java/util/Collections$CheckedSortedMap"), (3, .class_ 339), (0, u "java/util/Collections$CheckedNavigableMap"), (4, .class_ 346), (1, u "java/util/Collections$EmptyIterator"), (3, .class_ 352), (1, u "java/util/Collections$EmptyListIterator"), (2, .class_ 357), (1, u "java/util/Collections$EmptyEnumeration"), (4, u "EMPTY_SET"), (0, u "Ljava/util/Set;"), (6, u "EMPTY_LIST"), (0, u "Ljava/util/List;"), (2, u "EMPTY_MAP"), (0, u "Ljava/util/Map;"), (4, .class_ 381), (0, u "java/util/Collections$SingletonSet"), (2, .class_ 385), (0, u "java/util/Collections$1"), (1, .class_ 388), (0, u "java/util/Collections$2"), (1, .class_ 391), (0, u "java/util/Collections$SingletonList"), (1, .class_ 394), (0, u "java/util/Collections$SingletonMap"), (22, .class_ 418), (0, u "java/util/Collections$CopiesList"), (4, .class_ 425), (1, u "java/util/Collections$ReverseComparator"), (8, .class_ 435), (0, u "java/util/Collections$ReverseComparator2"), (6, .class_ 443), (0, u "java/util/Collections$3"), (25, .class_ 470), (0, u "java/util/Collections$SetFromMap"), (2, .class_ 474), (0, u "java/util/Collections$SequencedSetFromMap"), (3, .class_ 479), (0, u "java/util/Collections$AsLIFOQueue"), (11, .class_ 492), (0, u "java/util/Collections$EmptySet"), (1, .class_ 495), (0, u "java/util/Collections$EmptyList"), (1, .class_ 498), (0, u "java/util/Collections$EmptyMap"), (1, u "BINARYSEARCH_THRESHOLD"), (0, u "I"), (2, u "REVERSE_THRESHOLD"), (1, u "SHUFFLE_THRESHOLD"), (1, u "FILL_THRESHOLD"), (1, u "ROTATE_THRESHOLD"), (1, u "COPY_THRESHOLD"), (1, u "REPLACEALL_THRESHOLD"), (1, u "INDEXOFSUBLIST_THRESHOLD"), (110, u "unmodifiableSet"), (0, u "(Ljava/util/Set;)Ljava/util/Set;"), (221, .class_ 851), (0, u "java/util/Collections$CheckedMap$CheckedEntrySet"), (0, .class_ 853), (0, u "java/util/Collections$CheckedMap$CheckedEntrySet$CheckedEntry"), (0, .class_ 855), (0, u "java/util/Collections$CheckedMap$CheckedEntrySet$1"), (0, .class_ 857), (0, u "java/util/Collections$CheckedList$1"), (0, .class_ 859), (0, u "java/util/Collections$CheckedCollection$1"), (0, .class_ 861), (0, u "java/util/Collections$UnmodifiableNavigableMap$EmptyNavigableMap"), (0, .class_ 863), (0, u "java/util/Collections$UnmodifiableMap$UnmodifiableEntrySet"), (0, .class_ 865), (0, u "java/util/Collections$UnmodifiableMap$UnmodifiableEntrySet$UnmodifiableEntry"), (0, .class_ 867), (0, u "java/util/Collections$UnmodifiableMap$UnmodifiableEntrySet$UnmodifiableEntrySetSpliterator"), (0, .class_ 869), (0, u "java/util/Collections$UnmodifiableMap$UnmodifiableEntrySet$1"), (0, .class_ 871), (0, u "java/util/Collections$UnmodifiableList$1"), (0, .class_ 873), (0, u "java/util/Collections$UnmodifiableNavigableSet$EmptyNavigableSet"), (0, .class_ 875), (0, u "java/util/Collections$UnmodifiableCollection$1")] 57

def k38m0 : Method := { name := "<init>", desc := "()V", sig := { parameters := [], returnType := none }, accessFlags := 2, code := none }
def k38c1 : Code := { maxStack := 3, maxLocals := 1, code := jdk_79_method_31_code, exceptionTable := #[], attributes := #[] }
def k38m1 : Method := { name := "unmodifiableSet", desc := "(Ljava/util/Set;)Ljava/util/Set;", sig := { parameters := [(.object "java/util/Set")], returnType := some (.object "java/util/Set") }, accessFlags := 9, code := some k38c1 }
/-- java/util/Collections -/
def k38 : Class := { plain "java/util/Collections" (some 0) with
  accessFlags := 33
  interfaces := #[]
  cf := some (fileOf pool38 19 #[.nestMembers #[478, 473, 469, 434, 423, 417, 393, 390, 380, 497, 494, 491, 355, 350, 344, 338, 333, 328, 850, 852, 854, 320, 325, 856, 315, 310, 305, 300, 287, 858, 284, 281, 278, 268, 271, 265, 262, 256, 250, 245, 860, 237, 231, 223, 862, 864, 866, 868, 215, 212, 870, 206, 872, 198, 190, 182, 174, 166, 874, 442, 387, 384]] #[{ accessFlags := 2, nameIndex := 5, descriptorIndex := 6, attributes := #[] }, { accessFlags := 9, nameIndex := 627, descriptorIndex := 628, attributes := #[] }] 33 2 #[] #[{ accessFlags := 26, nameIndex := 500, descriptorIndex := 501, attributes := #[] }, { accessFlags := 26, nameIndex := 504, descriptorIndex := 501, attributes := #[] }, { accessFlags := 26, nameIndex := 506, descriptorIndex := 501, attributes := #[] }, { accessFlags := 26, nameIndex := 508, descriptorIndex := 501, attributes := #[] }, { accessFlags := 26, nameIndex := 510, descriptorIndex := 501, attributes := #[] }, { accessFlags := 26, nameIndex := 512, descriptorIndex := 501, attributes := #[] }, { accessFlags := 26, nameIndex := 514, descriptorIndex := 501, attributes := #[] }, { accessFlags := 26, nameIndex := 516, descriptorIndex := 501, attributes := #[] }, { accessFlags := 10, nameIndex := 84, descriptorIndex := 85, attributes := #[] }, { accessFlags := 25, nameIndex := 362, descriptorIndex := 363, attributes := #[] }, { accessFlags := 25, nameIndex := 370, descriptorIndex := 371, attributes := #[] }, { accessFlags := 25, nameIndex := 374, descriptorIndex := 375, attributes := #[] }])
  fields := #[{ name := "BINARYSEARCH_THRESHOLD", type := .int, accessFlags := 26, slot := 0, constantValue := 0 }, { name := "REVERSE_THRESHOLD", type := .int, accessFlags := 26, slot := 1, constantValue := 0 }, { name := "SHUFFLE_THRESHOLD", type := .int, accessFlags := 26, slot := 2, constantValue := 0 }, { name := "FILL_THRESHOLD", type := .int, accessFlags := 26, slot := 3, constantValue := 0 }, { name := "ROTATE_THRESHOLD", type := .int, accessFlags := 26, slot := 4, constantValue := 0 }, { name := "COPY_THRESHOLD", type := .int, accessFlags := 26, slot := 5, constantValue := 0 }, { name := "REPLACEALL_THRESHOLD", type := .int, accessFlags := 26, slot := 6, constantValue := 0 }, { name := "INDEXOFSUBLIST_THRESHOLD", type := .int, accessFlags := 26, slot := 7, constantValue := 0 }, { name := "r", type := (.object "java/util/Random"), accessFlags := 10, slot := 8, constantValue := 0 }, { name := "EMPTY_SET", type := (.object "java/util/Set"), accessFlags := 25, slot := 9, constantValue := 0 }, { name := "EMPTY_LIST", type := (.object "java/util/List"), accessFlags := 25, slot := 10, constantValue := 0 }, { name := "EMPTY_MAP", type := (.object "java/util/Map"), accessFlags := 25, slot := 11, constantValue := 0 }]
  methods := #[k38m0, k38m1]
  instanceTypes := #[]
  staticTypes := #[.int, .int, .int, .int, .int, .int, .int, .int, (.object "java/util/Random"), (.object "java/util/Set"), (.object "java/util/List"), (.object "java/util/Map")]
  resolved := Array.replicate 933 none
  statics := none }

def pool39 : Array CpInfo := pool [(1, .methodref 2 3), (0, .class_ 4), (0, .nameAndType 5 6), (0, u "java/lang/Object"), (0, u "<init>"), (0, u "()V"), (3, .fieldref 11 12), (0, .class_ 13), (0, .nameAndType 14 15), (0, u "java/util/Collections$UnmodifiableCollection"), (0, u "c"), (0, u "Ljava/util/Collection;"), (0, .interfaceMethodref 17 18), (0, .class_ 19), (0, .nameAndType 20 21), (0, u "java/util/Collection"), (0, u "size"), (0, u "()I"), (22, .class_ 45), (0, u "java/util/Collections$UnmodifiableCollection$1"), (0, .methodref 44 47), (0, .nameAndType 5 48), (0, u "(Ljava/util/Collections$UnmodifiableCollection;)V"), (22, .class_ 72), (0, u "java/io/Serializable"), (0, u "serialVersionUID"), (0, u "J"), (5, u "(Ljava/util/Collection;)V"), (19, u "iterator"), (0, u "()Ljava/util/Iterator;"), (30, .class_ 133), (0, u "java/util/Collections")] 2

def k39c0 : Code := { maxStack := 2, maxLocals := 2, code := jdk_119_method_1_code, exceptionTable := #[], attributes := #[] }
def k39m0 : Method := { name := "<init>", desc := "(Ljava/util/Collection;)V", sig := { parameters := [(.object "java/util/Collection")], returnType := none }, accessFlags := 0, code := some k39c0 }
def k39c1 : Code := { maxStack := 1, maxLocals := 1, code := jdk_119_method_2_code, exceptionTable := #[], attributes := #[] }
def k39m1 : Method := { name := "size", desc := "()I", sig := { parameters := [], returnType := some .int }, accessFlags := 1, code := some k39c1 }
def k39c2 : Code := { maxStack := 3, maxLocals := 1, code := jdk_119_method_9_code, exceptionTable := #[], attributes := #[] }
def k39m2 : Method := { name := "iterator", desc := "()Ljava/util/Iterator;", sig := { parameters := [], returnType := some (.object "java/util/Iterator") }, accessFlags := 1, code := some k39c2 }
/-- java/util/Collections$UnmodifiableCollection -/
def k39 : Class := { plain "java/util/Collections$UnmodifiableCollection" (some 0) with
  accessFlags := 32
  interfaces := #[12, 2]
  cf := some (fileOf pool39 11 #[.nestHost 132] #[{ accessFlags := 0, nameIndex := 5, descriptorIndex := 80, attributes := #[] }, { accessFlags := 1, nameIndex := 20, descriptorIndex := 21, attributes := #[] }, { accessFlags := 1, nameIndex := 100, descriptorIndex := 101, attributes := #[] }] 32 2 #[17, 71] #[{ accessFlags := 26, nameIndex := 73, descriptorIndex := 74, attributes := #[] }, { accessFlags := 16, nameIndex := 14, descriptorIndex := 15, attributes := #[] }])
  fields := #[{ name := "serialVersionUID", type := .long, accessFlags := 26, slot := 0, constantValue := 0 }, { name := "c", type := (.object "java/util/Collection"), accessFlags := 16, slot := 0, constantValue := 0 }]
  methods := #[k39m0, k39m1, k39m2]
  instanceTypes := #[(.object "java/util/Collection")]
  staticTypes := #[.long]
  resolved := Array.replicate 136 none
  statics := none }

def pool40 : Array CpInfo := pool [(1, .methodref 2 3), (0, .class_ 4), (0, .nameAndType 5 6), (0, u "java/util/Collections$UnmodifiableCollection"), (0, u "<init>"), (0, u "(Ljava/util/Collection;)V"), (0, .fieldref 8 9), (0, .class_ 10), (0, .nameAndType 11 12), (0, u "java/util/Collections$UnmodifiableSet"), (0, u "c"), (0, u "Ljava/util/Collection;"), (0, .interfaceMethodref 14 15), (0, .class_ 16), (0, .nameAndType 17 18), (0, u "java/util/Collection"), (0, u "equals"), (0, u "(Ljava/lang/Object;)Z"), (4, .class_ 24), (0, u "java/util/Set"), (0, .class_ 26), (0, u "java/io/Serializable"), (0, u "serialVersionUID"), (0, u "J"), (3, u "(Ljava/util/Set;)V"), (19, .class_ 53), (0, u "java/util/Collections")] 3

def k40c0 : Code := { maxStack := 2, maxLocals := 2, code := jdk_122_method_1_code, exceptionTable := #[], attributes := #[] }
def k40m0 : Method := { name := "<init>", desc := "(Ljava/util/Set;)V", sig := { parameters := [(.object "java/util/Set")], returnType := none }, accessFlags := 0, code := some k40c0 }
def k40c1 : Code := { maxStack := 2, maxLocals := 2, code := jdk_122_method_2_code, exceptionTable := #[], attributes := #[] }
def k40m1 : Method := { name := "equals", desc := "(Ljava/lang/Object;)Z", sig := { parameters := [(.object "java/lang/Object")], returnType := some .boolean }, accessFlags := 1, code := some k40c1 }
/-- java/util/Collections$UnmodifiableSet -/
def k40 : Class := { plain "java/util/Collections$UnmodifiableSet" (some 39) with
  accessFlags := 32
  interfaces := #[17, 2]
  cf := some (fileOf pool40 8 #[.nestHost 52] #[{ accessFlags := 0, nameIndex := 5, descriptorIndex := 32, attributes := #[] }, { accessFlags := 1, nameIndex := 17, descriptorIndex := 18, attributes := #[] }] 32 2 #[23, 25] #[{ accessFlags := 26, nameIndex := 27, descriptorIndex := 28, attributes := #[] }])
  fields := #[{ name := "serialVersionUID", type := .long, accessFlags := 26, slot := 0, constantValue := 0 }]
  methods := #[k40m0, k40m1]
  instanceTypes := #[(.object "java/util/Collection")]
  staticTypes := #[.long]
  resolved := Array.replicate 57 none
  mirror := some 5
  statics := none }

def pool41 : Array CpInfo := pool [(1, .fieldref 2 3), (0, .class_ 4), (0, .nameAndType 5 6), (0, u "java/util/Collections$UnmodifiableCollection$1"), (0, u "this$0"), (0, u "Ljava/util/Collections$UnmodifiableCollection;"), (0, .methodref 8 9), (0, .class_ 10), (0, .nameAndType 11 12), (0, u "java/lang/Object"), (0, u "<init>"), (0, u "()V"), (0, .fieldref 14 15), (0, .class_ 16), (0, .nameAndType 17 18), (0, u "java/util/Collections$UnmodifiableCollection"), (0, u "c"), (0, u "Ljava/util/Collection;"), (0, .interfaceMethodref 20 21), (0, .class_ 22), (0, .nameAndType 23 24), (0, u "java/util/Collection"), (0, u "iterator"), (0, u "()Ljava/util/Iterator;"), (0, .fieldref 2 26), (0, .nameAndType 27 28), (0, u "i"), (0, u "Ljava/util/Iterator;"), (0, .interfaceMethodref 30 31), (0, .class_ 32), (0, .nameAndType 33 34), (0, u "java/util/Iterator"), (0, u "hasNext"), (0, u "()Z"), (13, u "(Ljava/util/Collections$UnmodifiableCollection;)V"), (18, .class_ 68), (0, u "java/util/Collections")] 2

def k41c0 : Code := { maxStack := 2, maxLocals := 2, code := jdk_135_method_1_code, exceptionTable := #[], attributes := #[] }
def k41m0 : Method := { name := "<init>", desc := "(Ljava/util/Collections$UnmodifiableCollection;)V", sig := { parameters := [(.object "java/util/Collections$UnmodifiableCollection")], returnType := none }, accessFlags := 0, code := some k41c0 }
def k41c1 : Code := { maxStack := 1, maxLocals := 1, code := jdk_135_method_2_code, exceptionTable := #[], attributes := #[] }
def k41m1 : Method := { name := "hasNext", desc := "()Z", sig := { parameters := [], returnType := some .boolean }, accessFlags := 1, code := some k41c1 }
/-- java/util/Collections$UnmodifiableCollection$1 -/
def k41 : Class := { plain "java/util/Collections$UnmodifiableCollection$1" (some 0) with
  accessFlags := 32
  interfaces := #[35]
  cf := some (fileOf pool41 2 #[.nestHost 67] #[{ accessFlags := 0, nameIndex := 11, descriptorIndex := 48, attributes := #[] }, { accessFlags := 1, nameIndex := 33, descriptorIndex := 34, attributes := #[] }] 32 8 #[30] #[{ accessFlags := 18, nameIndex := 27, descriptorIndex := 28, attributes := #[] }, { accessFlags := 4112, nameIndex := 5, descriptorIndex := 6, attributes := #[] }])
  fields := #[{ name := "i", type := (.object "java/util/Iterator"), accessFlags := 18, slot := 0, constantValue := 0 }, { name := "this$0", type := (.object "java/util/Collections$UnmodifiableCollection"), accessFlags := 4112, slot := 1, constantValue := 0 }]
  methods := #[k41m0, k41m1]
  instanceTypes := #[(.object "java/util/Iterator"), (.object "java/util/Collections$UnmodifiableCollection")]
  staticTypes := #[]
  resolved := Array.replicate 71 none
  statics := none }

def pool42 : Array CpInfo := pool [(1, .fieldref 2 3), (0, .class_ 4), (0, .nameAndType 5 6), (0, u "java/util/LinkedHashMap$LinkedKeySet"), (0, u "this$0"), (0, u "Ljava/util/LinkedHashMap;"), (0, .methodref 8 9), (0, .class_ 10), (0, .nameAndType 11 12), (0, u "java/util/AbstractSet"), (0, u "<init>"), (0, u "()V"), (0, .fieldref 2 14), (0, .nameAndType 15 16), (0, u "reversed"), (0, u "Z"), (1, .class_ 20), (1, u "java/util/LinkedHashMap"), (5, .class_ 27), (0, u "java/util/LinkedHashMap$LinkedKeyIterator"), (0, .methodref 26 29), (0, .nameAndType 11 30), (0, u "(Ljava/util/LinkedHashMap;Z)V"), (85, .class_ 117), (0, u "java/util/SequencedSet"), (9, u "iterator"), (0, u "()Ljava/util/Iterator;")] 48

def k42c0 : Code := { maxStack := 2, maxLocals := 3, code := jdk_112_method_1_code, exceptionTable := #[], attributes := #[] }
def k42m0 : Method := { name := "<init>", desc := "(Ljava/util/LinkedHashMap;Z)V", sig := { parameters := [(.object "java/util/LinkedHashMap"), .boolean], returnType := none }, accessFlags := 0, code := some k42c0 }
def k42c1 : Code := { maxStack := 4, maxLocals := 1, code := jdk_112_method_4_code, exceptionTable := #[], attributes := #[] }
def k42m1 : Method := { name := "iterator", desc := "()Ljava/util/Iterator;", sig := { parameters := [], returnType := some (.object "java/util/Iterator") }, accessFlags := 17, code := some k42c1 }
/-- java/util/LinkedHashMap$LinkedKeySet -/
def k42 : Class := { plain "java/util/LinkedHashMap$LinkedKeySet" (some 18) with
  accessFlags := 48
  interfaces := #[21]
  cf := some (fileOf pool42 2 #[.nestHost 18] #[{ accessFlags := 0, nameIndex := 11, descriptorIndex := 30, attributes := #[] }, { accessFlags := 17, nameIndex := 127, descriptorIndex := 128, attributes := #[] }] 48 8 #[116] #[{ accessFlags := 16, nameIndex := 15, descriptorIndex := 16, attributes := #[] }, { accessFlags := 4112, nameIndex := 5, descriptorIndex := 6, attributes := #[] }])
  fields := #[{ name := "reversed", type := .boolean, accessFlags := 16, slot := 0, constantValue := 0 }, { name := "this$0", type := (.object "java/util/LinkedHashMap"), accessFlags := 4112, slot := 1, constantValue := 0 }]
  methods := #[k42m0, k42m1]
  instanceTypes := #[.boolean, (.object "java/util/LinkedHashMap")]
  staticTypes := #[]
  resolved := Array.replicate 177 none
  statics := none }

def pool43 : Array CpInfo := pool [(1, .fieldref 2 3), (0, .class_ 4), (0, .nameAndType 5 6), (0, u "java/util/LinkedHashMap$LinkedHashIterator"), (0, u "this$0"), (0, u "Ljava/util/LinkedHashMap;"), (0, .methodref 8 9), (0, .class_ 10), (0, .nameAndType 11 12), (0, u "java/lang/Object"), (0, u "<init>"), (0, u "()V"), (0, .fieldref 2 14), (0, .nameAndType 15 16), (0, u "reversed"), (0, u "Z"), (1, .class_ 20), (1, u "java/util/LinkedHashMap"), (1, u "Ljava/util/LinkedHashMap$Entry;"), (0, .fieldref 18 24), (0, .nameAndType 25 22), (0, u "head"), (0, .fieldref 2 27), (0, .nameAndType 28 22), (0, u "next"), (0, .fieldref 18 30), (0, .nameAndType 31 32), (0, u "modCount"), (0, u "I"), (0, .fieldref 2 34), (0, .nameAndType 35 32), (0, u "expectedModCount"), (0, .fieldref 2 37), (0, .nameAndType 38 22), (0, u "current"), (32, u "(Ljava/util/LinkedHashMap;Z)V"), (9, u "hasNext"), (0, u "()Z")] 17

def k43c0 : Code := { maxStack := 2, maxLocals := 3, code := jdk_2616_method_1_code, exceptionTable := #[], attributes := #[] }
def k43m0 : Method := { name := "<init>", desc := "(Ljava/util/LinkedHashMap;Z)V", sig := { parameters := [(.object "java/util/LinkedHashMap"), .boolean], returnType := none }, accessFlags := 0, code := some k43c0 }
def k43c1 : Code := { maxStack := 1, maxLocals := 1, code := jdk_2616_method_2_code, exceptionTable := #[], attributes := #[] }
def k43m1 : Method := { name := "hasNext", desc := "()Z", sig := { parameters := [], returnType := some .boolean }, accessFlags := 17, code := some k43c1 }
/-- java/util/LinkedHashMap$LinkedHashIterator -/
def k43 : Class := { plain "java/util/LinkedHashMap$LinkedHashIterator" (some 0) with
  accessFlags := 1056
  interfaces := #[]
  cf := some (fileOf pool43 2 #[.nestHost 18] #[{ accessFlags := 0, nameIndex := 11, descriptorIndex := 71, attributes := #[] }, { accessFlags := 17, nameIndex := 81, descriptorIndex := 82, attributes := #[] }] 1056 8 #[] #[{ accessFlags := 0, nameIndex := 28, descriptorIndex := 22, attributes := #[] }, { accessFlags := 0, nameIndex := 38, descriptorIndex := 22, attributes := #[] }, { accessFlags := 0, nameIndex := 35, descriptorIndex := 32, attributes := #[] }, { accessFlags := 0, nameIndex := 15, descriptorIndex := 16, attributes := #[] }, { accessFlags := 4112, nameIndex := 5, descriptorIndex := 6, attributes := #[] }])
  fields := #[{ name := "next", type := (.object "java/util/LinkedHashMap$Entry"), accessFlags := 0, slot := 0, constantValue := 0 }, { name := "current", type := (.object "java/util/LinkedHashMap$Entry"), accessFlags := 0, slot := 1, constantValue := 0 }, { name := "expectedModCount", type := .int, accessFlags := 0, slot := 2, constantValue := 0 }, { name := "reversed", type := .boolean, accessFlags := 0, slot := 3, constantValue := 0 }, { name := "this$0", type := (.object "java/util/LinkedHashMap"), accessFlags := 4112, slot := 4, constantValue := 0 }]
  methods := #[k43m0, k43m1]
  instanceTypes := #[(.object "java/util/LinkedHashMap$Entry"), (.object "java/util/LinkedHashMap$Entry"), .int, .boolean, (.object "java/util/LinkedHashMap")]
  staticTypes := #[]
  resolved := Array.replicate 100 none
  statics := none }

def pool44 : Array CpInfo := pool [(1, .methodref 2 3), (0, .class_ 4), (0, .nameAndType 5 6), (0, u "java/util/LinkedHashMap$LinkedHashIterator"), (0, u "<init>"), (0, u "(Ljava/util/LinkedHashMap;Z)V"), (1, .class_ 10), (1, u "java/util/LinkedHashMap$LinkedKeyIterator"), (8, .class_ 20), (0, u "java/util/Iterator"), (19, .class_ 41), (0, u "java/util/LinkedHashMap")] 4

def k44c0 : Code := { maxStack := 3, maxLocals := 3, code := jdk_2617_method_1_code, exceptionTable := #[], attributes := #[] }
def k44m0 : Method := { name := "<init>", desc := "(Ljava/util/LinkedHashMap;Z)V", sig := { parameters := [(.object "java/util/LinkedHashMap"), .boolean], returnType := none }, accessFlags := 0, code := some k44c0 }
/-- java/util/LinkedHashMap$LinkedKeyIterator -/
def k44 : Class := { plain "java/util/LinkedHashMap$LinkedKeyIterator" (some 43) with
  accessFlags := 48
  interfaces := #[35]
  cf := some (fileOf pool44 8 #[.nestHost 40] #[{ accessFlags := 0, nameIndex := 5, descriptorIndex := 6, attributes := #[] }] 48 2 #[19] #[])
  fields := #[]
  methods := #[k44m0]
  instanceTypes := #[(.object "java/util/LinkedHashMap$Entry"), (.object "java/util/LinkedHashMap$Entry"), .int, .boolean, (.object "java/util/LinkedHashMap")]
  staticTypes := #[]
  resolved := Array.replicate 46 none
  statics := none }

def pool45 : Array CpInfo := pool [(6, .class_ 8), (1, u "java/lang/Object"), (0, u "<init>"), (0, u "()V"), (1, .class_ 14), (1, u "java/lang/StringUTF16"), (31, u "$assertionsDisabled"), (0, u "Z"), (13, u "HI_BYTE_SHIFT"), (0, u "I"), (2, u "LO_BYTE_SHIFT"), (49, .methodref 12 116), (0, .nameAndType 117 118), (0, u "compress"), (0, u "([CI[BII)I"), (3, u "([CII)[B"), (138, u "coderFromArrayLen"), (0, u "([BI)B"), (106, .class_ 371), (1, u "java/lang/StringUTF16$LinesSpliterator"), (58, u "MAX_LENGTH"), (196, .class_ 628), (0, u "java/lang/StringUTF16$CodePointsSpliterator"), (0, .class_ 630), (0, u "java/lang/StringUTF16$CharsSpliterator")] 4

def k45m0 : Method := { name := "<init>", desc := "()V", sig := { parameters := [], returnType := none }, accessFlags := 0, code := none }
def k45c1 : Code := { maxStack := 2, maxLocals := 2, code := jdk_52_method_15_code, exceptionTable := #[], attributes := #[] }
def k45m1 : Method := { name := "coderFromArrayLen", desc := "([BI)B", sig := { parameters := [(.array .byte), .int], returnType := some .byte }, accessFlags := 8, code := some k45c1 }
def k45c2 : Code := { maxStack := 5, maxLocals := 6, code := jdk_52_method_16_code, exceptionTable := #[], attributes := #[] }
def k45m2 : Method := { name := "compress", desc := "([CII)[B", sig := { parameters := [(.array .char), .int, .int], returnType := some (.array .byte) }, accessFlags := 9, code := some k45c2 }
def k45c3 : Code := { maxStack := 3, maxLocals := 7, code := jdk_52_method_21_code, exceptionTable := #[], attributes := #[] }
def k45m3 : Method := { name := "compress", desc := "([CI[BII)I", sig := { parameters := [(.array .char), .int, (.array .byte), .int, .int], returnType := some .int }, accessFlags := 9, code := some k45c3 }
/-- java/lang/StringUTF16 -/
def k45 : Class := { plain "java/lang/StringUTF16" (some 0) with
  accessFlags := 48
  interfaces := #[]
  cf := some (fileOf pool45 12 #[.nestMembers #[627, 629, 369]] #[{ accessFlags := 0, nameIndex := 9, descriptorIndex := 10, attributes := #[] }, { accessFlags := 8, nameIndex := 261, descriptorIndex := 262, attributes := #[] }, { accessFlags := 9, nameIndex := 117, descriptorIndex := 122, attributes := #[] }, { accessFlags := 9, nameIndex := 117, descriptorIndex := 118, attributes := #[] }] 48 6 #[] #[{ accessFlags := 26, nameIndex := 61, descriptorIndex := 62, attributes := #[] }, { accessFlags := 26, nameIndex := 65, descriptorIndex := 62, attributes := #[] }, { accessFlags := 24, nameIndex := 430, descriptorIndex := 62, attributes := #[] }, { accessFlags := 4120, nameIndex := 46, descriptorIndex := 47, attributes := #[] }])
  fields := #[{ name := "HI_BYTE_SHIFT", type := .int, accessFlags := 26, slot := 0, constantValue := 0 }, { name := "LO_BYTE_SHIFT", type := .int, accessFlags := 26, slot := 1, constantValue := 0 }, { name := "MAX_LENGTH", type := .int, accessFlags := 24, slot := 2, constantValue := 0 }, { name := "$assertionsDisabled", type := .boolean, accessFlags := 4120, slot := 3, constantValue := 0 }]
  methods := #[k45m0, k45m1, k45m2, k45m3]
  instanceTypes := #[]
  staticTypes := #[.int, .int, .int, .boolean]
  resolved := Array.replicate 635 none
  statics := none }

def pool46 : Array CpInfo := pool [(4, .class_ 6), (1, u "java/lang/Object"), (0, u "<init>"), (0, u "()V"), (5, .class_ 16), (1, u "java/lang/StringLatin1"), (104, u "$assertionsDisabled"), (0, u "Z"), (98, .class_ 223), (1, u "java/lang/StringLatin1$LinesSpliterator"), (166, .class_ 391), (0, u "java/lang/StringLatin1$CharsSpliterator")] 3

def k46m0 : Method := { name := "<init>", desc := "()V", sig := { parameters := [], returnType := none }, accessFlags := 0, code := none }
/-- java/lang/StringLatin1 -/
def k46 : Class := { plain "java/lang/StringLatin1" (some 0) with
  accessFlags := 48
  interfaces := #[]
  cf := some (fileOf pool46 14 #[.nestMembers #[390, 221]] #[{ accessFlags := 0, nameIndex := 7, descriptorIndex := 8, attributes := #[] }] 48 4 #[] #[{ accessFlags := 4120, nameIndex := 121, descriptorIndex := 122, attributes := #[] }])
  fields := #[{ name := "$assertionsDisabled", type := .boolean, accessFlags := 4120, slot := 0, constantValue := 0 }]
  methods := #[k46m0]
  instanceTypes := #[]
  staticTypes := #[.boolean]
  resolved := Array.replicate 395 none
  statics := none }

def pool47 : Array CpInfo := pool [(2, .class_ 4), (1, u "java/lang/Object"), (0, u "<init>"), (0, u "()V"), (17, .class_ 26), (1, u "jdk/internal/util/Preconditions"), (28, .class_ 56), (0, u "jdk/internal/util/Preconditions$4"), (57, .class_ 115), (0, u "jdk/internal/util/Preconditions$1"), (7, u "SIOOBE_FORMATTER"), (0, u "Ljava/util/function/BiFunction;"), (0, .class_ 126), (0, u "jdk/internal/util/Preconditions$2"), (3, u "AIOOBE_FORMATTER"), (0, .class_ 132), (0, u "jdk/internal/util/Preconditions$3"), (3, u "IOOBE_FORMATTER")] 57

def k47m0 : Method := { name := "<init>", desc := "()V", sig := { parameters := [], returnType := none }, accessFlags := 1, code := none }
/-- jdk/internal/util/Preconditions -/
def k47 : Class := { plain "jdk/internal/util/Preconditions" (some 0) with
  accessFlags := 33
  interfaces := #[]
  cf := some (fileOf pool47 24 #[.nestMembers #[55, 131, 125, 114]] #[{ accessFlags := 1, nameIndex := 5, descriptorIndex := 6, attributes := #[] }] 33 2 #[] #[{ accessFlags := 25, nameIndex := 123, descriptorIndex := 124, attributes := #[] }, { accessFlags := 25, nameIndex := 130, descriptorIndex := 124, attributes := #[] }, { accessFlags := 25, nameIndex := 136, descriptorIndex := 124, attributes := #[] }])
  fields := #[{ name := "SIOOBE_FORMATTER", type := (.object "java/util/function/BiFunction"), accessFlags := 25, slot := 0, constantValue := 0 }, { name := "AIOOBE_FORMATTER", type := (.object "java/util/function/BiFunction"), accessFlags := 25, slot := 1, constantValue := 0 }, { name := "IOOBE_FORMATTER", type := (.object "java/util/function/BiFunction"), accessFlags := 25, slot := 2, constantValue := 0 }]
  methods := #[k47m0]
  instanceTypes := #[]
  staticTypes := #[(.object "java/util/function/BiFunction"), (.object "java/util/function/BiFunction"), (.object "java/util/function/BiFunction")]
  resolved := Array.replicate 194 none
  statics := some 3 }

def pool48 : Array CpInfo := pool [(9, u "<init>"), (6, .class_ 18), (1, u "java/lang/Object"), (0, u "()V"), (1, .class_ 23), (1, u "jdk/internal/util/ArraysSupport"), (0, u "LOG2_ARRAY_LONG_INDEX_SCALE"), (0, u "I"), (2, u "U"), (0, u "Ljdk/internal/misc/Unsafe;"), (8, u "BIG_ENDIAN"), (0, u "Z"), (8, u "LOG2_BYTE_BIT_SIZE"), (4, u "LOG2_ARRAY_INT_INDEX_SCALE"), (54, u "JLA"), (0, u "Ljdk/internal/access/JavaLangAccess;"), (11, u "LOG2_ARRAY_BOOLEAN_INDEX_SCALE"), (9, u "LOG2_ARRAY_BYTE_INDEX_SCALE"), (5, u "LOG2_ARRAY_CHAR_INDEX_SCALE"), (5, u "LOG2_ARRAY_SHORT_INDEX_SCALE"), (18, u "LOG2_ARRAY_FLOAT_INDEX_SCALE"), (24, u "LOG2_ARRAY_DOUBLE_INDEX_SCALE"), (89, u "T_BOOLEAN"), (2, u "T_CHAR"), (1, u "T_FLOAT"), (1, u "T_DOUBLE"), (1, u "T_BYTE"), (1, u "T_SHORT"), (1, u "T_INT"), (1, u "T_LONG"), (1, u "SOFT_MAX_ARRAY_LENGTH")] 83

def k48m0 : Method := { name := "<init>", desc := "()V", sig := { parameters := [], returnType := none }, accessFlags := 2, code := none }
/-- jdk/internal/util/ArraysSupport -/
def k48 : Class := { plain "jdk/internal/util/ArraysSupport" (some 0) with
  accessFlags := 33
  interfaces := #[]
  cf := some (fileOf pool48 21 #[] #[{ accessFlags := 2, nameIndex := 9, descriptorIndex := 19, attributes := #[] }] 33 16 #[] #[{ accessFlags := 24, nameIndex := 28, descriptorIndex := 29, attributes := #[] }, { accessFlags := 26, nameIndex := 38, descriptorIndex := 39, attributes := #[] }, { accessFlags := 25, nameIndex := 121, descriptorIndex := 25, attributes := #[] }, { accessFlags := 25, nameIndex := 131, descriptorIndex := 25, attributes := #[] }, { accessFlags := 25, nameIndex := 137, descriptorIndex := 25, attributes := #[] }, { accessFlags := 25, nameIndex := 143, descriptorIndex := 25, attributes := #[] }, { accessFlags := 25, nameIndex := 53, descriptorIndex := 25, attributes := #[] }, { accessFlags := 25, nameIndex := 24, descriptorIndex := 25, attributes := #[] }, { accessFlags := 25, nameIndex := 162, descriptorIndex := 25, attributes := #[] }, { accessFlags := 25, nameIndex := 187, descriptorIndex := 25, attributes := #[] }, { accessFlags := 26, nameIndex := 48, descriptorIndex := 25, attributes := #[] }, { accessFlags := 25, nameIndex := 277, descriptorIndex := 25, attributes := #[] }, { accessFlags := 25, nameIndex := 280, descriptorIndex := 25, attributes := #[] }, { accessFlags := 25, nameIndex := 282, descriptorIndex := 25, attributes := #[] }, { accessFlags := 25, nameIndex := 284, descriptorIndex := 25, attributes := #[] }, { accessFlags := 25, nameIndex := 286, descriptorIndex := 25, attributes := #[] }, { accessFlags := 25, nameIndex := 288, descriptorIndex := 25, attributes := #[] }, { accessFlags := 25, nameIndex := 290, descriptorIndex := 25, attributes := #[] }, { accessFlags := 25, nameIndex := 292, descriptorIndex := 25, attributes := #[] }, { accessFlags := 26, nameIndex := 108, descriptorIndex := 109, attributes := #[] }, { accessFlags := 25, nameIndex := 294, descriptorIndex := 25, attributes := #[] }])
  fields := #[{ name := "U", type := (.object "jdk/internal/misc/Unsafe"), accessFlags := 24, slot := 0, constantValue := 0 }, { name := "BIG_ENDIAN", type := .boolean, accessFlags := 26, slot := 1, constantValue := 0 }, { name := "LOG2_ARRAY_BOOLEAN_INDEX_SCALE", type := .int, accessFlags := 25, slot := 2, constantValue := 0 }, { name := "LOG2_ARRAY_BYTE_INDEX_SCALE", type := .int, accessFlags := 25, slot := 3, constantValue := 0 }, { name := "LOG2_ARRAY_CHAR_INDEX_SCALE", type := .int, accessFlags := 25, slot := 4, constantValue := 0 }, { name := "LOG2_ARRAY_SHORT_INDEX_SCALE", type := .int, accessFlags := 25, slot := 5, constantValue := 0 }, { name := "LOG2_ARRAY_INT_INDEX_SCALE", type := .int, accessFlags := 25, slot := 6, constantValue := 0 }, { name := "LOG2_ARRAY_LONG_INDEX_SCALE", type := .int, accessFlags := 25, slot := 7, constantValue := 0 }, { name := "LOG2_ARRAY_FLOAT_INDEX_SCALE", type := .int, accessFlags := 25, slot := 8, constantValue := 0 }, { name := "LOG2_ARRAY_DOUBLE_INDEX_SCALE", type := .int, accessFlags := 25, slot := 9, constantValue := 0 }, { name := "LOG2_BYTE_BIT_SIZE", type := .int, accessFlags := 26, slot := 10, constantValue := 0 }, { name := "T_BOOLEAN", type := .int, accessFlags := 25, slot := 11, constantValue := 0 }, { name := "T_CHAR", type := .int, accessFlags := 25, slot := 12, constantValue := 0 }, { name := "T_FLOAT", type := .int, accessFlags := 25, slot := 13, constantValue := 0 }, { name := "T_DOUBLE", type := .int, accessFlags := 25, slot := 14, constantValue := 0 }, { name := "T_BYTE", type := .int, accessFlags := 25, slot := 15, constantValue := 0 }, { name := "T_SHORT", type := .int, accessFlags := 25, slot := 16, constantValue := 0 }, { name := "T_INT", type := .int, accessFlags := 25, slot := 17, constantValue := 0 }, { name := "T_LONG", type := .int, accessFlags := 25, slot := 18, constantValue := 0 }, { name := "JLA", type := (.object "jdk/internal/access/JavaLangAccess"), accessFlags := 26, slot := 19, constantValue := 0 }, { name := "SOFT_MAX_ARRAY_LENGTH", type := .int, accessFlags := 25, slot := 20, constantValue := 0 }]
  methods := #[k48m0]
  instanceTypes := #[]
  staticTypes := #[(.object "jdk/internal/misc/Unsafe"), .boolean, .int, .int, .int, .int, .int, .int, .int, .int, .int, .int, .int, .int, .int, .int, .int, .int, .int, (.object "jdk/internal/access/JavaLangAccess"), .int]
  resolved := Array.replicate 378 none
  statics := none }

def pool49 : Array CpInfo := pool [(1, u "java/lang/Class"), (0, .class_ 1), (0, u "java/lang/Object"), (0, .class_ 3)] 0

/-- java/lang/Class -/
def k49 : Class := { plain "java/lang/Class" (some 0) with
  accessFlags := 49
  interfaces := #[]
  cf := some (fileOf pool49 2 #[] #[] 49 4 #[] #[])
  fields := #[]
  methods := #[]
  instanceTypes := #[]
  staticTypes := #[]
  resolved := Array.replicate 5 none
  statics := none }

/-- the primitive byte -/
def k50 : Class := { plain "byte" none with kind := .primitive 'B', accessFlags := 0x411 }
/-- [B -/
def k51 : Class := { plain "[B" (some 0) with kind := .array 50 .byte, interfaces := #[19, 2], accessFlags := 1041 }

/-- the primitive char -/
def k52 : Class := { plain "char" none with kind := .primitive 'C', accessFlags := 0x411 }
/-- [C -/
def k53 : Class := { plain "[C" (some 0) with kind := .array 52 .char, interfaces := #[19, 2], accessFlags := 1041 }

/-- the primitive int -/
def k54 : Class := { plain "int" none with kind := .primitive 'I', accessFlags := 0x411 }
/-- [I -/
def k55 : Class := { plain "[I" (some 0) with kind := .array 54 .int, interfaces := #[19, 2], accessFlags := 1041 }

/-- [Ljava/lang/Object; -/
def k56 : Class := { plain "[Ljava/lang/Object;" (some 0) with kind := .array 0 (.object "java/lang/Object"), interfaces := #[19, 2], accessFlags := 1041 }

/-- [Ljava/lang/String; -/
def k57 : Class := { plain "[Ljava/lang/String;" (some 0) with kind := .array 7 (.object "java/lang/String"), interfaces := #[19, 2], accessFlags := 1041 }

def heap : Heap := #[{ cls := 7, slots := #[.long 0, .int 1, .null, .int 0, .null, .int 0, .int 0], vm := .statics 7 },
  { cls := 10, slots := #[.ref 7, .null, .ref 8, .null], vm := .statics 10 },
  { cls := 15, slots := #[.long 0, .int 0, .null, .null, .ref 9, .null, .null, .null, .int 0, .int 0], vm := .statics 15 },
  { cls := 47, slots := #[.null, .null, .null], vm := .statics 47 },
  { cls := 49, slots := #[], vm := .mirror 22 },
  { cls := 49, slots := #[], vm := .mirror 40 },
  { cls := 56, slots := #[], vm := .none },
  { cls := 10, slots := #[.null, .int 0, .int 0], vm := .none },
  { cls := 10, slots := #[.null, .int 2, .int 0], vm := .none },
  { cls := 34, slots := #[.ref 6, .int 0], vm := .none }]
def classes : Array Class := #[k0, k1, k2, k3, k4, k5, k6, k7, k8, k9, k10, k11, k12, k13, k14, k15, k16, k17, k18, k19, k20, k21, k22, k23, k24, k25, k26, k27, k28, k29, k30, k31, k32, k33, k34, k35, k36, k37, k38, k39, k40, k41, k42, k43, k44, k45, k46, k47, k48, k49, k50, k51, k52, k53, k54, k55, k56, k57]
def interned : List (Array UInt16 × Addr) := []
def slotsUsed : Nat := 32
def theMethod : MethodId := ⟨1, 1⟩
def args0 : Array Value := #[.int 5, .int 7, .int 1, .int 2]
def aboutOver (below : List Frame) : State where
  vm := { classes := classes, interned := interned.toArray }
  heap := heap
  slotsUsed := slotsUsed
  threads := #[{ frames := .invoking theMethod args0 :: below }]
def below0 : List Frame := [.native { method := ⟨0, 0⟩, args := #[] }]
def about1 : State := aboutOver below0
def p0 : Program := .bare "" "" ""
def e0 : Env := launch0.env 0 0 0
theorem w_frames : about1.frames = Frame.invoking theMethod args0 :: below0 := rfl
set_option maxRecDepth 65536 in
theorem w_args : argsFit about1.vm theMethod args0 = true := by decide +kernel
set_option maxRecDepth 65536 in
theorem w_heap : heapFits about1 = true := by decide +kernel
set_option maxRecDepth 65536 in
theorem w_runnable : about1.curStatus? = some .runnable := by decide +kernel
set_option maxRecDepth 65536 in
theorem w_alone : about1.alone = true := by decide +kernel
set_option maxRecDepth 65536 in
theorem w_named : about1.methodNamed? x = some theMethod := by decide +kernel
set_option maxRecDepth 65536 in
theorem w_hears : about1.hears theMethod below0 = true := by decide +kernel
set_option maxRecDepth 65536 in
theorem w_ripe : about1.ripe theMethod args0 below0 = true := by decide +kernel
theorem w_running : about1.status = .running := rfl
set_option maxRecDepth 65536 in
theorem w_room : about1.hasRoom e0.platform room_1 = true :=
  launch0.hasRoom_least _ room_1 (by decide +kernel) (by decide +kernel) (by decide +kernel) (by decide +kernel) (by decide +kernel) (by decide +kernel)
theorem allAtoms_all (ts : List Jvm.Cond) (a : Array Jvm.Value) (st : Jvm.State) : (allAtoms ts).before a st = ts.all (fun c => c.before a st) := by
  induction ts with
  | nil => rfl
  | cons c t ih =>
    show (Jvm.Cond.and c (allAtoms t)).before a st = _
    rw [Jvm.Cond.before_and, ih, List.all_cons]
def words1 : List Jvm.Cond := Jvm.Cond.code x code maxLocals ret :: tables_1
/-- a 'code' word, met by the world's own term for the bytes: nothing is compared byte by byte -/
theorem code_word {y : MethodName} {bytes : ByteArray} {mx : Nat} {rt : Option FieldType} {a : Array Value} {s : State} {m : MethodId} {meth : Method} {c : Code} (h1 : s.methodNamed? y = some m) (h2 : s.vm.method? m = some meth) (h3 : meth.code = some c) (h4 : c.code = bytes)
    (h5 : (c.maxLocals == mx && c.exceptionTable.isEmpty && decide (c.maxStack ≤ mostOperands) && decide (meth.sig.returnType = rt) && !meth.locks && decide (parseMethodDescriptor y.desc = some meth.sig)) = true) : (Jvm.Cond.code y bytes mx rt).before a s = true := by
  simp only [Bool.and_eq_true, beq_iff_eq, Bool.not_eq_true', decide_eq_true_eq] at h5
  obtain ⟨⟨⟨⟨⟨g1, g2⟩, g3⟩, g4⟩, g5⟩, g6⟩ := h5
  simp [Cond.before, Cond.holds, Cond.value, h1, h2, h3, h4, g1, g2, g3, g4, g5, g6]
def isCode : Jvm.Cond → Bool
  | .code _ _ _ _ => true
  | _ => false
theorem all_split {L : List Jvm.Cond} {P : Jvm.Cond → Bool} (h1 : L.all (fun c => isCode c || P c) = true) (h2 : ∀ c ∈ L.filter isCode, P c = true) : L.all P = true := by
  refine List.all_eq_true.mpr fun c hc => ?_
  have h := List.all_eq_true.mp h1 c hc
  rcases Bool.eq_false_or_eq_true (isCode c) with hi | hi
  · exact h2 c (List.mem_filter.mpr ⟨hc, hi⟩)
  · simpa [hi] using h
set_option maxRecDepth 65536 in
theorem w_c0 : (Jvm.Cond.code x code maxLocals ret).before args0 about1 = true := code_word (m := ⟨1, 1⟩) (meth := k1m1) (c := k1c1) (by decide +kernel) rfl rfl rfl (by decide +kernel)
set_option maxRecDepth 65536 in
theorem w_c1 : (Jvm.Cond.code ({ cls := "java/lang/String", name := "<init>", desc := "([C)V" } : Jvm.MethodName) jdk_42_method_3_code (2 : Nat) (Option.none : Option Jvm.ClassFile.FieldType)).before args0 about1 = true := code_word (m := ⟨7, 1⟩) (meth := k7m1) (c := k7c1) (by decide +kernel) rfl rfl rfl (by decide +kernel)
set_option maxRecDepth 65536 in
theorem w_c2 : (Jvm.Cond.code ({ cls := "java/lang/String", name := "<init>", desc := "([CIILjava/lang/Void;)V" } : Jvm.MethodName) jdk_42_method_149_code (6 : Nat) (Option.none : Option Jvm.ClassFile.FieldType)).before args0 about1 = true := code_word (m := ⟨7, 2⟩) (meth := k7m2) (c := k7c2) (by decide +kernel) rfl rfl rfl (by decide +kernel)
set_option maxRecDepth 65536 in
theorem w_c3 : (Jvm.Cond.code ({ cls := "java/lang/Object", name := "<init>", desc := "()V" } : Jvm.MethodName) object_method_1_code (1 : Nat) (Option.none : Option Jvm.ClassFile.FieldType)).before args0 about1 = true := code_word (m := ⟨0, 0⟩) (meth := k0m0) (c := k0c0) (by decide +kernel) rfl rfl rfl (by decide +kernel)
set_option maxRecDepth 65536 in
theorem w_c4 : (Jvm.Cond.code ({ cls := "com/example/mussel/mussel/rule/Selection", name := "ignore", desc := "()Lcom/example/mussel/mussel/rule/Selection;" } : Jvm.MethodName) prog_9_method_2_code (0 : Nat) (Option.some (Jvm.ClassFile.FieldType.object "com/example/mussel/mussel/rule/Selection"))).before args0 about1 = true := code_word (m := ⟨8, 1⟩) (meth := k8m1) (c := k8c1) (by decide +kernel) rfl rfl rfl (by decide +kernel)
set_option maxRecDepth 65536 in
theorem w_c5 : (Jvm.Cond.code ({ cls := "java/util/List", name := "of", desc := "()Ljava/util/List;" } : Jvm.MethodName) jdk_40_method_36_code (0 : Nat) (Option.some (Jvm.ClassFile.FieldType.object "java/util/List"))).before args0 about1 = true := code_word (m := ⟨14, 0⟩) (meth := k14m0) (c := k14c0) (by decide +kernel) rfl rfl rfl (by decide +kernel)
set_option maxRecDepth 65536 in
theorem w_c6 : (Jvm.Cond.code ({ cls := "com/example/mussel/mussel/rule/Selection", name := "<init>", desc := "(Lcom/example/mussel/mussel/rule/Selection$Kind;Ljava/util/Collection;)V" } : Jvm.MethodName) prog_9_method_1_code (6 : Nat) (Option.none : Option Jvm.ClassFile.FieldType)).before args0 about1 = true := code_word (m := ⟨8, 0⟩) (meth := k8m0) (c := k8c0) (by decide +kernel) rfl rfl rfl (by decide +kernel)
set_option maxRecDepth 65536 in
theorem w_c7 : (Jvm.Cond.code ({ cls := "java/util/LinkedHashSet", name := "<init>", desc := "()V" } : Jvm.MethodName) jdk_2620_method_3_code (1 : Nat) (Option.none : Option Jvm.ClassFile.FieldType)).before args0 about1 = true := code_word (m := ⟨22, 0⟩) (meth := k22m0) (c := k22c0) (by decide +kernel) rfl rfl rfl (by decide +kernel)
set_option maxRecDepth 65536 in
theorem w_c8 : (Jvm.Cond.code ({ cls := "java/util/HashSet", name := "<init>", desc := "(IFZ)V" } : Jvm.MethodName) jdk_93_method_5_code (4 : Nat) (Option.none : Option Jvm.ClassFile.FieldType)).before args0 about1 = true := code_word (m := ⟨20, 1⟩) (meth := k20m1) (c := k20c1) (by decide +kernel) rfl rfl rfl (by decide +kernel)
set_option maxRecDepth 65536 in
theorem w_c9 : (Jvm.Cond.code ({ cls := "java/util/AbstractSet", name := "<init>", desc := "()V" } : Jvm.MethodName) jdk_91_method_1_code (1 : Nat) (Option.none : Option Jvm.ClassFile.FieldType)).before args0 about1 = true := code_word (m := ⟨18, 0⟩) (meth := k18m0) (c := k18c0) (by decide +kernel) rfl rfl rfl (by decide +kernel)
set_option maxRecDepth 65536 in
theorem w_c10 : (Jvm.Cond.code ({ cls := "java/util/AbstractCollection", name := "<init>", desc := "()V" } : Jvm.MethodName) jdk_22_method_1_code (1 : Nat) (Option.none : Option Jvm.ClassFile.FieldType)).before args0 about1 = true := code_word (m := ⟨16, 0⟩) (meth := k16m0) (c := k16c0) (by decide +kernel) rfl rfl rfl (by decide +kernel)
set_option maxRecDepth 65536 in
theorem w_c11 : (Jvm.Cond.code ({ cls := "java/util/LinkedHashMap", name := "<init>", desc := "(IF)V" } : Jvm.MethodName) jdk_94_method_14_code (3 : Nat) (Option.none : Option Jvm.ClassFile.FieldType)).before args0 about1 = true := code_word (m := ⟨27, 0⟩) (meth := k27m0) (c := k27c0) (by decide +kernel) rfl rfl rfl (by decide +kernel)
set_option maxRecDepth 65536 in
theorem w_c12 : (Jvm.Cond.code ({ cls := "java/util/HashMap", name := "<init>", desc := "(IF)V" } : Jvm.MethodName) jdk_69_method_5_code (3 : Nat) (Option.none : Option Jvm.ClassFile.FieldType)).before args0 about1 = true := code_word (m := ⟨25, 1⟩) (meth := k25m1) (c := k25c1) (by decide +kernel) rfl rfl rfl (by decide +kernel)
set_option maxRecDepth 65536 in
theorem w_c13 : (Jvm.Cond.code ({ cls := "java/util/AbstractMap", name := "<init>", desc := "()V" } : Jvm.MethodName) jdk_71_method_1_code (1 : Nat) (Option.none : Option Jvm.ClassFile.FieldType)).before args0 about1 = true := code_word (m := ⟨24, 0⟩) (meth := k24m0) (c := k24c0) (by decide +kernel) rfl rfl rfl (by decide +kernel)
set_option maxRecDepth 65536 in
theorem w_c14 : (Jvm.Cond.code ({ cls := "java/lang/Float", name := "isNaN", desc := "(F)Z" } : Jvm.MethodName) jdk_118_method_6_code (1 : Nat) (Option.some Jvm.ClassFile.FieldType.boolean)).before args0 about1 = true := code_word (m := ⟨29, 0⟩) (meth := k29m0) (c := k29c0) (by decide +kernel) rfl rfl rfl (by decide +kernel)
set_option maxRecDepth 65536 in
theorem w_c15 : (Jvm.Cond.code ({ cls := "java/util/HashMap", name := "tableSizeFor", desc := "(I)I" } : Jvm.MethodName) jdk_69_method_4_code (2 : Nat) (Option.some Jvm.ClassFile.FieldType.int)).before args0 about1 = true := code_word (m := ⟨25, 0⟩) (meth := k25m0) (c := k25c0) (by decide +kernel) rfl rfl rfl (by decide +kernel)
set_option maxRecDepth 65536 in
theorem w_c16 : (Jvm.Cond.code ({ cls := "java/lang/Integer", name := "numberOfLeadingZeros", desc := "(I)I" } : Jvm.MethodName) jdk_33_method_47_code (2 : Nat) (Option.some Jvm.ClassFile.FieldType.int)).before args0 about1 = true := code_word (m := ⟨30, 0⟩) (meth := k30m0) (c := k30c0) (by decide +kernel) rfl rfl rfl (by decide +kernel)
set_option maxRecDepth 65536 in
theorem w_c17 : (Jvm.Cond.code ({ cls := "java/util/ImmutableCollections$AbstractImmutableList", name := "iterator", desc := "()Ljava/util/Iterator;" } : Jvm.MethodName) jdk_46_method_10_code (1 : Nat) (Option.some (Jvm.ClassFile.FieldType.object "java/util/Iterator"))).before args0 about1 = true := code_word (m := ⟨33, 1⟩) (meth := k33m1) (c := k33c1) (by decide +kernel) rfl rfl rfl (by decide +kernel)
set_option maxRecDepth 65536 in
theorem w_c18 : (Jvm.Cond.code ({ cls := "java/util/ImmutableCollections$ListN", name := "size", desc := "()I" } : Jvm.MethodName) jdk_45_method_3_code (1 : Nat) (Option.some Jvm.ClassFile.FieldType.int)).before args0 about1 = true := code_word (m := ⟨34, 0⟩) (meth := k34m0) (c := k34c0) (by decide +kernel) rfl rfl rfl (by decide +kernel)
set_option maxRecDepth 65536 in
theorem w_c19 : (Jvm.Cond.code ({ cls := "java/util/ImmutableCollections$ListItr", name := "<init>", desc := "(Ljava/util/List;I)V" } : Jvm.MethodName) jdk_53_method_1_code (3 : Nat) (Option.none : Option Jvm.ClassFile.FieldType)).before args0 about1 = true := code_word (m := ⟨37, 0⟩) (meth := k37m0) (c := k37c0) (by decide +kernel) rfl rfl rfl (by decide +kernel)
set_option maxRecDepth 65536 in
theorem w_c20 : (Jvm.Cond.code ({ cls := "java/util/ImmutableCollections$ListItr", name := "hasNext", desc := "()Z" } : Jvm.MethodName) jdk_53_method_3_code (1 : Nat) (Option.some Jvm.ClassFile.FieldType.boolean)).before args0 about1 = true := code_word (m := ⟨37, 1⟩) (meth := k37m1) (c := k37c1) (by decide +kernel) rfl rfl rfl (by decide +kernel)
set_option maxRecDepth 65536 in
theorem w_c21 : (Jvm.Cond.code ({ cls := "java/util/Collections", name := "unmodifiableSet", desc := "(Ljava/util/Set;)Ljava/util/Set;" } : Jvm.MethodName) jdk_79_method_31_code (1 : Nat) (Option.some (Jvm.ClassFile.FieldType.object "java/util/Set"))).before args0 about1 = true := code_word (m := ⟨38, 1⟩) (meth := k38m1) (c := k38c1) (by decide +kernel) rfl rfl rfl (by decide +kernel)
set_option maxRecDepth 65536 in
theorem w_c22 : (Jvm.Cond.code ({ cls := "java/util/Collections$UnmodifiableSet", name := "<init>", desc := "(Ljava/util/Set;)V" } : Jvm.MethodName) jdk_122_method_1_code (2 : Nat) (Option.none : Option Jvm.ClassFile.FieldType)).before args0 about1 = true := code_word (m := ⟨40, 0⟩) (meth := k40m0) (c := k40c0) (by decide +kernel) rfl rfl rfl (by decide +kernel)
set_option maxRecDepth 65536 in
theorem w_c23 : (Jvm.Cond.code ({ cls := "java/util/Collections$UnmodifiableCollection", name := "<init>", desc := "(Ljava/util/Collection;)V" } : Jvm.MethodName) jdk_119_method_1_code (2 : Nat) (Option.none : Option Jvm.ClassFile.FieldType)).before args0 about1 = true := code_word (m := ⟨39, 0⟩) (meth := k39m0) (c := k39c0) (by decide +kernel) rfl rfl rfl (by decide +kernel)
set_option maxRecDepth 65536 in
theorem w_c24 : (Jvm.Cond.code ({ cls := "com/example/mussel/mussel/rule/Selection", name := "exclude", desc := "([Ljava/lang/String;)Lcom/example/mussel/mussel/rule/Selection;" } : Jvm.MethodName) prog_9_method_4_code (1 : Nat) (Option.some (Jvm.ClassFile.FieldType.object "com/example/mussel/mussel/rule/Selection"))).before args0 about1 = true := code_word (m := ⟨8, 2⟩) (meth := k8m2) (c := k8c2) (by decide +kernel) rfl rfl rfl (by decide +kernel)
set_option maxRecDepth 65536 in
theorem w_c25 : (Jvm.Cond.code ({ cls := "java/util/List", name := "of", desc := "([Ljava/lang/Object;)Ljava/util/List;" } : Jvm.MethodName) jdk_40_method_47_code (2 : Nat) (Option.some (Jvm.ClassFile.FieldType.object "java/util/List"))).before args0 about1 = true := code_word (m := ⟨14, 1⟩) (meth := k14m1) (c := k14c1) (by decide +kernel) rfl rfl rfl (by decide +kernel)
set_option maxRecDepth 65536 in
theorem w_c26 : (Jvm.Cond.code ({ cls := "com/example/mussel/mussel/rule/Selection", name := "ignoresAll", desc := "()Z" } : Jvm.MethodName) prog_9_method_7_code (1 : Nat) (Option.some Jvm.ClassFile.FieldType.boolean)).before args0 about1 = true := code_word (m := ⟨8, 3⟩) (meth := k8m3) (c := k8c3) (by decide +kernel) rfl rfl rfl (by decide +kernel)
set_option maxRecDepth 65536 in
theorem w_c27 : (Jvm.Cond.code ({ cls := "com/example/mussel/mussel/rule/Selection", name := "applies", desc := "(Ljava/lang/String;)Z" } : Jvm.MethodName) prog_9_method_9_code (2 : Nat) (Option.some Jvm.ClassFile.FieldType.boolean)).before args0 about1 = true := code_word (m := ⟨8, 4⟩) (meth := k8m4) (c := k8c4) (by decide +kernel) rfl rfl rfl (by decide +kernel)
set_option maxRecDepth 65536 in
theorem w_c28 : (Jvm.Cond.code ({ cls := "java/lang/Enum", name := "ordinal", desc := "()I" } : Jvm.MethodName) jdk_37_method_2_code (1 : Nat) (Option.some Jvm.ClassFile.FieldType.int)).before args0 about1 = true := code_word (m := ⟨9, 0⟩) (meth := k9m0) (c := k9c0) (by decide +kernel) rfl rfl rfl (by decide +kernel)
set_option maxRecDepth 65536 in
theorem w_c29 : (Jvm.Cond.code ({ cls := "com/example/mussel/mussel/rule/Selection", name := "equals", desc := "(Ljava/lang/Object;)Z" } : Jvm.MethodName) prog_9_method_10_code (3 : Nat) (Option.some Jvm.ClassFile.FieldType.boolean)).before args0 about1 = true := code_word (m := ⟨8, 5⟩) (meth := k8m5) (c := k8c5) (by decide +kernel) rfl rfl rfl (by decide +kernel)
set_option maxRecDepth 65536 in
theorem w_c30 : (Jvm.Cond.code ({ cls := "java/util/Collections$UnmodifiableSet", name := "equals", desc := "(Ljava/lang/Object;)Z" } : Jvm.MethodName) jdk_122_method_2_code (2 : Nat) (Option.some Jvm.ClassFile.FieldType.boolean)).before args0 about1 = true := code_word (m := ⟨40, 1⟩) (meth := k40m1) (c := k40c1) (by decide +kernel) rfl rfl rfl (by decide +kernel)
set_option maxRecDepth 65536 in
theorem w_c31 : (Jvm.Cond.code ({ cls := "java/util/Collections$UnmodifiableCollection", name := "size", desc := "()I" } : Jvm.MethodName) jdk_119_method_2_code (1 : Nat) (Option.some Jvm.ClassFile.FieldType.int)).before args0 about1 = true := code_word (m := ⟨39, 1⟩) (meth := k39m1) (c := k39c1) (by decide +kernel) rfl rfl rfl (by decide +kernel)
set_option maxRecDepth 65536 in
theorem w_c32 : (Jvm.Cond.code ({ cls := "java/util/HashSet", name := "size", desc := "()I" } : Jvm.MethodName) jdk_93_method_7_code (1 : Nat) (Option.some Jvm.ClassFile.FieldType.int)).before args0 about1 = true := code_word (m := ⟨20, 3⟩) (meth := k20m3) (c := k20c3) (by decide +kernel) rfl rfl rfl (by decide +kernel)
set_option maxRecDepth 65536 in
theorem w_c33 : (Jvm.Cond.code ({ cls := "java/util/HashMap", name := "size", desc := "()I" } : Jvm.MethodName) jdk_69_method_10_code (1 : Nat) (Option.some Jvm.ClassFile.FieldType.int)).before args0 about1 = true := code_word (m := ⟨25, 3⟩) (meth := k25m3) (c := k25c3) (by decide +kernel) rfl rfl rfl (by decide +kernel)
set_option maxRecDepth 65536 in
theorem w_c34 : (Jvm.Cond.code ({ cls := "java/util/AbstractCollection", name := "containsAll", desc := "(Ljava/util/Collection;)Z" } : Jvm.MethodName) jdk_22_method_11_code (4 : Nat) (Option.some Jvm.ClassFile.FieldType.boolean)).before args0 about1 = true := code_word (m := ⟨16, 2⟩) (meth := k16m2) (c := k16c2) (by decide +kernel) rfl rfl rfl (by decide +kernel)
set_option maxRecDepth 65536 in
theorem w_c35 : (Jvm.Cond.code ({ cls := "java/util/Collections$UnmodifiableCollection", name := "iterator", desc := "()Ljava/util/Iterator;" } : Jvm.MethodName) jdk_119_method_9_code (1 : Nat) (Option.some (Jvm.ClassFile.FieldType.object "java/util/Iterator"))).before args0 about1 = true := code_word (m := ⟨39, 2⟩) (meth := k39m2) (c := k39c2) (by decide +kernel) rfl rfl rfl (by decide +kernel)
set_option maxRecDepth 65536 in
theorem w_c36 : (Jvm.Cond.code ({ cls := "java/util/Collections$UnmodifiableCollection$1", name := "<init>", desc := "(Ljava/util/Collections$UnmodifiableCollection;)V" } : Jvm.MethodName) jdk_135_method_1_code (2 : Nat) (Option.none : Option Jvm.ClassFile.FieldType)).before args0 about1 = true := code_word (m := ⟨41, 0⟩) (meth := k41m0) (c := k41c0) (by decide +kernel) rfl rfl rfl (by decide +kernel)
set_option maxRecDepth 65536 in
theorem w_c37 : (Jvm.Cond.code ({ cls := "java/util/HashSet", name := "iterator", desc := "()Ljava/util/Iterator;" } : Jvm.MethodName) jdk_93_method_6_code (1 : Nat) (Option.some (Jvm.ClassFile.FieldType.object "java/util/Iterator"))).before args0 about1 = true := code_word (m := ⟨20, 2⟩) (meth := k20m2) (c := k20c2) (by decide +kernel) rfl rfl rfl (by decide +kernel)
set_option maxRecDepth 65536 in
theorem w_c38 : (Jvm.Cond.code ({ cls := "java/util/LinkedHashMap", name := "keySet", desc := "()Ljava/util/Set;" } : Jvm.MethodName) jdk_94_method_24_code (1 : Nat) (Option.some (Jvm.ClassFile.FieldType.object "java/util/Set"))).before args0 about1 = true := code_word (m := ⟨27, 2⟩) (meth := k27m2) (c := k27c2) (by decide +kernel) rfl rfl rfl (by decide +kernel)
set_option maxRecDepth 65536 in
theorem w_c39 : (Jvm.Cond.code ({ cls := "java/util/LinkedHashMap", name := "sequencedKeySet", desc := "()Ljava/util/SequencedSet;" } : Jvm.MethodName) jdk_94_method_25_code (3 : Nat) (Option.some (Jvm.ClassFile.FieldType.object "java/util/SequencedSet"))).before args0 about1 = true := code_word (m := ⟨27, 3⟩) (meth := k27m3) (c := k27c3) (by decide +kernel) rfl rfl rfl (by decide +kernel)
set_option maxRecDepth 65536 in
theorem w_c40 : (Jvm.Cond.code ({ cls := "java/util/LinkedHashMap$LinkedKeySet", name := "<init>", desc := "(Ljava/util/LinkedHashMap;Z)V" } : Jvm.MethodName) jdk_112_method_1_code (3 : Nat) (Option.none : Option Jvm.ClassFile.FieldType)).before args0 about1 = true := code_word (m := ⟨42, 0⟩) (meth := k42m0) (c := k42c0) (by decide +kernel) rfl rfl rfl (by decide +kernel)
set_option maxRecDepth 65536 in
theorem w_c41 : (Jvm.Cond.code ({ cls := "java/util/LinkedHashMap$LinkedKeySet", name := "iterator", desc := "()Ljava/util/Iterator;" } : Jvm.MethodName) jdk_112_method_4_code (1 : Nat) (Option.some (Jvm.ClassFile.FieldType.object "java/util/Iterator"))).before args0 about1 = true := code_word (m := ⟨42, 1⟩) (meth := k42m1) (c := k42c1) (by decide +kernel) rfl rfl rfl (by decide +kernel)
set_option maxRecDepth 65536 in
theorem w_c42 : (Jvm.Cond.code ({ cls := "java/util/LinkedHashMap$LinkedKeyIterator", name := "<init>", desc := "(Ljava/util/LinkedHashMap;Z)V" } : Jvm.MethodName) jdk_2617_method_1_code (3 : Nat) (Option.none : Option Jvm.ClassFile.FieldType)).before args0 about1 = true := code_word (m := ⟨44, 0⟩) (meth := k44m0) (c := k44c0) (by decide +kernel) rfl rfl rfl (by decide +kernel)
set_option maxRecDepth 65536 in
theorem w_c43 : (Jvm.Cond.code ({ cls := "java/util/LinkedHashMap$LinkedHashIterator", name := "<init>", desc := "(Ljava/util/LinkedHashMap;Z)V" } : Jvm.MethodName) jdk_2616_method_1_code (3 : Nat) (Option.none : Option Jvm.ClassFile.FieldType)).before args0 about1 = true := code_word (m := ⟨43, 0⟩) (meth := k43m0) (c := k43c0) (by decide +kernel) rfl rfl rfl (by decide +kernel)
set_option maxRecDepth 65536 in
theorem w_c44 : (Jvm.Cond.code ({ cls := "java/util/Collections$UnmodifiableCollection$1", name := "hasNext", desc := "()Z" } : Jvm.MethodName) jdk_135_method_2_code (1 : Nat) (Option.some Jvm.ClassFile.FieldType.boolean)).before args0 about1 = true := code_word (m := ⟨41, 1⟩) (meth := k41m1) (c := k41c1) (by decide +kernel) rfl rfl rfl (by decide +kernel)
set_option maxRecDepth 65536 in
theorem w_c45 : (Jvm.Cond.code ({ cls := "java/util/LinkedHashMap$LinkedHashIterator", name := "hasNext", desc := "()Z" } : Jvm.MethodName) jdk_2616_method_2_code (1 : Nat) (Option.some Jvm.ClassFile.FieldType.boolean)).before args0 about1 = true := code_word (m := ⟨43, 1⟩) (meth := k43m1) (c := k43c1) (by decide +kernel) rfl rfl rfl (by decide +kernel)
set_option maxRecDepth 65536 in
theorem w_c46 : (Jvm.Cond.code ({ cls := "java/lang/StringUTF16", name := "compress", desc := "([CII)[B" } : Jvm.MethodName) jdk_52_method_16_code (6 : Nat) (Option.some (Jvm.ClassFile.FieldType.array Jvm.ClassFile.FieldType.byte))).before args0 about1 = true := code_word (m := ⟨45, 2⟩) (meth := k45m2) (c := k45c2) (by decide +kernel) rfl rfl rfl (by decide +kernel)
set_option maxRecDepth 65536 in
theorem w_c47 : (Jvm.Cond.code ({ cls := "java/lang/StringUTF16", name := "compress", desc := "([CI[BII)I" } : Jvm.MethodName) jdk_52_method_21_code (7 : Nat) (Option.some Jvm.ClassFile.FieldType.int)).before args0 about1 = true := code_word (m := ⟨45, 3⟩) (meth := k45m3) (c := k45c3) (by decide +kernel) rfl rfl rfl (by decide +kernel)
set_option maxRecDepth 65536 in
theorem w_c48 : (Jvm.Cond.code ({ cls := "java/lang/StringUTF16", name := "coderFromArrayLen", desc := "([BI)B" } : Jvm.MethodName) jdk_52_method_15_code (2 : Nat) (Option.some Jvm.ClassFile.FieldType.byte)).before args0 about1 = true := code_word (m := ⟨45, 1⟩) (meth := k45m1) (c := k45c1) (by decide +kernel) rfl rfl rfl (by decide +kernel)
def codes1 : List Jvm.Cond := [Jvm.Cond.code x code maxLocals ret, Jvm.Cond.code ({ cls := "java/lang/String", name := "<init>", desc := "([C)V" } : Jvm.MethodName) jdk_42_method_3_code (2 : Nat) (Option.none : Option Jvm.ClassFile.FieldType), Jvm.Cond.code ({ cls := "java/lang/String", name := "<init>", desc := "([CIILjava/lang/Void;)V" } : Jvm.MethodName) jdk_42_method_149_code (6 : Nat) (Option.none : Option Jvm.ClassFile.FieldType), Jvm.Cond.code ({ cls := "java/lang/Object", name := "<init>", desc := "()V" } : Jvm.MethodName) object_method_1_code (1 : Nat) (Option.none : Option Jvm.ClassFile.FieldType), Jvm.Cond.code ({ cls := "com/example/mussel/mussel/rule/Selection", name := "ignore", desc := "()Lcom/example/mussel/mussel/rule/Selection;" } : Jvm.MethodName) prog_9_method_2_code (0 : Nat) (Option.some (Jvm.ClassFile.FieldType.object "com/example/mussel/mussel/rule/Selection")), Jvm.Cond.code ({ cls := "java/util/List", name := "of", desc := "()Ljava/util/List;" } : Jvm.MethodName) jdk_40_method_36_code (0 : Nat) (Option.some (Jvm.ClassFile.FieldType.object "java/util/List")), Jvm.Cond.code ({ cls := "com/example/mussel/mussel/rule/Selection", name := "<init>", desc := "(Lcom/example/mussel/mussel/rule/Selection$Kind;Ljava/util/Collection;)V" } : Jvm.MethodName) prog_9_method_1_code (6 : Nat) (Option.none : Option Jvm.ClassFile.FieldType), Jvm.Cond.code ({ cls := "java/util/LinkedHashSet", name := "<init>", desc := "()V" } : Jvm.MethodName) jdk_2620_method_3_code (1 : Nat) (Option.none : Option Jvm.ClassFile.FieldType), Jvm.Cond.code ({ cls := "java/util/HashSet", name := "<init>", desc := "(IFZ)V" } : Jvm.MethodName) jdk_93_method_5_code (4 : Nat) (Option.none : Option Jvm.ClassFile.FieldType), Jvm.Cond.code ({ cls := "java/util/AbstractSet", name := "<init>", desc := "()V" } : Jvm.MethodName) jdk_91_method_1_code (1 : Nat) (Option.none : Option Jvm.ClassFile.FieldType), Jvm.Cond.code ({ cls := "java/util/AbstractCollection", name := "<init>", desc := "()V" } : Jvm.MethodName) jdk_22_method_1_code (1 : Nat) (Option.none : Option Jvm.ClassFile.FieldType), Jvm.Cond.code ({ cls := "java/util/LinkedHashMap", name := "<init>", desc := "(IF)V" } : Jvm.MethodName) jdk_94_method_14_code (3 : Nat) (Option.none : Option Jvm.ClassFile.FieldType), Jvm.Cond.code ({ cls := "java/util/HashMap", name := "<init>", desc := "(IF)V" } : Jvm.MethodName) jdk_69_method_5_code (3 : Nat) (Option.none : Option Jvm.ClassFile.FieldType), Jvm.Cond.code ({ cls := "java/util/AbstractMap", name := "<init>", desc := "()V" } : Jvm.MethodName) jdk_71_method_1_code (1 : Nat) (Option.none : Option Jvm.ClassFile.FieldType), Jvm.Cond.code ({ cls := "java/lang/Float", name := "isNaN", desc := "(F)Z" } : Jvm.MethodName) jdk_118_method_6_code (1 : Nat) (Option.some Jvm.ClassFile.FieldType.boolean), Jvm.Cond.code ({ cls := "java/util/HashMap", name := "tableSizeFor", desc := "(I)I" } : Jvm.MethodName) jdk_69_method_4_code (2 : Nat) (Option.some Jvm.ClassFile.FieldType.int), Jvm.Cond.code ({ cls := "java/lang/Integer", name := "numberOfLeadingZeros", desc := "(I)I" } : Jvm.MethodName) jdk_33_method_47_code (2 : Nat) (Option.some Jvm.ClassFile.FieldType.int), Jvm.Cond.code ({ cls := "java/util/ImmutableCollections$AbstractImmutableList", name := "iterator", desc := "()Ljava/util/Iterator;" } : Jvm.MethodName) jdk_46_method_10_code (1 : Nat) (Option.some (Jvm.ClassFile.FieldType.object "java/util/Iterator")), Jvm.Cond.code ({ cls := "java/util/ImmutableCollections$ListN", name := "size", desc := "()I" } : Jvm.MethodName) jdk_45_method_3_code (1 : Nat) (Option.some Jvm.ClassFile.FieldType.int), Jvm.Cond.code ({ cls := "java/util/ImmutableCollections$ListItr", name := "<init>", desc := "(Ljava/util/List;I)V" } : Jvm.MethodName) jdk_53_method_1_code (3 : Nat) (Option.none : Option Jvm.ClassFile.FieldType), Jvm.Cond.code ({ cls := "java/util/ImmutableCollections$ListItr", name := "hasNext", desc := "()Z" } : Jvm.MethodName) jdk_53_method_3_code (1 : Nat) (Option.some Jvm.ClassFile.FieldType.boolean), Jvm.Cond.code ({ cls := "java/util/Collections", name := "unmodifiableSet", desc := "(Ljava/util/Set;)Ljava/util/Set;" } : Jvm.MethodName) jdk_79_method_31_code (1 : Nat) (Option.some (Jvm.ClassFile.FieldType.object "java/util/Set")), Jvm.Cond.code ({ cls := "java/util/Collections$UnmodifiableSet", name := "<init>", desc := "(Ljava/util/Set;)V" } : Jvm.MethodName) jdk_122_method_1_code (2 : Nat) (Option.none : Option Jvm.ClassFile.FieldType), Jvm.Cond.code ({ cls := "java/util/Collections$UnmodifiableCollection", name := "<init>", desc := "(Ljava/util/Collection;)V" } : Jvm.MethodName) jdk_119_method_1_code (2 : Nat) (Option.none : Option Jvm.ClassFile.FieldType), Jvm.Cond.code ({ cls := "com/example/mussel/mussel/rule/Selection", name := "exclude", desc := "([Ljava/lang/String;)Lcom/example/mussel/mussel/rule/Selection;" } : Jvm.MethodName) prog_9_method_4_code (1 : Nat) (Option.some (Jvm.ClassFile.FieldType.object "com/example/mussel/mussel/rule/Selection")), Jvm.Cond.code ({ cls := "java/util/List", name := "of", desc := "([Ljava/lang/Object;)Ljava/util/List;" } : Jvm.MethodName) jdk_40_method_47_code (2 : Nat) (Option.some (Jvm.ClassFile.FieldType.object "java/util/List")), Jvm.Cond.code ({ cls := "com/example/mussel/mussel/rule/Selection", name := "ignoresAll", desc := "()Z" } : Jvm.MethodName) prog_9_method_7_code (1 : Nat) (Option.some Jvm.ClassFile.FieldType.boolean), Jvm.Cond.code ({ cls := "com/example/mussel/mussel/rule/Selection", name := "applies", desc := "(Ljava/lang/String;)Z" } : Jvm.MethodName) prog_9_method_9_code (2 : Nat) (Option.some Jvm.ClassFile.FieldType.boolean), Jvm.Cond.code ({ cls := "java/lang/Enum", name := "ordinal", desc := "()I" } : Jvm.MethodName) jdk_37_method_2_code (1 : Nat) (Option.some Jvm.ClassFile.FieldType.int), Jvm.Cond.code ({ cls := "com/example/mussel/mussel/rule/Selection", name := "equals", desc := "(Ljava/lang/Object;)Z" } : Jvm.MethodName) prog_9_method_10_code (3 : Nat) (Option.some Jvm.ClassFile.FieldType.boolean), Jvm.Cond.code ({ cls := "java/util/Collections$UnmodifiableSet", name := "equals", desc := "(Ljava/lang/Object;)Z" } : Jvm.MethodName) jdk_122_method_2_code (2 : Nat) (Option.some Jvm.ClassFile.FieldType.boolean), Jvm.Cond.code ({ cls := "java/util/Collections$UnmodifiableCollection", name := "size", desc := "()I" } : Jvm.MethodName) jdk_119_method_2_code (1 : Nat) (Option.some Jvm.ClassFile.FieldType.int), Jvm.Cond.code ({ cls := "java/util/HashSet", name := "size", desc := "()I" } : Jvm.MethodName) jdk_93_method_7_code (1 : Nat) (Option.some Jvm.ClassFile.FieldType.int), Jvm.Cond.code ({ cls := "java/util/HashMap", name := "size", desc := "()I" } : Jvm.MethodName) jdk_69_method_10_code (1 : Nat) (Option.some Jvm.ClassFile.FieldType.int), Jvm.Cond.code ({ cls := "java/util/AbstractCollection", name := "containsAll", desc := "(Ljava/util/Collection;)Z" } : Jvm.MethodName) jdk_22_method_11_code (4 : Nat) (Option.some Jvm.ClassFile.FieldType.boolean), Jvm.Cond.code ({ cls := "java/util/Collections$UnmodifiableCollection", name := "iterator", desc := "()Ljava/util/Iterator;" } : Jvm.MethodName) jdk_119_method_9_code (1 : Nat) (Option.some (Jvm.ClassFile.FieldType.object "java/util/Iterator")), Jvm.Cond.code ({ cls := "java/util/Collections$UnmodifiableCollection$1", name := "<init>", desc := "(Ljava/util/Collections$UnmodifiableCollection;)V" } : Jvm.MethodName) jdk_135_method_1_code (2 : Nat) (Option.none : Option Jvm.ClassFile.FieldType), Jvm.Cond.code ({ cls := "java/util/HashSet", name := "iterator", desc := "()Ljava/util/Iterator;" } : Jvm.MethodName) jdk_93_method_6_code (1 : Nat) (Option.some (Jvm.ClassFile.FieldType.object "java/util/Iterator")), Jvm.Cond.code ({ cls := "java/util/LinkedHashMap", name := "keySet", desc := "()Ljava/util/Set;" } : Jvm.MethodName) jdk_94_method_24_code (1 : Nat) (Option.some (Jvm.ClassFile.FieldType.object "java/util/Set")), Jvm.Cond.code ({ cls := "java/util/LinkedHashMap", name := "sequencedKeySet", desc := "()Ljava/util/SequencedSet;" } : Jvm.MethodName) jdk_94_method_25_code (3 : Nat) (Option.some (Jvm.ClassFile.FieldType.object "java/util/SequencedSet")), Jvm.Cond.code ({ cls := "java/util/LinkedHashMap$LinkedKeySet", name := "<init>", desc := "(Ljava/util/LinkedHashMap;Z)V" } : Jvm.MethodName) jdk_112_method_1_code (3 : Nat) (Option.none : Option Jvm.ClassFile.FieldType), Jvm.Cond.code ({ cls := "java/util/LinkedHashMap$LinkedKeySet", name := "iterator", desc := "()Ljava/util/Iterator;" } : Jvm.MethodName) jdk_112_method_4_code (1 : Nat) (Option.some (Jvm.ClassFile.FieldType.object "java/util/Iterator")), Jvm.Cond.code ({ cls := "java/util/LinkedHashMap$LinkedKeyIterator", name := "<init>", desc := "(Ljava/util/LinkedHashMap;Z)V" } : Jvm.MethodName) jdk_2617_method_1_code (3 : Nat) (Option.none : Option Jvm.ClassFile.FieldType), Jvm.Cond.code ({ cls := "java/util/LinkedHashMap$LinkedHashIterator", name := "<init>", desc := "(Ljava/util/LinkedHashMap;Z)V" } : Jvm.MethodName) jdk_2616_method_1_code (3 : Nat) (Option.none : Option Jvm.ClassFile.FieldType), Jvm.Cond.code ({ cls := "java/util/Collections$UnmodifiableCollection$1", name := "hasNext", desc := "()Z" } : Jvm.MethodName) jdk_135_method_2_code (1 : Nat) (Option.some Jvm.ClassFile.FieldType.boolean), Jvm.Cond.code ({ cls := "java/util/LinkedHashMap$LinkedHashIterator", name := "hasNext", desc := "()Z" } : Jvm.MethodName) jdk_2616_method_2_code (1 : Nat) (Option.some Jvm.ClassFile.FieldType.boolean), Jvm.Cond.code ({ cls := "java/lang/StringUTF16", name := "compress", desc := "([CII)[B" } : Jvm.MethodName) jdk_52_method_16_code (6 : Nat) (Option.some (Jvm.ClassFile.FieldType.array Jvm.ClassFile.FieldType.byte)), Jvm.Cond.code ({ cls := "java/lang/StringUTF16", name := "compress", desc := "([CI[BII)I" } : Jvm.MethodName) jdk_52_method_21_code (7 : Nat) (Option.some Jvm.ClassFile.FieldType.int), Jvm.Cond.code ({ cls := "java/lang/StringUTF16", name := "coderFromArrayLen", desc := "([BI)B" } : Jvm.MethodName) jdk_52_method_15_code (2 : Nat) (Option.some Jvm.ClassFile.FieldType.byte)]
set_option maxRecDepth 65536 in
theorem codes_eq : words1.filter isCode = codes1 := rfl
theorem w_codes : ∀ c ∈ words1.filter isCode, c.before args0 about1 = true := by
  rw [codes_eq]
  intro c hc
  simp only [codes1, List.mem_cons, List.not_mem_nil, or_false] at hc
  rcases hc with rfl | rfl | rfl | rfl | rfl | rfl | rfl | rfl | rfl | rfl | rfl | rfl | rfl | rfl | rfl | rfl | rfl | rfl | rfl | rfl | rfl | rfl | rfl | rfl | rfl | rfl | rfl | rfl | rfl | rfl | rfl | rfl | rfl | rfl | rfl | rfl | rfl | rfl | rfl | rfl | rfl | rfl | rfl | rfl | rfl | rfl | rfl | rfl | rfl
  · exact w_c0
  · exact w_c1
  · exact w_c2
  · exact w_c3
  · exact w_c4
  · exact w_c5
  · exact w_c6
  · exact w_c7
  · exact w_c8
  · exact w_c9
  · exact w_c10
  · exact w_c11
  · exact w_c12
  · exact w_c13
  · exact w_c14
  · exact w_c15
  · exact w_c16
  · exact w_c17
  · exact w_c18
  · exact w_c19
  · exact w_c20
  · exact w_c21
  · exact w_c22
  · exact w_c23
  · exact w_c24
  · exact w_c25
  · exact w_c26
  · exact w_c27
  · exact w_c28
  · exact w_c29
  · exact w_c30
  · exact w_c31
  · exact w_c32
  · exact w_c33
  · exact w_c34
  · exact w_c35
  · exact w_c36
  · exact w_c37
  · exact w_c38
  · exact w_c39
  · exact w_c40
  · exact w_c41
  · exact w_c42
  · exact w_c43
  · exact w_c44
  · exact w_c45
  · exact w_c46
  · exact w_c47
  · exact w_c48
set_option maxRecDepth 65536 in
theorem w_t1 : (words1.take 24).all (fun c => isCode c || c.before args0 about1) = true := by decide +kernel
set_option maxRecDepth 65536 in
theorem w_t2 : ((words1.drop 24).take 24).all (fun c => isCode c || c.before args0 about1) = true := by decide +kernel
set_option maxRecDepth 65536 in
theorem w_t3 : (((words1.drop 24).drop 24).take 24).all (fun c => isCode c || c.before args0 about1) = true := by decide +kernel
set_option maxRecDepth 65536 in
theorem w_t4 : ((((words1.drop 24).drop 24).drop 24).take 24).all (fun c => isCode c || c.before args0 about1) = true := by decide +kernel
set_option maxRecDepth 65536 in
theorem w_t5 : (((((words1.drop 24).drop 24).drop 24).drop 24).take 24).all (fun c => isCode c || c.before args0 about1) = true := by decide +kernel
set_option maxRecDepth 65536 in
theorem w_t6 : ((((((words1.drop 24).drop 24).drop 24).drop 24).drop 24).take 24).all (fun c => isCode c || c.before args0 about1) = true := by decide +kernel
set_option maxRecDepth 65536 in
theorem w_t7 : (((((((words1.drop 24).drop 24).drop 24).drop 24).drop 24).drop 24).take 24).all (fun c => isCode c || c.before args0 about1) = true := by decide +kernel
set_option maxRecDepth 65536 in
theorem w_t8 : ((((((((words1.drop 24).drop 24).drop 24).drop 24).drop 24).drop 24).drop 24).take 24).all (fun c => isCode c || c.before args0 about1) = true := by decide +kernel
set_option maxRecDepth 65536 in
theorem w_t9 : (((((((((words1.drop 24).drop 24).drop 24).drop 24).drop 24).drop 24).drop 24).drop 24).take 24).all (fun c => isCode c || c.before args0 about1) = true := by decide +kernel
set_option maxRecDepth 65536 in
theorem w_t10 : ((((((((((words1.drop 24).drop 24).drop 24).drop 24).drop 24).drop 24).drop 24).drop 24).drop 24).take 24).all (fun c => isCode c || c.before args0 about1) = true := by decide +kernel
set_option maxRecDepth 65536 in
theorem w_t11 : (((((((((((words1.drop 24).drop 24).drop 24).drop 24).drop 24).drop 24).drop 24).drop 24).drop 24).drop 24).take 24).all (fun c => isCode c || c.before args0 about1) = true := by decide +kernel
set_option maxRecDepth 65536 in
theorem w_t12 : ((((((((((((words1.drop 24).drop 24).drop 24).drop 24).drop 24).drop 24).drop 24).drop 24).drop 24).drop 24).drop 24).take 24).all (fun c => isCode c || c.before args0 about1) = true := by decide +kernel
set_option maxRecDepth 65536 in
theorem w_t13 : (((((((((((((words1.drop 24).drop 24).drop 24).drop 24).drop 24).drop 24).drop 24).drop 24).drop 24).drop 24).drop 24).drop 24).take 24).all (fun c => isCode c || c.before args0 about1) = true := by decide +kernel
set_option maxRecDepth 65536 in
theorem w_t14 : ((((((((((((((words1.drop 24).drop 24).drop 24).drop 24).drop 24).drop 24).drop 24).drop 24).drop 24).drop 24).drop 24).drop 24).drop 24).take 24).all (fun c => isCode c || c.before args0 about1) = true := by decide +kernel
set_option maxRecDepth 65536 in
theorem w_t15 : (((((((((((((((words1.drop 24).drop 24).drop 24).drop 24).drop 24).drop 24).drop 24).drop 24).drop 24).drop 24).drop 24).drop 24).drop 24).drop 24).take 24).all (fun c => isCode c || c.before args0 about1) = true := by decide +kernel
set_option maxRecDepth 65536 in
theorem w_t16 : ((((((((((((((((words1.drop 24).drop 24).drop 24).drop 24).drop 24).drop 24).drop 24).drop 24).drop 24).drop 24).drop 24).drop 24).drop 24).drop 24).drop 24).take 24).all (fun c => isCode c || c.before args0 about1) = true := by decide +kernel
set_option maxRecDepth 65536 in
theorem w_t17 : ((((((((((((((((words1.drop 24).drop 24).drop 24).drop 24).drop 24).drop 24).drop 24).drop 24).drop 24).drop 24).drop 24).drop 24).drop 24).drop 24).drop 24).drop 24).all (fun c => isCode c || c.before args0 about1) = true := by decide +kernel
theorem w_tables : (allAtoms (Jvm.Cond.code x code maxLocals ret :: tables_1)).before args0 about1 = true := by
  rw [allAtoms_all]
  show words1.all (fun c => c.before args0 about1) = true
  refine all_split ?_ w_codes
  rw [← List.take_append_drop 24 words1, List.all_append, w_t1, ← List.take_append_drop 24 (words1.drop 24), List.all_append, w_t2, ← List.take_append_drop 24 ((words1.drop 24).drop 24), List.all_append, w_t3, ← List.take_append_drop 24 (((words1.drop 24).drop 24).drop 24), List.all_append, w_t4, ← List.take_append_drop 24 ((((words1.drop 24).drop 24).drop 24).drop 24), List.all_append, w_t5, ← List.take_append_drop 24 (((((words1.drop 24).drop 24).drop 24).drop 24).drop 24), List.all_append, w_t6, ← List.take_append_drop 24 ((((((words1.drop 24).drop 24).drop 24).drop 24).drop 24).drop 24), List.all_append, w_t7, ← List.take_append_drop 24 (((((((words1.drop 24).drop 24).drop 24).drop 24).drop 24).drop 24).drop 24), List.all_append, w_t8, ← List.take_append_drop 24 ((((((((words1.drop 24).drop 24).drop 24).drop 24).drop 24).drop 24).drop 24).drop 24), List.all_append, w_t9, ← List.take_append_drop 24 (((((((((words1.drop 24).drop 24).drop 24).drop 24).drop 24).drop 24).drop 24).drop 24).drop 24), List.all_append, w_t10, ← List.take_append_drop 24 ((((((((((words1.drop 24).drop 24).drop 24).drop 24).drop 24).drop 24).drop 24).drop 24).drop 24).drop 24), List.all_append, w_t11, ← List.take_append_drop 24 (((((((((((words1.drop 24).drop 24).drop 24).drop 24).drop 24).drop 24).drop 24).drop 24).drop 24).drop 24).drop 24), List.all_append, w_t12, ← List.take_append_drop 24 ((((((((((((words1.drop 24).drop 24).drop 24).drop 24).drop 24).drop 24).drop 24).drop 24).drop 24).drop 24).drop 24).drop 24), List.all_append, w_t13, ← List.take_append_drop 24 (((((((((((((words1.drop 24).drop 24).drop 24).drop 24).drop 24).drop 24).drop 24).drop 24).drop 24).drop 24).drop 24).drop 24).drop 24), List.all_append, w_t14, ← List.take_append_drop 24 ((((((((((((((words1.drop 24).drop 24).drop 24).drop 24).drop 24).drop 24).drop 24).drop 24).drop 24).drop 24).drop 24).drop 24).drop 24).drop 24), List.all_append, w_t15, ← List.take_append_drop 24 (((((((((((((((words1.drop 24).drop 24).drop 24).drop 24).drop 24).drop 24).drop 24).drop 24).drop 24).drop 24).drop 24).drop 24).drop 24).drop 24).drop 24), List.all_append, w_t16, w_t17]
  rfl
set_option maxRecDepth 65536 in
theorem w_rest : rest_1_c.before args0 about1 = true := by decide +kernel
set_option maxRecDepth 65536 in
theorem w_case : (Jvm.Cond.and given_1 narrow_1).before args0 about1 = true := by decide +kernel
set_option maxRecDepth 65536 in
theorem w_consts : constsHeld consts_1 about1 := Jvm.Lit.constsHeldB_iff.mp (by decide +kernel)
theorem w_applies : (headSpec (Jvm.Cond.code x code maxLocals ret :: tables_1) room_1).applies x e0.platform about1 = true :=
  (Spec.applies_iff w_frames).mpr ⟨w_running, w_runnable, w_alone, w_named, w_hears, w_ripe, w_room, w_tables⟩
set_option maxRecDepth 65536 in
theorem atStart : AtStart classFile x code maxLocals ret World_1 tables_1 room_1 Calls_1 rest_1 Pre_1 launch0 p0 e0 about1 theMethod args0 below0 :=
  ⟨lists_1, trivial, launch0.admits_env _ _ _, launch0.least_env, fairChoices_fair.cas, fairChoices_fair.clock, w_frames, w_args, w_heap, w_applies, ⟨⟨22, k22, 4, by decide +kernel, rfl, rfl, _, rfl, rfl⟩, ⟨⟨40, k40, 5, by decide +kernel, rfl, rfl, _, rfl, rfl⟩, ⟨w_consts, trivial⟩⟩⟩, w_rest, w_case⟩
end start1
theorem witness_1 : WitnessClaimed_1 := ⟨start1.p0, start1.e0, start1.about1, start1.theMethod, start1.args0, start1.below0, start1.atStart⟩
end Jvm.Pilot.@@N@@
