import JvmDerived
import JvmDerived.Pilot.@@N@@Statement
import JvmDerived.Pilot.@@N@@Code
set_option linter.unusedVariables false
set_option linter.unusedSimpArgs false
namespace Jvm.OwnKit
open Sem ClassFile Op Lib Jvm.Stand Jvm.Free Jvm.LawKit Jvm.RoadKit
/-! ## own kit: a body's walk as 'what is left to run' (Go), contracts (Ct), the known cells (Hp) -/
def updL {α : Type} : List α → Nat → α → List α
  | [], _, _ => []
  | _ :: r, 0, x => x :: r
  | y :: r, i + 1, x => y :: updL r i x
theorem upd_nil {α : Type} (i : Nat) (x : α) : updL [] i x = [] := by cases i <;> rfl
theorem upd_zero {α : Type} (y : α) (r : List α) (x : α) : updL (y :: r) 0 x = x :: r := rfl
theorem upd_succ {α : Type} (y : α) (r : List α) (i : Nat) (x : α) : updL (y :: r) (i + 1) x = y :: updL r i x := rfl
theorem upd_mem {α : Type} : ∀ (L : List α) (i : Nat) (x y : α), y ∈ updL L i x → y = x ∨ ∃ j, j ≠ i ∧ L[j]? = some y
  | [], i, x, y, q => by rw [upd_nil] at q; cases q
  | z :: r, 0, x, y, q => by
    rcases List.mem_cons.mp q with u | u
    · exact Or.inl u
    · obtain ⟨j, hj⟩ := List.getElem?_of_mem u
      exact Or.inr ⟨j + 1, by omega, by simpa using hj⟩
  | z :: r, i + 1, x, y, q => by
    rcases List.mem_cons.mp q with u | u
    · exact Or.inr ⟨0, by omega, by simp [u]⟩
    · rcases upd_mem r i x y u with v | ⟨j, v, w⟩
      · exact Or.inl v
      · exact Or.inr ⟨j + 1, by omega, by simpa using w⟩
theorem upd_map {α β : Type} (f : α → β) : ∀ (L : List α) (i : Nat) (x y : α), L[i]? = some y → f x = f y → (updL L i x).map f = L.map f
  | [], _, _, _, q, _ => by cases q
  | z :: r, 0, x, y, q, e => by cases q; simp [updL, e]
  | z :: r, i + 1, x, y, q, e => by simp [updL, upd_map f r i x y q e]
theorem upd_at {α : Type} : ∀ (L : List α) (i : Nat) (x y : α), L[i]? = some y → (updL L i x)[i]? = some x
  | [], _, _, _, q => by cases q
  | z :: r, 0, x, y, q => rfl
  | z :: r, i + 1, x, y, q => upd_at r i x y q
theorem upd_ne {α : Type} : ∀ (L : List α) (i j : Nat) (x : α), j ≠ i → (updL L i x)[j]? = L[j]?
  | [], i, j, x, _ => by rw [upd_nil]
  | z :: r, 0, 0, x, q => absurd rfl q
  | z :: r, 0, j + 1, x, _ => rfl
  | z :: r, i + 1, 0, x, _ => rfl
  | z :: r, i + 1, j + 1, x, q => upd_ne r i j x (by omega)
theorem upd_len {α : Type} : ∀ (L : List α) (i : Nat) (x : α), (updL L i x).length = L.length
  | [], i, x => by rw [upd_nil]
  | z :: r, 0, x => rfl
  | z :: r, i + 1, x => by simp [updL, upd_len r i x]
theorem upd_set {α : Type} : ∀ (L : List α) (i : Nat) (x : α), updL L i x = L.set i x
  | [], i, x => by rw [upd_nil]; simp
  | z :: r, 0, x => rfl
  | z :: r, i + 1, x => by simp [updL, upd_set r i x]
/-- the i-th to the front -/
theorem front {α : Type} : ∀ {L : List α} {i : Nat} {x : α}, L[i]? = some x → L.Perm (x :: L.eraseIdx i)
  | [], _, _, q => by cases q
  | z :: r, 0, x, q => by cases q; exact List.Perm.refl _
  | z :: r, i + 1, x, q => ((front (L := r) (i := i) q).cons z).trans (List.Perm.swap x z (r.eraseIdx i))
theorem upd_erase {α : Type} : ∀ (L : List α) (i : Nat) (x : α), (updL L i x).eraseIdx i = L.eraseIdx i
  | [], i, x => by rw [upd_nil]
  | z :: r, 0, x => rfl
  | z :: r, i + 1, x => by simp [updL, upd_erase r i x]
/-- .. and back to its place, another value -/
theorem unfront {α : Type} {L : List α} {i : Nat} {x x' : α} (hi : L[i]? = some x) : (x' :: L.eraseIdx i).Perm (updL L i x') := by
  have := front (upd_at L i x' x hi)
  rw [upd_erase] at this
  exact this.symm
abbrev Nm : Type := String × String × String
abbrev slo (Z : State) (q : Nm) : Nat := RoadKit.slotOf Z q.1 q.2.1 q.2.2
/-- a cell that is known: its address, what it holds, whether it is the walk's own (new; may be written) -/
abbrev Ent : Type := Addr × (Cell → Prop) × Bool
abbrev ow (a : Addr) (P : Cell → Prop) : Ent := (a, P, true)
abbrev ro (a : Addr) (P : Cell → Prop) : Ent := (a, P, false)
theorem upd_self {α : Type} : ∀ (L : List α) (i : Nat) (x : α), L[i]? = some x → updL L i x = L
  | [], _, _, q => by cases q
  | z :: r, 0, x, q => by cases q; rfl
  | z :: r, i + 1, x, q => by rw [upd_succ, upd_self r i x q]
/-- an object of exactly the class C; its fields ns hold vs -/
def Ob (Z : State) (C : String) (ns : List Nm) (vs : List Value) (c : Cell) : Prop :=
  (∃ k, Z.vm.findClass C = some c.cls ∧ Z.vm.classes[c.cls]? = some k ∧ c.vm.isStatics = false ∧ (k.kind = .ordinary → c.slots.size = k.instanceTypes.size)) ∧ vs.length = ns.length ∧
  ∀ (j : Nat) (q : Nm) (v : Value), ns[j]? = some q → vs[j]? = some v → ∃ cf k i f, Z.fieldFound? q.1 q.2.1 q.2.2 = some (cf, k, i, f) ∧ f.isStatic = false ∧ c.vm ≠ .unknown ∧ c.vm.isStatics = false ∧ Z.vm.assignable c.cls cf = true ∧ c.slots[f.slot]? = some v
/-- an array of the class number K, its components' kind ty; it holds vs -/
def Ar (Z : State) (ty : FieldType) (K : ClassId) (vs : List Value) (c : Cell) : Prop := Z.isArrayOf c ty ∧ c.vm ≠ .unknown ∧ c.cls = K ∧ c.slots = vs.toArray ∧ vs.length < 2 ^ 31 ∧ ∀ v ∈ vs, fits ty v = true
/-- what stood at the start stands; the cells of L are new, each as it says, no two the same -/
def Apart (x y : Ent) : Prop := (x.2.2 || y.2.2) = true → x.1 ≠ y.1
def Hp (Z : State) (h : Heap) (L : List Ent) : Prop := Ext Z.heap h ∧ (∀ x ∈ L, (x.2.2 = true → Z.heap.size ≤ x.1) ∧ ∃ c, h[x.1]? = some c ∧ x.2.1 c) ∧ L.Pairwise Apart
section Facts
variable {Z : State} {h h' : Heap} {L L' : List Ent} {i j : Nat} {a b : Addr} {P P' : Cell → Prop} {C : String} {ns : List Nm} {vs : List Value} {v w : Value} {sl : Nat} {ty : FieldType} {K : ClassId} {f f' : Bool}
theorem Apart.symm {x y : Ent} (q : Apart x y) : Apart y x := fun r e => q (by rw [Bool.or_comm]; exact r) e.symm
theorem Hp.start (Z : State) : Hp Z Z.heap [] := ⟨⟨Nat.le_refl _, fun _ _ q => q⟩, (fun _ q => nomatch q), List.Pairwise.nil⟩
theorem Hp.atM (H : Hp Z h L) (hi : (a, P, f) ∈ L) : ∃ c, h[a]? = some c ∧ P c := (H.2.1 _ hi).2
theorem Hp.at (H : Hp Z h L) (hi : L[i]? = some (a, P, f)) : ∃ c, h[a]? = some c ∧ P c := (H.2.1 _ (List.mem_of_getElem? hi)).2
theorem Hp.ge (H : Hp Z h L) (hi : L[i]? = some (ow a P)) : Z.heap.size ≤ a := (H.2.1 _ (List.mem_of_getElem? hi)).1 rfl
theorem Hp.lt (H : Hp Z h L) (hi : L[i]? = some (a, P, f)) : a < h.size := by obtain ⟨c, q, -⟩ := H.at hi; exact (Array.getElem?_eq_some_iff.mp q).1
theorem Hp.ne (H : Hp Z h L) (hi : L[i]? = some (a, P, f)) (hj : L[j]? = some (b, P', f')) (ij : i ≠ j) (hf : (f || f') = true := by rfl) : a ≠ b := by
  obtain ⟨li, ei⟩ := List.getElem?_eq_some_iff.mp hi
  obtain ⟨lj, ej⟩ := List.getElem?_eq_some_iff.mp hj
  have W := List.pairwise_iff_getElem.mp H.2.2
  rcases Nat.lt_or_ge i j with q | q
  · have r := W i j li lj q
    rw [ei, ej] at r
    exact r hf
  · have r := W j i lj li (by omega)
    rw [ei, ej] at r
    exact fun e => r (by rw [Bool.or_comm]; exact hf) e.symm
theorem Hp.mono (H : Hp Z h L) (E : Ext h h') : Hp Z h' L := ⟨⟨Nat.le_trans H.1.1 E.1, fun x c q => E.2 x c (H.1.2 x c q)⟩, fun x hx => by obtain ⟨q1, c, q2, q3⟩ := H.2.1 x hx; exact ⟨q1, c, E.2 _ _ q2, q3⟩, H.2.2⟩
theorem Hp.push (H : Hp Z h L) (E : Ext h h') (ha : h.size ≤ a) (hc : ∃ c, h'[a]? = some c ∧ P c) : Hp Z h' (ow a P :: L) := by
  have H' := H.mono E
  refine ⟨H'.1, fun x hx => ?_, ?_⟩
  · rcases List.mem_cons.mp hx with rfl | u
    · exact ⟨fun _ => Nat.le_trans H.1.1 ha, hc⟩
    · exact H'.2.1 x u
  · rw [List.pairwise_cons]
    refine ⟨fun x hx _ e => ?_, H.2.2⟩
    obtain ⟨-, c, q2, -⟩ := H.2.1 x hx
    have := (Array.getElem?_eq_some_iff.mp q2).1
    have e : a = x.1 := e
    rw [← e] at this
    exact absurd this (Nat.not_lt.mpr ha)
/-- a cell that is read alone -/
theorem Hp.know (H : Hp Z h L) (hc : ∃ c, h[a]? = some c ∧ P c) (hn : ∀ x ∈ L, x.2.2 = true → x.1 ≠ a) : Hp Z h (ro a P :: L) := by
  refine ⟨H.1, fun x hx => ?_, ?_⟩
  · rcases List.mem_cons.mp hx with rfl | u
    · exact ⟨fun q => (nomatch q), hc⟩
    · exact H.2.1 x u
  · rw [List.pairwise_cons]
    exact ⟨fun x hx q e => hn x hx (by simpa using q) e.symm, H.2.2⟩
theorem upd_apart : ∀ (L : List Ent) (i : Nat) (x y : Ent), L[i]? = some y → x.1 = y.1 → x.2.2 = y.2.2 → L.Pairwise Apart → (updL L i x).Pairwise Apart
  | [], _, _, _, q, _, _, _ => by cases q
  | z :: r, 0, x, y, q, e1, e2, W => by
    cases q
    rw [List.pairwise_cons] at W
    rw [upd_zero, List.pairwise_cons]
    exact ⟨fun u hu => by have := W.1 u hu; unfold Apart at this ⊢; rw [e1, e2]; exact this, W.2⟩
  | z :: r, i + 1, x, y, q, e1, e2, W => by
    rw [List.pairwise_cons] at W
    rw [upd_succ, List.pairwise_cons]
    refine ⟨fun u hu => ?_, upd_apart r i x y q e1 e2 W.2⟩
    rcases upd_mem _ _ _ _ hu with rfl | ⟨j, -, hj⟩
    · have := W.1 y (List.mem_of_getElem? (i := i) q); unfold Apart at this ⊢; rw [e1, e2]; exact this
    · exact W.1 u (List.mem_of_getElem? hj)
theorem Hp.wr (H : Hp Z h L) (hi : L[i]? = some (ow a P)) (W : Wr h h' a sl v) (hP : ∀ c : Cell, P c → c.vm.isStatics = false → sl < c.slots.size → P' (c.setSlot sl v)) : Hp Z h' (updL L i (ow a P')) := by
  have ge := H.ge hi
  obtain ⟨cell, h1, h2, h3, rfl⟩ := W
  obtain ⟨c, hc, hPc⟩ := H.at hi
  cases hc.symm.trans h1
  have lt := (Array.getElem?_eq_some_iff.mp h1).1
  have hset : (h.setIfInBounds a (cell.setSlot sl v))[a]? = some (cell.setSlot sl v) := by simp [lt]
  refine ⟨⟨by simpa using H.1.1, fun x c q => ?_⟩, fun x hx => ?_, upd_apart L i (ow a P') (ow a P) hi rfl rfl H.2.2⟩
  · have := (Array.getElem?_eq_some_iff.mp q).1
    rw [Array.getElem?_setIfInBounds_ne (by omega)]; exact H.1.2 x c q
  · rcases upd_mem _ _ _ _ hx with rfl | ⟨j, hj, hLj⟩
    · exact ⟨fun _ => ge, _, hset, hP _ hPc h2 h3⟩
    · obtain ⟨xa, xP, xf⟩ := x
      have ne : a ≠ xa := H.ne hi hLj (Ne.symm hj) (by simp)
      obtain ⟨q1, c, q2, q3⟩ := H.2.1 _ (List.mem_of_getElem? hLj)
      exact ⟨q1, c, by rw [Array.getElem?_setIfInBounds_ne ne]; exact q2, q3⟩
theorem Hp.weak (H : Hp Z h L) (hi : L[i]? = some (a, P, f)) (hP : ∀ c, P c → P' c) : Hp Z h (updL L i (a, P', f)) := by
  refine ⟨H.1, fun x hx => ?_, upd_apart L i (a, P', f) (a, P, f) hi rfl rfl H.2.2⟩
  rcases upd_mem _ _ _ _ hx with rfl | ⟨j, hj, hLj⟩
  · obtain ⟨c, q1, q2⟩ := H.at hi; exact ⟨(H.2.1 _ (List.mem_of_getElem? hi)).1, c, q1, hP c q2⟩
  · exact H.2.1 x (List.mem_of_getElem? hLj)
theorem Hp.perm (H : Hp Z h L) (q : L.Perm L') : Hp Z h L' := ⟨H.1, fun x hx => H.2.1 x (q.mem_iff.mpr hx), (q.pairwise_iff fun r => r.symm).mp H.2.2⟩
theorem Hp.exa (H : Hp Z h L) (hi : L[i]? = some (a, Ob Z C ns vs, f)) : Exa Z h a C := by
  obtain ⟨c, q, ⟨k, r⟩, -⟩ := H.at hi; exact ⟨c, k, q, r⟩
theorem Hp.exaM (H : Hp Z h L) (hi : (a, P, f) ∈ L) (hP : ∀ c, P c → ∃ ns vs, Ob Z C ns vs c) : Exa Z h a C := by
  obtain ⟨c, q, q2⟩ := H.atM hi; obtain ⟨ns, vs, ⟨k, r⟩, -⟩ := hP c q2; exact ⟨c, k, q, r⟩
theorem Hp.fld (H : Hp Z h L) (hi : L[i]? = some (a, Ob Z C ns vs, f)) {q : Nm} (hj : ns[j]? = some q) (hv : vs[j]? = some v) : Fld Z h a q.1 q.2.1 q.2.2 v := by
  obtain ⟨c, hc, -, -, F⟩ := H.at hi
  obtain ⟨cf, k, i, f, r⟩ := F j q v hj hv
  exact ⟨c, cf, k, i, f, hc, r⟩
theorem Hp.arr (H : Hp Z h L) (hi : L[i]? = some (a, Ar Z ty K vs, f)) : ∃ cl, Arr Z h a cl ty ∧ cl.cls = K ∧ cl.slots = vs.toArray ∧ vs.length < 2 ^ 31 ∧ ∀ v ∈ vs, fits ty v = true := by
  obtain ⟨c, hc, q1, q2, q3, q4, q5, q6⟩ := H.at hi; exact ⟨c, ⟨hc, q1, q2⟩, q3, q4, q5, q6⟩
theorem Hp.arrM (H : Hp Z h L) (hi : (a, Ar Z ty K vs, f) ∈ L) : ∃ cl, Arr Z h a cl ty ∧ cl.cls = K ∧ cl.slots = vs.toArray ∧ vs.length < 2 ^ 31 ∧ ∀ v ∈ vs, fits ty v = true := by
  obtain ⟨c, hc, q1, q2, q3, q4, q5, q6⟩ := H.atM hi; exact ⟨c, ⟨hc, q1, q2⟩, q3, q4, q5, q6⟩
/-- a class's fields: each laid, their slots distinct -/
def LayC (Z : State) (a0 : Array Value) (C : String) (ns : List Nm) : Prop := (∀ q ∈ ns, Laid Z a0 C q.1 q.2.1 q.2.2) ∧ (ns.map (slo Z)).Nodup
theorem LayC.of {a0 : Array Value} (hl : ∀ q ∈ ns, Laid Z a0 C q.1 q.2.1 q.2.2) (hn : (ns.map (·.2.1)).Nodup) (hp : ∀ q ∈ ns, ∃ t, parseFieldDescriptor q.2.2 = some t) : LayC Z a0 C ns := by
  refine ⟨hl, ?_⟩
  revert hl hn hp
  induction ns with
  | nil => intros; exact List.nodup_nil
  | cons x r ih =>
    intro hl hn hp
    rw [List.map_cons, List.nodup_cons] at hn ⊢
    refine ⟨fun q => ?_, ih (fun q hq => hl q (List.mem_cons_of_mem _ hq)) hn.2 (fun q hq => hp q (List.mem_cons_of_mem _ hq))⟩
    obtain ⟨y, hy, ey⟩ := List.mem_map.mp q
    obtain ⟨t1, p1⟩ := hp x List.mem_cons_self
    obtain ⟨t2, p2⟩ := hp y (List.mem_cons_of_mem _ hy)
    refine slot_ne (hl y (List.mem_cons_of_mem _ hy)) (hl x List.mem_cons_self) (fun z => ?_) p2 p1 ey
    exact hn.1 (List.mem_map.mpr ⟨y, hy, z⟩)
theorem Ob.put {a0 : Array Value} (Y : LayC Z a0 C ns) {q : Nm} (hj : ns[j]? = some q) {c : Cell} (O : Ob Z C ns vs c) (hs : c.vm.isStatics = false) (lt : slo Z q < c.slots.size) : Ob Z C ns (updL vs j v) (c.setSlot (slo Z q) v) := by
  obtain ⟨⟨k, r1, r2, r3, r4⟩, hl, F⟩ := O
  refine ⟨⟨k, r1, r2, r3, by rw [sz_set]; exact r4⟩, by rw [upd_len]; exact hl, fun j' q' v' hj' hv' => ?_⟩
  by_cases e : j' = j
  · subst e
    cases hj.symm.trans hj'
    have lj : j' < vs.length := by rw [hl]; exact (List.getElem?_eq_some_iff.mp hj).1
    obtain ⟨cf, k, i, f, f1, f2, f3, f4, f5, f6⟩ := F j' q (vs[j']) hj (List.getElem?_eq_getElem lj)
    rw [upd_at _ _ _ _ (List.getElem?_eq_getElem lj)] at hv'
    cases hv'
    have es : slo Z q = f.slot := by simp [slo, RoadKit.slotOf, f1]
    exact ⟨cf, k, i, f, f1, f2, f3, f4, f5, by rw [es] at lt ⊢; simp [Cell.setSlot, lt]⟩
  · rw [upd_ne _ _ _ _ e] at hv'
    obtain ⟨cf, k, i, f, f1, f2, f3, f4, f5, f6⟩ := F j' q' v' hj' hv'
    refine ⟨cf, k, i, f, f1, f2, f3, f4, f5, ?_⟩
    have es : slo Z q' = f.slot := by simp [slo, RoadKit.slotOf, f1]
    have ne : slo Z q ≠ f.slot := by
      rw [← es]
      intro z
      have l1 : (ns.map (slo Z))[j]? = some (slo Z q) := by simp [hj]
      have l2 : (ns.map (slo Z))[j']? = some (slo Z q) := by simp [hj', z]
      exact e ((List.getElem?_inj (List.getElem?_eq_some_iff.mp l2).1 Y.2).mp (l2.trans l1.symm))
    show (c.slots.setIfInBounds _ _)[_]? = _
    rw [Array.getElem?_setIfInBounds_ne ne]; exact f6
theorem Ar.put {c : Cell} (A : Ar Z ty K vs c) (hv : fits ty v = true) : Ar Z ty K (updL vs j v) (c.setSlot j v) := by
  obtain ⟨q1, q2, q3, q4, q5, q6⟩ := A
  rw [upd_set]
  refine ⟨q1, q2, q3, ?_, by simpa using q5, fun u hu => (List.mem_or_eq_of_mem_set hu).elim (q6 u) fun e => e ▸ hv⟩
  show c.slots.setIfInBounds j v = _
  rw [q4]; simp
end Facts
end Jvm.OwnKit
namespace Jvm.OwnKit
open Sem ClassFile Op Lib Jvm.Stand Jvm.Free Jvm.LawKit Jvm.RoadKit
/-- the tables over which the walk stands: the start's own, or (wd: it may have interned strings) re-based ones -/
def Bse (wd : Bool) (s : State) (vm : Vm) (N : Nat) : Prop := match wd with | false => vm = s.vm | true => s.Since vm N
/-- the frame that is promised at the end -/
def FrE (wd : Bool) (s : State) (o : Outcome) (t : State) (L : List Loc) (k n : Nat) : Prop := match wd with | false => FrameEnd s o t L k n | true => ReturnedEndW s o t L k n
/-- what is known of the heap: the cells of L; and (wd) that whatever is booked for a constant of EL spells it, and is none of L's -/
def Iv (wd : Bool) (Z : State) (EL : List (String × Nat)) (vm : Vm) (h : Heap) (L : List Ent) : Prop := Hp Z h L ∧ (wd = true → CHv Z EL vm h ∧ ∀ x ∈ L, x.2.2 = true → Safe Z EL vm h x.1)
/-- what a body's walk knows throughout -/
def Cx (wd : Bool) (EL : List (String × Nat)) (p : Program) (Z s : State) (m : MethodId) (meth : Method) (c : Code) (own nm : String) (code : ByteArray) (ml : Nat) (ret : Option FieldType) : Prop :=
  p.tables.exec = Jvm.exec ∧ Z.Warmed39 s.vm ∧ s.vm.findClass own = some m.cls ∧ c.code = code ∧ c.maxLocals = ml ∧ meth.sig.returnType = ret ∧ meth.locks = false ∧ meth.name = nm ∧ (wd = true → ∃ a0, EW Z a0 EL)
/-- from frame g the body goes to its end, and its end is as Q says -/
def Go (wd : Bool) (EL : List (String × Nat)) (p : Program) (l : Launch) (e : Env) (R : Room) (Z s : State) (m : MethodId) (args : Array Value) (below : List Frame) (meth : Method) (c : Code) (Q : Option Value → List Ent → Prop) (L : List Ent) (k n : Nat) (g : JFrame) : Prop :=
  ∀ (vm : Vm) (T : State) (lc : List Loc), Fr Z.heap.size lc → Bse wd s vm T.heap.size → Iv wd Z EL vm T.heap L → Stand p l e R (s.setVm vm) m args below meth c T lc k n →
    ∃ u o, Steps p.tables e below (T.setTop g) u ∧ u.status = .running ∧ Ended u below o ∧ ∃ v L' lc', o = .returned v ∧ Q v L' ∧ Iv wd Z EL u.vm u.heap L' ∧ Fr Z.heap.size lc' ∧ FrE wd s o u lc' R.cells R.slots
/-- a body's contract: called with 'as' over the cells L it returns as Q says -/
def Ct (wd : Bool) (EL : List (String × Nat)) (l : Launch) (Z : State) (y : MethodName) (code : ByteArray) (ml : Nat) (ret : Option FieldType) (rm : Room) (as : Array Value) (L : List Ent) (Q : Option Value → List Ent → Prop) : Prop :=
  ∀ ws : List Jvm.Cond, MetFree l y (head1 (Jvm.Cond.code y code ml ret :: ws) rm) (fun a U => a = as ∧ Z.Warmed39 U.vm ∧ Iv wd Z EL U.vm U.heap L) (fun _ _ _ _ _ => True) (fun _ U o U' => ∃ v L' lc, o = .returned v ∧ Q v L' ∧ Iv wd Z EL U'.vm U'.heap L' ∧ Fr Z.heap.size lc ∧ FrE wd U o U' lc rm.cells rm.slots)
def rvQ (Q : Value → List Ent → Prop) : Option Value → List Ent → Prop := fun o L => ∃ v, o = some v ∧ Q v L
def r0Q (Q : List Ent → Prop) : Option Value → List Ent → Prop := fun o L => o = none ∧ Q L
/-- the instruction at pc, and the pc behind it -/
def D1 (code : ByteArray) (pc : Nat) (i : Instr) (len pc' : Nat) : Prop := decode code pc = .ok (i, len) ∧ pc + len = pc'
section Steps
variable {wd : Bool} {EL : List (String × Nat)} {p : Program} {l : Launch} {e : Env} {R : Room} {Z s : State} {m : MethodId} {args : Array Value} {below : List Frame} {meth : Method} {c : Code} {Q : Option Value → List Ent → Prop} {L L' : List Ent} {k n : Nat} {own nm : String} {code : ByteArray} {ml : Nat} {ret : Option FieldType} {a0 : Array Value}
variable {pc pc' : Nat} {Ls : Array Slot} {st : List Value} {i j : Nat} {a b : Addr} {C : String} {ns : List Nm} {vs : List Value} {v : Value} {h h' : Heap} {vm : Vm}
theorem Bse.start (s : State) (N : Nat) : Bse wd s s.vm N := by
  cases wd
  · exact rfl
  · exact (State.WarmedH.refl s).since N
theorem Bse.mono {N N' : Nat} (B : Bse wd s vm N) (q : N ≤ N') : Bse wd s vm N' := by
  cases wd
  · exact B
  · exact ⟨B.1, fun j p hj hp => by obtain ⟨x, y⟩ := B.2 j p hj hp; exact ⟨x, Nat.lt_of_lt_of_le y q⟩⟩
theorem Bse.wide {N : Nat} (B : Bse wd s vm N) : s.Warmed39 vm := by
  cases wd
  · rw [show vm = s.vm from B]; exact State.Warmed39.refl s
  · exact B.1
theorem Cx.re {N : Nat} (X : Cx wd EL p Z s m meth c own nm code ml ret) (B : Bse wd s vm N) : Cx wd EL p Z (s.setVm vm) m meth c own nm code ml ret :=
  ⟨X.1, State.Warmed39.trans X.2.1 B.wide, by rw [show (s.setVm vm).vm = vm from rfl, B.wide.alike.findClass]; exact X.2.2.1, X.2.2.2⟩
theorem Bse.ended {N : Nat} (B : Bse wd s vm N) {U : State} {o : Outcome} {lc : List Loc} {k n k' n' : Nat} (hr : ∃ v, o = .returned v) (hW : (s.setVm vm).WarmedH U.vm) (hn : N ≤ U.heap.size) (hs : (s.setVm vm).sameButNew ({ U with vm := vm } : State) lc k n) (hk : k ≤ k') (hl : n ≤ n') : FrE wd s o U lc k' n' := by
  cases wd
  · obtain rfl : vm = s.vm := B
    exact ⟨hr, hW, hs.mono hk hl⟩
  · obtain ⟨q1, q2, q3⟩ := State.Since.ended B hW hn hs
    exact ⟨hr, q1, q2, q3.mono hk hl⟩
theorem Iv.ext (I : Iv wd Z EL vm h L) (E : Ext h h') : Iv wd Z EL vm h' L := ⟨I.1.mono E, fun q => ⟨(I.2 q).1.ext E, fun x hx hf => Safe.ext E (I.2 q).1 ((I.2 q).2 x hx hf)⟩⟩
theorem Iv.push {P : Cell → Prop} (I : Iv wd Z EL vm h L) (E : Ext h h') (ha : h.size ≤ a) (hc : ∃ c, h'[a]? = some c ∧ P c) : Iv wd Z EL vm h' (ow a P :: L) := ⟨I.1.push E ha hc, fun q => ⟨(I.2 q).1.ext E, fun x hx hf => by
  rcases List.mem_cons.mp hx with rfl | u
  · exact Safe.ext E (I.2 q).1 (Safe.new ha)
  · exact Safe.ext E (I.2 q).1 ((I.2 q).2 x u hf)⟩⟩
theorem Iv.know {P : Cell → Prop} (I : Iv wd Z EL vm h L) (hc : ∃ c, h[a]? = some c ∧ P c) (hn : ∀ x ∈ L, x.2.2 = true → x.1 ≠ a) : Iv wd Z EL vm h (ro a P :: L) := ⟨I.1.know hc hn, fun q => ⟨(I.2 q).1, fun x hx hf => by
  rcases List.mem_cons.mp hx with rfl | u
  · cases hf
  · exact (I.2 q).2 x u hf⟩⟩
theorem Iv.wr {P P' : Cell → Prop} {sl : Nat} (I : Iv wd Z EL vm h L) (hi : L[i]? = some (ow a P)) (W : Wr h h' a sl v) (hP : ∀ c : Cell, P c → c.vm.isStatics = false → sl < c.slots.size → P' (c.setSlot sl v)) : Iv wd Z EL vm h' (updL L i (ow a P')) := ⟨I.1.wr hi W hP, fun q => by
  have S := (I.2 q).2 _ (List.mem_of_getElem? hi) rfl
  refine ⟨(I.2 q).1.wr W S, fun x hx hf => ?_⟩
  rcases upd_mem _ _ _ _ hx with rfl | ⟨j, hj, hLj⟩
  · exact Safe.wr W S (I.2 q).1 S
  · exact Safe.wr W S (I.2 q).1 ((I.2 q).2 x (List.mem_of_getElem? hLj) hf)⟩
theorem Iv.perm (I : Iv wd Z EL vm h L) (q : L.Perm L') : Iv wd Z EL vm h L' := ⟨I.1.perm q, fun r => ⟨(I.2 r).1, fun x hx => (I.2 r).2 x (q.mem_iff.mpr hx)⟩⟩
theorem Iv.weak {P P' : Cell → Prop} {f : Bool} (I : Iv wd Z EL vm h L) (hi : L[i]? = some (a, P, f)) (hP : ∀ c, P c → P' c) : Iv wd Z EL vm h (updL L i (a, P', f)) := ⟨I.1.weak hi hP, fun q => ⟨(I.2 q).1, fun x hx hf => by
  rcases upd_mem _ _ _ _ hx with rfl | ⟨j, hj, hLj⟩
  · exact (I.2 q).2 (a, P, f) (List.mem_of_getElem? hi) hf
  · exact (I.2 q).2 x (List.mem_of_getElem? hLj) hf⟩⟩
theorem Iv.drop {x : Ent} (I : Iv wd Z EL vm h (x :: L)) : Iv wd Z EL vm h L := ⟨⟨I.1.1, fun y hy => I.1.2.1 y (List.mem_cons_of_mem _ hy), (List.pairwise_cons.mp I.1.2.2).2⟩, fun r => ⟨(I.2 r).1, fun y hy => (I.2 r).2 y (List.mem_cons_of_mem _ hy)⟩⟩
/-- the tables at hand, in a walk that has interned nothing since its last base -/
theorem Iv.now {T : State} {lc : List Loc} (I : Iv wd Z EL vm T.heap L) (X : Cx wd EL p Z (s.setVm vm) m meth c own nm code ml ret) (S : Stand p l e R (s.setVm vm) m args below meth c T lc k n) : Iv wd Z EL T.vm T.heap L := ⟨I.1, fun q => by
  obtain ⟨a0, w⟩ := X.2.2.2.2.2.2.2.2 q
  have r := CHv.at S X.2.1 w (I.2 q).1
  refine ⟨r.1, fun x hx hf => r.safe ?_ ((I.2 q).2 x hx hf)⟩
  obtain ⟨-, cc, h1, -⟩ := I.1.2.1 x hx
  exact (Array.getElem?_eq_some_iff.mp h1).1⟩
theorem Ct.intro {y : MethodName} {rm : Room} {as : Array Value} (hp : plainFor y = true) (hE : wd = true → ∃ a0, EW Z a0 EL)
    (B : ∀ (p : Program) e s m below meth c, Cx wd EL p Z s m meth c y.cls y.name code ml ret → Go wd EL p l e rm Z s m as below meth c Q L 0 0 (entryFrame m as ml)) : Ct wd EL l Z y code ml ret rm as L Q := by
  intro ws
  refine MetFree.of_bodySF hp hisR ?_
  intro p e s m args below meth c s₁ Bd hml hP hK
  obtain ⟨rfl, hZ, hh⟩ := hP
  have X0 : Stand p l e rm s m args below meth c s₁ [] 0 0 := Stand.of_body Bd
  have e0 : s₁.heap = s.heap := by rw [Bd.state]; rfl
  exact B p e s m below meth c ⟨Bd.exec, hZ, findClass_of_methodNamed Bd.named, Bd.bytes, hml, Bd.returns, Bd.notSynchronized, (name_of_methodNamed Bd.named Bd.method).1, hE⟩ s.vm s₁ [] (Fr.nil _) (Bse.start s _) (by rw [e0]; exact hh) X0
theorem Ct.mono {y : MethodName} {rm : Room} {as : Array Value} {Q' : Option Value → List Ent → Prop} (B : Ct wd EL l Z y code ml ret rm as L Q) (hq : ∀ v L', Q v L' → Q' v L') : Ct wd EL l Z y code ml ret rm as L Q' := fun ws =>
  (B ws).mono (fun _ _ q => q) (fun _ _ _ _ _ q => q) fun a U o U' _ ⟨v, L', lc, q1, q2, q3⟩ => ⟨v, L', lc, q1, hq v L' q2, q3⟩
/-- the contract, its cells in another order -/
theorem Ct.perm {y : MethodName} {rm : Room} {as : Array Value} {Q' : Option Value → List Ent → Prop} (B : Ct wd EL l Z y code ml ret rm as L Q) (q : L'.Perm L) (hq : ∀ v M, Q v M → ∃ M', Q' v M' ∧ M.Perm M') : Ct wd EL l Z y code ml ret rm as L' Q' := fun ws =>
  (B ws).mono (fun _ _ r => ⟨r.1, r.2.1, r.2.2.perm q⟩) (fun _ _ _ _ _ q => q) fun a U o U' _ ⟨v, M, lc, q1, q2, q3, q4⟩ => by
    obtain ⟨M', r1, r2⟩ := hq v M q2
    exact ⟨v, M', lc, q1, r1, q3.perm r2, q4⟩
theorem Go.to {g g' : JFrame} (K : Go wd EL p l e R Z s m args below meth c Q L k n g') (X : Cx wd EL p Z s m meth c own nm code ml ret) (f : ∀ s, Cx wd EL p Z s m meth c own nm code ml ret → ∀ T lc, Hp Z T.heap L → Stand p l e R s m args below meth c T lc k n → ∀ target, Steps p.tables e below (T.setTop g') target → Steps p.tables e below (T.setTop g) target) : Go wd EL p l e R Z s m args below meth c Q L k n g := by
  intro vm T lc F B I S
  obtain ⟨u, o, st, r⟩ := K vm T lc F B I S
  exact ⟨u, o, f _ (X.re B) T lc I.1 S u st, r⟩
theorem Go.cast {g g' : JFrame} (q : g = g') (K : Go wd EL p l e R Z s m args below meth c Q L k n g') : Go wd EL p l e R Z s m args below meth c Q L k n g := q ▸ K
theorem Go.perm {g : JFrame} (q : L.Perm L') (K : Go wd EL p l e R Z s m args below meth c Q L' k n g) : Go wd EL p l e R Z s m args below meth c Q L k n g := fun vm T lc F B I S => K vm T lc F B (I.perm q) S
theorem Go.weak {g : JFrame} {P P' : Cell → Prop} {f : Bool} (hi : L[i]? = some (a, P, f)) (hP : ∀ c, P c → P' c) (K : Go wd EL p l e R Z s m args below meth c Q (updL L i (a, P', f)) k n g) : Go wd EL p l e R Z s m args below meth c Q L k n g := fun vm T lc F B I S => K vm T lc F B (I.weak hi hP) S
theorem Go.drop {g : JFrame} {x : Ent} (K : Go wd EL p l e R Z s m args below meth c Q L k n g) : Go wd EL p l e R Z s m args below meth c Q (x :: L) k n g := fun vm T lc F B I S => K vm T lc F B I.drop S
/-- a fact of every heap that L describes -/
theorem Go.fact {g : JFrame} {A : Prop} (f : ∀ h, Hp Z h L → A) (K : A → Go wd EL p l e R Z s m args below meth c Q L k n g) : Go wd EL p l e R Z s m args below meth c Q L k n g := fun vm T lc F B I S => K (f _ I.1) vm T lc F B I S
theorem Go.book {g : JFrame} {k' n' : Nat} (hk : k ≤ k') (hn : n ≤ n') (K : Go wd EL p l e R Z s m args below meth c Q L k' n' g) : Go wd EL p l e R Z s m args below meth c Q L k n g := fun vm T lc F B I S => K vm T lc F B I (S.mono hk hn)
/-! ### plain steps -/
theorem Go.iloadN (X : Cx wd EL p Z s m meth c own nm code ml ret) {i : Fin 4} {v : Int32} (D : D1 code pc (.iload_n i) 1 pc') (hl : Ls[i.val]? = some (.val (.int v))) (K : Go wd EL p l e R Z s m args below meth c Q L k n (mkF m pc' Ls (.int v :: st))) : Go wd EL p l e R Z s m args below meth c Q L k n (mkF m pc Ls st) := by
  obtain ⟨d, rfl⟩ := D
  exact K.to X fun s X T lc H S t r => XS.iloadN S.here X.1 rfl (hb X.2.2.2.1 d) hl r
theorem Go.iload (X : Cx wd EL p Z s m meth c own nm code ml ret) {i : Nat} {v : Int32} (D : D1 code pc (.iload i) 2 pc') (hl : Ls[i]? = some (.val (.int v))) (K : Go wd EL p l e R Z s m args below meth c Q L k n (mkF m pc' Ls (.int v :: st))) : Go wd EL p l e R Z s m args below meth c Q L k n (mkF m pc Ls st) := by
  obtain ⟨d, rfl⟩ := D
  exact K.to X fun s X T lc H S t r => XS.iload S.here X.1 rfl (hb X.2.2.2.1 d) hl r
theorem Go.aloadN (X : Cx wd EL p Z s m meth c own nm code ml ret) {i : Fin 4} {v : Value} (D : D1 code pc (.aload_n i) 1 pc') (hl : Ls[i.val]? = some (.val v)) (hv : v.isRef = true) (K : Go wd EL p l e R Z s m args below meth c Q L k n (mkF m pc' Ls (v :: st))) : Go wd EL p l e R Z s m args below meth c Q L k n (mkF m pc Ls st) := by
  obtain ⟨d, rfl⟩ := D
  exact K.to X fun s X T lc H S t r => XS.aloadN S.here X.1 rfl (hb X.2.2.2.1 d) hl hv r
theorem Go.aload (X : Cx wd EL p Z s m meth c own nm code ml ret) {i : Nat} {v : Value} (D : D1 code pc (.aload i) 2 pc') (hl : Ls[i]? = some (.val v)) (hv : v.isRef = true) (K : Go wd EL p l e R Z s m args below meth c Q L k n (mkF m pc' Ls (v :: st))) : Go wd EL p l e R Z s m args below meth c Q L k n (mkF m pc Ls st) := by
  obtain ⟨d, rfl⟩ := D
  exact K.to X fun s X T lc H S t r => XS.aload S.here X.1 rfl (hb X.2.2.2.1 d) hl hv r
theorem Go.floadN (X : Cx wd EL p Z s m meth c own nm code ml ret) {i : Fin 4} {v : UInt32} (D : D1 code pc (.fload_n i) 1 pc') (hl : Ls[i.val]? = some (.val (.float v))) (K : Go wd EL p l e R Z s m args below meth c Q L k n (mkF m pc' Ls (.float v :: st))) : Go wd EL p l e R Z s m args below meth c Q L k n (mkF m pc Ls st) := by
  obtain ⟨d, rfl⟩ := D
  exact K.to X fun s X T lc H S t r => XS.floadN S.here X.1 rfl (hb X.2.2.2.1 d) hl r
theorem Go.iconst (X : Cx wd EL p Z s m meth c own nm code ml ret) {i : Int} {v : Int32} (D : D1 code pc (.iconst i) 1 pc') (hv : Int32.ofInt i = v) (K : Go wd EL p l e R Z s m args below meth c Q L k n (mkF m pc' Ls (.int v :: st))) : Go wd EL p l e R Z s m args below meth c Q L k n (mkF m pc Ls st) := by
  obtain ⟨d, rfl⟩ := D; subst hv
  exact K.to X fun s X T lc H S t r => XS.iconst S.here X.1 rfl (hb X.2.2.2.1 d) r
theorem Go.bipush (X : Cx wd EL p Z s m meth c own nm code ml ret) {i : Int} {v : Int32} (D : D1 code pc (.bipush i) 2 pc') (hv : (Int8.ofInt i).toInt32 = v) (K : Go wd EL p l e R Z s m args below meth c Q L k n (mkF m pc' Ls (.int v :: st))) : Go wd EL p l e R Z s m args below meth c Q L k n (mkF m pc Ls st) := by
  obtain ⟨d, rfl⟩ := D; subst hv
  exact K.to X fun s X T lc H S t r => XS.bipush S.here X.1 rfl (hb X.2.2.2.1 d) r
theorem Go.sipush (X : Cx wd EL p Z s m meth c own nm code ml ret) {i : Int} {v : Int32} (D : D1 code pc (.sipush i) 3 pc') (hv : (Int16.ofInt i).toInt32 = v) (K : Go wd EL p l e R Z s m args below meth c Q L k n (mkF m pc' Ls (.int v :: st))) : Go wd EL p l e R Z s m args below meth c Q L k n (mkF m pc Ls st) := by
  obtain ⟨d, rfl⟩ := D; subst hv
  exact K.to X fun s X T lc H S t r => XS.sipush S.here X.1 rfl (hb X.2.2.2.1 d) r
theorem Go.ldcI (X : Cx wd EL p Z s m meth c own nm code ml ret) {i : Nat} {v : Int32} (w : (Cond.constant own i v).before a0 Z = true) (D : D1 code pc (.ldc i) 2 pc')  (K : Go wd EL p l e R Z s m args below meth c Q L k n (mkF m pc' Ls (.int v :: st))) : Go wd EL p l e R Z s m args below meth c Q L k n (mkF m pc Ls st) := by
  obtain ⟨d, rfl⟩ := D
  exact K.to X fun s X T lc H S t r => S.ldcI X.1 X.2.2.1 (mv X.2.1 w) rfl (hb X.2.2.2.1 d) r
theorem Go.aconstNull (X : Cx wd EL p Z s m meth c own nm code ml ret)  (D : D1 code pc (.aconst_null) 1 pc')  (K : Go wd EL p l e R Z s m args below meth c Q L k n (mkF m pc' Ls (.null :: st))) : Go wd EL p l e R Z s m args below meth c Q L k n (mkF m pc Ls st) := by
  obtain ⟨d, rfl⟩ := D
  exact K.to X fun s X T lc H S t r => XS.aconstNull S.here X.1 rfl (hb X.2.2.2.1 d) r
theorem Go.istoreN (X : Cx wd EL p Z s m meth c own nm code ml ret) {i : Fin 4} {x : Int32} {L2 : Array Slot} (D : D1 code pc (.istore_n i) 1 pc') (hl : storeLocals Ls i.val (.int x) = some L2) (K : Go wd EL p l e R Z s m args below meth c Q L k n (mkF m pc' L2 st)) : Go wd EL p l e R Z s m args below meth c Q L k n (mkF m pc Ls (.int x :: st)) := by
  obtain ⟨d, rfl⟩ := D
  exact K.to X fun s X T lc H S t r => XS.istoreN S.here X.1 rfl (hb X.2.2.2.1 d) rfl hl r
theorem Go.istore (X : Cx wd EL p Z s m meth c own nm code ml ret) {i : Nat} {x : Int32} {L2 : Array Slot} (D : D1 code pc (.istore i) 2 pc') (hl : storeLocals Ls i (.int x) = some L2) (K : Go wd EL p l e R Z s m args below meth c Q L k n (mkF m pc' L2 st)) : Go wd EL p l e R Z s m args below meth c Q L k n (mkF m pc Ls (.int x :: st)) := by
  obtain ⟨d, rfl⟩ := D
  exact K.to X fun s X T lc H S t r => XS.istore S.here X.1 rfl (hb X.2.2.2.1 d) rfl hl r
theorem Go.astoreN (X : Cx wd EL p Z s m meth c own nm code ml ret) {i : Fin 4} {x : Value} {L2 : Array Slot} (D : D1 code pc (.astore_n i) 1 pc') (hv : x.isRef = true) (hl : storeLocals Ls i.val x = some L2) (K : Go wd EL p l e R Z s m args below meth c Q L k n (mkF m pc' L2 st)) : Go wd EL p l e R Z s m args below meth c Q L k n (mkF m pc Ls (x :: st)) := by
  obtain ⟨d, rfl⟩ := D
  exact K.to X fun s X T lc H S t r => XS.astoreN S.here X.1 rfl (hb X.2.2.2.1 d) rfl hv hl r
theorem Go.astore (X : Cx wd EL p Z s m meth c own nm code ml ret) {i : Nat} {x : Value} {L2 : Array Slot} (D : D1 code pc (.astore i) 2 pc') (hv : x.isRef = true) (hl : storeLocals Ls i x = some L2) (K : Go wd EL p l e R Z s m args below meth c Q L k n (mkF m pc' L2 st)) : Go wd EL p l e R Z s m args below meth c Q L k n (mkF m pc Ls (x :: st)) := by
  obtain ⟨d, rfl⟩ := D
  exact K.to X fun s X T lc H S t r => XS.astore S.here X.1 rfl (hb X.2.2.2.1 d) rfl hv hl r
theorem Go.fstore (X : Cx wd EL p Z s m meth c own nm code ml ret) {i : Nat} {x : UInt32} {L2 : Array Slot} (D : D1 code pc (.fstore i) 2 pc') (hl : storeLocals Ls i (.float x) = some L2) (K : Go wd EL p l e R Z s m args below meth c Q L k n (mkF m pc' L2 st)) : Go wd EL p l e R Z s m args below meth c Q L k n (mkF m pc Ls (.float x :: st)) := by
  obtain ⟨d, rfl⟩ := D
  exact K.to X fun s X T lc H S t r => XS.fstore S.here X.1 rfl (hb X.2.2.2.1 d) rfl hl r
theorem Go.fload (X : Cx wd EL p Z s m meth c own nm code ml ret) {i : Nat} {v : UInt32} (D : D1 code pc (.fload i) 2 pc') (hl : Ls[i]? = some (.val (.float v))) (K : Go wd EL p l e R Z s m args below meth c Q L k n (mkF m pc' Ls (.float v :: st))) : Go wd EL p l e R Z s m args below meth c Q L k n (mkF m pc Ls st) := by
  obtain ⟨d, rfl⟩ := D
  exact K.to X fun s X T lc H S t r => XS.fload S.here X.1 rfl (hb X.2.2.2.1 d) hl r
theorem Go.iinc (X : Cx wd EL p Z s m meth c own nm code ml ret) {i : Nat} {cst : Int} {x : Int32} {L2 : Array Slot} (D : D1 code pc (.iinc i cst) 3 pc') (hl : Ls[i]? = some (.val (.int x))) (hl' : storeLocals Ls i (.int (x + Int32.ofInt cst)) = some L2) (K : Go wd EL p l e R Z s m args below meth c Q L k n (mkF m pc' L2 st)) : Go wd EL p l e R Z s m args below meth c Q L k n (mkF m pc Ls st) := by
  obtain ⟨d, rfl⟩ := D
  exact K.to X fun s X T lc H S t r => XS.iinc S.here X.1 rfl (hb X.2.2.2.1 d) hl hl' r
theorem Go.dup (X : Cx wd EL p Z s m meth c own nm code ml ret) {x : Value} (D : D1 code pc (.dup) 1 pc') (hc : x.category = 1) (K : Go wd EL p l e R Z s m args below meth c Q L k n (mkF m pc' Ls (x :: x :: st))) : Go wd EL p l e R Z s m args below meth c Q L k n (mkF m pc Ls (x :: st)) := by
  obtain ⟨d, rfl⟩ := D
  exact K.to X fun s X T lc H S t r => XS.dup S.here X.1 rfl (hb X.2.2.2.1 d) rfl hc r
theorem Go.dupX1 (X : Cx wd EL p Z s m meth c own nm code ml ret) {x y : Value} (D : D1 code pc (.dup_x1) 1 pc') (hc : x.category = 1) (hc' : y.category = 1) (K : Go wd EL p l e R Z s m args below meth c Q L k n (mkF m pc' Ls (x :: y :: x :: st))) : Go wd EL p l e R Z s m args below meth c Q L k n (mkF m pc Ls (x :: y :: st)) := by
  obtain ⟨d, rfl⟩ := D
  exact K.to X fun s X T lc H S t r => XT.dupX1 S.here X.1 rfl (hb X.2.2.2.1 d) rfl hc hc' r
theorem Go.dup2 (X : Cx wd EL p Z s m meth c own nm code ml ret) {x y : Value} (D : D1 code pc (.dup2) 1 pc') (hc : x.category = 1) (hc' : y.category = 1) (K : Go wd EL p l e R Z s m args below meth c Q L k n (mkF m pc' Ls (x :: y :: x :: y :: st))) : Go wd EL p l e R Z s m args below meth c Q L k n (mkF m pc Ls (x :: y :: st)) := by
  obtain ⟨d, rfl⟩ := D
  exact K.to X fun s X T lc H S t r => XT.dup2 S.here X.1 rfl (hb X.2.2.2.1 d) rfl hc hc' r
theorem Go.pop (X : Cx wd EL p Z s m meth c own nm code ml ret) {x : Value} (D : D1 code pc (.pop) 1 pc') (hc : x.category = 1) (K : Go wd EL p l e R Z s m args below meth c Q L k n (mkF m pc' Ls st)) : Go wd EL p l e R Z s m args below meth c Q L k n (mkF m pc Ls (x :: st)) := by
  obtain ⟨d, rfl⟩ := D
  exact K.to X fun s X T lc H S t r => XT.pop S.here X.1 rfl (hb X.2.2.2.1 d) rfl hc r
theorem Go.iadd (X : Cx wd EL p Z s m meth c own nm code ml ret) {x y : Int32} (D : D1 code pc (.iadd) 1 pc')  (K : Go wd EL p l e R Z s m args below meth c Q L k n (mkF m pc' Ls (.int (x + y) :: st))) : Go wd EL p l e R Z s m args below meth c Q L k n (mkF m pc Ls (.int y :: .int x :: st)) := by
  obtain ⟨d, rfl⟩ := D
  exact K.to X fun s X T lc H S t r => XS.iadd S.here X.1 rfl (hb X.2.2.2.1 d) rfl r
theorem Go.isub (X : Cx wd EL p Z s m meth c own nm code ml ret) {x y : Int32} (D : D1 code pc (.isub) 1 pc')  (K : Go wd EL p l e R Z s m args below meth c Q L k n (mkF m pc' Ls (.int (x - y) :: st))) : Go wd EL p l e R Z s m args below meth c Q L k n (mkF m pc Ls (.int y :: .int x :: st)) := by
  obtain ⟨d, rfl⟩ := D
  exact K.to X fun s X T lc H S t r => XS.isub S.here X.1 rfl (hb X.2.2.2.1 d) rfl r
theorem Go.imul (X : Cx wd EL p Z s m meth c own nm code ml ret) {x y : Int32} (D : D1 code pc (.imul) 1 pc')  (K : Go wd EL p l e R Z s m args below meth c Q L k n (mkF m pc' Ls (.int (x * y) :: st))) : Go wd EL p l e R Z s m args below meth c Q L k n (mkF m pc Ls (.int y :: .int x :: st)) := by
  obtain ⟨d, rfl⟩ := D
  exact K.to X fun s X T lc H S t r => XS.imul S.here X.1 rfl (hb X.2.2.2.1 d) rfl r
theorem Go.iand (X : Cx wd EL p Z s m meth c own nm code ml ret) {x y : Int32} (D : D1 code pc (.iand) 1 pc')  (K : Go wd EL p l e R Z s m args below meth c Q L k n (mkF m pc' Ls (.int (x &&& y) :: st))) : Go wd EL p l e R Z s m args below meth c Q L k n (mkF m pc Ls (.int y :: .int x :: st)) := by
  obtain ⟨d, rfl⟩ := D
  exact K.to X fun s X T lc H S t r => XS.iand S.here X.1 rfl (hb X.2.2.2.1 d) rfl r
theorem Go.ior (X : Cx wd EL p Z s m meth c own nm code ml ret) {x y : Int32} (D : D1 code pc (.ior) 1 pc')  (K : Go wd EL p l e R Z s m args below meth c Q L k n (mkF m pc' Ls (.int (x ||| y) :: st))) : Go wd EL p l e R Z s m args below meth c Q L k n (mkF m pc Ls (.int y :: .int x :: st)) := by
  obtain ⟨d, rfl⟩ := D
  exact K.to X fun s X T lc H S t r => XT.ior S.here X.1 rfl (hb X.2.2.2.1 d) rfl r
theorem Go.ixor (X : Cx wd EL p Z s m meth c own nm code ml ret) {x y : Int32} (D : D1 code pc (.ixor) 1 pc')  (K : Go wd EL p l e R Z s m args below meth c Q L k n (mkF m pc' Ls (.int (x ^^^ y) :: st))) : Go wd EL p l e R Z s m args below meth c Q L k n (mkF m pc Ls (.int y :: .int x :: st)) := by
  obtain ⟨d, rfl⟩ := D
  exact K.to X fun s X T lc H S t r => XT.ixor S.here X.1 rfl (hb X.2.2.2.1 d) rfl r
theorem Go.ishl (X : Cx wd EL p Z s m meth c own nm code ml ret) {x y : Int32} (D : D1 code pc (.ishl) 1 pc')  (K : Go wd EL p l e R Z s m args below meth c Q L k n (mkF m pc' Ls (.int (x <<< (y &&& 31)) :: st))) : Go wd EL p l e R Z s m args below meth c Q L k n (mkF m pc Ls (.int y :: .int x :: st)) := by
  obtain ⟨d, rfl⟩ := D
  exact K.to X fun s X T lc H S t r => XT.ishl S.here X.1 rfl (hb X.2.2.2.1 d) rfl r
theorem Go.ishr (X : Cx wd EL p Z s m meth c own nm code ml ret) {x y : Int32} (D : D1 code pc (.ishr) 1 pc')  (K : Go wd EL p l e R Z s m args below meth c Q L k n (mkF m pc' Ls (.int (x >>> (y &&& 31)) :: st))) : Go wd EL p l e R Z s m args below meth c Q L k n (mkF m pc Ls (.int y :: .int x :: st)) := by
  obtain ⟨d, rfl⟩ := D
  exact K.to X fun s X T lc H S t r => XT.ishr S.here X.1 rfl (hb X.2.2.2.1 d) rfl r
theorem Go.iushr (X : Cx wd EL p Z s m meth c own nm code ml ret) {x y : Int32} (D : D1 code pc (.iushr) 1 pc')  (K : Go wd EL p l e R Z s m args below meth c Q L k n (mkF m pc' Ls (.int (XT.ushr x y) :: st))) : Go wd EL p l e R Z s m args below meth c Q L k n (mkF m pc Ls (.int y :: .int x :: st)) := by
  obtain ⟨d, rfl⟩ := D
  exact K.to X fun s X T lc H S t r => XT.iushr S.here X.1 rfl (hb X.2.2.2.1 d) rfl r
theorem Go.irem (X : Cx wd EL p Z s m meth c own nm code ml ret) {x y : Int32} (D : D1 code pc (.irem) 1 pc') (hy : y ≠ 0) (K : Go wd EL p l e R Z s m args below meth c Q L k n (mkF m pc' Ls (.int (x % y) :: st))) : Go wd EL p l e R Z s m args below meth c Q L k n (mkF m pc Ls (.int y :: .int x :: st)) := by
  obtain ⟨d, rfl⟩ := D
  exact K.to X fun s X T lc H S t r => iremM S X.1 rfl (hb X.2.2.2.1 d) rfl hy r
theorem Go.ineg (X : Cx wd EL p Z s m meth c own nm code ml ret) {x : Int32} (D : D1 code pc (.ineg) 1 pc')  (K : Go wd EL p l e R Z s m args below meth c Q L k n (mkF m pc' Ls (.int (-x) :: st))) : Go wd EL p l e R Z s m args below meth c Q L k n (mkF m pc Ls (.int x :: st)) := by
  obtain ⟨d, rfl⟩ := D
  exact K.to X fun s X T lc H S t r => XS.ineg S.here X.1 rfl (hb X.2.2.2.1 d) rfl r
theorem Go.i2c (X : Cx wd EL p Z s m meth c own nm code ml ret) {x : Int32} (D : D1 code pc (.i2c) 1 pc')  (K : Go wd EL p l e R Z s m args below meth c Q L k n (mkF m pc' Ls (.int (x.toUInt32.toUInt16.toUInt32.toInt32) :: st))) : Go wd EL p l e R Z s m args below meth c Q L k n (mkF m pc Ls (.int x :: st)) := by
  obtain ⟨d, rfl⟩ := D
  exact K.to X fun s X T lc H S t r => XT.i2c S.here X.1 rfl (hb X.2.2.2.1 d) rfl r
theorem Go.i2b (X : Cx wd EL p Z s m meth c own nm code ml ret) {x : Int32} (D : D1 code pc (.i2b) 1 pc')  (K : Go wd EL p l e R Z s m args below meth c Q L k n (mkF m pc' Ls (.int (x.toInt8.toInt32) :: st))) : Go wd EL p l e R Z s m args below meth c Q L k n (mkF m pc Ls (.int x :: st)) := by
  obtain ⟨d, rfl⟩ := D
  exact K.to X fun s X T lc H S t r => XT.i2b S.here X.1 rfl (hb X.2.2.2.1 d) rfl r
theorem Go.goto (X : Cx wd EL p Z s m meth c own nm code ml ret) {o : Int} {pt : Nat} (D : D1 code pc (.goto o) 3 pc') (ho : 0 ≤ (pc : Int) + o ∧ ((pc : Int) + o).toNat = pt) (K : Go wd EL p l e R Z s m args below meth c Q L k n (mkF m pt Ls st)) : Go wd EL p l e R Z s m args below meth c Q L k n (mkF m pc Ls st) := by
  obtain ⟨d, rfl⟩ := D
  exact K.to X fun s X T lc H S t r => XS.goto S.here X.1 rfl rfl (hb X.2.2.2.1 d) ho.1 ho.2 r
theorem Go.ifnullY (X : Cx wd EL p Z s m meth c own nm code ml ret) {o : Int} {pt : Nat} (D : D1 code pc (.ifnull o) 3 pc') (ho : 0 ≤ (pc : Int) + o ∧ ((pc : Int) + o).toNat = pt) (K : Go wd EL p l e R Z s m args below meth c Q L k n (mkF m pt Ls st)) : Go wd EL p l e R Z s m args below meth c Q L k n (mkF m pc Ls (.null :: st)) := by
  obtain ⟨d, rfl⟩ := D
  exact K.to X fun s X T lc H S t r => XS.ifnullYes S.here X.1 rfl rfl (hb X.2.2.2.1 d) rfl ho.1 ho.2 r
theorem Go.ifnullN (X : Cx wd EL p Z s m meth c own nm code ml ret) {o : Int} {b : Addr} (D : D1 code pc (.ifnull o) 3 pc')  (K : Go wd EL p l e R Z s m args below meth c Q L k n (mkF m pc' Ls st)) : Go wd EL p l e R Z s m args below meth c Q L k n (mkF m pc Ls (.ref b :: st)) := by
  obtain ⟨d, rfl⟩ := D
  exact K.to X fun s X T lc H S t r => XS.ifnullNo S.here X.1 rfl (hb X.2.2.2.1 d) rfl r
theorem Go.ifnonnullY (X : Cx wd EL p Z s m meth c own nm code ml ret) {o : Int} {pt : Nat} {b : Addr} (D : D1 code pc (.ifnonnull o) 3 pc') (ho : 0 ≤ (pc : Int) + o ∧ ((pc : Int) + o).toNat = pt) (K : Go wd EL p l e R Z s m args below meth c Q L k n (mkF m pt Ls st)) : Go wd EL p l e R Z s m args below meth c Q L k n (mkF m pc Ls (.ref b :: st)) := by
  obtain ⟨d, rfl⟩ := D
  exact K.to X fun s X T lc H S t r => XT.ifnonnullYes S.here X.1 rfl rfl (hb X.2.2.2.1 d) rfl ho.1 ho.2 r
theorem Go.ifnonnullN (X : Cx wd EL p Z s m meth c own nm code ml ret) {o : Int} (D : D1 code pc (.ifnonnull o) 3 pc')  (K : Go wd EL p l e R Z s m args below meth c Q L k n (mkF m pc' Ls st)) : Go wd EL p l e R Z s m args below meth c Q L k n (mkF m pc Ls (.null :: st)) := by
  obtain ⟨d, rfl⟩ := D
  exact K.to X fun s X T lc H S t r => XT.ifnonnullNo S.here X.1 rfl (hb X.2.2.2.1 d) rfl r
/-! ### branches -/
def ccP (cd : ClassFile.Cond) (x y : Int32) : Prop := match cd with
  | .eq => x = y | .ne => x ≠ y | .lt => x < y | .ge => y ≤ x | .gt => y < x | .le => x ≤ y
theorem cc_icmp (cd : ClassFile.Cond) (x y : Int32) : if_icmp.holds cd x y = true ↔ ccP cd x y := by cases cd <;> simp [if_icmp.holds, ccP]
theorem cc_if (cd : ClassFile.Cond) (x : Int32) : ifCond.holds cd x = true ↔ ccP cd x 0 := by cases cd <;> simp [ifCond.holds, ccP]
def ccI (cd : ClassFile.Cond) (x y : Int) : Prop := match cd with
  | .eq => x = y | .ne => x ≠ y | .lt => x < y | .ge => y ≤ x | .gt => y < x | .le => x ≤ y
theorem cc_int (cd : ClassFile.Cond) (x y : Int32) : ccP cd x y ↔ ccI cd x.toInt y.toInt := by cases cd <;> simp only [ccP, ccI, Int32.lt_iff_toInt_lt, Int32.le_iff_toInt_le, ne_eq, Int32.toInt_inj]
theorem ccL {cd : ClassFile.Cond} {x y : Int32} {a b : Int} (q : ccP cd x y) (hx : x.toInt = a) (hy : y.toInt = b) : ccI cd a b := by subst hx hy; exact (cc_int cd x y).mp q
theorem ccN {cd : ClassFile.Cond} {x y : Int32} {a b : Int} (q : ¬ ccP cd x y) (hx : x.toInt = a) (hy : y.toInt = b) : ¬ ccI cd a b := by subst hx hy; exact fun r => q ((cc_int cd x y).mpr r)
theorem ite_0 {P : Prop} [Decidable P] (q : ccP .eq (if P then 1 else 0 : Int32) 0) : ¬ P := fun r => by rw [if_pos r] at q; exact absurd q (by show ¬ (1 : Int32) = 0; decide)
theorem ite_n0 {P : Prop} [Decidable P] (q : ¬ ccP .eq (if P then 1 else 0 : Int32) 0) : P := Decidable.byContradiction fun r => q (by rw [if_neg r]; rfl)
theorem ite_1 {P : Prop} [Decidable P] (q : ccP .ne (if P then 1 else 0 : Int32) 0) : P := Decidable.byContradiction fun r => q (by rw [if_neg r])
theorem ite_n1 {P : Prop} [Decidable P] (q : ¬ ccP .ne (if P then 1 else 0 : Int32) 0) : ¬ P := fun r => q (by rw [if_pos r]; show (1 : Int32) ≠ 0; decide)
theorem ite_01 {P : Prop} [Decidable P] : (if P then 1 else 0 : Int32) = 0 ∨ (if P then 1 else 0 : Int32) = 1 := by by_cases q : P <;> simp [q]
theorem ite_c {P Q : Prop} [Decidable P] [Decidable Q] (h : P ↔ Q) : (if P then 1 else 0 : Int32) = if Q then 1 else 0 := by by_cases q : P <;> simp [q, h.symm] <;> simp_all
theorem nat32 {i : Nat} (q : i < 2 ^ 31) : (Int32.ofNat i).toInt = i ∧ ¬ Int32.ofNat i < 0 ∧ (Int32.ofNat i).toNatClampNeg = i := by
  have e : (Int32.ofNat i).toInt = i := Int32.toInt_ofNat_small q
  refine ⟨e, ?_, ?_⟩
  · rw [Int32.lt_iff_toInt_lt, e, show (0 : Int32).toInt = 0 from rfl]; omega
  · simp only [Int32.toNatClampNeg, e]; rfl
theorem Go.icmp (X : Cx wd EL p Z s m meth c own nm code ml ret) {cd : ClassFile.Cond} {o : Int} {pt : Nat} {x y : Int32} (D : D1 code pc (.if_icmp cd o) 3 pc') (ho : 0 ≤ (pc : Int) + o ∧ ((pc : Int) + o).toNat = pt) (K1 : ccP cd x y → Go wd EL p l e R Z s m args below meth c Q L k n (mkF m pt Ls st)) (K2 : ¬ ccP cd x y → Go wd EL p l e R Z s m args below meth c Q L k n (mkF m pc' Ls st)) : Go wd EL p l e R Z s m args below meth c Q L k n (mkF m pc Ls (.int y :: .int x :: st)) := by
  obtain ⟨d, rfl⟩ := D
  cases hq : if_icmp.holds cd x y
  · exact (K2 fun q => by rw [(cc_icmp cd x y).mpr q] at hq; cases hq).to X fun s X T lc H S t r => XS.icmpNo S.here X.1 rfl (hb X.2.2.2.1 d) rfl hq r
  · exact (K1 ((cc_icmp cd x y).mp hq)).to X fun s X T lc H S t r => XS.icmpYes S.here X.1 rfl rfl (hb X.2.2.2.1 d) rfl hq ho.1 ho.2 r
theorem Go.ifc (X : Cx wd EL p Z s m meth c own nm code ml ret) {cd : ClassFile.Cond} {o : Int} {pt : Nat} {x : Int32} (D : D1 code pc (.ifCond cd o) 3 pc') (ho : 0 ≤ (pc : Int) + o ∧ ((pc : Int) + o).toNat = pt) (K1 : ccP cd x 0 → Go wd EL p l e R Z s m args below meth c Q L k n (mkF m pt Ls st)) (K2 : ¬ ccP cd x 0 → Go wd EL p l e R Z s m args below meth c Q L k n (mkF m pc' Ls st)) : Go wd EL p l e R Z s m args below meth c Q L k n (mkF m pc Ls (.int x :: st)) := by
  obtain ⟨d, rfl⟩ := D
  cases hq : ifCond.holds cd x
  · exact (K2 fun q => by rw [(cc_if cd x).mpr q] at hq; cases hq).to X fun s X T lc H S t r => XS.ifNo S.here X.1 rfl (hb X.2.2.2.1 d) rfl hq r
  · exact (K1 ((cc_if cd x).mp hq)).to X fun s X T lc H S t r => XS.ifYes S.here X.1 rfl rfl (hb X.2.2.2.1 d) rfl hq ho.1 ho.2 r
def acP (cd : ACond) (x y : Value) : Prop := match cd with | .eq => x = y | .ne => x ≠ y
theorem ac_iff (cd : ACond) (x y : Value) : acV cd (decide (x = y)) = true ↔ acP cd x y := by cases cd <;> simp [acV, acP]
theorem Go.acmp (X : Cx wd EL p Z s m meth c own nm code ml ret) {cd : ACond} {o : Int} {pt : Nat} {x y : Value} (D : D1 code pc (.if_acmp cd o) 3 pc') (ho : 0 ≤ (pc : Int) + o ∧ ((pc : Int) + o).toNat = pt) (hx : x.isRef = true) (hy : y.isRef = true) (K1 : acP cd x y → Go wd EL p l e R Z s m args below meth c Q L k n (mkF m pt Ls st)) (K2 : ¬ acP cd x y → Go wd EL p l e R Z s m args below meth c Q L k n (mkF m pc' Ls st)) : Go wd EL p l e R Z s m args below meth c Q L k n (mkF m pc Ls (y :: x :: st)) := by
  obtain ⟨d, rfl⟩ := D
  cases hq : acV cd (decide (x = y))
  · exact (K2 fun q => by rw [(ac_iff cd x y).mpr q] at hq; cases hq).to X fun s X T lc H S t r => RoadKit.acmp S X.1 rfl hx hy rfl (hb X.2.2.2.1 d) rfl rfl ho.1 (by rw [hq]; rfl) r
  · exact (K1 ((ac_iff cd x y).mp hq)).to X fun s X T lc H S t r => RoadKit.acmp S X.1 rfl hx hy rfl (hb X.2.2.2.1 d) rfl rfl ho.1 (by rw [hq]; exact ho.2.symm) r
theorem Go.lswY (X : Cx wd EL p Z s m meth c own nm code ml ret) {dflt : Int} {pairs : Array (Int × Int)} {len : Nat} {x : Int32} {a off : Int} {pt : Nat} (D : D1 code pc (.lookupswitch dflt pairs) len pc') (hs : (pairs.toList.zip (pairs.toList.drop 1)).all (fun (a, next) => a.1 < next.1) = true) (hf : pairs.find? (·.1 == x.toInt) = some (a, off)) (ho : 0 ≤ (pc : Int) + off ∧ ((pc : Int) + off).toNat = pt) (K : Go wd EL p l e R Z s m args below meth c Q L k n (mkF m pt Ls st)) : Go wd EL p l e R Z s m args below meth c Q L k n (mkF m pc Ls (.int x :: st)) := by
  obtain ⟨d, rfl⟩ := D
  exact K.to X fun s X T lc H S t r => S.lookupswitchHit X.1 (g := mkF m pc Ls (.int x :: st)) rfl rfl (hb X.2.2.2.1 d) hs hf ho.1 t (by show Steps _ _ _ (T.setTop (mkF m ((pc : Int) + off).toNat Ls st)) _; rw [ho.2]; exact r)
theorem Go.lswN (X : Cx wd EL p Z s m meth c own nm code ml ret) {dflt : Int} {pairs : Array (Int × Int)} {len : Nat} {x : Int32} {pt : Nat} (D : D1 code pc (.lookupswitch dflt pairs) len pc') (hs : (pairs.toList.zip (pairs.toList.drop 1)).all (fun (a, next) => a.1 < next.1) = true) (hf : pairs.find? (·.1 == x.toInt) = none) (ho : 0 ≤ (pc : Int) + dflt ∧ ((pc : Int) + dflt).toNat = pt) (K : Go wd EL p l e R Z s m args below meth c Q L k n (mkF m pt Ls st)) : Go wd EL p l e R Z s m args below meth c Q L k n (mkF m pc Ls (.int x :: st)) := by
  obtain ⟨d, rfl⟩ := D
  exact K.to X fun s X T lc H S t r => S.lookupswitchMiss X.1 (g := mkF m pc Ls (.int x :: st)) rfl rfl (hb X.2.2.2.1 d) hs hf ho.1 t (by show Steps _ _ _ (T.setTop (mkF m ((pc : Int) + dflt).toNat Ls st)) _; rw [ho.2]; exact r)
theorem Go.tswY (X : Cx wd EL p Z s m meth c own nm code ml ret) {dflt low high : Int} {offs : Array Int} {len : Nat} {x : Int32} {off : Int} {pt : Nat} (D : D1 code pc (.tableswitch dflt low high offs) len pc') (hin : ¬ (x.toInt < low ∨ x.toInt > high)) (hf : offs[(x.toInt - low).toNat]? = some off) (ho : 0 ≤ (pc : Int) + off ∧ ((pc : Int) + off).toNat = pt) (K : Go wd EL p l e R Z s m args below meth c Q L k n (mkF m pt Ls st)) : Go wd EL p l e R Z s m args below meth c Q L k n (mkF m pc Ls (.int x :: st)) := by
  obtain ⟨d, rfl⟩ := D
  exact K.to X fun s X T lc H S t r => S.tableswitchIn X.1 (g := mkF m pc Ls (.int x :: st)) rfl rfl (hb X.2.2.2.1 d) hin hf ho.1 t (by show Steps _ _ _ (T.setTop (mkF m ((pc : Int) + off).toNat Ls st)) _; rw [ho.2]; exact r)
/-! ### returns -/
theorem Go.retw {t : FieldType} (X : Cx wd EL p Z s m meth c own nm code ml (some t)) {i : Instr} {w : Value} {Qv : Value → List Ent → Prop} (hn : narrow t w = w)
    (hi : (i = .ireturn ∧ (t = .int ∨ t = .boolean ∨ t = .byte ∨ t = .char ∨ t = .short) ∧ ∃ z, w = .int z) ∨ (i = .lreturn ∧ t = .long ∧ ∃ z, w = .long z) ∨ (i = .dreturn ∧ t = .double ∧ ∃ z, w = .double z) ∨ (i = .freturn ∧ t = .float ∧ ∃ z, w = .float z) ∨ (i = .areturn ∧ t.isReference = true ∧ w.isRef = true))
    (D : D1 code pc i 1 pc') (hk : k ≤ R.cells) (hs : n ≤ R.slots) (q : Qv w L) : Go wd EL p l e R Z s m args below meth c (rvQ Qv) L k n (mkF m pc Ls (w :: st)) := by
  intro vm T lc F B I S
  replace X := X.re B
  have hlk : meth.locks = false := X.2.2.2.2.2.2.1
  obtain ⟨fs, hr, hrun, hended, hW, hsame⟩ := S.leave (v := some w) (fun z => by rw [X.2.2.2.2.2.1] at z; cases z) hlk
  exact ⟨_, _, retOut S X.1 X.2.2.2.2.2.1 hn hi (hb X.2.2.2.1 D.1) hr, hrun, hended, some w, L, lc, rfl, ⟨w, rfl, q⟩, I.now X S, F, B.ended ⟨_, rfl⟩ hW (Nat.le_refl _) hsame hk hs⟩
theorem Go.iret (X : Cx wd EL p Z s m meth c own nm code ml (some .int)) {z : Int32} {Qv : Value → List Ent → Prop} (D : D1 code pc .ireturn 1 pc') (hk : k ≤ R.cells) (hs : n ≤ R.slots) (q : Qv (.int z) L) : Go wd EL p l e R Z s m args below meth c (rvQ Qv) L k n (mkF m pc Ls (.int z :: st)) :=
  Go.retw X rfl (Or.inl ⟨rfl, Or.inl rfl, z, rfl⟩) D hk hs q
theorem Go.zret (X : Cx wd EL p Z s m meth c own nm code ml (some .boolean)) {z : Int32} {Qv : Value → List Ent → Prop} (D : D1 code pc .ireturn 1 pc') (hz : z = 0 ∨ z = 1) (hk : k ≤ R.cells) (hs : n ≤ R.slots) (q : Qv (.int z) L) : Go wd EL p l e R Z s m args below meth c (rvQ Qv) L k n (mkF m pc Ls (.int z :: st)) :=
  Go.retw X (by rcases hz with rfl | rfl <;> rfl) (Or.inl ⟨rfl, Or.inr (Or.inl rfl), z, rfl⟩) D hk hs q
theorem Go.cret (X : Cx wd EL p Z s m meth c own nm code ml (some .char)) {z : Int32} {Qv : Value → List Ent → Prop} (D : D1 code pc .ireturn 1 pc') (hz : z.toUInt32.toUInt16.toUInt32.toInt32 = z) (hk : k ≤ R.cells) (hs : n ≤ R.slots) (q : Qv (.int z) L) : Go wd EL p l e R Z s m args below meth c (rvQ Qv) L k n (mkF m pc Ls (.int z :: st)) :=
  Go.retw X (by show Value.int (z.toUInt32.toUInt16.toUInt32.toInt32) = .int z; rw [hz]) (Or.inl ⟨rfl, Or.inr (Or.inr (Or.inr (Or.inl rfl))), z, rfl⟩) D hk hs q
theorem Go.bret (X : Cx wd EL p Z s m meth c own nm code ml (some .byte)) {z : Int32} {Qv : Value → List Ent → Prop} (D : D1 code pc .ireturn 1 pc') (hz : z.toInt8.toInt32 = z) (hk : k ≤ R.cells) (hs : n ≤ R.slots) (q : Qv (.int z) L) : Go wd EL p l e R Z s m args below meth c (rvQ Qv) L k n (mkF m pc Ls (.int z :: st)) :=
  Go.retw X (by show Value.int (z.toInt8.toInt32) = .int z; rw [hz]) (Or.inl ⟨rfl, Or.inr (Or.inr (Or.inl rfl)), z, rfl⟩) D hk hs q
theorem Go.aret {t : FieldType} (X : Cx wd EL p Z s m meth c own nm code ml (some t)) {w : Value} {Qv : Value → List Ent → Prop} (D : D1 code pc .areturn 1 pc') (ht : t.isReference = true) (hw : w.isRef = true) (hn : narrow t w = w) (hk : k ≤ R.cells) (hs : n ≤ R.slots) (q : Qv w L) : Go wd EL p l e R Z s m args below meth c (rvQ Qv) L k n (mkF m pc Ls (w :: st)) :=
  Go.retw X hn (Or.inr (Or.inr (Or.inr (Or.inr ⟨rfl, ht, hw⟩)))) D hk hs q
theorem Go.ret0 (X : Cx wd EL p Z s m meth c own nm code ml none) {Q0 : List Ent → Prop} (D : D1 code pc .return_ 1 pc') (hk : k ≤ R.cells) (hs : n ≤ R.slots) (q : Q0 L) : Go wd EL p l e R Z s m args below meth c (r0Q Q0) L k n (mkF m pc Ls []) := by
  intro vm T lc F B I S
  replace X := X.re B
  have hlk : meth.locks = false := X.2.2.2.2.2.2.1
  obtain ⟨fs, hr, hrun, hended, hW, hsame⟩ := S.leave (v := none) (fun _ => rfl) hlk
  exact ⟨_, _, S.returnOut X.1 X.2.2.2.2.2.1 (hb X.2.2.2.1 D.1) hr, hrun, hended, none, L, lc, rfl, ⟨rfl, q⟩, I.now X S, F, B.ended ⟨_, rfl⟩ hW (Nat.le_refl _) hsame hk hs⟩
end Steps
end Jvm.OwnKit
namespace Jvm.OwnKit
open Sem ClassFile Op Lib Jvm.Stand Jvm.Free Jvm.LawKit Jvm.RoadKit
section Steps
variable {wd : Bool} {EL : List (String × Nat)} {p : Program} {l : Launch} {e : Env} {R : Room} {Z s : State} {m : MethodId} {args : Array Value} {below : List Frame} {meth : Method} {c : Code} {Q : Option Value → List Ent → Prop} {L L' : List Ent} {k n : Nat} {own nm : String} {code : ByteArray} {ml : Nat} {ret : Option FieldType} {a0 : Array Value}
variable {pc pc' : Nat} {Ls : Array Slot} {st : List Value} {i j : Nat} {a b : Addr} {C : String} {ns : List Nm} {vs : List Value} {v : Value} {h h' : Heap} {vm : Vm}
def dfl (ns : List Nm) : List (Option Value) := ns.map fun q => (parseFieldDescriptor q.2.2).map defaultValue
theorem Go.new (X : Cx wd EL p Z s m meth c own nm code ml ret) {idx kk : Nat} (w : (Cond.classLink own idx C).before a0 Z = true) (wi : (Cond.instantiable C kk).before a0 Z = true) (wz : (Cond.initialized C).before a0 Z = true) (Y : LayC Z a0 C ns) (hv : dfl ns = vs.map some) (D : D1 code pc (.new idx) 3 pc') (hc : k + 1 ≤ R.cells) (hl : n + kk ≤ R.slots)
    (K : ∀ a, Go wd EL p l e R Z s m args below meth c Q (ow a (Ob Z C ns vs) :: L) (k + 1) (n + kk) (mkF m pc' Ls (.ref a :: st))) : Go wd EL p l e R Z s m args below meth c Q L k n (mkF m pc Ls st) := by
  obtain ⟨d, rfl⟩ := D
  intro vm T lc F B I S
  replace X := X.re B
  obtain ⟨T', h', S', e', E', A', D', -, stp⟩ := newO S X.1 X.2.1 X.2.2.1 w wi wz rfl (g := mkF m pc Ls st) rfl (hb X.2.2.2.1 d) hc hl
  have I' : Iv wd Z EL vm h' (ow T.heap.size (Ob Z C ns vs) :: L) := by
    obtain ⟨cell, kC, a1, a2, a3, a4, a5⟩ := A'
    refine I.push E' (Nat.le_refl _) ⟨cell, a1, ⟨kC, a2, a3, a4, a5⟩, ?_, fun j q v hj hv' => ?_⟩
    · have := congrArg List.length hv; simpa [dfl] using this.symm
    · have e1 : (dfl ns)[j]? = some ((parseFieldDescriptor q.2.2).map defaultValue) := by simp [dfl, hj]
      rw [hv] at e1
      simp only [List.getElem?_map, hv', Option.map_some, Option.some.injEq] at e1
      cases ht : parseFieldDescriptor q.2.2 with
      | none => rw [ht] at e1; cases e1
      | some ty =>
        rw [ht] at e1
        cases e1
        obtain ⟨c', cf, k', i', f, f0, r⟩ := D' (Y.1 q (List.mem_of_getElem? hj)) ht
        cases a1.symm.trans f0
        exact ⟨cf, k', i', f, r⟩
  subst e'
  obtain ⟨u, o, st', r⟩ := K _ vm T' lc F (B.mono E'.1) I' S'
  exact ⟨u, o, stp _ st', r⟩
theorem Go.getFld (X : Cx wd EL p Z s m meth c own nm code ml ret) {R0 O f d : String} {idx : Nat} (w : (Cond.fieldLink own idx R0 f d).before a0 Z = true) (via : Via Z R0 O f d) (F : ∀ h, Hp Z h L → Fld Z h a O f d v) (D : D1 code pc (.getfield idx) 3 pc') (K : Go wd EL p l e R Z s m args below meth c Q L k n (mkF m pc' Ls (v :: st))) : Go wd EL p l e R Z s m args below meth c Q L k n (mkF m pc Ls (.ref a :: st)) := by
  obtain ⟨dd, rfl⟩ := D
  intro vm T lc Fr' B I S
  replace X := X.re B
  obtain ⟨T', S', e', stp⟩ := getF S X.1 X.2.1 X.2.2.1 (host := "") (Or.inl w) via rfl (F _ I.1) (g := mkF m pc Ls (.ref a :: st)) rfl rfl (hb X.2.2.2.1 dd)
  rw [← e'] at I B
  obtain ⟨u, o, st', r⟩ := K vm T' lc Fr' B I S'
  exact ⟨u, o, stp _ st', r⟩
theorem Go.putFld (X : Cx wd EL p Z s m meth c own nm code ml ret) {R0 O f d : String} {idx kk : Nat} {ty : FieldType} (hi : L[i]? = some (ow a (Ob Z C ns vs))) (hj : ns[j]? = some (O, f, d)) (Y : LayC Z a0 C ns) (w : (Cond.fieldLink own idx R0 f d).before a0 Z = true) (via : Via Z R0 O f d) (hL : (Cond.lays C O f d).before a0 Z = true ∨ ((Cond.laysFinal C O f d).before a0 Z = true ∧ own = O ∧ nm = "<init>")) (wi : (Cond.instantiable C kk).before a0 Z = true)
    (ht : parseFieldDescriptor d = some ty) (D : D1 code pc (.putfield idx) 3 pc') (hn : narrow ty v = v) (hf : fits ty v = true) (K : Go wd EL p l e R Z s m args below meth c Q (updL L i (ow a (Ob Z C ns (updL vs j v)))) k n (mkF m pc' Ls st)) : Go wd EL p l e R Z s m args below meth c Q L k n (mkF m pc Ls (v :: .ref a :: st)) := by
  obtain ⟨dd, rfl⟩ := D
  intro vm T lc F' B I S
  replace X := X.re B
  have lj : j < vs.length := by obtain ⟨c, hc, -, hl, -⟩ := I.1.at hi; rw [hl]; exact (List.getElem?_eq_some_iff.mp hj).1
  have F := I.1.fld hi hj (List.getElem?_eq_getElem lj)
  have E := I.1.exa hi
  obtain ⟨T', h', S', e', W, stp⟩ := putF S X.1 X.2.1 X.2.2.1 (host := "") (Or.inl w) via rfl F E (hL.imp id fun q => ⟨q.1, q.2.1, X.2.2.2.2.2.2.2.1.trans q.2.2⟩) wi ht hn hf (g := mkF m pc Ls (v :: .ref a :: st)) rfl rfl (hb X.2.2.2.1 dd)
  have I' := I.wr (P' := Ob Z C ns (updL vs j v)) hi W fun c O hs lt => Ob.put Y hj O hs lt
  subst e'
  obtain ⟨u, o, st', r⟩ := K vm T' _ (F'.app fun y hy => by cases List.mem_singleton.mp hy; exact I.1.ge hi) (B.mono (Nat.le_of_eq W.size.symm)) I' S'
  exact ⟨u, o, stp _ st', r⟩
theorem Go.getSta (X : Cx wd EL p Z s m meth c own nm code ml ret) {R0 O f d : String} {idx : Nat} (w : (Cond.fieldLink own idx R0 f d).before a0 Z = true) (via : Via Z R0 O f d) (F : Sta Z Z.heap O f d v) (D : D1 code pc (.getstatic idx) 3 pc') (K : Go wd EL p l e R Z s m args below meth c Q L k n (mkF m pc' Ls (v :: st))) : Go wd EL p l e R Z s m args below meth c Q L k n (mkF m pc Ls st) := by
  obtain ⟨dd, rfl⟩ := D
  intro vm T lc F' B I S
  replace X := X.re B
  obtain ⟨T', S', e', stp⟩ := getS2 S X.1 X.2.1 X.2.2.1 (host := "") (Or.inl w) via rfl (F.ext I.1.1) (g := mkF m pc Ls st) rfl (hb X.2.2.2.1 dd)
  rw [← e'] at I B
  obtain ⟨u, o, st', r⟩ := K vm T' lc F' B I S'
  exact ⟨u, o, stp _ st', r⟩
theorem Go.getFldN (X : Cx wd EL p Z s m meth c own nm code ml ret) {R0 O f d : String} {host : String} {idx : Nat} (w : (Cond.fieldLinkNest own idx R0 f d host).before a0 Z = true) (via : Via Z R0 O f d) (F : ∀ h, Hp Z h L → Fld Z h a O f d v) (D : D1 code pc (.getfield idx) 3 pc') (K : Go wd EL p l e R Z s m args below meth c Q L k n (mkF m pc' Ls (v :: st))) : Go wd EL p l e R Z s m args below meth c Q L k n (mkF m pc Ls (.ref a :: st)) := by
  obtain ⟨dd, rfl⟩ := D
  intro vm T lc Fr' B I S
  replace X := X.re B
  obtain ⟨T', S', e', stp⟩ := getF S X.1 X.2.1 X.2.2.1 (host := host) (Or.inr w) via rfl (F _ I.1) (g := mkF m pc Ls (.ref a :: st)) rfl rfl (hb X.2.2.2.1 dd)
  rw [← e'] at I B
  obtain ⟨u, o, st', r⟩ := K vm T' lc Fr' B I S'
  exact ⟨u, o, stp _ st', r⟩
theorem Go.putFldN (X : Cx wd EL p Z s m meth c own nm code ml ret) {R0 O f d : String} {host : String} {idx kk : Nat} {ty : FieldType} (hi : L[i]? = some (ow a (Ob Z C ns vs))) (hj : ns[j]? = some (O, f, d)) (Y : LayC Z a0 C ns) (w : (Cond.fieldLinkNest own idx R0 f d host).before a0 Z = true) (via : Via Z R0 O f d) (hL : (Cond.lays C O f d).before a0 Z = true ∨ ((Cond.laysFinal C O f d).before a0 Z = true ∧ own = O ∧ nm = "<init>")) (wi : (Cond.instantiable C kk).before a0 Z = true)
    (ht : parseFieldDescriptor d = some ty) (D : D1 code pc (.putfield idx) 3 pc') (hn : narrow ty v = v) (hf : fits ty v = true) (K : Go wd EL p l e R Z s m args below meth c Q (updL L i (ow a (Ob Z C ns (updL vs j v)))) k n (mkF m pc' Ls st)) : Go wd EL p l e R Z s m args below meth c Q L k n (mkF m pc Ls (v :: .ref a :: st)) := by
  obtain ⟨dd, rfl⟩ := D
  intro vm T lc F' B I S
  replace X := X.re B
  have lj : j < vs.length := by obtain ⟨c, hc, -, hl, -⟩ := I.1.at hi; rw [hl]; exact (List.getElem?_eq_some_iff.mp hj).1
  have F := I.1.fld hi hj (List.getElem?_eq_getElem lj)
  have E := I.1.exa hi
  obtain ⟨T', h', S', e', W, stp⟩ := putF S X.1 X.2.1 X.2.2.1 (host := host) (Or.inr w) via rfl F E (hL.imp id fun q => ⟨q.1, q.2.1, X.2.2.2.2.2.2.2.1.trans q.2.2⟩) wi ht hn hf (g := mkF m pc Ls (v :: .ref a :: st)) rfl rfl (hb X.2.2.2.1 dd)
  have I' := I.wr (P' := Ob Z C ns (updL vs j v)) hi W fun c O hs lt => Ob.put Y hj O hs lt
  subst e'
  obtain ⟨u, o, st', r⟩ := K vm T' _ (F'.app fun y hy => by cases List.mem_singleton.mp hy; exact I.1.ge hi) (B.mono (Nat.le_of_eq W.size.symm)) I' S'
  exact ⟨u, o, stp _ st', r⟩
theorem Go.getStaN (X : Cx wd EL p Z s m meth c own nm code ml ret) {R0 O f d : String} {host : String} {idx : Nat} (w : (Cond.fieldLinkNest own idx R0 f d host).before a0 Z = true) (via : Via Z R0 O f d) (F : Sta Z Z.heap O f d v) (D : D1 code pc (.getstatic idx) 3 pc') (K : Go wd EL p l e R Z s m args below meth c Q L k n (mkF m pc' Ls (v :: st))) : Go wd EL p l e R Z s m args below meth c Q L k n (mkF m pc Ls st) := by
  obtain ⟨dd, rfl⟩ := D
  intro vm T lc F' B I S
  replace X := X.re B
  obtain ⟨T', S', e', stp⟩ := getS2 S X.1 X.2.1 X.2.2.1 (host := host) (Or.inr w) via rfl (F.ext I.1.1) (g := mkF m pc Ls st) rfl (hb X.2.2.2.1 dd)
  rw [← e'] at I B
  obtain ⟨u, o, st', r⟩ := K vm T' lc F' B I S'
  exact ⟨u, o, stp _ st', r⟩
theorem Go.putInv (X : Cx wd EL p Z s m meth c own nm code ml ret) {R0 O f d : String} {idx kk : Nat} {ty : FieldType} {P : Cell → Prop} (hi : ow a P ∈ L) (w : (Cond.fieldLink own idx R0 f d).before a0 Z = true) (via : Via Z R0 O f d) (hL : (Cond.lays C O f d).before a0 Z = true ∨ ((Cond.laysFinal C O f d).before a0 Z = true ∧ own = O ∧ nm = "<init>")) (wi : (Cond.instantiable C kk).before a0 Z = true)
    (hF : ∀ h, Hp Z h L → (∃ v0, Fld Z h a O f d v0) ∧ Exa Z h a C) (hP : ∀ c : Cell, P c → c.vm.isStatics = false → slo Z (O, f, d) < c.slots.size → P (c.setSlot (slo Z (O, f, d)) v))
    (ht : parseFieldDescriptor d = some ty) (D : D1 code pc (.putfield idx) 3 pc') (hn : narrow ty v = v) (hf : fits ty v = true) (K : Go wd EL p l e R Z s m args below meth c Q L k n (mkF m pc' Ls st)) : Go wd EL p l e R Z s m args below meth c Q L k n (mkF m pc Ls (v :: .ref a :: st)) := by
  obtain ⟨dd, rfl⟩ := D
  intro vm T lc F' B I S
  replace X := X.re B
  obtain ⟨⟨v0, F⟩, E⟩ := hF _ I.1
  obtain ⟨T', h', S', e', W, stp⟩ := putF S X.1 X.2.1 X.2.2.1 (host := "") (Or.inl w) via rfl F E (hL.imp id fun q => ⟨q.1, q.2.1, X.2.2.2.2.2.2.2.1.trans q.2.2⟩) wi ht hn hf (g := mkF m pc Ls (v :: .ref a :: st)) rfl rfl (hb X.2.2.2.1 dd)
  obtain ⟨ix, hix⟩ := List.getElem?_of_mem hi
  have I' := I.wr (P' := P) hix W fun c O hs lt => hP c O hs lt
  have eL : updL L ix (ow a P) = L := upd_self L ix _ hix
  rw [eL] at I'
  subst e'
  obtain ⟨u, o, st', r⟩ := K vm T' _ (F'.app fun y hy => by cases List.mem_singleton.mp hy; exact I.1.ge hix) (B.mono (Nat.le_of_eq W.size.symm)) I' S'
  exact ⟨u, o, stp _ st', r⟩
theorem Go.getAny (X : Cx wd EL p Z s m meth c own nm code ml ret) {R0 O f d : String} {idx : Nat} {φ : Value → Prop} (w : (Cond.fieldLink own idx R0 f d).before a0 Z = true) (via : Via Z R0 O f d) (F : ∀ h, Hp Z h L → ∃ v, φ v ∧ Fld Z h a O f d v) (D : D1 code pc (.getfield idx) 3 pc') (K : ∀ v, φ v → Go wd EL p l e R Z s m args below meth c Q L k n (mkF m pc' Ls (v :: st))) : Go wd EL p l e R Z s m args below meth c Q L k n (mkF m pc Ls (.ref a :: st)) := by
  obtain ⟨dd, rfl⟩ := D
  intro vm T lc Fr' B I S
  replace X := X.re B
  obtain ⟨v, hv, F⟩ := F _ I.1
  obtain ⟨T', S', e', stp⟩ := getF S X.1 X.2.1 X.2.2.1 (host := "") (Or.inl w) via rfl F (g := mkF m pc Ls (.ref a :: st)) rfl rfl (hb X.2.2.2.1 dd)
  rw [← e'] at I B
  obtain ⟨u, o, st', r⟩ := K v hv vm T' lc Fr' B I S'
  exact ⟨u, o, stp _ st', r⟩
/-! ### arrays -/
theorem Go.newarrF (X : Cx wd EL p Z s m meth c own nm code ml ret) {aty : ArrayType} {z : Int32} {N cap : Nat} (w : (Cond.arrayClass (newarray.typeOf aty)).before a0 Z = true) (hz : ¬ z < 0) (hN : z.toNatClampNeg = N) (hcap : N ≤ cap) (hb8 : cap * 8 ≤ 536870912) (D : D1 code pc (.newarray aty) 2 pc') (hc : k + 1 ≤ R.cells) (hl : n + cap ≤ R.slots)
    (K : ∀ a K', Z.vm.findClass ("[" ++ (newarray.typeOf aty).toString) = some K' → Go wd EL p l e R Z s m args below meth c Q (ow a (Ar Z (newarray.typeOf aty) K' (List.replicate N (defaultValue (newarray.typeOf aty)))) :: L) (k + 1) (n + cap) (mkF m pc' Ls (.ref a :: st))) : Go wd EL p l e R Z s m args below meth c Q L k n (mkF m pc Ls (.int z :: st)) := by
  obtain ⟨d, rfl⟩ := D
  intro vm T lc F B I S
  replace X := X.re B
  have hcb : componentBytes (newarray.typeOf aty) ≤ 8 := by cases aty <;> decide
  obtain ⟨cA, kA, comp, h1, h2, h3, S', stp⟩ := S.newarrayPrim X.1 (mvA X.2.1 w) (g := mkF m pc Ls (.int z :: st)) rfl (hb X.2.2.2.1 d) rfl hz (Nat.le_trans (Nat.mul_le_mul (by omega) hcb) hb8) hc (by omega)
  rw [X.2.1.alike.findClass] at h1
  obtain ⟨kZ, z1, -⟩ := Vm.findClass_spec h1
  obtain ⟨k', z2, z3⟩ := X.2.1.alike.2.2 _ _ z1
  cases h2.symm.trans z2
  have E' : Ext T.heap (T.heap.push { cls := cA, slots := Array.replicate z.toNatClampNeg (defaultValue (newarray.typeOf aty)), vm := .none }) := ext_of fun a q => Array.getElem?_push_lt q |>.trans (Array.getElem?_eq_getElem q).symm
  have I' := I.push (a := T.heap.size) (P := Ar Z (newarray.typeOf aty) cA (List.replicate N (defaultValue (newarray.typeOf aty)))) E' (Nat.le_refl _) ⟨{ cls := cA, slots := Array.replicate z.toNatClampNeg (defaultValue (newarray.typeOf aty)), vm := .none }, by simp, ⟨by simp, kZ, z1, comp, by rw [← h3, z3]⟩, by simp, rfl, by simp [hN], by simp; omega, fun u hu => by rw [List.eq_of_mem_replicate hu]; cases aty <;> rfl⟩
  obtain ⟨u, o, st', r⟩ := K _ cA h1 vm _ lc F (B.mono E'.1) I' (S'.mono (Nat.le_refl _) (by omega))
  exact ⟨u, o, stp _ st', r⟩
theorem Go.newarr (X : Cx wd EL p Z s m meth c own nm code ml ret) {aty : ArrayType} {z : Int32} {N cap : Nat} (w : (Cond.arrayClass (newarray.typeOf aty)).before a0 Z = true) (hz : ¬ z < 0) (hN : z.toNatClampNeg = N) (hcap : N ≤ cap) (hb8 : cap * 8 ≤ 536870912) (D : D1 code pc (.newarray aty) 2 pc') (hc : k + 1 ≤ R.cells) (hl : n + cap ≤ R.slots)
    (K : ∀ a K', Go wd EL p l e R Z s m args below meth c Q (ow a (Ar Z (newarray.typeOf aty) K' (List.replicate N (defaultValue (newarray.typeOf aty)))) :: L) (k + 1) (n + cap) (mkF m pc' Ls (.ref a :: st))) : Go wd EL p l e R Z s m args below meth c Q L k n (mkF m pc Ls (.int z :: st)) := by
  obtain ⟨d, rfl⟩ := D
  intro vm T lc F B I S
  replace X := X.re B
  obtain ⟨T', h', cA, S', e', E', A', stp⟩ := newP S X.1 X.2.1 w rfl (g := mkF m pc Ls (.int z :: st)) rfl (hb X.2.2.2.1 d) rfl hz (cap := cap) (by omega) hb8 hc hl
  have I' := I.push (P := Ar Z (newarray.typeOf aty) cA (List.replicate N (defaultValue (newarray.typeOf aty)))) E' (Nat.le_refl _) ⟨_, A'.1, A'.2.1, A'.2.2, rfl, by simp [newA, hN], by simp; omega, fun u hu => by rw [List.eq_of_mem_replicate hu]; cases aty <;> rfl⟩
  subst e'
  obtain ⟨u, o, st', r⟩ := K _ cA vm T' lc F (B.mono E'.1) I' S'
  exact ⟨u, o, stp _ st', r⟩
theorem Go.anew (X : Cx wd EL p Z s m meth c own nm code ml ret) {idx : Nat} {z : Int32} {N cap : Nat} (w : (Cond.classLink own idx C).before a0 Z = true) (w2 : (Cond.arrayOver (.object C)).before a0 Z = true) (hz : ¬ z < 0) (hN : z.toNatClampNeg = N) (hcap : N ≤ cap) (hb8 : cap * 8 ≤ 536870912) (D : D1 code pc (.anewarray idx) 3 pc') (hc : k + 1 ≤ R.cells) (hl : n + cap ≤ R.slots)
    (K : ∀ a K', Ovr Z K' C → Go wd EL p l e R Z s m args below meth c Q (ow a (Ar Z (.object C) K' (List.replicate N .null)) :: L) (k + 1) (n + cap) (mkF m pc' Ls (.ref a :: st))) : Go wd EL p l e R Z s m args below meth c Q L k n (mkF m pc Ls (.int z :: st)) := by
  obtain ⟨d, rfl⟩ := D
  intro vm T lc F B I S
  replace X := X.re B
  obtain ⟨T', h', cA, S', e', E', A', O', stp⟩ := newR S X.1 X.2.1 X.2.2.1 w w2 rfl (g := mkF m pc Ls (.int z :: st)) rfl (hb X.2.2.2.1 d) rfl hz (cap := cap) (by omega) hb8 hc hl
  have I' := I.push (P := Ar Z (.object C) cA (List.replicate N .null)) E' (Nat.le_refl _) ⟨_, A'.1, A'.2.1, A'.2.2, rfl, by simp [newA, hN, defaultValue], by simp; omega, fun u hu => by rw [List.eq_of_mem_replicate hu]; rfl⟩
  subst e'
  obtain ⟨u, o, st', r⟩ := K _ cA O' vm T' lc F (B.mono E'.1) I' S'
  exact ⟨u, o, stp _ st', r⟩
theorem inb {cl : Cell} {vs : List Value} {z : Int32} (q : cl.slots = vs.toArray) (hz : ¬ z < 0) (hN : z.toNatClampNeg < vs.length) : ¬ (z < 0 ∨ cl.slots.size ≤ z.toNatClampNeg) := by rw [q]; simp; exact ⟨Int32.not_lt.mp hz, hN⟩
theorem Go.alenA (X : Cx wd EL p Z s m meth c own nm code ml ret) {ty : FieldType} {N : Nat} (hA : ∀ h, Hp Z h L → ∃ cl, Arr Z h a cl ty ∧ cl.slots.size = N) (D : D1 code pc .arraylength 1 pc') (K : Go wd EL p l e R Z s m args below meth c Q L k n (mkF m pc' Ls (.int N.toInt32 :: st))) : Go wd EL p l e R Z s m args below meth c Q L k n (mkF m pc Ls (.ref a :: st)) := by
  obtain ⟨d, rfl⟩ := D
  refine K.to X fun s X T lc H S t r => ?_
  obtain ⟨cl, A, q⟩ := hA _ H
  refine S.arraylength X.1 A.1 (State.isArrayOf_alike X.2.1.alike A.2.1) (g := mkF m pc Ls (.ref a :: st)) rfl rfl (hb X.2.2.2.1 d) _ ?_
  rw [q]; exact r
theorem Hp.len {f : Bool} (H : Hp Z h L) {ty : FieldType} {K : ClassId} (hi : L[i]? = some (a, Ar Z ty K vs, f)) : ∃ cl, Arr Z h a cl ty ∧ cl.slots.size = vs.length := by
  obtain ⟨cl, A, -, q, -⟩ := H.arr hi; exact ⟨cl, A, by rw [q]; simp⟩
theorem Hp.lenM {f : Bool} (H : Hp Z h L) {ty : FieldType} {K : ClassId} (hi : (a, Ar Z ty K vs, f) ∈ L) : ∃ cl, Arr Z h a cl ty ∧ cl.slots.size = vs.length := by
  obtain ⟨cl, A, -, q, -⟩ := H.arrM hi; exact ⟨cl, A, by rw [q]; simp⟩
theorem Hp.el {f : Bool} (H : Hp Z h L) {ty : FieldType} {K : ClassId} (hi : L[i]? = some (a, Ar Z ty K vs, f)) {N : Nat} (hv : vs[N]? = some v) : ∃ cl, Arr Z h a cl ty ∧ cl.slots[N]? = some v := by
  obtain ⟨cl, A, -, q, -⟩ := H.arr hi; exact ⟨cl, A, by rw [q]; simpa using hv⟩
theorem Hp.elM {f : Bool} (H : Hp Z h L) {ty : FieldType} {K : ClassId} (hi : (a, Ar Z ty K vs, f) ∈ L) {N : Nat} (hv : vs[N]? = some v) : ∃ cl, Arr Z h a cl ty ∧ cl.slots[N]? = some v := by
  obtain ⟨cl, A, -, q, -⟩ := H.arrM hi; exact ⟨cl, A, by rw [q]; simpa using hv⟩
theorem inb2 {cl : Cell} {z : Int32} (hz : ¬ z < 0) {v : Value} (hv : cl.slots[z.toNatClampNeg]? = some v) : ¬ (z < 0 ∨ cl.slots.size ≤ z.toNatClampNeg) := fun q => q.elim hz fun q => absurd (Array.getElem?_eq_some_iff.mp hv).1 (Nat.not_lt.mpr q)
theorem Go.iald (X : Cx wd EL p Z s m meth c own nm code ml ret) {z x : Int32} (hz : ¬ z < 0) (hA : ∀ h, Hp Z h L → ∃ cl, Arr Z h a cl .int ∧ cl.slots[z.toNatClampNeg]? = some (.int x)) (D : D1 code pc .iaload 1 pc') (K : Go wd EL p l e R Z s m args below meth c Q L k n (mkF m pc' Ls (.int x :: st))) : Go wd EL p l e R Z s m args below meth c Q L k n (mkF m pc Ls (.int z :: .ref a :: st)) := by
  obtain ⟨d, rfl⟩ := D
  refine K.to X fun s X T lc H S t r => ?_
  obtain ⟨cl, A, hv⟩ := hA _ H
  exact S.iaload X.1 A.1 (State.isArrayOf_alike X.2.1.alike A.2.1) A.2.2 (inb2 hz hv) hv (g := mkF m pc Ls (.int z :: .ref a :: st)) rfl rfl (hb X.2.2.2.1 d) _ r
theorem Go.cald (X : Cx wd EL p Z s m meth c own nm code ml ret) {z x : Int32} (hz : ¬ z < 0) (hA : ∀ h, Hp Z h L → ∃ cl, Arr Z h a cl .char ∧ cl.slots[z.toNatClampNeg]? = some (.int x)) (D : D1 code pc .caload 1 pc') (K : Go wd EL p l e R Z s m args below meth c Q L k n (mkF m pc' Ls (.int x :: st))) : Go wd EL p l e R Z s m args below meth c Q L k n (mkF m pc Ls (.int z :: .ref a :: st)) := by
  obtain ⟨d, rfl⟩ := D
  refine K.to X fun s X T lc H S t r => ?_
  obtain ⟨cl, A, hv⟩ := hA _ H
  exact S.caload X.1 A.1 (State.isArrayOf_alike X.2.1.alike A.2.1) A.2.2 (inb2 hz hv) hv (g := mkF m pc Ls (.int z :: .ref a :: st)) rfl rfl (hb X.2.2.2.1 d) _ r
theorem Go.bald (X : Cx wd EL p Z s m meth c own nm code ml ret) {z x : Int32} (hz : ¬ z < 0) (hA : ∀ h, Hp Z h L → ∃ cl, Arr Z h a cl .byte ∧ cl.slots[z.toNatClampNeg]? = some (.int x)) (D : D1 code pc .baload 1 pc') (K : Go wd EL p l e R Z s m args below meth c Q L k n (mkF m pc' Ls (.int x :: st))) : Go wd EL p l e R Z s m args below meth c Q L k n (mkF m pc Ls (.int z :: .ref a :: st)) := by
  obtain ⟨d, rfl⟩ := D
  refine K.to X fun s X T lc H S t r => ?_
  obtain ⟨cl, A, hv⟩ := hA _ H
  exact S.baloadBytes X.1 A.1 (State.isArrayOf_alike X.2.1.alike A.2.1) A.2.2 (inb2 hz hv) hv (g := mkF m pc Ls (.int z :: .ref a :: st)) rfl rfl (hb X.2.2.2.1 d) _ r
theorem Go.aald (X : Cx wd EL p Z s m meth c own nm code ml ret) {ty : FieldType} {z : Int32} (ht : ty.isReference = true) (hz : ¬ z < 0) (hA : ∀ h, Hp Z h L → ∃ cl, Arr Z h a cl ty ∧ cl.slots[z.toNatClampNeg]? = some v) (D : D1 code pc .aaload 1 pc') (K : Go wd EL p l e R Z s m args below meth c Q L k n (mkF m pc' Ls (v :: st))) : Go wd EL p l e R Z s m args below meth c Q L k n (mkF m pc Ls (.int z :: .ref a :: st)) := by
  obtain ⟨d, rfl⟩ := D
  refine K.to X fun s X T lc H S t r => ?_
  obtain ⟨cl, A, hv⟩ := hA _ H
  exact S.aaload X.1 A.1 (State.isArrayOf_alike X.2.1.alike A.2.1) ht A.2.2 (inb2 hz hv) hv (g := mkF m pc Ls (.int z :: .ref a :: st)) rfl rfl (hb X.2.2.2.1 d) _ r
theorem Go.iast (X : Cx wd EL p Z s m meth c own nm code ml ret) {K' : ClassId} {z x : Int32} (hi : L[i]? = some (ow a (Ar Z .int K' vs))) (hz : ¬ z < 0) (hN : z.toNatClampNeg < vs.length) (D : D1 code pc .iastore 1 pc') (K : Go wd EL p l e R Z s m args below meth c Q (updL L i (ow a (Ar Z .int K' (updL vs z.toNatClampNeg (.int x))))) k n (mkF m pc' Ls st)) : Go wd EL p l e R Z s m args below meth c Q L k n (mkF m pc Ls (.int x :: .int z :: .ref a :: st)) := by
  obtain ⟨d, rfl⟩ := D
  intro vm T lc F B I S
  replace X := X.re B
  obtain ⟨cl, A, -, q, -, -⟩ := I.1.arr hi
  obtain ⟨T', h', S', e', W, stp⟩ := stI S X.1 X.2.1 rfl A (inb q hz hN) (g := mkF m pc Ls (.int x :: .int z :: .ref a :: st)) rfl rfl (hb X.2.2.2.1 d)
  have I' := I.wr hi W fun c A _ _ => Ar.put A rfl
  subst e'
  obtain ⟨u, o, st', r⟩ := K vm T' _ (F.app fun y hy => by cases List.mem_singleton.mp hy; exact I.1.ge hi) (B.mono (Nat.le_of_eq W.size.symm)) I' S'
  exact ⟨u, o, stp _ st', r⟩
theorem Go.cast' (X : Cx wd EL p Z s m meth c own nm code ml ret) {K' : ClassId} {z x y : Int32} (hi : L[i]? = some (ow a (Ar Z .char K' vs))) (hz : ¬ z < 0) (hN : z.toNatClampNeg < vs.length) (hx : x.toUInt32.toUInt16.toUInt32.toInt32 = y) (D : D1 code pc .castore 1 pc') (K : Go wd EL p l e R Z s m args below meth c Q (updL L i (ow a (Ar Z .char K' (updL vs z.toNatClampNeg (.int y))))) k n (mkF m pc' Ls st)) : Go wd EL p l e R Z s m args below meth c Q L k n (mkF m pc Ls (.int x :: .int z :: .ref a :: st)) := by
  obtain ⟨d, rfl⟩ := D; subst hx
  intro vm T lc F B I S
  replace X := X.re B
  obtain ⟨cl, A, -, q, -, -⟩ := I.1.arr hi
  obtain ⟨T', h', S', e', W, stp⟩ := stC S X.1 X.2.1 rfl A (inb q hz hN) (g := mkF m pc Ls (.int x :: .int z :: .ref a :: st)) rfl rfl (hb X.2.2.2.1 d)
  have I' := I.wr hi W fun c A _ _ => Ar.put A (fits_nar_char x)
  subst e'
  obtain ⟨u, o, st', r⟩ := K vm T' _ (F.app fun y hy => by cases List.mem_singleton.mp hy; exact I.1.ge hi) (B.mono (Nat.le_of_eq W.size.symm)) I' S'
  exact ⟨u, o, stp _ st', r⟩
theorem Go.bast (X : Cx wd EL p Z s m meth c own nm code ml ret) {K' : ClassId} {z x y : Int32} (hi : L[i]? = some (ow a (Ar Z .byte K' vs))) (hz : ¬ z < 0) (hN : z.toNatClampNeg < vs.length) (hx : x.toInt8.toInt32 = y) (D : D1 code pc .bastore 1 pc') (K : Go wd EL p l e R Z s m args below meth c Q (updL L i (ow a (Ar Z .byte K' (updL vs z.toNatClampNeg (.int y))))) k n (mkF m pc' Ls st)) : Go wd EL p l e R Z s m args below meth c Q L k n (mkF m pc Ls (.int x :: .int z :: .ref a :: st)) := by
  obtain ⟨d, rfl⟩ := D; subst hx
  intro vm T lc F B I S
  replace X := X.re B
  obtain ⟨cl, A, -, q, -, -⟩ := I.1.arr hi
  obtain ⟨T', h', S', e', W, stp⟩ := stB S X.1 X.2.1 rfl A (inb q hz hN) (g := mkF m pc Ls (.int x :: .int z :: .ref a :: st)) rfl rfl (hb X.2.2.2.1 d)
  have I' := I.wr hi W fun c A _ _ => Ar.put A (fits_nar_byte x)
  subst e'
  obtain ⟨u, o, st', r⟩ := K vm T' _ (F.app fun y hy => by cases List.mem_singleton.mp hy; exact I.1.ge hi) (B.mono (Nat.le_of_eq W.size.symm)) I' S'
  exact ⟨u, o, stp _ st', r⟩
theorem Go.aast (X : Cx wd EL p Z s m meth c own nm code ml ret) {K' : ClassId} {t : String} {z : Int32} (hi : L[i]? = some (ow a (Ar Z (.object t) K' vs))) (hz : ¬ z < 0) (hN : z.toNatClampNeg < vs.length) (hs : ∀ h, Hp Z h L → Sto Z h a v) (hf : fits (.object t) v = true) (D : D1 code pc .aastore 1 pc') (K : Go wd EL p l e R Z s m args below meth c Q (updL L i (ow a (Ar Z (.object t) K' (updL vs z.toNatClampNeg v)))) k n (mkF m pc' Ls st)) : Go wd EL p l e R Z s m args below meth c Q L k n (mkF m pc Ls (v :: .int z :: .ref a :: st)) := by
  obtain ⟨d, rfl⟩ := D
  intro vm T lc F B I S
  replace X := X.re B
  obtain ⟨cl, A, -, q, -, -⟩ := I.1.arr hi
  obtain ⟨T', h', S', e', W, stp⟩ := stR S X.1 X.2.1 rfl A (inb q hz hN) rfl (hs _ I.1) (g := mkF m pc Ls (v :: .int z :: .ref a :: st)) rfl rfl (hb X.2.2.2.1 d)
  have I' := I.wr (P' := Ar Z (.object t) K' (updL vs z.toNatClampNeg v)) hi W fun c A _ _ => Ar.put A hf
  subst e'
  obtain ⟨u, o, st', r⟩ := K vm T' _ (F.app fun y hy => by cases List.mem_singleton.mp hy; exact I.1.ge hi) (B.mono (Nat.le_of_eq W.size.symm)) I' S'
  exact ⟨u, o, stp _ st', r⟩
theorem Hp.sto {f : Bool} (H : Hp Z h L) {K' : ClassId} {ty : FieldType} (hi : L[i]? = some (a, Ar Z ty K' vs, f)) (O : Ovr Z K' C) (I : Ins Z h b C true) : Sto Z h a (.ref b) := by
  obtain ⟨cl, A, q, -⟩ := H.arr hi
  exact Sto.of A (q ▸ O) I
theorem Go.ccast (X : Cx wd EL p Z s m meth c own nm code ml ret) {idx : Nat} (w : (Cond.classLink own idx C).before a0 Z = true) (hI : ∀ h, Hp Z h L → Ins Z h a C true) (D : D1 code pc (.checkcast idx) 3 pc') (K : Go wd EL p l e R Z s m args below meth c Q L k n (mkF m pc' Ls (.ref a :: st))) : Go wd EL p l e R Z s m args below meth c Q L k n (mkF m pc Ls (.ref a :: st)) := by
  obtain ⟨d, rfl⟩ := D
  intro vm T lc F B I S
  replace X := X.re B
  obtain ⟨T', S', e', stp⟩ := castY S X.1 X.2.1 X.2.2.1 w rfl (hI _ I.1) (g := mkF m pc Ls (.ref a :: st)) rfl rfl (hb X.2.2.2.1 d)
  rw [← e'] at I B
  obtain ⟨u, o, st', r⟩ := K vm T' lc F B I S'
  exact ⟨u, o, stp _ st', r⟩
theorem Go.inst1 (X : Cx wd EL p Z s m meth c own nm code ml ret) {idx : Nat} (w : (Cond.classLink own idx C).before a0 Z = true) (hI : ∀ h, Hp Z h L → Ins Z h a C true) (D : D1 code pc (.instanceof idx) 3 pc') (K : Go wd EL p l e R Z s m args below meth c Q L k n (mkF m pc' Ls (.int 1 :: st))) : Go wd EL p l e R Z s m args below meth c Q L k n (mkF m pc Ls (.ref a :: st)) := by
  obtain ⟨d, rfl⟩ := D
  intro vm T lc F B I S
  replace X := X.re B
  obtain ⟨T', S', e', stp⟩ := instY S X.1 X.2.1 X.2.2.1 w rfl (hI _ I.1) (g := mkF m pc Ls (.ref a :: st)) rfl rfl (hb X.2.2.2.1 d)
  rw [← e'] at I B
  obtain ⟨u, o, st', r⟩ := K vm T' lc F B I S'
  exact ⟨u, o, stp _ st', r⟩
/-! ### calls -/
theorem mroom (m : MethodId) (pc : Nat) (Ls : Array Slot) (st : List Value) : (mkF m pc Ls st).monitorRoom = 0 := rfl
theorem Kv {rest : List Value} {k' n' : Nat} {Qv : Value → List Ent → Prop} (K : ∀ v L, Qv v L → Go wd EL p l e R Z s m args below meth c Q L k' n' (mkF m pc' Ls (v :: rest))) : ∀ o L, rvQ Qv o L → Go wd EL p l e R Z s m args below meth c Q L k' n' (mkF m pc' Ls (o.toList ++ rest)) := by
  rintro _ L ⟨v, rfl, q⟩; exact K v L q
theorem K0 {rest : List Value} {k' n' : Nat} {Q0 : List Ent → Prop} (K : ∀ L, Q0 L → Go wd EL p l e R Z s m args below meth c Q L k' n' (mkF m pc' Ls rest)) : ∀ o L, r0Q Q0 o L → Go wd EL p l e R Z s m args below meth c Q L k' n' (mkF m pc' Ls (o.toList ++ rest)) := by
  rintro _ L ⟨rfl, q⟩; exact K L q
variable {y : MethodName} {code' : ByteArray} {ml' : Nat} {ret' : Option FieldType} {rm : Room} {argsL rest : List Value} {Q' : Option Value → List Ent → Prop}
/-- a contract as the library's call laws ask it: no interning since the walk's last base -/
theorem backN {as : Array Value} {len W : Nat} {sargs : Array Value} (hM : Ct false EL l Z y code' ml' ret' rm as L Q') (hZ : Z.Warmed39 s.vm) (wc : (Cond.code y code' ml' ret').before a0 Z = true) (wz : (Cond.initialized y.cls).before a0 Z = true) (hf : rm.frames + 1 ≤ R.frames) (hl : W + (ml' + 11) + rm.locals ≤ R.locals) :
    Back l R p e below s sargs y len W (fun A a => a = as ∧ Hp Z A.U.heap L ∧ A.cells + rm.cells ≤ R.cells ∧ A.slots + rm.slots ≤ R.slots)
      (fun A _ v B => ∃ L' lc, Q' v L' ∧ Iv false Z EL B.U.vm B.U.heap L' ∧ Fr Z.heap.size lc ∧ B.locs = A.locs ++ lc ∧ B.cells = A.cells + rm.cells ∧ B.slots = A.slots + rm.slots) :=
  Back.of_free (bytes := code') (maxL := ml') (ret := ret') (E := fun _ _ o t lc k n => k = rm.cells ∧ n = rm.slots ∧ ∃ v L', o = .returned v ∧ Q' v L' ∧ Iv false Z EL t.vm t.heap L' ∧ Fr Z.heap.size lc) (hM []) hf hl
    (fun m meth c A a Y hp => have hU : Z.Warmed39 A.U.vm := wtrans hZ Y.warmed
      ⟨by show (Cond.and _ .tt).before a A.U = true; rw [Cond.before_and, mv hU wc]; rfl, mv hU wc, mv hU wz, hp.2.2.1, hp.2.2.2⟩)
    (fun m meth c A a g mk Y hp => ⟨hp.1, wtrans hZ Y.warmed, hp.2.1, fun q => nomatch q⟩) (fun _ _ _ _ _ _ _ _ _ => trivial)
    (fun _ _ _ _ ⟨v, L', lc, h1, h2, h3, h4, h5⟩ => ⟨lc, _, _, h5, rfl, rfl, v, L', h1, h2, h3, h4⟩)
    (fun m meth c A a g mk v t lc k n Y hp _ _ ⟨e1, e2, v', L', e3, e4, e5, e6⟩ => by cases e3; subst e1 e2; exact ⟨L', lc, e4, e5, e6, rfl, rfl, rfl⟩)
/-- .. and where it may intern -/
theorem backW {as : Array Value} {len W : Nat} {sargs : Array Value} (hM : Ct true EL l Z y code' ml' ret' rm as L Q') (hZ : Z.Warmed39 vm) (wc : (Cond.code y code' ml' ret').before a0 Z = true) (wz : (Cond.initialized y.cls).before a0 Z = true) (hf : rm.frames + 1 ≤ R.frames) (hl : W + (ml' + 11) + rm.locals ≤ R.locals) {a1 : Array Value} (hEL : EW Z a1 EL) (H : Iv true Z EL vm h L) :
    BackS l R p e below (s.setVm vm) sargs y len W (fun A a => a = as ∧ A.U.heap = h ∧ A.cells + rm.cells ≤ R.cells ∧ A.slots + rm.slots ≤ R.slots)
      (fun A _ v B => ∃ L' lc, Q' v L' ∧ Iv true Z EL B.U.vm B.U.heap L' ∧ Fr Z.heap.size lc ∧ B.locs = A.locs ++ lc ∧ B.cells = A.cells + rm.cells ∧ B.slots = A.slots + rm.slots) :=
  BackS.of_freeW (bytes := code') (maxL := ml') (ret := ret') (E := fun _ _ o t lc k n => k = rm.cells ∧ n = rm.slots ∧ ∃ v L', o = .returned v ∧ Q' v L' ∧ Iv true Z EL t.vm t.heap L' ∧ Fr Z.heap.size lc) (hM []) hf hl
    (fun m meth c A a Y hp => have hU : Z.Warmed39 A.U.vm := wtrans (s := s.setVm vm) hZ Y.warmed
      ⟨by show (Cond.and _ .tt).before a A.U = true; rw [Cond.before_and, mv hU wc]; rfl, mv hU wc, mv hU wz, hp.2.2.1, hp.2.2.2⟩)
    (fun m meth c A a g mk Y hp => ⟨hp.1, wtrans (s := s.setVm vm) hZ Y.warmed, by
      have r := CHv.at Y hZ hEL (H.2 rfl).1
      have q : A.U.heap = h := hp.2.1
      show Iv true Z EL A.U.vm A.U.heap L
      rw [q]
      refine ⟨H.1, fun _ => ⟨r.1, fun x hx hf => r.safe ?_ ((H.2 rfl).2 x hx hf)⟩⟩
      obtain ⟨-, cc, h1, -⟩ := H.1.2.1 x hx
      exact (Array.getElem?_eq_some_iff.mp h1).1⟩) (fun _ _ _ _ _ _ _ _ _ => trivial)
    (fun _ _ _ _ ⟨v, L', lc, h1, h2, h3, h4, h5⟩ => ⟨lc, _, _, h5, rfl, rfl, v, L', h1, h2, h3, h4⟩)
    (fun m meth c A a g mk v t lc k n Y hp _ _ ⟨e1, e2, v', L', e3, e4, e5, e6⟩ => by cases e3; subst e1 e2; exact ⟨L', lc, e4, e5, e6, rfl, rfl, rfl⟩)
theorem Go.byN {g : JFrame} (X : Cx false EL p Z s m meth c own nm code ml ret)
    (f : ∀ s, Cx false EL p Z s m meth c own nm code ml ret → ∀ T lc, Hp Z T.heap L → Stand p l e R s m args below meth c T lc k n → ∃ (v : Option Value) (vm : Vm) (B : Pt), s.WarmedH vm ∧ Stand p l e R s m args below meth c B.U B.locs B.cells B.slots ∧ (∃ L' lc', Q' v L' ∧ Iv false Z EL B.U.vm B.U.heap L' ∧ Fr Z.heap.size lc' ∧ B.locs = lc ++ lc' ∧ B.cells = k + rm.cells ∧ B.slots = n + rm.slots) ∧ Steps p.tables e below (T.setTop g) (B.U.setTop (mkF m pc' Ls (v.toList ++ rest))))
    (hgrow : ∀ T : State, True) (K : ∀ o L, Q' o L → Go false EL p l e R Z s m args below meth c Q L (k + rm.cells) (n + rm.slots) (mkF m pc' Ls (o.toList ++ rest))) : Go false EL p l e R Z s m args below meth c Q L k n g := by
  intro vm T lc F B I S
  obtain ⟨v, vm', ⟨T', L2, k2, n2⟩, -, S', ⟨L3, lc3, hQ, I3, F3, e1, e2, e3⟩, stp⟩ := f _ (X.re B) T lc I.1 S
  dsimp only [Pt.U, Pt.locs, Pt.cells, Pt.slots] at S' e1 e2 e3 stp I3
  subst e1 e2 e3
  obtain ⟨u, o, st', r⟩ := K v L3 hQ vm T' _ (F.app F3) B ⟨I3.1, fun q => nomatch q⟩ S'
  exact ⟨u, o, stp.trans st', r⟩
theorem Go.byW {g : JFrame} (X : Cx true EL p Z s m meth c own nm code ml ret)
    (f : ∀ vm, Cx true EL p Z (s.setVm vm) m meth c own nm code ml ret → ∀ T lc, Iv true Z EL vm T.heap L → Stand p l e R (s.setVm vm) m args below meth c T lc k n → ∃ (v : Option Value) (vm1 : Vm) (B : Pt), (s.setVm vm).WarmedH vm1 ∧ Stand p l e R ((s.setVm vm).setVm B.U.vm) m args below meth c B.U B.locs B.cells B.slots ∧ (s.setVm vm).Since B.U.vm B.U.heap.size ∧ T.heap.size ≤ B.U.heap.size ∧ (∃ L' lc', Q' v L' ∧ Iv true Z EL B.U.vm B.U.heap L' ∧ Fr Z.heap.size lc' ∧ B.locs = lc ++ lc' ∧ B.cells = k + rm.cells ∧ B.slots = n + rm.slots) ∧ Steps p.tables e below (T.setTop g) (B.U.setTop (mkF m pc' Ls (v.toList ++ rest))))
    (K : ∀ o L, Q' o L → Go true EL p l e R Z s m args below meth c Q L (k + rm.cells) (n + rm.slots) (mkF m pc' Ls (o.toList ++ rest))) : Go true EL p l e R Z s m args below meth c Q L k n g := by
  intro vm T lc F B I S
  obtain ⟨v, vm', ⟨T', L2, k2, n2⟩, -, S', hS, hsz, ⟨L3, lc3, hQ, I3, F3, e1, e2, e3⟩, stp⟩ := f _ (X.re B) T lc I S
  dsimp only [Pt.U, Pt.locs, Pt.cells, Pt.slots] at S' e1 e2 e3 stp hS hsz I3
  subst e1 e2 e3
  have B' : s.Since vm T.heap.size := B
  obtain ⟨u, o, st', r⟩ := K v L3 hQ T'.vm T' _ (F.app F3) (B'.trans hS hsz) I3 S'
  exact ⟨u, o, stp.trans st', r⟩
theorem Go.callS (X : Cx wd EL p Z s m meth c own nm code ml ret) (B : Ct wd EL l Z y code' ml' ret' rm argsL.toArray L Q')
    {idx : Nat} (w1 : (Cond.methodLink own idx y).before a0 Z = true) (w2 : (Cond.static y).before a0 Z = true) (w3 : (Cond.initialized y.cls).before a0 Z = true) (w4 : (Cond.code y code' ml' ret').before a0 Z = true) (hy : y.cls ≠ "java/lang/invoke/MethodHandle" ∧ y.cls ≠ "java/lang/invoke/VarHandle")
    {ps : List FieldType} {rt : Option FieldType} (pd : parseMethodDescriptor y.desc = some ⟨ps, rt⟩) (hl : argsL.length = ps.length) (hs : st = argsL.reverse ++ rest) (D : D1 code pc (.invokestatic idx) 3 pc') (hm : Ls.size = ml)
    (hf : rm.frames + 1 ≤ R.frames) (hlo : (rest.map fun v => v.category).sum + (ml' + 11) + rm.locals ≤ R.locals) (hk : k + rm.cells ≤ R.cells) (hn : n + rm.slots ≤ R.slots)
    (K : ∀ o L, Q' o L → Go wd EL p l e R Z s m args below meth c Q L (k + rm.cells) (n + rm.slots) (mkF m pc' Ls (o.toList ++ rest))) : Go wd EL p l e R Z s m args below meth c Q L k n (mkF m pc Ls st) := by
  obtain ⟨d, rfl⟩ := D
  subst hs
  cases wd
  · refine Go.byN X (fun s X T lc H S => ?_) (fun _ => trivial) K
    obtain ⟨v, vm, B, b1, b2, b3, b4⟩ := Jvm.LawKit.callS S X.1 X.2.2.1 (mvT X.2.1 w1) (mvT X.2.1 w2) (mvT X.2.1 w3) (mvT X.2.1 w4) hy (backN (W := (rest.map fun v => v.category).sum) B X.2.1 w4 w3 hf hlo) (g := mkF m pc Ls (argsL.reverse ++ rest)) rfl (by rw [X.2.2.2.2.1]; exact hm) (argsL := argsL) (rest := rest) (lenOf pd hl) rfl (by rw [mroom]; omega) (hb X.2.2.2.1 d) (fun _ _ => ⟨rfl, H, hk, hn⟩)
    exact ⟨v, vm, B, b1, b2, b3, b4 _ (Steps.refl _)⟩
  · refine Go.byW X (fun vm X T lc I S => ?_) K
    obtain ⟨a1, hE⟩ := X.2.2.2.2.2.2.2.2 rfl
    have H := I.1
    exact callSS S X.1 X.2.2.1 (mvT X.2.1 w1) (mvT X.2.1 w2) (mvT X.2.1 w3) (mvT X.2.1 w4) hy (backW (W := (rest.map fun v => v.category).sum) B X.2.1 w4 w3 hf hlo hE I) (g := mkF m pc Ls (argsL.reverse ++ rest)) rfl (by rw [X.2.2.2.2.1]; exact hm) (argsL := argsL) (rest := rest) (lenOf pd hl) rfl (by rw [mroom]; omega) (hb X.2.2.2.1 d) (fun _ _ => ⟨rfl, rfl, hk, hn⟩)
theorem Go.callI (X : Cx wd EL p Z s m meth c own nm code ml ret) (B : Ct wd EL l Z y code' ml' none rm (Value.ref a :: argsL).toArray L Q') (hy1 : y.name = "<init>")
    {idx : Nat} (w1 : (Cond.methodLink own idx y).before a0 Z = true) (w2 : (Cond.instanceMethod y).before a0 Z = true) (w3 : (Cond.initialized y.cls).before a0 Z = true) (w4 : (Cond.code y code' ml' none).before a0 Z = true) (hy : y.cls ≠ "java/lang/invoke/MethodHandle" ∧ y.cls ≠ "java/lang/invoke/VarHandle")
    {ps : List FieldType} {rt : Option FieldType} (pd : parseMethodDescriptor y.desc = some ⟨ps, rt⟩) (hl : argsL.length = ps.length) (hs : st = argsL.reverse ++ .ref a :: rest) (D : D1 code pc (.invokespecial idx) 3 pc') (hm : Ls.size = ml)
    (hf : rm.frames + 1 ≤ R.frames) (hlo : (rest.map fun v => v.category).sum + (ml' + 11) + rm.locals ≤ R.locals) (hk : k + rm.cells ≤ R.cells) (hn : n + rm.slots ≤ R.slots)
    (K : ∀ o L, Q' o L → Go wd EL p l e R Z s m args below meth c Q L (k + rm.cells) (n + rm.slots) (mkF m pc' Ls (o.toList ++ rest))) : Go wd EL p l e R Z s m args below meth c Q L k n (mkF m pc Ls st) := by
  obtain ⟨d, rfl⟩ := D
  subst hs
  cases wd
  · refine Go.byN X (fun s X T lc H S => ?_) (fun _ => trivial) K
    exact S.specialBack X.1 hy1 X.2.2.1 (mvT X.2.1 w1) (mvT X.2.1 w2) (mvT X.2.1 w4) hy (backN (W := (rest.map fun v => v.category).sum) B X.2.1 w4 w3 hf hlo) (g := mkF m pc Ls (argsL.reverse ++ .ref a :: rest)) rfl (by rw [X.2.2.2.2.1]; exact hm) (Steps.refl _) (a := a) (argsL := argsL) (rest := rest) (lenOf pd hl) rfl (by rw [mroom]; omega) (hb X.2.2.2.1 d) (fun _ _ => ⟨rfl, H, hk, hn⟩)
  · refine Go.byW X (fun vm X T lc I S => ?_) K
    obtain ⟨a1, hE⟩ := X.2.2.2.2.2.2.2.2 rfl
    have H := I.1
    exact S.specialBackS X.1 hy1 X.2.2.1 (mvT X.2.1 w1) (mvT X.2.1 w2) (mvT X.2.1 w4) hy (backW (W := (rest.map fun v => v.category).sum) B X.2.1 w4 w3 hf hlo hE I) (g := mkF m pc Ls (argsL.reverse ++ .ref a :: rest)) rfl (by rw [X.2.2.2.2.1]; exact hm) (Steps.refl _) (a := a) (argsL := argsL) (rest := rest) (lenOf pd hl) rfl (by rw [mroom]; omega) (hb X.2.2.2.1 d) (fun _ _ => ⟨rfl, rfl, hk, hn⟩)
theorem Go.callV (X : Cx wd EL p Z s m meth c own nm code ml ret) {z : MethodName} (E : ∀ h, Hp Z h L → Exa Z h a C) (B : Ct wd EL l Z z code' ml' ret' rm (Value.ref a :: argsL).toArray L Q')
    {idx : Nat} (w1 : (Cond.methodLink own idx y).before a0 Z = true) (wdc : (Cond.declares y).before a0 Z = true) (hnf : ∀ s : State, Z.Warmed39 s.vm → NotFace s y) (ws : (Cond.selects C y z).before a0 Z = true) (w2 : (Cond.instanceMethod z).before a0 Z = true) (w3 : (Cond.initialized z.cls).before a0 Z = true) (w4 : (Cond.code z code' ml' ret').before a0 Z = true) (hy : y.cls ≠ "java/lang/invoke/MethodHandle" ∧ y.cls ≠ "java/lang/invoke/VarHandle")
    {ps : List FieldType} {rt : Option FieldType} (pd : parseMethodDescriptor y.desc = some ⟨ps, rt⟩) (hl : argsL.length = ps.length) (hs : st = argsL.reverse ++ .ref a :: rest) (D : D1 code pc (.invokevirtual idx) 3 pc') (hm : Ls.size = ml)
    (hf : rm.frames + 1 ≤ R.frames) (hlo : (rest.map fun v => v.category).sum + (ml' + 11) + rm.locals ≤ R.locals) (hk : k + rm.cells ≤ R.cells) (hn : n + rm.slots ≤ R.slots)
    (K : ∀ o L, Q' o L → Go wd EL p l e R Z s m args below meth c Q L (k + rm.cells) (n + rm.slots) (mkF m pc' Ls (o.toList ++ rest))) : Go wd EL p l e R Z s m args below meth c Q L k n (mkF m pc Ls st) := by
  obtain ⟨d, rfl⟩ := D
  subst hs
  cases wd
  · refine Go.byN X (fun s X T lc H S => ?_) (fun _ => trivial) K
    obtain ⟨cq, kq, qa, qb, qc⟩ := isOf (T := T) X.2.1 rfl (E _ H)
    exact S.virtualBack X.1 X.2.2.1 (mvT X.2.1 w1) (mvT X.2.1 wdc) (hnf _ X.2.1) (mvT X.2.1 ws) (mvT X.2.1 w2) hy (backN (W := (rest.map fun v => v.category).sum) B X.2.1 w4 w3 hf hlo) qa qc (g := mkF m pc Ls (argsL.reverse ++ .ref a :: rest)) rfl (by rw [X.2.2.2.2.1]; exact hm) (Steps.refl _) (argsL := argsL) (rest := rest) (lenOf pd hl) rfl (by rw [mroom]; omega) (hb X.2.2.2.1 d) (fun _ _ => ⟨rfl, H, hk, hn⟩)
  · refine Go.byW X (fun vm X T lc I S => ?_) K
    obtain ⟨a1, hE⟩ := X.2.2.2.2.2.2.2.2 rfl
    have H := I.1
    obtain ⟨cq, kq, qa, qb, qc⟩ := isOf (T := T) X.2.1 rfl (E _ H)
    exact S.virtualBackS X.1 X.2.2.1 (mvT X.2.1 w1) (mvT X.2.1 wdc) (hnf _ X.2.1) (mvT X.2.1 ws) (mvT X.2.1 w2) hy (backW (W := (rest.map fun v => v.category).sum) B X.2.1 w4 w3 hf hlo hE I) qa qc (g := mkF m pc Ls (argsL.reverse ++ .ref a :: rest)) rfl (by rw [X.2.2.2.2.1]; exact hm) (Steps.refl _) (argsL := argsL) (rest := rest) (lenOf pd hl) rfl (by rw [mroom]; omega) (hb X.2.2.2.1 d) (fun _ _ => ⟨rfl, rfl, hk, hn⟩)
theorem nfS (ws : (Cond.selects C y y).before a0 Z = true) : ∀ s : State, Z.Warmed39 s.vm → NotFace s y := fun s q => notFace_of_selects (args := #[]) (mvT q ws)
theorem nfT (ws : (Cond.noSuperclass y.cls).before a0 Z = true) : ∀ s : State, Z.Warmed39 s.vm → NotFace s y := fun s q => nf_top (args := #[]) (mvT q ws)
theorem nfU {S : String} (ws : (Cond.superclass y.cls S).before a0 Z = true) : ∀ s : State, Z.Warmed39 s.vm → NotFace s y := fun s q => nf_super (args := #[]) (mvT q ws)
theorem Go.callP (X : Cx wd EL p Z s m meth c own nm code ml ret) (E : ∀ h, Hp Z h L → Exa Z h a C) (B : Ct wd EL l Z y code' ml' ret' rm (Value.ref a :: argsL).toArray L Q')
    {idx : Nat} (w1 : (Cond.methodLink own idx y).before a0 Z = true) (w2 : (Cond.instanceMethod y).before a0 Z = true) (ws : (Cond.selects y.cls y y).before a0 Z = true) (wp : (Cond.privateMethod y).before a0 Z = true) (w3 : (Cond.initialized y.cls).before a0 Z = true) (w4 : (Cond.code y code' ml' ret').before a0 Z = true) (hy : y.cls ≠ "java/lang/invoke/MethodHandle" ∧ y.cls ≠ "java/lang/invoke/VarHandle")
    {ps : List FieldType} {rt : Option FieldType} (pd : parseMethodDescriptor y.desc = some ⟨ps, rt⟩) (hl : argsL.length = ps.length) (hs : st = argsL.reverse ++ .ref a :: rest) (D : D1 code pc (.invokevirtual idx) 3 pc') (hm : Ls.size = ml)
    (hf : rm.frames + 1 ≤ R.frames) (hlo : (rest.map fun v => v.category).sum + (ml' + 11) + rm.locals ≤ R.locals) (hk : k + rm.cells ≤ R.cells) (hn : n + rm.slots ≤ R.slots)
    (K : ∀ o L, Q' o L → Go wd EL p l e R Z s m args below meth c Q L (k + rm.cells) (n + rm.slots) (mkF m pc' Ls (o.toList ++ rest))) : Go wd EL p l e R Z s m args below meth c Q L k n (mkF m pc Ls st) := by
  obtain ⟨d, rfl⟩ := D
  subst hs
  cases wd
  · refine Go.byN X (fun s X T lc H S => ?_) (fun _ => trivial) K
    obtain ⟨cq, q1, q2⟩ := (E _ H).cell
    exact S.privateBack X.1 X.2.2.1 (mvT X.2.1 w1) (mvT X.2.1 w2) (mvT X.2.1 ws) (Cond.privateMethod_at (mvP X.2.1 wp (args := #[]))) (mvT X.2.1 w4) hy (backN (W := (rest.map fun v => v.category).sum) B X.2.1 w4 w3 hf hlo) (g := mkF m pc Ls (argsL.reverse ++ .ref a :: rest)) rfl (by rw [X.2.2.2.2.1]; exact hm) (Steps.refl _) (a := a) q1 q2 (argsL := argsL) (rest := rest) (lenOf pd hl) rfl (by rw [mroom]; omega) (hb X.2.2.2.1 d) (fun _ _ => ⟨rfl, H, hk, hn⟩)
  · refine Go.byW X (fun vm X T lc I S => ?_) K
    obtain ⟨a1, hE⟩ := X.2.2.2.2.2.2.2.2 rfl
    have H := I.1
    obtain ⟨cq, q1, q2⟩ := (E _ H).cell
    exact S.privateBackS X.1 X.2.2.1 (mvT X.2.1 w1) (mvT X.2.1 w2) (mvT X.2.1 ws) (Cond.privateMethod_at (mvP X.2.1 wp (args := #[]))) (mvT X.2.1 w4) hy (backW (W := (rest.map fun v => v.category).sum) B X.2.1 w4 w3 hf hlo hE I) (g := mkF m pc Ls (argsL.reverse ++ .ref a :: rest)) rfl (by rw [X.2.2.2.2.1]; exact hm) (Steps.refl _) (a := a) q1 q2 (argsL := argsL) (rest := rest) (lenOf pd hl) rfl (by rw [mroom]; omega) (hb X.2.2.2.1 d) (fun _ _ => ⟨rfl, rfl, hk, hn⟩)
theorem Go.callN (X : Cx wd EL p Z s m meth c own nm code ml ret) {xi : MethodName} (E : ∀ h, Hp Z h L → Exa Z h a C) (B : Ct wd EL l Z y code' ml' ret' rm (Value.ref a :: argsL).toArray L Q')
    {idx cnt : Nat} (w1 : (Cond.methodLink own idx xi).before a0 Z = true) (wdc : (Cond.declares xi).before a0 Z = true) (hfa : (Cond.interfaceMethod xi.cls xi.cls xi.name xi.desc).faceAtom = true) (wf : (Cond.interfaceMethod xi.cls xi.cls xi.name xi.desc).before a0 Z = true) (ws : (Cond.selects C xi y).before a0 Z = true) (w2 : (Cond.instanceMethod y).before a0 Z = true) (wp : (Cond.publicMethod y).before a0 Z = true) (wu : (Cond.unhidden C xi.name xi.desc).before a0 Z = true) (wc : (Cond.castable C xi.cls).before a0 Z = true) (w3 : (Cond.initialized y.cls).before a0 Z = true) (w4 : (Cond.code y code' ml' ret').before a0 Z = true) (hy : xi.cls ≠ "java/lang/invoke/MethodHandle" ∧ xi.cls ≠ "java/lang/invoke/VarHandle")
    {ps : List FieldType} {rt : Option FieldType} (pd : parseMethodDescriptor xi.desc = some ⟨ps, rt⟩) (hl : argsL.length = ps.length) (hs : st = argsL.reverse ++ .ref a :: rest) (D : D1 code pc (.invokeinterface idx cnt) 5 pc') (hm : Ls.size = ml)
    (hf : rm.frames + 1 ≤ R.frames) (hlo : (rest.map fun v => v.category).sum + (ml' + 11) + rm.locals ≤ R.locals) (hk : k + rm.cells ≤ R.cells) (hn : n + rm.slots ≤ R.slots)
    (K : ∀ o L, Q' o L → Go wd EL p l e R Z s m args below meth c Q L (k + rm.cells) (n + rm.slots) (mkF m pc' Ls (o.toList ++ rest))) : Go wd EL p l e R Z s m args below meth c Q L k n (mkF m pc Ls st) := by
  obtain ⟨d, rfl⟩ := D
  subst hs
  cases wd
  · refine Go.byN X (fun s X T lc H S => ?_) (fun _ => trivial) K
    obtain ⟨cq, kq, qa, qb, qc⟩ := isOf (T := T) X.2.1 rfl (E _ H)
    exact S.interfaceBack X.1 X.2.2.1 (mvT X.2.1 w1) (mvT X.2.1 wdc) (mvT X.2.1 wf (by simp [Cond.onTables, Cond.keepsFace, Cond.keeps, Cond.steady, hfa])) (mvT X.2.1 ws) (mvT X.2.1 w2) (mvT X.2.1 wp) (mvT X.2.1 wu) (mvT X.2.1 wc) hy (backN (W := (rest.map fun v => v.category).sum) B X.2.1 w4 w3 hf hlo) qa qb qc (g := mkF m pc Ls (argsL.reverse ++ .ref a :: rest)) rfl (by rw [X.2.2.2.2.1]; exact hm) (Steps.refl _) (argsL := argsL) (rest := rest) (lenOf pd hl) rfl (by rw [mroom]; omega) (hb X.2.2.2.1 d) (fun _ _ => ⟨rfl, H, hk, hn⟩)
  · refine Go.byW X (fun vm X T lc I S => ?_) K
    obtain ⟨a1, hE⟩ := X.2.2.2.2.2.2.2.2 rfl
    have H := I.1
    obtain ⟨cq, kq, qa, qb, qc⟩ := isOf (T := T) X.2.1 rfl (E _ H)
    exact S.interfaceBackS X.1 X.2.2.1 (mvT X.2.1 w1) (mvT X.2.1 wdc) (mvT X.2.1 wf (by simp [Cond.onTables, Cond.keepsFace, Cond.keeps, Cond.steady, hfa])) (mvT X.2.1 ws) (mvT X.2.1 w2) (mvT X.2.1 wp) (mvT X.2.1 wu) (mvT X.2.1 wc) hy (backW (W := (rest.map fun v => v.category).sum) B X.2.1 w4 w3 hf hlo hE I) qa qb qc (g := mkF m pc Ls (argsL.reverse ++ .ref a :: rest)) rfl (by rw [X.2.2.2.2.1]; exact hm) (Steps.refl _) (argsL := argsL) (rest := rest) (lenOf pd hl) rfl (by rw [mroom]; omega) (hb X.2.2.2.1 d) (fun _ _ => ⟨rfl, rfl, hk, hn⟩)
theorem Go.initObj (X : Cx wd EL p Z s m meth c own nm code ml ret) {idx : Nat} (w1 : (Cond.methodLink own idx Lib.objectInit).before a0 Z = true) (w2 : (Cond.instanceMethod Lib.objectInit).before a0 Z = true) (w3 : (Cond.code Lib.objectInit ⟨#[0xb1]⟩ 1 none).before a0 Z = true) (D : D1 code pc (.invokespecial idx) 3 pc') (hm : Ls.size = ml) (hf : 1 ≤ R.frames) (hlo : (st.map fun v => v.category).sum + 12 ≤ R.locals)
    (K : Go wd EL p l e R Z s m args below meth c Q L k n (mkF m pc' Ls st)) : Go wd EL p l e R Z s m args below meth c Q L k n (mkF m pc Ls (.ref a :: st)) := by
  obtain ⟨d, rfl⟩ := D
  intro vm T lc F B I S
  replace X := X.re B
  obtain ⟨T', S', e', stp⟩ := initO S X.1 X.2.1 X.2.2.1 w1 w2 w3 rfl (g := mkF m pc Ls (.ref a :: st)) rfl (by rw [X.2.2.2.2.1]; exact hm) rfl (hb X.2.2.2.1 d) hf (W := (st.map fun v => v.category).sum) (by rw [mroom]; omega) hlo
  rw [← e'] at I B
  obtain ⟨u, o, st', r⟩ := K vm T' lc F B I S'
  exact ⟨u, o, stp _ st', r⟩
end Steps
/-- a String constant's cell: its bytes are the array b's, its coder 0 -/
def Lt (Z : State) (b : Addr) (c : Cell) : Prop := (∃ k, Z.vm.findClass "java/lang/String" = some c.cls ∧ Z.vm.classes[c.cls]? = some k ∧ c.vm.isStatics = false ∧ (k.kind = .ordinary → c.slots.size = k.instanceTypes.size)) ∧
  (∃ cf k i f, Z.fieldFound? "java/lang/String" "coder" "B" = some (cf, k, i, f) ∧ f.isStatic = false ∧ c.vm ≠ .unknown ∧ c.vm.isStatics = false ∧ Z.vm.assignable c.cls cf = true ∧ c.slots[f.slot]? = some (.int 0)) ∧
  (∃ cf k i f, Z.fieldFound? "java/lang/String" "value" "[B" = some (cf, k, i, f) ∧ f.isStatic = false ∧ c.vm ≠ .unknown ∧ c.vm.isStatics = false ∧ Z.vm.assignable c.cls cf = true ∧ c.slots[f.slot]? = some (.ref b))
theorem Hp.ltC {Z : State} {h : Heap} {L : List Ent} {i : Nat} {a b : Addr} {f : Bool} (H : Hp Z h L) (hi : L[i]? = some (a, Lt Z b, f)) : Exa Z h a "java/lang/String" ∧ Fld Z h a "java/lang/String" "coder" "B" (.int 0) ∧ Fld Z h a "java/lang/String" "value" "[B" (.ref b) := by
  obtain ⟨c, hc, ⟨k, r1⟩, ⟨cf, k2, i2, f2, r2⟩, ⟨cf3, k3, i3, f3, r3⟩⟩ := H.at hi
  exact ⟨⟨c, k, hc, r1⟩, ⟨c, cf, k2, i2, f2, hc, r2⟩, ⟨c, cf3, k3, i3, f3, hc, r3⟩⟩
/-- ldc of a String constant of EL: the object spells its text (Latin-1); it is none of L's -/
theorem Go.ldcS {EL : List (String × Nat)} {p : Program} {l : Launch} {e : Env} {R : Room} {Z s : State} {m : MethodId} {args : Array Value} {below : List Frame} {meth : Method} {c : Code} {Q : Option Value → List Ent → Prop} {L : List Ent} {k n : Nat} {own nm : String} {code : ByteArray} {ml : Nat} {ret : Option FieldType} {a0 : Array Value} {pc pc' : Nat} {Ls : Array Slot} {st : List Value}
    (X : Cx true EL p Z s m meth c own nm code ml ret) {idx : Nat} {text : String} (w : (Cond.stringLink own idx text).before a0 Z = true) (wS : ∀ a ∈ Bundle.stringAtoms, a.before a0 Z = true) (hmem : (own, idx) ∈ EL) {vs : List Value} {z : Int32} (ht : (∀ c ∈ text.toList, c.toNat < 256) ∧ text.toList.map (fun c => Value.int (Jvm.Lit.byteI c.toNat.toUInt16)) = vs) (hz : ¬ z < 0) (hl : z.toNatClampNeg = vs.length)
    (D : D1 code pc (.ldc idx) 2 pc') {N : Nat} (hN : 4 * text.toList.length ≤ N) (hbig : N ≤ 536870912) (hc : k + 2 ≤ R.cells) (hl' : n + (N + 4) ≤ R.slots)
    (K : ∀ (a b : Addr) (K' : ClassId), Go true EL p l e R Z s m args below meth c Q (ro a (Lt Z b) :: ro b (Ar Z .byte K' vs) :: L) (k + 2) (n + (N + 4)) (mkF m pc' Ls (.ref a :: st))) : Go true EL p l e R Z s m args below meth c Q L k n (mkF m pc Ls st) := by
  obtain ⟨d, rfl⟩ := D
  intro vm T lc F B I S
  obtain ⟨a1, hE⟩ := X.2.2.2.2.2.2.2.2 rfl
  have B' : s.Since vm T.heap.size := B
  replace X := X.re B
  obtain ⟨hv1, hv2⟩ := I.2 rfl
  obtain ⟨a, T', h', k1, b, kk, S', e', E', q1, q2, q3, q4, q5, q6, q7, q8, q9, q10, q11, q12, q13, stp⟩ := ldcCH S X.1 X.2.1 X.2.2.1 w wS rfl B' (Nat.le_refl _) hE hmem hv1 ht hz hl (g := mkF m pc Ls st) rfl (hb X.2.2.2.1 d) hN hbig hc hl'
  subst e'
  have I' : Iv true Z EL T'.vm T'.heap L := ⟨I.1.mono E', fun _ => ⟨q11.1, fun x hx hf => q11.safe (by obtain ⟨-, cc, h1, -⟩ := I.1.2.1 x hx; exact (Array.getElem?_eq_some_iff.mp h1).1) (hv2 x hx hf)⟩⟩
  have I2 := I'.know (a := b) (P := Ar Z .byte kk vs) (by
    obtain ⟨cl, A, r1, r2, r3, r4, r5⟩ := q8
    have rs : cl.slots = vs.toArray := by
      apply Array.ext
      · rw [r2, hl]; simp
      · intro i h1 h2
        have := r4 i h1
        rw [Array.getElem?_eq_getElem h1] at this
        have h3 : i < vs.length := by simpa using h2
        rw [List.getD_eq_getElem?_getD, List.getElem?_eq_getElem h3] at this
        simpa using this
    refine ⟨cl, A.1, A.2.1, A.2.2, r1, rs, by rw [← hl]; exact (back32 hz).2, fun v hv => ?_⟩
    obtain ⟨i, hi, rfl⟩ := List.getElem_of_mem hv
    have := r5 i (by rw [r2, hl]; exact hi)
    rw [List.getD_eq_getElem?_getD, List.getElem?_eq_getElem hi] at this
    exact this) (fun x hx hf => (q13 x.1 (I'.2 rfl |>.2 x hx hf)).2)
  have I3 := I2.know (a := a) (P := Lt Z b) (by
    obtain ⟨cell, kc, a1, a2, a3, a4, a5⟩ := q5
    obtain ⟨c1, cf1, k1', i1, f1, b1, b2⟩ := q6
    obtain ⟨c2, cf2, k2', i2, f2, b3, b4⟩ := q7
    cases a1.symm.trans b1
    cases a1.symm.trans b3
    exact ⟨_, a1, ⟨kc, a2, a3, a4, a5⟩, ⟨_, _, _, _, b2⟩, ⟨_, _, _, _, b4⟩⟩) (fun x hx hf => by
      rcases List.mem_cons.mp hx with rfl | u
      · cases hf
      · exact (q13 x.1 (I'.2 rfl |>.2 x u hf)).1)
  obtain ⟨u, o, st', r⟩ := K a b kk T'.vm T' lc F (show s.Since T'.vm T'.heap.size from ⟨q1.1, fun j p hj hp => by obtain ⟨x, y⟩ := q1.2 j p hj hp; exact ⟨x, Nat.lt_of_lt_of_le y q2⟩⟩) I3 S'
  exact ⟨u, o, stp _ st', r⟩
end Jvm.OwnKit
namespace Jvm.OwnKit
open Sem ClassFile Op Lib Jvm.Stand Jvm.Free Jvm.LawKit Jvm.RoadKit
section More
variable {wd : Bool} {EL : List (String × Nat)} {p : Program} {l : Launch} {e : Env} {R : Room} {Z s : State} {m : MethodId} {args : Array Value} {below : List Frame} {meth : Method} {c : Code} {Q : Option Value → List Ent → Prop} {L L' : List Ent} {k n : Nat} {own nm : String} {code : ByteArray} {ml : Nat} {ret : Option FieldType} {a0 : Array Value}
variable {pc pc' : Nat} {Ls : Array Slot} {st : List Value} {i j : Nat} {a b : Addr} {C : String} {ns : List Nm} {vs vd : List Value} {v : Value} {h h' : Heap} {vm : Vm} {P P' : Cell → Prop} {f : Bool} {ty : FieldType} {K K' : ClassId}
theorem Hp.kp (H : Hp Z h L) (hi : L[i]? = some (ow b P)) (Kp : Keep h h' [b]) (hc : ∃ c, h'[b]? = some c ∧ P' c) : Hp Z h' (updL L i (ow b P')) := by
  refine ⟨⟨Nat.le_trans H.1.1 Kp.1, fun x c q => Kp.2.1 x c (H.1.2 x c q) fun r => ?_⟩, fun x hx => ?_, upd_apart L i (ow b P') (ow b P) hi rfl rfl H.2.2⟩
  · cases List.mem_singleton.mp r
    exact absurd (Array.getElem?_eq_some_iff.mp q).1 (Nat.not_lt.mpr (H.ge hi))
  · rcases upd_mem _ _ _ _ hx with rfl | ⟨j, hj, hLj⟩
    · exact ⟨fun _ => H.ge hi, hc⟩
    · obtain ⟨xa, xP, xf⟩ := x
      obtain ⟨q1, c, q2, q3⟩ := H.2.1 _ (List.mem_of_getElem? hLj)
      exact ⟨q1, c, Kp.2.1 _ _ q2 fun r => H.ne hi hLj (Ne.symm hj) (by simp) (List.mem_singleton.mp r).symm, q3⟩
theorem Iv.kp (I : Iv wd Z EL vm h L) (hi : L[i]? = some (ow b P)) (Kp : Keep h h' [b]) (hc : ∃ c, h'[b]? = some c ∧ P' c) : Iv wd Z EL vm h' (updL L i (ow b P')) := ⟨I.1.kp hi Kp hc, fun q => by
  have S := (I.2 q).2 _ (List.mem_of_getElem? hi) rfl
  have hs : ∀ x ∈ [b], Safe Z EL vm h x := fun x hx => by cases List.mem_singleton.mp hx; exact S
  refine ⟨(I.2 q).1.keep Kp hs, fun x hx hf => ?_⟩
  rcases upd_mem _ _ _ _ hx with rfl | ⟨j, hj, hLj⟩
  · exact Safe.keep Kp hs (I.2 q).1 S
  · exact Safe.keep Kp hs (I.2 q).1 ((I.2 q).2 x (List.mem_of_getElem? hLj) hf)⟩
theorem i32_of_clamp {z : Int32} {N : Nat} (hz : ¬ z < 0) (hN : z.toNatClampNeg = N) : z.toInt = N := by
  rw [Int32.lt_iff_toInt_lt] at hz; have : (0 : Int32).toInt = 0 := rfl
  simp only [Int32.toNatClampNeg] at hN; omega
theorem Ar.arv (hc : ∃ c, h[a]? = some c ∧ Ar Z ty K vs c) (dv : Value) : ∃ z : Int32, z.toNatClampNeg = vs.length ∧ ¬ z < 0 ∧ Arv Z h a K ty z vs dv := by
  obtain ⟨c, q1, q2, q3, q4, q5, q6, q7⟩ := hc
  obtain ⟨n1, n2, n3⟩ := nat32 q6
  refine ⟨Int32.ofNat vs.length, n3, n2, c, ⟨q1, q2, q3⟩, q4, by rw [q5, n3]; simp, n2, fun i hi => ?_, fun i hi => ?_⟩
  · rw [q5] at hi ⊢
    have : i < vs.length := by simpa using hi
    simp [this]
  · rw [q5] at hi
    have hi' : i < vs.length := by simpa using hi
    rw [List.getD_eq_getElem?_getD, List.getElem?_eq_getElem hi']
    exact q7 _ (List.getElem_mem hi')
theorem arv_ar {z : Int32} {dv : Value} (A : Arv Z h a K ty z vs dv) (hl : z.toNatClampNeg = vs.length) : ∃ c, h[a]? = some c ∧ Ar Z ty K vs c := by
  obtain ⟨cl, A, r1, r2, r3, r4, r5⟩ := A
  have rs : cl.slots = vs.toArray := by
    apply Array.ext
    · rw [r2, hl]; simp
    · intro i h1 h2
      have := r4 i h1
      rw [Array.getElem?_eq_getElem h1] at this
      have h3 : i < vs.length := by simpa using h2
      rw [List.getD_eq_getElem?_getD, List.getElem?_eq_getElem h3] at this
      simpa using this
  refine ⟨cl, A.1, A.2.1, A.2.2, r1, rs, by rw [← hl]; exact (back32 r3).2, fun v hv => ?_⟩
  obtain ⟨i, hi, rfl⟩ := List.getElem_of_mem hv
  have := r5 i (by rw [r2, hl]; exact hi)
  rw [List.getD_eq_getElem?_getD, List.getElem?_eq_getElem hi] at this
  exact this
/-- System.arraycopy between two arrays of one primitive kind -/
theorem Go.acopy (X : Cx wd EL p Z s m meth c own nm code ml ret) {idx : Nat} (w1 : (Cond.methodLink own idx Jvm.Stand.acN).before a0 Z = true) (w2 : (Cond.native Jvm.Stand.acN).before a0 Z = true) (w3 : (Cond.static Jvm.Stand.acN).before a0 Z = true) (w4 : (Cond.initialized "java/lang/System").before a0 Z = true)
    {sp dp nn : Int32} {sN dN nN : Nat} {r : List Value} (hj : L[j]? = some (ow b (Ar Z ty K' vd))) (hs : (a, Ar Z ty K vs, f) ∈ L) (ht : refKind ty = false) (q1 : ¬ sp < 0) (q2 : ¬ dp < 0) (q3 : ¬ nn < 0) (e1 : sp.toNatClampNeg = sN) (e2 : dp.toNatClampNeg = dN) (e3 : nn.toNatClampNeg = nN) (l1 : sN + nN ≤ vs.length) (l2 : dN + nN ≤ vd.length)
    (hr : vd.take dN ++ ((List.range nN).map fun i => vs.getD (sN + i) .null) ++ vd.drop (dN + nN) = r) (D : D1 code pc (.invokestatic idx) 3 pc') (hm : Ls.size = ml) (hf : 1 ≤ R.frames) (hlo : (st.map fun v => v.category).sum + (nativeFrameWords "java/lang/System" "arraycopy" 5 + 11) ≤ R.locals)
    (K1 : Go wd EL p l e R Z s m args below meth c Q (updL L j (ow b (Ar Z ty K' r))) k n (mkF m pc' Ls st)) : Go wd EL p l e R Z s m args below meth c Q L k n (mkF m pc Ls (.int nn :: .int dp :: .ref b :: .int sp :: .ref a :: st)) := by
  obtain ⟨d, rfl⟩ := D
  intro vm T lc F B I S
  replace X := X.re B
  obtain ⟨z1, t1, t2, A⟩ := Ar.arv (I.1.atM hs) .null
  obtain ⟨z2, t3, t4, A2⟩ := Ar.arv (I.1.at hj) .null
  obtain ⟨T', h', lc', S', e', F', Kp, A3, stp⟩ := cpA S X.1 X.2.1 X.2.2.1 w1 w2 w3 w4 rfl A A2 (Or.inl ⟨rfl, ht⟩) q1 q2 q3 (by rw [e1, e3, t1]; exact l1) (by rw [e2, e3, t3]; exact l2) rfl (by rw [e2, e3]; exact l2) F (I.1.ge hj) (g := mkF m pc Ls (.int nn :: .int dp :: .ref b :: .int sp :: .ref a :: st)) rfl (by rw [X.2.2.2.2.1]; exact hm) rfl (hb X.2.2.2.1 d) hf (W := (st.map fun v => v.category).sum) (by rw [mroom]; omega) hlo
  rw [e1, e2, e3, hr] at A3
  subst e'
  have hlen : r.length = vd.length := by rw [← hr]; simp; omega
  have I' := I.kp (P' := Ar Z ty K' r) hj Kp (arv_ar A3 (by rw [hlen]; exact t3))
  obtain ⟨u, o, st', rr⟩ := K1 vm T' _ F' (B.mono Kp.1) I' S'
  exact ⟨u, o, stp _ st', rr⟩
end More
/-- a private method of a class that can be made: a call of it goes to itself -/
theorem selP {Z : State} {a0 : Array Value} {y : MethodName} {n : Nat} (wi : (Cond.instantiable y.cls n).before a0 Z = true) (wp : (Cond.privateMethod y).before a0 Z = true) (w2 : (Cond.instanceMethod y).before a0 Z = true) (hy : y.cls ≠ "java/lang/invoke/MethodHandle" ∧ y.cls ≠ "java/lang/invoke/VarHandle") : (Cond.selects y.cls y y).before a0 Z = true := by
  obtain ⟨c, k, h1, h2, -, h4, -⟩ := Cond.instantiable_spec wi
  rw [Bool.or_eq_false_iff] at h4
  exact Jvm.Stand.selects_self_of_private h1 h2 h4.1 (Cond.privateMethod_at wp) w2 hy
/-! ### small numbers -/
theorem and255 (x : Int32) : ∃ c : Nat, c < 256 ∧ x &&& 255 = Int32.ofNat c := by
  refine ⟨(x.toBitVec &&& 255#32).toNat, ?_, ?_⟩
  · have : (x.toBitVec &&& 255#32).toNat = x.toBitVec.toNat % 256 := by rw [BitVec.toNat_and]; exact Nat.and_two_pow_sub_one_eq_mod _ 8
    omega
  · apply Int32.toBitVec_inj.mp
    rw [Int32.toBitVec_and]
    apply BitVec.eq_of_toNat_eq
    rw [Int32.toBitVec_ofNat]
    simp
/-! ### stores into big frames: the locals stay a literal list -/
def okSlot : Option Slot → Bool
  | some .unset => true
  | some (.val w) => w.category == 1
  | _ => false
theorem stL {ls ls' : List Slot} {i : Nat} {v : Value} (hv : v.category = 1) (h : okSlot ls[i]? = true) (e : updL ls i (.val v) = ls') : storeLocals ls.toArray i v = some ls'.toArray := by
  subst e
  rw [upd_set]
  have hs : storeSelf ls.toArray i v = some (ls.set i (.val v)).toArray := by
    have hi : i < ls.length := by
      rcases Nat.lt_or_ge i ls.length with q | q
      · exact q
      · rw [List.getElem?_eq_none q] at h; cases h
    simp [storeSelf, setAt, hv, hi]
  unfold storeLocals
  rw [List.getElem?_toArray]
  cases q : ls[i]? with
  | none => rw [q] at h; cases h
  | some o =>
    rw [q] at h
    cases o with
    | second => cases h
    | unset => simpa using hs
    | val w =>
      have : w.category ≠ 2 := by simp [okSlot] at h; omega
      simpa [this] using hs
end Jvm.OwnKit
namespace Jvm.Pilot.@@N@@
open Jvm Jvm.ClassFile Sem Op Lib Jvm.Free Jvm.Stand Jvm.LawKit Jvm.RoadKit Jvm.OwnKit Bundle Jvm.Pilot.@@N@@.Jvm.D
abbrev WD : Bool := true
abbrev EL0 : List (String × Nat) := consts_1
/-- what is known throughout -/
def Gl (a0 : Array Value) (Z : State) : Prop := (∀ d ∈ tables_1, d.before a0 Z = true) ∧ (WD = true → ∃ a0, EW Z a0 EL0) ∧ (∃ cs : Int32, cs ≠ 0 ∧ Sta Z Z.heap "java/lang/String" "COMPACT_STRINGS" "Z" (.int cs)) ∧ (∃ v3 : Value, v3.category = 1 ∧ Sta Z Z.heap "jdk/internal/util/Preconditions" "SIOOBE_FORMATTER" "Ljava/util/function/BiFunction;" v3)
theorem g_cs {a0 : Array Value} {Z : State} (G : Gl a0 Z) : ∃ cs : Int32, cs ≠ 0 ∧ Sta Z Z.heap "java/lang/String" "COMPACT_STRINGS" "Z" (.int cs) := G.2.2.1
theorem g_sf {a0 : Array Value} {Z : State} (G : Gl a0 Z) : ∃ v3 : Value, v3.category = 1 ∧ Sta Z Z.heap "jdk/internal/util/Preconditions" "SIOOBE_FORMATTER" "Ljava/util/function/BiFunction;" v3 := G.2.2.2
-- %%% strings
theorem w2 {a0 : Array Value} {Z : State} (G : Gl a0 Z) : (Jvm.Cond.instantiable "java/lang/String" (4 : Nat)).before a0 Z = true := G.1 _ (List.mem_of_getElem? (i := 2) rfl)
theorem w3 {a0 : Array Value} {Z : State} (G : Gl a0 Z) : (Jvm.Cond.initialized "java/lang/String").before a0 Z = true := G.1 _ (List.mem_of_getElem? (i := 3) rfl)
theorem w11 {a0 : Array Value} {Z : State} (G : Gl a0 Z) : (Jvm.Cond.methodLink "java/lang/String" (1 : Nat) ({ cls := "java/lang/Object", name := "<init>", desc := "()V" } : Jvm.MethodName)).before a0 Z = true := G.1 _ (List.mem_of_getElem? (i := 11) rfl)
theorem w12 {a0 : Array Value} {Z : State} (G : Gl a0 Z) : (Jvm.Cond.instanceMethod ({ cls := "java/lang/Object", name := "<init>", desc := "()V" } : Jvm.MethodName)).before a0 Z = true := G.1 _ (List.mem_of_getElem? (i := 12) rfl)
theorem w13 {a0 : Array Value} {Z : State} (G : Gl a0 Z) : (Jvm.Cond.code ({ cls := "java/lang/Object", name := "<init>", desc := "()V" } : Jvm.MethodName) object_method_1_code (1 : Nat) (Option.none : Option Jvm.ClassFile.FieldType)).before a0 Z = true := G.1 _ (List.mem_of_getElem? (i := 13) rfl)
theorem w14 {a0 : Array Value} {Z : State} (G : Gl a0 Z) : (Jvm.Cond.fieldLink "java/lang/String" (38 : Nat) "java/lang/String" "COMPACT_STRINGS" "Z").before a0 Z = true := G.1 _ (List.mem_of_getElem? (i := 14) rfl)
theorem w15 {a0 : Array Value} {Z : State} (G : Gl a0 Z) : (Jvm.Cond.methodLink "java/lang/String" (177 : Nat) ({ cls := "java/lang/StringUTF16", name := "compress", desc := "([CII)[B" } : Jvm.MethodName)).before a0 Z = true := G.1 _ (List.mem_of_getElem? (i := 15) rfl)
theorem w16 {a0 : Array Value} {Z : State} (G : Gl a0 Z) : (Jvm.Cond.static ({ cls := "java/lang/StringUTF16", name := "compress", desc := "([CII)[B" } : Jvm.MethodName)).before a0 Z = true := G.1 _ (List.mem_of_getElem? (i := 16) rfl)
theorem w17 {a0 : Array Value} {Z : State} (G : Gl a0 Z) : (Jvm.Cond.initialized "java/lang/StringUTF16").before a0 Z = true := G.1 _ (List.mem_of_getElem? (i := 17) rfl)
theorem w18 {a0 : Array Value} {Z : State} (G : Gl a0 Z) : (Jvm.Cond.code ({ cls := "java/lang/StringUTF16", name := "compress", desc := "([CII)[B" } : Jvm.MethodName) jdk_52_method_16_code (6 : Nat) (Option.some (Jvm.ClassFile.FieldType.array Jvm.ClassFile.FieldType.byte))).before a0 Z = true := G.1 _ (List.mem_of_getElem? (i := 18) rfl)
theorem w19 {a0 : Array Value} {Z : State} (G : Gl a0 Z) : (Jvm.Cond.arrayClass Jvm.ClassFile.FieldType.byte).before a0 Z = true := G.1 _ (List.mem_of_getElem? (i := 19) rfl)
theorem w20 {a0 : Array Value} {Z : State} (G : Gl a0 Z) : (Jvm.Cond.methodLink "java/lang/StringUTF16" (115 : Nat) ({ cls := "java/lang/StringUTF16", name := "compress", desc := "([CI[BII)I" } : Jvm.MethodName)).before a0 Z = true := G.1 _ (List.mem_of_getElem? (i := 20) rfl)
theorem w21 {a0 : Array Value} {Z : State} (G : Gl a0 Z) : (Jvm.Cond.static ({ cls := "java/lang/StringUTF16", name := "compress", desc := "([CI[BII)I" } : Jvm.MethodName)).before a0 Z = true := G.1 _ (List.mem_of_getElem? (i := 21) rfl)
theorem w22 {a0 : Array Value} {Z : State} (G : Gl a0 Z) : (Jvm.Cond.code ({ cls := "java/lang/StringUTF16", name := "compress", desc := "([CI[BII)I" } : Jvm.MethodName) jdk_52_method_21_code (7 : Nat) (Option.some Jvm.ClassFile.FieldType.int)).before a0 Z = true := G.1 _ (List.mem_of_getElem? (i := 22) rfl)
theorem w23 {a0 : Array Value} {Z : State} (G : Gl a0 Z) : (Jvm.Cond.methodLink "java/lang/String" (47 : Nat) ({ cls := "java/lang/StringUTF16", name := "coderFromArrayLen", desc := "([BI)B" } : Jvm.MethodName)).before a0 Z = true := G.1 _ (List.mem_of_getElem? (i := 23) rfl)
theorem w24 {a0 : Array Value} {Z : State} (G : Gl a0 Z) : (Jvm.Cond.static ({ cls := "java/lang/StringUTF16", name := "coderFromArrayLen", desc := "([BI)B" } : Jvm.MethodName)).before a0 Z = true := G.1 _ (List.mem_of_getElem? (i := 24) rfl)
theorem w25 {a0 : Array Value} {Z : State} (G : Gl a0 Z) : (Jvm.Cond.code ({ cls := "java/lang/StringUTF16", name := "coderFromArrayLen", desc := "([BI)B" } : Jvm.MethodName) jdk_52_method_15_code (2 : Nat) (Option.some Jvm.ClassFile.FieldType.byte)).before a0 Z = true := G.1 _ (List.mem_of_getElem? (i := 25) rfl)
theorem w26 {a0 : Array Value} {Z : State} (G : Gl a0 Z) : (Jvm.Cond.fieldLink "java/lang/String" (15 : Nat) "java/lang/String" "coder" "B").before a0 Z = true := G.1 _ (List.mem_of_getElem? (i := 26) rfl)
theorem w27 {a0 : Array Value} {Z : State} (G : Gl a0 Z) : (Jvm.Cond.laysFinal "java/lang/String" "java/lang/String" "coder" "B").before a0 Z = true := G.1 _ (List.mem_of_getElem? (i := 27) rfl)
theorem w28 {a0 : Array Value} {Z : State} (G : Gl a0 Z) : (Jvm.Cond.fieldLink "java/lang/String" (9 : Nat) "java/lang/String" "value" "[B").before a0 Z = true := G.1 _ (List.mem_of_getElem? (i := 28) rfl)
theorem w29 {a0 : Array Value} {Z : State} (G : Gl a0 Z) : (Jvm.Cond.laysFinal "java/lang/String" "java/lang/String" "value" "[B").before a0 Z = true := G.1 _ (List.mem_of_getElem? (i := 29) rfl)
theorem w81 {a0 : Array Value} {Z : State} (G : Gl a0 Z) : (Jvm.Cond.methodLink "java/lang/String" (335 : Nat) ({ cls := "java/lang/String", name := "coder", desc := "()B" } : Jvm.MethodName)).before a0 Z = true := G.1 _ (List.mem_of_getElem? (i := 81) rfl)
theorem w82 {a0 : Array Value} {Z : State} (G : Gl a0 Z) : (Jvm.Cond.declares ({ cls := "java/lang/String", name := "coder", desc := "()B" } : Jvm.MethodName)).before a0 Z = true := G.1 _ (List.mem_of_getElem? (i := 82) rfl)
theorem w83 {a0 : Array Value} {Z : State} (G : Gl a0 Z) : (Jvm.Cond.instanceMethod ({ cls := "java/lang/String", name := "coder", desc := "()B" } : Jvm.MethodName)).before a0 Z = true := G.1 _ (List.mem_of_getElem? (i := 83) rfl)
theorem w84 {a0 : Array Value} {Z : State} (G : Gl a0 Z) : (Jvm.Cond.selects "java/lang/String" ({ cls := "java/lang/String", name := "coder", desc := "()B" } : Jvm.MethodName) ({ cls := "java/lang/String", name := "coder", desc := "()B" } : Jvm.MethodName)).before a0 Z = true := G.1 _ (List.mem_of_getElem? (i := 84) rfl)
theorem w85 {a0 : Array Value} {Z : State} (G : Gl a0 Z) : (Jvm.Cond.code ({ cls := "java/lang/String", name := "coder", desc := "()B" } : Jvm.MethodName) jdk_42_method_152_code (1 : Nat) (Option.some Jvm.ClassFile.FieldType.byte)).before a0 Z = true := G.1 _ (List.mem_of_getElem? (i := 85) rfl)
theorem w135 {a0 : Array Value} {Z : State} (G : Gl a0 Z) : (Jvm.Cond.stringLink "java/lang/String" (7 : Nat) "").before a0 Z = true := G.1 _ (List.mem_of_getElem? (i := 135) rfl)
theorem w136 {a0 : Array Value} {Z : State} (G : Gl a0 Z) : (Jvm.Cond.soleField "java/lang/String" "value").before a0 Z = true := G.1 _ (List.mem_of_getElem? (i := 136) rfl)
theorem w137 {a0 : Array Value} {Z : State} (G : Gl a0 Z) : (Jvm.Cond.soleField "java/lang/String" "coder").before a0 Z = true := G.1 _ (List.mem_of_getElem? (i := 137) rfl)
theorem d2_0 : D1 jdk_42_method_149_code 0 (.aload_n 0) 1 1 := ⟨by decide +kernel, rfl⟩
theorem d2_1 : D1 jdk_42_method_149_code 1 (.invokespecial 1) 3 4 := ⟨by decide +kernel, rfl⟩
theorem d2_4 : D1 jdk_42_method_149_code 4 (.iload_n 3) 1 5 := ⟨by decide +kernel, rfl⟩
theorem d2_5 : D1 jdk_42_method_149_code 5 (.ifCond .ne 22) 3 8 := ⟨by decide +kernel, rfl⟩
theorem d2_8 : D1 jdk_42_method_149_code 8 (.aload_n 0) 1 9 := ⟨by decide +kernel, rfl⟩
theorem d2_9 : D1 jdk_42_method_149_code 9 (.ldc 7) 2 11 := ⟨by decide +kernel, rfl⟩
theorem d2_11 : D1 jdk_42_method_149_code 11 (.getfield 9) 3 14 := ⟨by decide +kernel, rfl⟩
theorem d2_14 : D1 jdk_42_method_149_code 14 (.putfield 9) 3 17 := ⟨by decide +kernel, rfl⟩
theorem d2_17 : D1 jdk_42_method_149_code 17 (.aload_n 0) 1 18 := ⟨by decide +kernel, rfl⟩
theorem d2_18 : D1 jdk_42_method_149_code 18 (.ldc 7) 2 20 := ⟨by decide +kernel, rfl⟩
theorem d2_20 : D1 jdk_42_method_149_code 20 (.getfield 15) 3 23 := ⟨by decide +kernel, rfl⟩
theorem d2_23 : D1 jdk_42_method_149_code 23 (.putfield 15) 3 26 := ⟨by decide +kernel, rfl⟩
theorem d2_26 : D1 jdk_42_method_149_code 26 (.return_) 1 27 := ⟨by decide +kernel, rfl⟩
theorem d2_27 : D1 jdk_42_method_149_code 27 (.getstatic 38) 3 30 := ⟨by decide +kernel, rfl⟩
theorem d2_30 : D1 jdk_42_method_149_code 30 (.ifCond .eq 28) 3 33 := ⟨by decide +kernel, rfl⟩
theorem d2_33 : D1 jdk_42_method_149_code 33 (.aload_n 1) 1 34 := ⟨by decide +kernel, rfl⟩
theorem d2_34 : D1 jdk_42_method_149_code 34 (.iload_n 2) 1 35 := ⟨by decide +kernel, rfl⟩
theorem d2_35 : D1 jdk_42_method_149_code 35 (.iload_n 3) 1 36 := ⟨by decide +kernel, rfl⟩
theorem d2_36 : D1 jdk_42_method_149_code 36 (.invokestatic 177) 3 39 := ⟨by decide +kernel, rfl⟩
theorem d2_39 : D1 jdk_42_method_149_code 39 (.astore 5) 2 41 := ⟨by decide +kernel, rfl⟩
theorem d2_41 : D1 jdk_42_method_149_code 41 (.aload_n 0) 1 42 := ⟨by decide +kernel, rfl⟩
theorem d2_42 : D1 jdk_42_method_149_code 42 (.aload 5) 2 44 := ⟨by decide +kernel, rfl⟩
theorem d2_44 : D1 jdk_42_method_149_code 44 (.iload_n 3) 1 45 := ⟨by decide +kernel, rfl⟩
theorem d2_45 : D1 jdk_42_method_149_code 45 (.invokestatic 47) 3 48 := ⟨by decide +kernel, rfl⟩
theorem d2_48 : D1 jdk_42_method_149_code 48 (.putfield 15) 3 51 := ⟨by decide +kernel, rfl⟩
theorem d2_51 : D1 jdk_42_method_149_code 51 (.aload_n 0) 1 52 := ⟨by decide +kernel, rfl⟩
theorem d2_52 : D1 jdk_42_method_149_code 52 (.aload 5) 2 54 := ⟨by decide +kernel, rfl⟩
theorem d2_54 : D1 jdk_42_method_149_code 54 (.putfield 9) 3 57 := ⟨by decide +kernel, rfl⟩
theorem d2_57 : D1 jdk_42_method_149_code 57 (.return_) 1 58 := ⟨by decide +kernel, rfl⟩
theorem d4_0 : D1 jdk_52_method_16_code 0 (.iload_n 2) 1 1 := ⟨by decide +kernel, rfl⟩
theorem d4_1 : D1 jdk_52_method_16_code 1 (.newarray .byte) 2 3 := ⟨by decide +kernel, rfl⟩
theorem d4_3 : D1 jdk_52_method_16_code 3 (.astore_n 3) 1 4 := ⟨by decide +kernel, rfl⟩
theorem d4_4 : D1 jdk_52_method_16_code 4 (.aload_n 0) 1 5 := ⟨by decide +kernel, rfl⟩
theorem d4_5 : D1 jdk_52_method_16_code 5 (.iload_n 1) 1 6 := ⟨by decide +kernel, rfl⟩
theorem d4_6 : D1 jdk_52_method_16_code 6 (.aload_n 3) 1 7 := ⟨by decide +kernel, rfl⟩
theorem d4_7 : D1 jdk_52_method_16_code 7 (.iconst 0) 1 8 := ⟨by decide +kernel, rfl⟩
theorem d4_8 : D1 jdk_52_method_16_code 8 (.iload_n 2) 1 9 := ⟨by decide +kernel, rfl⟩
theorem d4_9 : D1 jdk_52_method_16_code 9 (.invokestatic 115) 3 12 := ⟨by decide +kernel, rfl⟩
theorem d4_12 : D1 jdk_52_method_16_code 12 (.istore 4) 2 14 := ⟨by decide +kernel, rfl⟩
theorem d4_14 : D1 jdk_52_method_16_code 14 (.iload 4) 2 16 := ⟨by decide +kernel, rfl⟩
theorem d4_16 : D1 jdk_52_method_16_code 16 (.iload_n 2) 1 17 := ⟨by decide +kernel, rfl⟩
theorem d4_17 : D1 jdk_52_method_16_code 17 (.if_icmp .eq 40) 3 20 := ⟨by decide +kernel, rfl⟩
theorem d4_57 : D1 jdk_52_method_16_code 57 (.aload_n 3) 1 58 := ⟨by decide +kernel, rfl⟩
theorem d4_58 : D1 jdk_52_method_16_code 58 (.areturn) 1 59 := ⟨by decide +kernel, rfl⟩
theorem d5_0 : D1 jdk_52_method_21_code 0 (.iconst 0) 1 1 := ⟨by decide +kernel, rfl⟩
theorem d5_1 : D1 jdk_52_method_21_code 1 (.istore 5) 2 3 := ⟨by decide +kernel, rfl⟩
theorem d5_3 : D1 jdk_52_method_21_code 3 (.iload 5) 2 5 := ⟨by decide +kernel, rfl⟩
theorem d5_5 : D1 jdk_52_method_21_code 5 (.iload 4) 2 7 := ⟨by decide +kernel, rfl⟩
theorem d5_7 : D1 jdk_52_method_21_code 7 (.if_icmp .ge 37) 3 10 := ⟨by decide +kernel, rfl⟩
theorem d5_10 : D1 jdk_52_method_21_code 10 (.aload_n 0) 1 11 := ⟨by decide +kernel, rfl⟩
theorem d5_11 : D1 jdk_52_method_21_code 11 (.iload_n 1) 1 12 := ⟨by decide +kernel, rfl⟩
theorem d5_12 : D1 jdk_52_method_21_code 12 (.caload) 1 13 := ⟨by decide +kernel, rfl⟩
theorem d5_13 : D1 jdk_52_method_21_code 13 (.istore 6) 2 15 := ⟨by decide +kernel, rfl⟩
theorem d5_15 : D1 jdk_52_method_21_code 15 (.iload 6) 2 17 := ⟨by decide +kernel, rfl⟩
theorem d5_17 : D1 jdk_52_method_21_code 17 (.sipush 255) 3 20 := ⟨by decide +kernel, rfl⟩
theorem d5_20 : D1 jdk_52_method_21_code 20 (.if_icmp .le 6) 3 23 := ⟨by decide +kernel, rfl⟩
theorem d5_26 : D1 jdk_52_method_21_code 26 (.aload_n 2) 1 27 := ⟨by decide +kernel, rfl⟩
theorem d5_27 : D1 jdk_52_method_21_code 27 (.iload_n 3) 1 28 := ⟨by decide +kernel, rfl⟩
theorem d5_28 : D1 jdk_52_method_21_code 28 (.iload 6) 2 30 := ⟨by decide +kernel, rfl⟩
theorem d5_30 : D1 jdk_52_method_21_code 30 (.i2b) 1 31 := ⟨by decide +kernel, rfl⟩
theorem d5_31 : D1 jdk_52_method_21_code 31 (.bastore) 1 32 := ⟨by decide +kernel, rfl⟩
theorem d5_32 : D1 jdk_52_method_21_code 32 (.iinc 1 1) 3 35 := ⟨by decide +kernel, rfl⟩
theorem d5_35 : D1 jdk_52_method_21_code 35 (.iinc 3 1) 3 38 := ⟨by decide +kernel, rfl⟩
theorem d5_38 : D1 jdk_52_method_21_code 38 (.iinc 5 1) 3 41 := ⟨by decide +kernel, rfl⟩
theorem d5_41 : D1 jdk_52_method_21_code 41 (.goto (-38)) 3 44 := ⟨by decide +kernel, rfl⟩
theorem d5_44 : D1 jdk_52_method_21_code 44 (.iload 4) 2 46 := ⟨by decide +kernel, rfl⟩
theorem d5_46 : D1 jdk_52_method_21_code 46 (.ireturn) 1 47 := ⟨by decide +kernel, rfl⟩
theorem d6_0 : D1 jdk_52_method_15_code 0 (.iload_n 1) 1 1 := ⟨by decide +kernel, rfl⟩
theorem d6_1 : D1 jdk_52_method_15_code 1 (.aload_n 0) 1 2 := ⟨by decide +kernel, rfl⟩
theorem d6_2 : D1 jdk_52_method_15_code 2 (.arraylength) 1 3 := ⟨by decide +kernel, rfl⟩
theorem d6_3 : D1 jdk_52_method_15_code 3 (.isub) 1 4 := ⟨by decide +kernel, rfl⟩
theorem d6_4 : D1 jdk_52_method_15_code 4 (.bipush 31) 2 6 := ⟨by decide +kernel, rfl⟩
theorem d6_6 : D1 jdk_52_method_15_code 6 (.iushr) 1 7 := ⟨by decide +kernel, rfl⟩
theorem d6_7 : D1 jdk_52_method_15_code 7 (.i2b) 1 8 := ⟨by decide +kernel, rfl⟩
theorem d6_8 : D1 jdk_52_method_15_code 8 (.ireturn) 1 9 := ⟨by decide +kernel, rfl⟩
theorem d15_0 : D1 jdk_42_method_54_code 0 (.aload_n 0) 1 1 := ⟨by decide +kernel, rfl⟩
theorem d15_1 : D1 jdk_42_method_54_code 1 (.getfield 9) 3 4 := ⟨by decide +kernel, rfl⟩
theorem d15_4 : D1 jdk_42_method_54_code 4 (.arraylength) 1 5 := ⟨by decide +kernel, rfl⟩
theorem d15_5 : D1 jdk_42_method_54_code 5 (.aload_n 0) 1 6 := ⟨by decide +kernel, rfl⟩
theorem d15_6 : D1 jdk_42_method_54_code 6 (.invokevirtual 335) 3 9 := ⟨by decide +kernel, rfl⟩
theorem d15_9 : D1 jdk_42_method_54_code 9 (.ishr) 1 10 := ⟨by decide +kernel, rfl⟩
theorem d15_10 : D1 jdk_42_method_54_code 10 (.ireturn) 1 11 := ⟨by decide +kernel, rfl⟩
theorem d16_0 : D1 jdk_42_method_152_code 0 (.getstatic 38) 3 3 := ⟨by decide +kernel, rfl⟩
theorem d16_3 : D1 jdk_42_method_152_code 3 (.ifCond .eq 10) 3 6 := ⟨by decide +kernel, rfl⟩
theorem d16_6 : D1 jdk_42_method_152_code 6 (.aload_n 0) 1 7 := ⟨by decide +kernel, rfl⟩
theorem d16_7 : D1 jdk_42_method_152_code 7 (.getfield 15) 3 10 := ⟨by decide +kernel, rfl⟩
theorem d16_10 : D1 jdk_42_method_152_code 10 (.goto 4) 3 13 := ⟨by decide +kernel, rfl⟩
theorem d16_14 : D1 jdk_42_method_152_code 14 (.ireturn) 1 15 := ⟨by decide +kernel, rfl⟩
def ns0 : List Nm := [("java/lang/String", "coder", "B"), ("java/lang/String", "value", "[B"), ("java/lang/String", "hash", "I"), ("java/lang/String", "hashIsZero", "Z")]
theorem lay0 {a0 : Array Value} {Z : State} (G : Gl a0 Z) : LayC Z a0 "java/lang/String" ns0 := LayC.of (fun q hq => by
  simp only [ns0, List.mem_cons, List.not_mem_nil, or_false] at hq
  rcases hq with rfl | rfl | rfl | rfl
  · exact Or.inr (G.1 _ (List.mem_of_getElem? (i := 27) rfl))
  · exact Or.inr (G.1 _ (List.mem_of_getElem? (i := 29) rfl))
  · exact Or.inl (G.1 _ (List.mem_of_getElem? (i := 92) rfl))
  · exact Or.inl (G.1 _ (List.mem_of_getElem? (i := 94) rfl))) (by decide +kernel) (fun q hq => by
  simp only [ns0, List.mem_cons, List.not_mem_nil, or_false] at hq
  rcases hq with rfl | rfl | rfl | rfl
  · exact ⟨.byte, by decide +kernel⟩
  · exact ⟨(.array .byte), by decide +kernel⟩
  · exact ⟨.int, by decide +kernel⟩
  · exact ⟨.boolean, by decide +kernel⟩)
theorem df0 : dfl ns0 = ([.int 0, .null, .int 0, .int 0] : List Value).map some := by decide +kernel
theorem pd0 : parseMethodDescriptor "()B" = some ⟨[], some .byte⟩ := by decide +kernel
theorem pd1 : parseMethodDescriptor "([CI[BII)I" = some ⟨[(.array .char), .int, (.array .byte), .int, .int], some .int⟩ := by decide +kernel
theorem pd2 : parseMethodDescriptor "([CII)[B" = some ⟨[(.array .char), .int, .int], some (.array .byte)⟩ := by decide +kernel
theorem pd3 : parseMethodDescriptor "([BI)B" = some ⟨[(.array .byte), .int], some .byte⟩ := by decide +kernel
theorem pf0 : parseFieldDescriptor "[B" = some (.array .byte) := by decide +kernel
theorem pf1 : parseFieldDescriptor "B" = some .byte := by decide +kernel

/-- the bytes and the chars of a text whose signs are below 256 -/
def bsOf (cl : List Nat) : List Value := cl.map fun c => .int (Int32.ofNat c).toInt8.toInt32
def csOf (cl : List Nat) : List Value := cl.map fun c => .int (Int32.ofNat c)
/-- the class number of a text's byte array is byte[]'s (where the text isn't empty) -/
def FcB (Z : State) (cl : List Nat) (K : ClassId) : Prop := cl = [] ∨ Z.vm.findClass "[B" = some K
/-- the String at a is known: its bytes are the array b's and spell cl; its coder is 0 -/
def Sx (Z : State) (L : List Ent) (a b : Addr) (cl : List Nat) : Prop := (∃ K f, (b, Ar Z .byte K (bsOf cl), f) ∈ L) ∧ ∀ h, Hp Z h L → Exa Z h a "java/lang/String" ∧ Fld Z h a "java/lang/String" "value" "[B" (.ref b) ∧ Fld Z h a "java/lang/String" "coder" "B" (.int 0)
theorem bs_len (cl : List Nat) : (bsOf cl).length = cl.length := by simp [bsOf]
theorem bs_at {cl : List Nat} {i c : Nat} (q : cl[i]? = some c) : (bsOf cl)[i]? = some (.int (Int32.ofNat c).toInt8.toInt32) := by simp [bsOf, q]
theorem upd_mid {α : Type} (A B : List α) (x y : α) : updL (A ++ x :: B) A.length y = A ++ y :: B := by
  induction A with
  | nil => rfl
  | cons z r ih => simp [updL, ih]
theorem rep_at {α : Type} {x : α} {M i : Nat} (h : i < M) : (List.replicate M x)[i]? = some x := by simp [h]
theorem len_small {L : List Ent} {Z : State} {h : Heap} {b : Addr} {ty : FieldType} {K : ClassId} {vs : List Value} {f : Bool} (H : Hp Z h L) (q : (b, Ar Z ty K vs, f) ∈ L) : vs.length < 2 ^ 31 := by
  obtain ⟨cl, -, -, -, r, -⟩ := H.arrM q; exact r

theorem sAtoms {a0 : Array Value} {Z : State} (G : Gl a0 Z) : ∀ d ∈ Bundle.stringAtoms, d.before a0 Z = true := by
  intro d hd
  simp only [Bundle.stringAtoms, Bundle.sN, List.mem_cons, List.not_mem_nil, or_false] at hd
  rcases hd with rfl | rfl | rfl | rfl | rfl | rfl | rfl
  · exact (w3 G)
  · exact (w2 G)
  · exact (w19 G)
  · exact (w29 G)
  · exact (w27 G)
  · exact (w136 G)
  · exact (w137 G)
set_option maxRecDepth 65536 in
set_option maxHeartbeats 4000000 in
theorem s_coder (l : Launch) {Z : State} {a0 : Array Value} (G : Gl a0 Z) {L : List Ent} {a b : Addr} {cl : List Nat} (hS : Sx Z L a b cl) : Ct WD EL0 l Z (⟨"java/lang/String", "coder", "()B"⟩ : MethodName) jdk_42_method_152_code 1 (some .byte) ({ frames := 0, cells := 0, slots := 0, locals := 0 } : Room) #[.ref a] L (rvQ (fun v M => v = .int 0 ∧ M = L)) := by
  refine Ct.intro (by decide +kernel) G.2.1 ?_
  intro p e s m below meth c X
  replace X : Cx WD EL0 p Z s m meth c "java/lang/String" "coder" jdk_42_method_152_code 1 (some .byte) := X
  refine Go.cast (g' := mkF m 0 #[.val (.ref a)] []) (by first | rfl | (simp [entryFrame, mkF, argsToLocals, Value.category, maxLocals]; done)) ?_
  obtain ⟨cst, hcst, Fcst⟩ := g_cs G
  refine Go.getSta X (w14 G) Via.refl Fcst d16_0 ?_
  refine Go.ifc X d16_3 (pt := 13) ⟨by decide, by decide⟩ ?_ ?_
  · intro q; exact absurd q hcst
  intro _
  refine Go.aloadN X d16_6 rfl rfl ?_
  refine Go.getFld X (w26 G) Via.refl (fun h H => (hS.2 h H).2.2) d16_7 ?_
  refine Go.goto X d16_10 (pt := 14) ⟨by decide, by decide⟩ ?_
  exact Go.bret X d16_14 (by decide) (Nat.zero_le _) (Nat.zero_le _) ⟨rfl, rfl⟩
theorem shr0 (x : Int32) : x >>> ((0 : Int32) &&& 31) = x := by
  have : (0 : Int32) &&& 31 = 0 := by decide
  rw [this]; simp
set_option maxRecDepth 65536 in
set_option maxHeartbeats 4000000 in
theorem s_length (l : Launch) {Z : State} {a0 : Array Value} (G : Gl a0 Z) {L : List Ent} {a b : Addr} {cl : List Nat} (hS : Sx Z L a b cl) : Ct WD EL0 l Z (⟨"java/lang/String", "length", "()I"⟩ : MethodName) jdk_42_method_54_code 1 (some .int) ({ frames := 1, cells := 0, slots := 0, locals := 13 } : Room) #[.ref a] L (rvQ (fun v M => v = .int cl.length.toInt32 ∧ M = L)) := by
  refine Ct.intro (by decide +kernel) G.2.1 ?_
  intro p e s m below meth c X
  replace X : Cx WD EL0 p Z s m meth c "java/lang/String" "length" jdk_42_method_54_code 1 (some .int) := X
  refine Go.cast (g' := mkF m 0 #[.val (.ref a)] []) (by first | rfl | (simp [entryFrame, mkF, argsToLocals, Value.category, maxLocals]; done)) ?_
  obtain ⟨K, f, hb'⟩ := hS.1
  refine Go.aloadN X d15_0 rfl rfl ?_
  refine Go.getFld X (w28 G) Via.refl (fun h H => (hS.2 h H).2.1) d15_1 ?_
  refine Go.alenA X (fun h H => H.lenM hb') d15_4 ?_
  refine Go.aloadN X d15_5 rfl rfl ?_
  refine Go.callV X (fun h H => (hS.2 h H).1) (s_coder l G hS) (rest := [.int (bsOf cl).length.toInt32]) (w81 G) (w82 G) (nfS (w84 G)) (w84 G) (w83 G) (w3 G) (w85 G) (by decide) pd0 rfl rfl d15_6 rfl (Nat.le_of_ble_eq_true rfl) (Nat.le_of_ble_eq_true rfl) (Nat.le_of_ble_eq_true rfl) (Nat.le_of_ble_eq_true rfl) (Kv ?_)
  rintro v M ⟨rfl, rfl⟩
  refine Go.ishr X d15_9 ?_
  refine Go.iret X d15_10 (Nat.zero_le _) (Nat.zero_le _) ⟨?_, rfl⟩
  rw [bs_len]; congr 1; exact shr0 _
set_option maxRecDepth 65536 in
set_option maxHeartbeats 4000000 in
theorem s_coderlen (l : Launch) {Z : State} {a0 : Array Value} (G : Gl a0 Z) {L : List Ent} {b : Addr} {K : ClassId} {vs : List Value} {f : Bool} (hb' : (b, Ar Z .byte K vs, f) ∈ L) : Ct WD EL0 l Z (⟨"java/lang/StringUTF16", "coderFromArrayLen", "([BI)B"⟩ : MethodName) jdk_52_method_15_code 2 (some .byte) ({ frames := 0, cells := 0, slots := 0, locals := 0 } : Room) #[.ref b, .int (Int32.ofNat vs.length)] L (rvQ (fun v M => v = .int 0 ∧ M = L)) := by
  refine Ct.intro (by decide +kernel) G.2.1 ?_
  intro p e s m below meth c X
  replace X : Cx WD EL0 p Z s m meth c "java/lang/StringUTF16" "coderFromArrayLen" jdk_52_method_15_code 2 (some .byte) := X
  refine Go.cast (g' := mkF m 0 #[.val (.ref b), .val (.int (Int32.ofNat vs.length))] []) (by first | rfl | (simp [entryFrame, mkF, argsToLocals, Value.category, maxLocals]; done)) ?_
  refine Go.iloadN X d6_0 rfl ?_
  refine Go.aloadN X d6_1 rfl rfl ?_
  refine Go.alenA X (fun h H => H.lenM hb') d6_2 ?_
  refine Go.isub X d6_3 ?_
  refine Go.bipush X (v := 31) d6_4 (by decide) ?_
  refine Go.iushr X d6_6 ?_
  refine Go.i2b X d6_7 ?_
  refine Go.bret X d6_8 ?_ (Nat.zero_le _) (Nat.zero_le _) ⟨?_, rfl⟩
  · rw [show Int32.ofNat vs.length - vs.length.toInt32 = 0 from Int32.sub_self _]; decide
  · rw [show Int32.ofNat vs.length - vs.length.toInt32 = 0 from Int32.sub_self _]; congr 1
set_option maxRecDepth 65536 in
set_option maxHeartbeats 4000000 in
theorem s_cmp_loop {p : Program} {l : Launch} {e : Env} {R : Room} {Z s : State} {m : MethodId} {args : Array Value} {below : List Frame} {meth : Method} {c : Code} {L : List Ent} {ca b : Addr} {K Kc : ClassId} {cs : List Value} {f : Bool} {o N : Nat} (hc : (ca, Ar Z .char Kc cs, f) ∈ L)
    (X : Cx WD EL0 p Z s m meth c "java/lang/StringUTF16" "compress" jdk_52_method_21_code 7 (some .int)) : ∀ (suf pre : List Nat) (u : Slot), (u = .unset ∨ ∃ w, u = .val (.int w)) → pre.length + suf.length = N → (∀ c ∈ suf, c < 256) → (∀ (i c : Nat), suf[i]? = some c → cs[o + pre.length + i]? = some (Value.int (Int32.ofNat c))) → o + N < 2 ^ 31 →
    Go WD EL0 p l e R Z s m args below meth c (rvQ fun v M => v = .int (Int32.ofNat N) ∧ M = ow b (Ar Z .byte K (bsOf (pre ++ suf))) :: L) (ow b (Ar Z .byte K (bsOf pre ++ List.replicate suf.length (.int 0))) :: L) 0 0 (mkF m 3 #[.val (.ref ca), .val (.int (Int32.ofNat (o + pre.length))), .val (.ref b), .val (.int (Int32.ofNat pre.length)), .val (.int (Int32.ofNat N)), .val (.int (Int32.ofNat pre.length)), u] []) := by
  intro suf
  induction suf with
  | nil =>
    intro pre u hu hN hlt hcs ho
    have hN : pre.length = N := by simpa using hN
    refine Go.iload X d5_3 rfl ?_
    refine Go.iload X d5_5 rfl ?_
    refine Go.icmp X d5_7 (pt := 44) ⟨by decide, by decide⟩ ?_ ?_
    · intro _
      refine Go.iload X d5_44 rfl ?_
      exact Go.iret X d5_46 (Nat.zero_le _) (Nat.zero_le _) ⟨rfl, by simp⟩
    intro q
    exact absurd (show Int32.ofNat N ≤ Int32.ofNat pre.length by rw [hN]; exact Int32.le_refl _) q
  | cons x suf ih =>
    intro pre u hu hN hlt hcs ho
    have hN' : pre.length + 1 + suf.length = N := by simp at hN; omega
    have hx := hlt x List.mem_cons_self
    have hst : ∀ w, storeLocals #[.val (.ref ca), .val (.int (Int32.ofNat (o + pre.length))), .val (.ref b), .val (.int (Int32.ofNat pre.length)), .val (.int (Int32.ofNat N)), .val (.int (Int32.ofNat pre.length)), u] 6 (.int w) = some #[.val (.ref ca), .val (.int (Int32.ofNat (o + pre.length))), .val (.ref b), .val (.int (Int32.ofNat pre.length)), .val (.int (Int32.ofNat N)), .val (.int (Int32.ofNat pre.length)), .val (.int w)] := by intro w; rcases hu with rfl | ⟨w', rfl⟩ <;> rfl
    obtain ⟨n1, n2, n3⟩ := nat32 (i := pre.length) (by omega)
    obtain ⟨m1, m2, m3⟩ := nat32 (i := o + pre.length) (by omega)
    obtain ⟨k1, k2, k3⟩ := nat32 (i := N) (by omega)
    obtain ⟨x1, x2, x3⟩ := nat32 (i := x) (by omega)
    refine Go.iload X d5_3 rfl ?_
    refine Go.iload X d5_5 rfl ?_
    refine Go.icmp X d5_7 (pt := 44) ⟨by decide, by decide⟩ ?_ ?_
    · intro q
      have q : (N : Int) ≤ pre.length := ccL q n1 k1
      omega
    intro _
    refine Go.aloadN X d5_10 rfl rfl ?_
    refine Go.iloadN X d5_11 rfl ?_
    refine Go.cald X m2 (x := Int32.ofNat x) (fun h H => H.elM (List.mem_cons_of_mem _ hc) (by rw [m3]; simpa using hcs 0 x rfl)) d5_12 ?_
    refine Go.istore X d5_13 (hst _) ?_
    refine Go.iload X d5_15 rfl ?_
    refine Go.sipush X (v := 255) d5_17 (by decide) ?_
    refine Go.icmp X d5_20 (pt := 26) ⟨by decide, by decide⟩ ?_ ?_
    rotate_left
    · intro q
      have q : ¬ (x : Int) ≤ 255 := ccN (b := 255) q x1 rfl
      omega
    intro _
    refine Go.aloadN X d5_26 rfl rfl ?_
    refine Go.iloadN X d5_27 rfl ?_
    refine Go.iload X d5_28 rfl ?_
    refine Go.i2b X d5_30 ?_
    refine Go.bast X (i := 0) rfl n2 (by rw [n3]; simp [bsOf]) (y := (Int32.ofNat x).toInt8.toInt32) (by simp) d5_31 ?_
    have e1 : updL (bsOf pre ++ List.replicate (x :: suf).length (.int 0)) (Int32.ofNat pre.length).toNatClampNeg (.int (Int32.ofNat x).toInt8.toInt32) = bsOf (pre ++ [x]) ++ List.replicate suf.length (.int 0) := by
      rw [n3]
      have := upd_mid (bsOf pre) (List.replicate suf.length (Value.int 0)) (.int 0) (.int (Int32.ofNat x).toInt8.toInt32)
      rw [bs_len] at this
      rw [show (x :: suf).length = suf.length + 1 from rfl, List.replicate_succ, this]
      simp [bsOf]
    rw [upd_zero, e1]
    refine Go.iinc X d5_32 rfl rfl ?_
    refine Go.iinc X d5_35 rfl rfl ?_
    refine Go.iinc X d5_38 rfl rfl ?_
    refine Go.goto X d5_41 (pt := 3) ⟨by decide, by decide⟩ ?_
    have a1 : Int32.ofNat (o + pre.length) + Int32.ofInt 1 = Int32.ofNat (o + (pre ++ [x]).length) := by
      rw [show o + (pre ++ [x]).length = o + pre.length + 1 by simp; omega]; exact (inc_ofNat _).symm
    have a2 : Int32.ofNat pre.length + Int32.ofInt 1 = Int32.ofNat (pre ++ [x]).length := by
      rw [show (pre ++ [x]).length = pre.length + 1 by simp]; exact (inc_ofNat _).symm
    rw [a1, a2]
    have r := ih (pre ++ [x]) (.val (.int (Int32.ofNat x))) (Or.inr ⟨_, rfl⟩) (by simp; omega) (fun c hc => hlt c (List.mem_cons_of_mem _ hc)) (fun i c hi => by
      have := hcs (i + 1) c (by simpa using hi)
      rw [show o + (pre ++ [x]).length + i = o + pre.length + (i + 1) by simp; omega]; exact this) ho
    simpa using r
set_option maxRecDepth 65536 in
set_option maxHeartbeats 4000000 in
theorem s_cmp5 (l : Launch) {Z : State} {a0 : Array Value} (G : Gl a0 Z) {L : List Ent} {ca b : Addr} {K Kc : ClassId} {cs : List Value} {f : Bool} {o : Nat} {cl : List Nat} (hc : (ca, Ar Z .char Kc cs, f) ∈ L) (hlt : ∀ c ∈ cl, c < 256) (hcs : ∀ (i c : Nat), cl[i]? = some c → cs[o + i]? = some (Value.int (Int32.ofNat c))) (ho : o + cl.length < 2 ^ 31) : Ct WD EL0 l Z (⟨"java/lang/StringUTF16", "compress", "([CI[BII)I"⟩ : MethodName) jdk_52_method_21_code 7 (some .int) ({ frames := 0, cells := 0, slots := 0, locals := 0 } : Room) #[.ref ca, .int (Int32.ofNat o), .ref b, .int 0, .int (Int32.ofNat cl.length)] (ow b (Ar Z .byte K (List.replicate cl.length (.int 0))) :: L) (rvQ (fun v M => v = .int (Int32.ofNat cl.length) ∧ M = ow b (Ar Z .byte K (bsOf cl)) :: L)) := by
  refine Ct.intro (by decide +kernel) G.2.1 ?_
  intro p e s m below meth c X
  replace X : Cx WD EL0 p Z s m meth c "java/lang/StringUTF16" "compress" jdk_52_method_21_code 7 (some .int) := X
  refine Go.cast (g' := mkF m 0 #[.val (.ref ca), .val (.int (Int32.ofNat o)), .val (.ref b), .val (.int 0), .val (.int (Int32.ofNat cl.length)), .unset, .unset] []) (by first | rfl | (simp [entryFrame, mkF, argsToLocals, Value.category, maxLocals]; done)) ?_
  refine Go.iconst X (v := 0) d5_0 (by decide) ?_
  refine Go.istore X d5_1 rfl ?_
  have r := s_cmp_loop (p := p) (l := l) (e := e) (R := ({ frames := 0, cells := 0, slots := 0, locals := 0 } : Room)) (args := #[.ref ca, .int (Int32.ofNat o), .ref b, .int 0, .int (Int32.ofNat cl.length)]) (below := below) (b := b) (K := K) (o := o) (N := cl.length) hc X cl [] .unset (Or.inl rfl) (by simp) hlt (by simpa using hcs) ho
  exact r
set_option maxRecDepth 65536 in
set_option maxHeartbeats 4000000 in
theorem s_cmp3 (l : Launch) {Z : State} {a0 : Array Value} (G : Gl a0 Z) {L : List Ent} {ca : Addr} {Kc : ClassId} {cs : List Value} {f : Bool} {o cap : Nat} {cl : List Nat} (hc : (ca, Ar Z .char Kc cs, f) ∈ L) (hlt : ∀ c ∈ cl, c < 256) (hcs : ∀ (i c : Nat), cl[i]? = some c → cs[o + i]? = some (Value.int (Int32.ofNat c))) (ho : o + cl.length < 2 ^ 31) (hcap : cl.length ≤ cap) (hcap2 : cap ≤ 4096) : Ct WD EL0 l Z (⟨"java/lang/StringUTF16", "compress", "([CII)[B"⟩ : MethodName) jdk_52_method_16_code 6 (some (.array .byte)) ({ frames := 1, cells := 1, slots := cap, locals := 18 } : Room) #[.ref ca, .int (Int32.ofNat o), .int (Int32.ofNat cl.length)] L (rvQ (fun v M => ∃ b K, v = .ref b ∧ FcB Z cl K ∧ M = ow b (Ar Z .byte K (bsOf cl)) :: L)) := by
  refine Ct.intro (by decide +kernel) G.2.1 ?_
  intro p e s m below meth c X
  replace X : Cx WD EL0 p Z s m meth c "java/lang/StringUTF16" "compress" jdk_52_method_16_code 6 (some (.array .byte)) := X
  refine Go.cast (g' := mkF m 0 #[.val (.ref ca), .val (.int (Int32.ofNat o)), .val (.int (Int32.ofNat cl.length)), .unset, .unset, .unset] []) (by first | rfl | (simp [entryFrame, mkF, argsToLocals, Value.category, maxLocals]; done)) ?_
  refine Go.iloadN X d4_0 rfl ?_
  obtain ⟨n1, n2, n3⟩ := nat32 (i := cl.length) (by omega)
  refine Go.newarrF X (aty := .byte) (N := cl.length) (cap := cap) (w19 G) n2 n3 hcap (by omega) d4_1 (by first | exact Nat.le_of_ble_eq_true rfl | (simp; done) | (simp; omega)) (by first | exact Nat.le_of_ble_eq_true rfl | (simp; done) | (simp; omega)) ?_
  intro b K hK
  refine Go.astoreN X d4_3 rfl rfl ?_
  refine Go.aloadN X d4_4 rfl rfl ?_
  refine Go.iloadN X d4_5 rfl ?_
  refine Go.aloadN X d4_6 rfl rfl ?_
  refine Go.iconst X (v := 0) d4_7 (by decide) ?_
  refine Go.iloadN X d4_8 rfl ?_
  refine Go.callS X (s_cmp5 l G (L := L) (b := b) (K := K) (o := o) (cl := cl) hc hlt hcs ho) (rest := []) (w20 G) (w21 G) (w17 G) (w22 G) (by decide) pd1 rfl rfl d4_9 rfl (Nat.le_of_ble_eq_true rfl) (Nat.le_of_ble_eq_true rfl) (by first | exact Nat.le_of_ble_eq_true rfl | (simp; done) | (simp; omega)) (by first | exact Nat.le_of_ble_eq_true rfl | (simp; done) | (simp; omega)) (Kv ?_)
  rintro v M ⟨rfl, rfl⟩
  refine Go.istore X d4_12 rfl ?_
  refine Go.iload X d4_14 rfl ?_
  refine Go.iloadN X d4_16 rfl ?_
  refine Go.icmp X d4_17 (pt := 57) ⟨by decide, by decide⟩ ?_ ?_
  · intro _
    refine Go.aloadN X d4_57 rfl rfl ?_
    exact Go.aret X d4_58 (by rfl) (by rfl) (by rfl) (by first | exact Nat.le_of_ble_eq_true rfl | (simp; done) | (simp; omega)) (by first | exact Nat.le_of_ble_eq_true rfl | (simp; done) | (simp; omega)) ⟨b, K, rfl, Or.inr hK, rfl⟩
  intro q
  exact absurd rfl q
set_option maxRecDepth 65536 in
set_option maxHeartbeats 4000000 in
theorem s_initV (l : Launch) {Z : State} {a0 : Array Value} (G : Gl a0 Z) {L : List Ent} {a ca : Addr} {Kc : ClassId} {cs : List Value} {f : Bool} {o cap : Nat} {cl : List Nat} (hc : (ca, Ar Z .char Kc cs, f) ∈ L) (hlt : ∀ c ∈ cl, c < 256) (hcs : ∀ (i c : Nat), cl[i]? = some c → cs[o + i]? = some (Value.int (Int32.ofNat c))) (ho : o + cl.length < 2 ^ 31) (hcap : cl.length ≤ cap) (hcap2 : cap ≤ 4096) : Ct WD EL0 l Z (⟨"java/lang/String", "<init>", "([CIILjava/lang/Void;)V"⟩ : MethodName) jdk_42_method_149_code 6 none ({ frames := 2, cells := 4, slots := cap + 8, locals := 35 } : Room) #[.ref a, .ref ca, .int (Int32.ofNat o), .int (Int32.ofNat cl.length), .null] (ow a (Ob Z "java/lang/String" ns0 [.int 0, .null, .int 0, .int 0]) :: L) (r0Q (fun M => ∃ b K f, FcB Z cl K ∧ M = (b, Ar Z .byte K (bsOf cl), f) :: ow a (Ob Z "java/lang/String" ns0 [.int 0, .ref b, .int 0, .int 0]) :: L)) := by
  refine Ct.intro (by decide +kernel) G.2.1 ?_
  intro p e s m below meth c X
  replace X : Cx WD EL0 p Z s m meth c "java/lang/String" "<init>" jdk_42_method_149_code 6 none := X
  refine Go.cast (g' := mkF m 0 #[.val (.ref a), .val (.ref ca), .val (.int (Int32.ofNat o)), .val (.int (Int32.ofNat cl.length)), .val .null, .unset] []) (by first | rfl | (simp [entryFrame, mkF, argsToLocals, Value.category, maxLocals]; done)) ?_
  refine Go.aloadN X d2_0 rfl rfl ?_
  refine Go.initObj X (w11 G) (w12 G) (w13 G) d2_1 rfl (Nat.le_of_ble_eq_true rfl) (Nat.le_of_ble_eq_true rfl) ?_
  refine Go.iloadN X d2_4 rfl ?_
  obtain ⟨n1, n2, n3⟩ := nat32 (i := cl.length) (by omega)
  refine Go.ifc X d2_5 (pt := 27) ⟨by decide, by decide⟩ ?_ ?_
  rotate_left
  · intro q
    have q : cl.length = 0 := by have := Decidable.of_not_not (ccN (a := cl.length) (b := 0) q n1 rfl); omega
    obtain rfl : cl = [] := List.eq_nil_of_length_eq_zero q
    refine Go.aloadN X d2_8 rfl rfl ?_
    refine Go.ldcS X (text := "") (vs := []) (z := 0) (N := 0) (w135 G) (sAtoms G) (by decide) ⟨by decide, by decide⟩ (by decide) (by decide) d2_9 (by decide) (by decide) (by first | exact Nat.le_of_ble_eq_true rfl | (simp; done) | (simp; omega)) (by first | exact Nat.le_of_ble_eq_true rfl | (simp; done) | (simp; omega)) ?_
    intro a1 b1 K1
    refine Go.getFld X (w28 G) Via.refl (fun h H => (H.ltC (i := 0) rfl).2.2) d2_11 ?_
    refine Go.putFld X (i := 2) rfl (j := 1) rfl (lay0 G) (w28 G) Via.refl (Or.inr ⟨(w29 G), rfl, rfl⟩) (w2 G) pf0 d2_14 (by rfl) (by rfl) ?_
    refine Go.aloadN X d2_17 rfl rfl ?_
    refine Go.ldcS X (text := "") (vs := []) (z := 0) (N := 0) (w135 G) (sAtoms G) (by decide) ⟨by decide, by decide⟩ (by decide) (by decide) d2_18 (by decide) (by decide) (by first | exact Nat.le_of_ble_eq_true rfl | (simp; done) | (simp; omega)) (by first | exact Nat.le_of_ble_eq_true rfl | (simp; done) | (simp; omega)) ?_
    intro a2 b2 K2
    refine Go.getFld X (w26 G) Via.refl (fun h H => (H.ltC (i := 0) rfl).2.1) d2_20 ?_
    refine Go.putFld X (i := 4) rfl (j := 0) rfl (lay0 G) (w26 G) Via.refl (Or.inr ⟨(w27 G), rfl, rfl⟩) (w2 G) pf1 d2_23 (by rfl) (by rfl) ?_
    refine Go.drop (Go.drop (Go.drop ?_))
    exact Go.ret0 X d2_26 (by first | exact Nat.le_of_ble_eq_true rfl | (simp; done) | (simp; omega)) (by first | exact Nat.le_of_ble_eq_true rfl | (simp; done) | (simp; omega)) ⟨b1, K1, false, Or.inl rfl, rfl⟩
  intro q
  have q : cl.length ≠ 0 := by have := ccL (a := cl.length) (b := 0) q n1 rfl; intro z; exact this (by rw [z]; rfl)
  obtain ⟨cst, hcst, Fcst⟩ := g_cs G
  refine Go.getSta X (w14 G) Via.refl Fcst d2_27 ?_
  refine Go.ifc X d2_30 (pt := 58) ⟨by decide, by decide⟩ ?_ ?_
  · intro q; exact absurd q hcst
  intro _
  refine Go.aloadN X d2_33 rfl rfl ?_
  refine Go.iloadN X d2_34 rfl ?_
  refine Go.iloadN X d2_35 rfl ?_
  refine Go.callS X (s_cmp3 l G (o := o) (cap := cap) (cl := cl) (List.mem_cons_of_mem _ hc) hlt hcs ho hcap hcap2) (rest := []) (w15 G) (w16 G) (w17 G) (w18 G) (by decide) pd2 rfl rfl d2_36 rfl (Nat.le_of_ble_eq_true rfl) (Nat.le_of_ble_eq_true rfl) (by first | exact Nat.le_of_ble_eq_true rfl | (simp; done) | (simp; omega)) (by first | exact Nat.le_of_ble_eq_true rfl | (simp; done) | (simp; omega)) (Kv ?_)
  rintro v M ⟨b, K, rfl, hK, rfl⟩
  refine Go.astore X d2_39 rfl rfl ?_
  refine Go.aloadN X d2_41 rfl rfl ?_
  refine Go.aload X d2_42 rfl rfl ?_
  refine Go.iloadN X d2_44 rfl ?_
  refine Go.callS X ((bs_len cl) ▸ s_coderlen l G (L := ow b (Ar Z .byte K (bsOf cl)) :: ow a (Ob Z "java/lang/String" ns0 [.int 0, .null, .int 0, .int 0]) :: L) (vs := bsOf cl) (List.mem_cons_self)) (rest := [.ref a]) (w23 G) (w24 G) (w17 G) (w25 G) (by decide) pd3 rfl rfl d2_45 rfl (Nat.le_of_ble_eq_true rfl) (Nat.le_of_ble_eq_true rfl) (by first | exact Nat.le_of_ble_eq_true rfl | (simp; done) | (simp; omega)) (by first | exact Nat.le_of_ble_eq_true rfl | (simp; done) | (simp; omega)) (Kv ?_)
  rintro v M ⟨rfl, rfl⟩
  refine Go.putFld X (i := 1) rfl (j := 0) rfl (lay0 G) (w26 G) Via.refl (Or.inr ⟨(w27 G), rfl, rfl⟩) (w2 G) pf1 d2_48 (by rfl) (by rfl) ?_
  refine Go.aloadN X d2_51 rfl rfl ?_
  refine Go.aload X d2_52 rfl rfl ?_
  refine Go.putFld X (i := 1) rfl (j := 1) rfl (lay0 G) (w28 G) Via.refl (Or.inr ⟨(w29 G), rfl, rfl⟩) (w2 G) pf0 d2_54 (by rfl) (by rfl) ?_
  exact Go.ret0 X d2_57 (by first | exact Nat.le_of_ble_eq_true rfl | (simp; done) | (simp; omega)) (by first | exact Nat.le_of_ble_eq_true rfl | (simp; done) | (simp; omega)) ⟨b, K, true, hK, rfl⟩
-- %%% strings 2
theorem w7 {a0 : Array Value} {Z : State} (G : Gl a0 Z) : (Jvm.Cond.methodLink "java/lang/String" (27 : Nat) ({ cls := "java/lang/String", name := "<init>", desc := "([CIILjava/lang/Void;)V" } : Jvm.MethodName)).before a0 Z = true := G.1 _ (List.mem_of_getElem? (i := 7) rfl)
theorem w8 {a0 : Array Value} {Z : State} (G : Gl a0 Z) : (Jvm.Cond.instanceMethod ({ cls := "java/lang/String", name := "<init>", desc := "([CIILjava/lang/Void;)V" } : Jvm.MethodName)).before a0 Z = true := G.1 _ (List.mem_of_getElem? (i := 8) rfl)
theorem w10 {a0 : Array Value} {Z : State} (G : Gl a0 Z) : (Jvm.Cond.code ({ cls := "java/lang/String", name := "<init>", desc := "([CIILjava/lang/Void;)V" } : Jvm.MethodName) jdk_42_method_149_code (6 : Nat) (Option.none : Option Jvm.ClassFile.FieldType)).before a0 Z = true := G.1 _ (List.mem_of_getElem? (i := 10) rfl)
theorem w60 {a0 : Array Value} {Z : State} (G : Gl a0 Z) : (Jvm.Cond.methodLink "java/lang/String" (30 : Nat) ({ cls := "java/lang/String", name := "rangeCheck", desc := "([CII)Ljava/lang/Void;" } : Jvm.MethodName)).before a0 Z = true := G.1 _ (List.mem_of_getElem? (i := 60) rfl)
theorem w61 {a0 : Array Value} {Z : State} (G : Gl a0 Z) : (Jvm.Cond.static ({ cls := "java/lang/String", name := "rangeCheck", desc := "([CII)Ljava/lang/Void;" } : Jvm.MethodName)).before a0 Z = true := G.1 _ (List.mem_of_getElem? (i := 61) rfl)
theorem w62 {a0 : Array Value} {Z : State} (G : Gl a0 Z) : (Jvm.Cond.code ({ cls := "java/lang/String", name := "rangeCheck", desc := "([CII)Ljava/lang/Void;" } : Jvm.MethodName) jdk_42_method_5_code (3 : Nat) (Option.some (Jvm.ClassFile.FieldType.object "java/lang/Void"))).before a0 Z = true := G.1 _ (List.mem_of_getElem? (i := 62) rfl)
theorem w63 {a0 : Array Value} {Z : State} (G : Gl a0 Z) : (Jvm.Cond.methodLink "java/lang/String" (34 : Nat) ({ cls := "java/lang/String", name := "checkBoundsOffCount", desc := "(III)I" } : Jvm.MethodName)).before a0 Z = true := G.1 _ (List.mem_of_getElem? (i := 63) rfl)
theorem w64 {a0 : Array Value} {Z : State} (G : Gl a0 Z) : (Jvm.Cond.static ({ cls := "java/lang/String", name := "checkBoundsOffCount", desc := "(III)I" } : Jvm.MethodName)).before a0 Z = true := G.1 _ (List.mem_of_getElem? (i := 64) rfl)
theorem w65 {a0 : Array Value} {Z : State} (G : Gl a0 Z) : (Jvm.Cond.code ({ cls := "java/lang/String", name := "checkBoundsOffCount", desc := "(III)I" } : Jvm.MethodName) jdk_42_method_157_code (3 : Nat) (Option.some Jvm.ClassFile.FieldType.int)).before a0 Z = true := G.1 _ (List.mem_of_getElem? (i := 65) rfl)
theorem w66 {a0 : Array Value} {Z : State} (G : Gl a0 Z) : (Jvm.Cond.fieldLink "java/lang/String" (1053 : Nat) "jdk/internal/util/Preconditions" "SIOOBE_FORMATTER" "Ljava/util/function/BiFunction;").before a0 Z = true := G.1 _ (List.mem_of_getElem? (i := 66) rfl)
theorem w67 {a0 : Array Value} {Z : State} (G : Gl a0 Z) : (Jvm.Cond.initialized "jdk/internal/util/Preconditions").before a0 Z = true := G.1 _ (List.mem_of_getElem? (i := 67) rfl)
theorem w68 {a0 : Array Value} {Z : State} (G : Gl a0 Z) : (Jvm.Cond.methodLink "java/lang/String" (1065 : Nat) ({ cls := "jdk/internal/util/Preconditions", name := "checkFromIndexSize", desc := "(IIILjava/util/function/BiFunction;)I" } : Jvm.MethodName)).before a0 Z = true := G.1 _ (List.mem_of_getElem? (i := 68) rfl)
theorem w69 {a0 : Array Value} {Z : State} (G : Gl a0 Z) : (Jvm.Cond.static ({ cls := "jdk/internal/util/Preconditions", name := "checkFromIndexSize", desc := "(IIILjava/util/function/BiFunction;)I" } : Jvm.MethodName)).before a0 Z = true := G.1 _ (List.mem_of_getElem? (i := 69) rfl)
theorem w70 {a0 : Array Value} {Z : State} (G : Gl a0 Z) : (Jvm.Cond.code ({ cls := "jdk/internal/util/Preconditions", name := "checkFromIndexSize", desc := "(IIILjava/util/function/BiFunction;)I" } : Jvm.MethodName) jdk_41_method_13_code (4 : Nat) (Option.some Jvm.ClassFile.FieldType.int)).before a0 Z = true := G.1 _ (List.mem_of_getElem? (i := 70) rfl)
theorem d1_0 : D1 jdk_42_method_3_code 0 (.aload_n 0) 1 1 := ⟨by decide +kernel, rfl⟩
theorem d1_1 : D1 jdk_42_method_3_code 1 (.aload_n 1) 1 2 := ⟨by decide +kernel, rfl⟩
theorem d1_2 : D1 jdk_42_method_3_code 2 (.iconst 0) 1 3 := ⟨by decide +kernel, rfl⟩
theorem d1_3 : D1 jdk_42_method_3_code 3 (.aload_n 1) 1 4 := ⟨by decide +kernel, rfl⟩
theorem d1_4 : D1 jdk_42_method_3_code 4 (.arraylength) 1 5 := ⟨by decide +kernel, rfl⟩
theorem d1_5 : D1 jdk_42_method_3_code 5 (.aconst_null) 1 6 := ⟨by decide +kernel, rfl⟩
theorem d1_6 : D1 jdk_42_method_3_code 6 (.invokespecial 27) 3 9 := ⟨by decide +kernel, rfl⟩
theorem d1_9 : D1 jdk_42_method_3_code 9 (.return_) 1 10 := ⟨by decide +kernel, rfl⟩
theorem d10_0 : D1 jdk_42_method_4_code 0 (.aload_n 0) 1 1 := ⟨by decide +kernel, rfl⟩
theorem d10_1 : D1 jdk_42_method_4_code 1 (.aload_n 1) 1 2 := ⟨by decide +kernel, rfl⟩
theorem d10_2 : D1 jdk_42_method_4_code 2 (.iload_n 2) 1 3 := ⟨by decide +kernel, rfl⟩
theorem d10_3 : D1 jdk_42_method_4_code 3 (.iload_n 3) 1 4 := ⟨by decide +kernel, rfl⟩
theorem d10_4 : D1 jdk_42_method_4_code 4 (.aload_n 1) 1 5 := ⟨by decide +kernel, rfl⟩
theorem d10_5 : D1 jdk_42_method_4_code 5 (.iload_n 2) 1 6 := ⟨by decide +kernel, rfl⟩
theorem d10_6 : D1 jdk_42_method_4_code 6 (.iload_n 3) 1 7 := ⟨by decide +kernel, rfl⟩
theorem d10_7 : D1 jdk_42_method_4_code 7 (.invokestatic 30) 3 10 := ⟨by decide +kernel, rfl⟩
theorem d10_10 : D1 jdk_42_method_4_code 10 (.invokespecial 27) 3 13 := ⟨by decide +kernel, rfl⟩
theorem d10_13 : D1 jdk_42_method_4_code 13 (.return_) 1 14 := ⟨by decide +kernel, rfl⟩
theorem d11_0 : D1 jdk_42_method_5_code 0 (.iload_n 1) 1 1 := ⟨by decide +kernel, rfl⟩
theorem d11_1 : D1 jdk_42_method_5_code 1 (.iload_n 2) 1 2 := ⟨by decide +kernel, rfl⟩
theorem d11_2 : D1 jdk_42_method_5_code 2 (.aload_n 0) 1 3 := ⟨by decide +kernel, rfl⟩
theorem d11_3 : D1 jdk_42_method_5_code 3 (.arraylength) 1 4 := ⟨by decide +kernel, rfl⟩
theorem d11_4 : D1 jdk_42_method_5_code 4 (.invokestatic 34) 3 7 := ⟨by decide +kernel, rfl⟩
theorem d11_7 : D1 jdk_42_method_5_code 7 (.pop) 1 8 := ⟨by decide +kernel, rfl⟩
theorem d11_8 : D1 jdk_42_method_5_code 8 (.aconst_null) 1 9 := ⟨by decide +kernel, rfl⟩
theorem d11_9 : D1 jdk_42_method_5_code 9 (.areturn) 1 10 := ⟨by decide +kernel, rfl⟩
theorem d12_0 : D1 jdk_42_method_157_code 0 (.iload_n 0) 1 1 := ⟨by decide +kernel, rfl⟩
theorem d12_1 : D1 jdk_42_method_157_code 1 (.iload_n 1) 1 2 := ⟨by decide +kernel, rfl⟩
theorem d12_2 : D1 jdk_42_method_157_code 2 (.iload_n 2) 1 3 := ⟨by decide +kernel, rfl⟩
theorem d12_3 : D1 jdk_42_method_157_code 3 (.getstatic 1053) 3 6 := ⟨by decide +kernel, rfl⟩
theorem d12_6 : D1 jdk_42_method_157_code 6 (.invokestatic 1065) 3 9 := ⟨by decide +kernel, rfl⟩
theorem d12_9 : D1 jdk_42_method_157_code 9 (.ireturn) 1 10 := ⟨by decide +kernel, rfl⟩
theorem d13_0 : D1 jdk_41_method_13_code 0 (.iload_n 2) 1 1 := ⟨by decide +kernel, rfl⟩
theorem d13_1 : D1 jdk_41_method_13_code 1 (.iload_n 0) 1 2 := ⟨by decide +kernel, rfl⟩
theorem d13_2 : D1 jdk_41_method_13_code 2 (.ior) 1 3 := ⟨by decide +kernel, rfl⟩
theorem d13_3 : D1 jdk_41_method_13_code 3 (.iload_n 1) 1 4 := ⟨by decide +kernel, rfl⟩
theorem d13_4 : D1 jdk_41_method_13_code 4 (.ior) 1 5 := ⟨by decide +kernel, rfl⟩
theorem d13_5 : D1 jdk_41_method_13_code 5 (.ifCond .lt 10) 3 8 := ⟨by decide +kernel, rfl⟩
theorem d13_8 : D1 jdk_41_method_13_code 8 (.iload_n 1) 1 9 := ⟨by decide +kernel, rfl⟩
theorem d13_9 : D1 jdk_41_method_13_code 9 (.iload_n 2) 1 10 := ⟨by decide +kernel, rfl⟩
theorem d13_10 : D1 jdk_41_method_13_code 10 (.iload_n 0) 1 11 := ⟨by decide +kernel, rfl⟩
theorem d13_11 : D1 jdk_41_method_13_code 11 (.isub) 1 12 := ⟨by decide +kernel, rfl⟩
theorem d13_12 : D1 jdk_41_method_13_code 12 (.if_icmp .le 11) 3 15 := ⟨by decide +kernel, rfl⟩
theorem d13_23 : D1 jdk_41_method_13_code 23 (.iload_n 0) 1 24 := ⟨by decide +kernel, rfl⟩
theorem d13_24 : D1 jdk_41_method_13_code 24 (.ireturn) 1 25 := ⟨by decide +kernel, rfl⟩
theorem pd4 : parseMethodDescriptor "(IIILjava/util/function/BiFunction;)I" = some ⟨[.int, .int, .int, (.object "java/util/function/BiFunction")], some .int⟩ := by decide +kernel
theorem pd5 : parseMethodDescriptor "(III)I" = some ⟨[.int, .int, .int], some .int⟩ := by decide +kernel
theorem pd6 : parseMethodDescriptor "([CII)Ljava/lang/Void;" = some ⟨[(.array .char), .int, .int], some (.object "java/lang/Void")⟩ := by decide +kernel
theorem pd7 : parseMethodDescriptor "([CIILjava/lang/Void;)V" = some ⟨[(.array .char), .int, .int, (.object "java/lang/Void")], none⟩ := by decide +kernel
theorem or_nonneg {x y : Int32} (hx : ¬ x < 0) (hy : ¬ y < 0) : ¬ (x ||| y) < 0 := by
  have key : ∀ z : Int32, ¬ z < 0 ↔ z.toBitVec.msb = false := fun z => by
    rw [Int32.lt_iff_toInt_lt, show (0 : Int32).toInt = 0 from rfl, ← Int32.toInt_toBitVec, BitVec.toInt_neg_iff]
    simp [BitVec.msb_eq_decide]; omega
  rw [key] at hx hy ⊢
  rw [Int32.toBitVec_or, BitVec.msb_or, hx, hy]; rfl
set_option maxRecDepth 65536 in
set_option maxHeartbeats 4000000 in
theorem s_cfis (l : Launch) {Z : State} {a0 : Array Value} (G : Gl a0 Z) {L : List Ent} {v3 : Value} (h3 : v3.category = 1) (N M : Nat) (hNM : N ≤ M) (hM : M < 2 ^ 31) : Ct WD EL0 l Z (⟨"jdk/internal/util/Preconditions", "checkFromIndexSize", "(IIILjava/util/function/BiFunction;)I"⟩ : MethodName) jdk_41_method_13_code 4 (some .int) ({ frames := 0, cells := 0, slots := 0, locals := 0 } : Room) #[.int 0, .int (Int32.ofNat N), .int (Int32.ofNat M), v3] L (rvQ (fun v W => v = .int 0 ∧ W = L)) := by
  refine Ct.intro (by decide +kernel) G.2.1 ?_
  intro p e s m below meth c X
  replace X : Cx WD EL0 p Z s m meth c "jdk/internal/util/Preconditions" "checkFromIndexSize" jdk_41_method_13_code 4 (some .int) := X
  refine Go.cast (g' := mkF m 0 #[.val (.int 0), .val (.int (Int32.ofNat N)), .val (.int (Int32.ofNat M)), .val v3] []) (by first | rfl | (cases v3 <;> first | rfl | (simp [Value.category] at h3; done)) | (simp [entryFrame, mkF, argsToLocals, Value.category, maxLocals]; done)) ?_
  obtain ⟨n1, n2, n3⟩ := nat32 (i := N) (by omega)
  obtain ⟨m1, m2, m3⟩ := nat32 (i := M) hM
  refine Go.iloadN X d13_0 rfl ?_
  refine Go.iloadN X d13_1 rfl ?_
  refine Go.ior X d13_2 ?_
  refine Go.iloadN X d13_3 rfl ?_
  refine Go.ior X d13_4 ?_
  refine Go.ifc X d13_5 (pt := 15) ⟨by decide, by decide⟩ ?_ ?_
  · intro q; exact absurd q (or_nonneg (or_nonneg m2 (by decide)) n2)
  intro _
  refine Go.iloadN X d13_8 rfl ?_
  refine Go.iloadN X d13_9 rfl ?_
  refine Go.iloadN X d13_10 rfl ?_
  refine Go.isub X d13_11 ?_
  refine Go.icmp X d13_12 (pt := 23) ⟨by decide, by decide⟩ ?_ ?_
  rotate_left
  · intro q
    exact absurd (show Int32.ofNat N ≤ Int32.ofNat M - 0 by rw [Int32.sub_zero, Int32.le_iff_toInt_le, n1, m1]; omega) q
  intro _
  refine Go.iloadN X d13_23 rfl ?_
  exact Go.iret X d13_24 (Nat.zero_le _) (Nat.zero_le _) ⟨rfl, rfl⟩
set_option maxRecDepth 65536 in
set_option maxHeartbeats 4000000 in
theorem s_cboc (l : Launch) {Z : State} {a0 : Array Value} (G : Gl a0 Z) {L : List Ent} (N M : Nat) (hNM : N ≤ M) (hM : M < 2 ^ 31) : Ct WD EL0 l Z (⟨"java/lang/String", "checkBoundsOffCount", "(III)I"⟩ : MethodName) jdk_42_method_157_code 3 (some .int) ({ frames := 1, cells := 0, slots := 0, locals := 15 } : Room) #[.int 0, .int (Int32.ofNat N), .int (Int32.ofNat M)] L (rvQ (fun v W => v = .int 0 ∧ W = L)) := by
  refine Ct.intro (by decide +kernel) G.2.1 ?_
  intro p e s m below meth c X
  replace X : Cx WD EL0 p Z s m meth c "java/lang/String" "checkBoundsOffCount" jdk_42_method_157_code 3 (some .int) := X
  refine Go.cast (g' := mkF m 0 #[.val (.int 0), .val (.int (Int32.ofNat N)), .val (.int (Int32.ofNat M))] []) (by first | rfl | (simp [entryFrame, mkF, argsToLocals, Value.category, maxLocals]; done)) ?_
  obtain ⟨v3, h3, F3⟩ := g_sf G
  refine Go.iloadN X d12_0 rfl ?_
  refine Go.iloadN X d12_1 rfl ?_
  refine Go.iloadN X d12_2 rfl ?_
  refine Go.getSta X (w66 G) Via.refl F3 d12_3 ?_
  refine Go.callS X (s_cfis l G (v3 := v3) h3 N M hNM hM) (rest := []) (w68 G) (w69 G) (w67 G) (w70 G) (by decide) pd4 rfl rfl d12_6 rfl (Nat.le_of_ble_eq_true rfl) (Nat.le_of_ble_eq_true rfl) (Nat.le_of_ble_eq_true rfl) (Nat.le_of_ble_eq_true rfl) (Kv ?_)
  rintro v W ⟨rfl, rfl⟩
  exact Go.iret X d12_9 (Nat.zero_le _) (Nat.zero_le _) ⟨rfl, rfl⟩
set_option maxRecDepth 65536 in
set_option maxHeartbeats 4000000 in
theorem s_range (l : Launch) {Z : State} {a0 : Array Value} (G : Gl a0 Z) {L : List Ent} {ca : Addr} {Kc : ClassId} {cs : List Value} {f : Bool} (hc : (ca, Ar Z .char Kc cs, f) ∈ L) (N : Nat) (hN : N ≤ cs.length) : Ct WD EL0 l Z (⟨"java/lang/String", "rangeCheck", "([CII)Ljava/lang/Void;"⟩ : MethodName) jdk_42_method_5_code 3 (some (.object "java/lang/Void")) ({ frames := 2, cells := 0, slots := 0, locals := 29 } : Room) #[.ref ca, .int 0, .int (Int32.ofNat N)] L (rvQ (fun v W => v = .null ∧ W = L)) := by
  refine Ct.intro (by decide +kernel) G.2.1 ?_
  intro p e s m below meth c X
  replace X : Cx WD EL0 p Z s m meth c "java/lang/String" "rangeCheck" jdk_42_method_5_code 3 (some (.object "java/lang/Void")) := X
  refine Go.cast (g' := mkF m 0 #[.val (.ref ca), .val (.int 0), .val (.int (Int32.ofNat N))] []) (by first | rfl | (simp [entryFrame, mkF, argsToLocals, Value.category, maxLocals]; done)) ?_
  refine Go.iloadN X d11_0 rfl ?_
  refine Go.iloadN X d11_1 rfl ?_
  refine Go.aloadN X d11_2 rfl rfl ?_
  refine Go.fact (fun h H => len_small H hc) fun hM => ?_
  refine Go.alenA X (fun h H => H.lenM hc) d11_3 ?_
  refine Go.callS X (s_cboc l G N cs.length hN hM) (rest := []) (w63 G) (w64 G) (w3 G) (w65 G) (by decide) pd5 rfl rfl d11_4 rfl (Nat.le_of_ble_eq_true rfl) (Nat.le_of_ble_eq_true rfl) (Nat.le_of_ble_eq_true rfl) (Nat.le_of_ble_eq_true rfl) (Kv ?_)
  rintro v W ⟨rfl, rfl⟩
  refine Go.pop X d11_7 rfl ?_
  refine Go.aconstNull X d11_8 ?_
  exact Go.aret X d11_9 (by rfl) (by rfl) (by rfl) (Nat.zero_le _) (Nat.zero_le _) ⟨rfl, rfl⟩
set_option maxRecDepth 65536 in
set_option maxHeartbeats 4000000 in
theorem s_init3 (l : Launch) {Z : State} {a0 : Array Value} (G : Gl a0 Z) {L : List Ent} {a ca : Addr} {Kc : ClassId} {cs : List Value} {f : Bool} {cap : Nat} {cl : List Nat} (hc : (ca, Ar Z .char Kc cs, f) ∈ L) (hlt : ∀ c ∈ cl, c < 256) (hcs : ∀ (i c : Nat), cl[i]? = some c → cs[i]? = some (Value.int (Int32.ofNat c))) (hN : cl.length ≤ cs.length) (hcap : cl.length ≤ cap) (hcap2 : cap ≤ 4096) : Ct WD EL0 l Z (⟨"java/lang/String", "<init>", "([CII)V"⟩ : MethodName) jdk_42_method_4_code 4 none ({ frames := 3, cells := 4, slots := cap + 8, locals := 53 } : Room) #[.ref a, .ref ca, .int 0, .int (Int32.ofNat cl.length)] (ow a (Ob Z "java/lang/String" ns0 [.int 0, .null, .int 0, .int 0]) :: L) (r0Q (fun M => ∃ b K f, FcB Z cl K ∧ M = (b, Ar Z .byte K (bsOf cl), f) :: ow a (Ob Z "java/lang/String" ns0 [.int 0, .ref b, .int 0, .int 0]) :: L)) := by
  refine Ct.intro (by decide +kernel) G.2.1 ?_
  intro p e s m below meth c X
  replace X : Cx WD EL0 p Z s m meth c "java/lang/String" "<init>" jdk_42_method_4_code 4 none := X
  refine Go.cast (g' := mkF m 0 #[.val (.ref a), .val (.ref ca), .val (.int 0), .val (.int (Int32.ofNat cl.length))] []) (by first | rfl | (simp [entryFrame, mkF, argsToLocals, Value.category, maxLocals]; done)) ?_
  refine Go.aloadN X d10_0 rfl rfl ?_
  refine Go.aloadN X d10_1 rfl rfl ?_
  refine Go.iloadN X d10_2 rfl ?_
  refine Go.iloadN X d10_3 rfl ?_
  refine Go.aloadN X d10_4 rfl rfl ?_
  refine Go.iloadN X d10_5 rfl ?_
  refine Go.iloadN X d10_6 rfl ?_
  refine Go.callS X (s_range l G (List.mem_cons_of_mem _ hc) cl.length hN) (rest := [.int (Int32.ofNat cl.length), .int 0, .ref ca, .ref a]) (w60 G) (w61 G) (w3 G) (w62 G) (by decide) pd6 rfl rfl d10_7 rfl (by first | exact Nat.le_of_ble_eq_true rfl | (simp; done) | (simp; omega)) (by first | exact Nat.le_of_ble_eq_true rfl | (simp; done) | (simp; omega)) (by first | exact Nat.le_of_ble_eq_true rfl | (simp; done) | (simp; omega)) (by first | exact Nat.le_of_ble_eq_true rfl | (simp; done) | (simp; omega)) (Kv ?_)
  rintro v W ⟨rfl, rfl⟩
  refine Go.fact (fun h H => len_small H (List.mem_cons_of_mem _ hc)) fun hM => ?_
  refine Go.callI X (s_initV l G (o := 0) (cap := cap) (cl := cl) hc hlt (by simpa using hcs) (by omega) hcap hcap2) rfl (rest := []) (w7 G) (w8 G) (w3 G) (w10 G) (by decide) pd7 rfl rfl d10_10 rfl (by first | exact Nat.le_of_ble_eq_true rfl | (simp; done) | (simp; omega)) (by first | exact Nat.le_of_ble_eq_true rfl | (simp; done) | (simp; omega)) (by first | exact Nat.le_of_ble_eq_true rfl | (simp; done) | (simp; omega)) (by first | exact Nat.le_of_ble_eq_true rfl | (simp; done) | (simp; omega)) (K0 ?_)
  rintro M ⟨b, K, f, hK, rfl⟩
  exact Go.ret0 X d10_13 (by first | exact Nat.le_of_ble_eq_true rfl | (simp; done) | (simp; omega)) (by first | exact Nat.le_of_ble_eq_true rfl | (simp; done) | (simp; omega)) ⟨b, K, f, hK, rfl⟩
set_option maxRecDepth 65536 in
set_option maxHeartbeats 4000000 in
theorem s_initC (l : Launch) {Z : State} {a0 : Array Value} (G : Gl a0 Z) {L : List Ent} {a ca : Addr} {Kc : ClassId} {f : Bool} {cap : Nat} {cl : List Nat} (hc : (ca, Ar Z .char Kc (csOf cl), f) ∈ L) (hlt : ∀ c ∈ cl, c < 256) (hcap : cl.length ≤ cap) (hcap2 : cap ≤ 4096) : Ct WD EL0 l Z (⟨"java/lang/String", "<init>", "([C)V"⟩ : MethodName) jdk_42_method_3_code 2 none ({ frames := 3, cells := 4, slots := cap + 8, locals := 53 } : Room) #[.ref a, .ref ca] (ow a (Ob Z "java/lang/String" ns0 [.int 0, .null, .int 0, .int 0]) :: L) (r0Q (fun M => ∃ b K f, FcB Z cl K ∧ M = (b, Ar Z .byte K (bsOf cl), f) :: ow a (Ob Z "java/lang/String" ns0 [.int 0, .ref b, .int 0, .int 0]) :: L)) := by
  refine Ct.intro (by decide +kernel) G.2.1 ?_
  intro p e s m below meth c X
  replace X : Cx WD EL0 p Z s m meth c "java/lang/String" "<init>" jdk_42_method_3_code 2 none := X
  refine Go.cast (g' := mkF m 0 #[.val (.ref a), .val (.ref ca)] []) (by first | rfl | (simp [entryFrame, mkF, argsToLocals, Value.category, maxLocals]; done)) ?_
  refine Go.aloadN X d1_0 rfl rfl ?_
  refine Go.aloadN X d1_1 rfl rfl ?_
  refine Go.iconst X (v := 0) d1_2 (by decide) ?_
  refine Go.aloadN X d1_3 rfl rfl ?_
  refine Go.alenA X (fun h H => H.lenM (List.mem_cons_of_mem _ hc)) d1_4 ?_
  rw [show (csOf cl).length.toInt32 = Int32.ofNat cl.length by simp [csOf]]
  refine Go.aconstNull X d1_5 ?_
  refine Go.fact (fun h H => len_small H (List.mem_cons_of_mem _ hc)) fun hM => ?_
  have hM : cl.length < 2 ^ 31 := by simpa [csOf] using hM
  refine Go.callI X (s_initV l G (o := 0) (cap := cap) (cl := cl) hc hlt (fun i c h => by simp [csOf, h]) (by omega) hcap hcap2) rfl (rest := []) (w7 G) (w8 G) (w3 G) (w10 G) (by decide) pd7 rfl rfl d1_6 rfl (by first | exact Nat.le_of_ble_eq_true rfl | (simp; done) | (simp; omega)) (by first | exact Nat.le_of_ble_eq_true rfl | (simp; done) | (simp; omega)) (by first | exact Nat.le_of_ble_eq_true rfl | (simp; done) | (simp; omega)) (by first | exact Nat.le_of_ble_eq_true rfl | (simp; done) | (simp; omega)) (K0 ?_)
  rintro M ⟨b, K, f, hK, rfl⟩
  exact Go.ret0 X d1_9 (by first | exact Nat.le_of_ble_eq_true rfl | (simp; done) | (simp; omega)) (by first | exact Nat.le_of_ble_eq_true rfl | (simp; done) | (simp; omega)) ⟨b, K, f, hK, rfl⟩
-- %%% strings 3
theorem w91 {a0 : Array Value} {Z : State} (G : Gl a0 Z) : (Jvm.Cond.fieldLink "java/lang/String" (19 : Nat) "java/lang/String" "hash" "I").before a0 Z = true := G.1 _ (List.mem_of_getElem? (i := 91) rfl)
theorem w92 {a0 : Array Value} {Z : State} (G : Gl a0 Z) : (Jvm.Cond.lays "java/lang/String" "java/lang/String" "hash" "I").before a0 Z = true := G.1 _ (List.mem_of_getElem? (i := 92) rfl)
theorem w93 {a0 : Array Value} {Z : State} (G : Gl a0 Z) : (Jvm.Cond.fieldLink "java/lang/String" (23 : Nat) "java/lang/String" "hashIsZero" "Z").before a0 Z = true := G.1 _ (List.mem_of_getElem? (i := 93) rfl)
theorem w94 {a0 : Array Value} {Z : State} (G : Gl a0 Z) : (Jvm.Cond.lays "java/lang/String" "java/lang/String" "hashIsZero" "Z").before a0 Z = true := G.1 _ (List.mem_of_getElem? (i := 94) rfl)
theorem w95 {a0 : Array Value} {Z : State} (G : Gl a0 Z) : (Jvm.Cond.methodLink "java/lang/String" (492 : Nat) ({ cls := "java/lang/String", name := "isLatin1", desc := "()Z" } : Jvm.MethodName)).before a0 Z = true := G.1 _ (List.mem_of_getElem? (i := 95) rfl)
theorem w96 {a0 : Array Value} {Z : State} (G : Gl a0 Z) : (Jvm.Cond.declares ({ cls := "java/lang/String", name := "isLatin1", desc := "()Z" } : Jvm.MethodName)).before a0 Z = true := G.1 _ (List.mem_of_getElem? (i := 96) rfl)
theorem w97 {a0 : Array Value} {Z : State} (G : Gl a0 Z) : (Jvm.Cond.instanceMethod ({ cls := "java/lang/String", name := "isLatin1", desc := "()Z" } : Jvm.MethodName)).before a0 Z = true := G.1 _ (List.mem_of_getElem? (i := 97) rfl)
theorem w98 {a0 : Array Value} {Z : State} (G : Gl a0 Z) : (Jvm.Cond.selects "java/lang/String" ({ cls := "java/lang/String", name := "isLatin1", desc := "()Z" } : Jvm.MethodName) ({ cls := "java/lang/String", name := "isLatin1", desc := "()Z" } : Jvm.MethodName)).before a0 Z = true := G.1 _ (List.mem_of_getElem? (i := 98) rfl)
theorem w99 {a0 : Array Value} {Z : State} (G : Gl a0 Z) : (Jvm.Cond.code ({ cls := "java/lang/String", name := "isLatin1", desc := "()Z" } : Jvm.MethodName) jdk_42_method_154_code (1 : Nat) (Option.some Jvm.ClassFile.FieldType.boolean)).before a0 Z = true := G.1 _ (List.mem_of_getElem? (i := 99) rfl)
theorem w100 {a0 : Array Value} {Z : State} (G : Gl a0 Z) : (Jvm.Cond.methodLink "java/lang/String" (628 : Nat) ({ cls := "java/lang/StringLatin1", name := "hashCode", desc := "([B)I" } : Jvm.MethodName)).before a0 Z = true := G.1 _ (List.mem_of_getElem? (i := 100) rfl)
theorem w101 {a0 : Array Value} {Z : State} (G : Gl a0 Z) : (Jvm.Cond.static ({ cls := "java/lang/StringLatin1", name := "hashCode", desc := "([B)I" } : Jvm.MethodName)).before a0 Z = true := G.1 _ (List.mem_of_getElem? (i := 101) rfl)
theorem w102 {a0 : Array Value} {Z : State} (G : Gl a0 Z) : (Jvm.Cond.initialized "java/lang/StringLatin1").before a0 Z = true := G.1 _ (List.mem_of_getElem? (i := 102) rfl)
theorem w103 {a0 : Array Value} {Z : State} (G : Gl a0 Z) : (Jvm.Cond.code ({ cls := "java/lang/StringLatin1", name := "hashCode", desc := "([B)I" } : Jvm.MethodName) jdk_43_method_21_code (1 : Nat) (Option.some Jvm.ClassFile.FieldType.int)).before a0 Z = true := G.1 _ (List.mem_of_getElem? (i := 103) rfl)
theorem w126 {a0 : Array Value} {Z : State} (G : Gl a0 Z) : (Jvm.Cond.methodLink "java/lang/StringLatin1" (84 : Nat) ({ cls := "jdk/internal/util/ArraysSupport", name := "vectorizedHashCode", desc := "(Ljava/lang/Object;IIII)I" } : Jvm.MethodName)).before a0 Z = true := G.1 _ (List.mem_of_getElem? (i := 126) rfl)
theorem w127 {a0 : Array Value} {Z : State} (G : Gl a0 Z) : (Jvm.Cond.static ({ cls := "jdk/internal/util/ArraysSupport", name := "vectorizedHashCode", desc := "(Ljava/lang/Object;IIII)I" } : Jvm.MethodName)).before a0 Z = true := G.1 _ (List.mem_of_getElem? (i := 127) rfl)
theorem w128 {a0 : Array Value} {Z : State} (G : Gl a0 Z) : (Jvm.Cond.initialized "jdk/internal/util/ArraysSupport").before a0 Z = true := G.1 _ (List.mem_of_getElem? (i := 128) rfl)
theorem w129 {a0 : Array Value} {Z : State} (G : Gl a0 Z) : (Jvm.Cond.code ({ cls := "jdk/internal/util/ArraysSupport", name := "vectorizedHashCode", desc := "(Ljava/lang/Object;IIII)I" } : Jvm.MethodName) jdk_48_method_4_code (5 : Nat) (Option.some Jvm.ClassFile.FieldType.int)).before a0 Z = true := G.1 _ (List.mem_of_getElem? (i := 129) rfl)
theorem w130 {a0 : Array Value} {Z : State} (G : Gl a0 Z) : (Jvm.Cond.classLink "jdk/internal/util/ArraysSupport" (60 : Nat) "[B").before a0 Z = true := G.1 _ (List.mem_of_getElem? (i := 130) rfl)
theorem w132 {a0 : Array Value} {Z : State} (G : Gl a0 Z) : (Jvm.Cond.methodLink "jdk/internal/util/ArraysSupport" (62 : Nat) ({ cls := "jdk/internal/util/ArraysSupport", name := "signedHashCode", desc := "(I[BII)I" } : Jvm.MethodName)).before a0 Z = true := G.1 _ (List.mem_of_getElem? (i := 132) rfl)
theorem w133 {a0 : Array Value} {Z : State} (G : Gl a0 Z) : (Jvm.Cond.static ({ cls := "jdk/internal/util/ArraysSupport", name := "signedHashCode", desc := "(I[BII)I" } : Jvm.MethodName)).before a0 Z = true := G.1 _ (List.mem_of_getElem? (i := 133) rfl)
theorem w134 {a0 : Array Value} {Z : State} (G : Gl a0 Z) : (Jvm.Cond.code ({ cls := "jdk/internal/util/ArraysSupport", name := "signedHashCode", desc := "(I[BII)I" } : Jvm.MethodName) jdk_48_method_5_code (6 : Nat) (Option.some Jvm.ClassFile.FieldType.int)).before a0 Z = true := G.1 _ (List.mem_of_getElem? (i := 134) rfl)
theorem d17_0 : D1 jdk_42_method_78_code 0 (.aload_n 0) 1 1 := ⟨by decide +kernel, rfl⟩
theorem d17_1 : D1 jdk_42_method_78_code 1 (.getfield 19) 3 4 := ⟨by decide +kernel, rfl⟩
theorem d17_4 : D1 jdk_42_method_78_code 4 (.istore_n 1) 1 5 := ⟨by decide +kernel, rfl⟩
theorem d17_5 : D1 jdk_42_method_78_code 5 (.iload_n 1) 1 6 := ⟨by decide +kernel, rfl⟩
theorem d17_6 : D1 jdk_42_method_78_code 6 (.ifCond .ne 52) 3 9 := ⟨by decide +kernel, rfl⟩
theorem d17_9 : D1 jdk_42_method_78_code 9 (.aload_n 0) 1 10 := ⟨by decide +kernel, rfl⟩
theorem d17_10 : D1 jdk_42_method_78_code 10 (.getfield 23) 3 13 := ⟨by decide +kernel, rfl⟩
theorem d17_13 : D1 jdk_42_method_78_code 13 (.ifCond .ne 45) 3 16 := ⟨by decide +kernel, rfl⟩
theorem d17_16 : D1 jdk_42_method_78_code 16 (.aload_n 0) 1 17 := ⟨by decide +kernel, rfl⟩
theorem d17_17 : D1 jdk_42_method_78_code 17 (.invokevirtual 492) 3 20 := ⟨by decide +kernel, rfl⟩
theorem d17_20 : D1 jdk_42_method_78_code 20 (.ifCond .eq 13) 3 23 := ⟨by decide +kernel, rfl⟩
theorem d17_23 : D1 jdk_42_method_78_code 23 (.aload_n 0) 1 24 := ⟨by decide +kernel, rfl⟩
theorem d17_24 : D1 jdk_42_method_78_code 24 (.getfield 9) 3 27 := ⟨by decide +kernel, rfl⟩
theorem d17_27 : D1 jdk_42_method_78_code 27 (.invokestatic 628) 3 30 := ⟨by decide +kernel, rfl⟩
theorem d17_30 : D1 jdk_42_method_78_code 30 (.goto 10) 3 33 := ⟨by decide +kernel, rfl⟩
theorem d17_40 : D1 jdk_42_method_78_code 40 (.istore_n 1) 1 41 := ⟨by decide +kernel, rfl⟩
theorem d17_41 : D1 jdk_42_method_78_code 41 (.iload_n 1) 1 42 := ⟨by decide +kernel, rfl⟩
theorem d17_42 : D1 jdk_42_method_78_code 42 (.ifCond .ne 11) 3 45 := ⟨by decide +kernel, rfl⟩
theorem d17_45 : D1 jdk_42_method_78_code 45 (.aload_n 0) 1 46 := ⟨by decide +kernel, rfl⟩
theorem d17_46 : D1 jdk_42_method_78_code 46 (.iconst 1) 1 47 := ⟨by decide +kernel, rfl⟩
theorem d17_47 : D1 jdk_42_method_78_code 47 (.putfield 23) 3 50 := ⟨by decide +kernel, rfl⟩
theorem d17_50 : D1 jdk_42_method_78_code 50 (.goto 8) 3 53 := ⟨by decide +kernel, rfl⟩
theorem d17_53 : D1 jdk_42_method_78_code 53 (.aload_n 0) 1 54 := ⟨by decide +kernel, rfl⟩
theorem d17_54 : D1 jdk_42_method_78_code 54 (.iload_n 1) 1 55 := ⟨by decide +kernel, rfl⟩
theorem d17_55 : D1 jdk_42_method_78_code 55 (.putfield 19) 3 58 := ⟨by decide +kernel, rfl⟩
theorem d17_58 : D1 jdk_42_method_78_code 58 (.iload_n 1) 1 59 := ⟨by decide +kernel, rfl⟩
theorem d17_59 : D1 jdk_42_method_78_code 59 (.ireturn) 1 60 := ⟨by decide +kernel, rfl⟩
theorem d18_0 : D1 jdk_42_method_154_code 0 (.getstatic 38) 3 3 := ⟨by decide +kernel, rfl⟩
theorem d18_3 : D1 jdk_42_method_154_code 3 (.ifCond .eq 14) 3 6 := ⟨by decide +kernel, rfl⟩
theorem d18_6 : D1 jdk_42_method_154_code 6 (.aload_n 0) 1 7 := ⟨by decide +kernel, rfl⟩
theorem d18_7 : D1 jdk_42_method_154_code 7 (.getfield 15) 3 10 := ⟨by decide +kernel, rfl⟩
theorem d18_10 : D1 jdk_42_method_154_code 10 (.ifCond .ne 7) 3 13 := ⟨by decide +kernel, rfl⟩
theorem d18_13 : D1 jdk_42_method_154_code 13 (.iconst 1) 1 14 := ⟨by decide +kernel, rfl⟩
theorem d18_14 : D1 jdk_42_method_154_code 14 (.goto 4) 3 17 := ⟨by decide +kernel, rfl⟩
theorem d18_18 : D1 jdk_42_method_154_code 18 (.ireturn) 1 19 := ⟨by decide +kernel, rfl⟩
theorem d19_0 : D1 jdk_43_method_21_code 0 (.aload_n 0) 1 1 := ⟨by decide +kernel, rfl⟩
theorem d19_1 : D1 jdk_43_method_21_code 1 (.arraylength) 1 2 := ⟨by decide +kernel, rfl⟩
theorem d19_2 : D1 jdk_43_method_21_code 2 (.lookupswitch 40 #[(0, 26), (1, 30)]) 26 28 := ⟨by decide +kernel, rfl⟩
theorem d19_28 : D1 jdk_43_method_21_code 28 (.iconst 0) 1 29 := ⟨by decide +kernel, rfl⟩
theorem d19_29 : D1 jdk_43_method_21_code 29 (.goto 22) 3 32 := ⟨by decide +kernel, rfl⟩
theorem d19_32 : D1 jdk_43_method_21_code 32 (.aload_n 0) 1 33 := ⟨by decide +kernel, rfl⟩
theorem d19_33 : D1 jdk_43_method_21_code 33 (.iconst 0) 1 34 := ⟨by decide +kernel, rfl⟩
theorem d19_34 : D1 jdk_43_method_21_code 34 (.baload) 1 35 := ⟨by decide +kernel, rfl⟩
theorem d19_35 : D1 jdk_43_method_21_code 35 (.sipush 255) 3 38 := ⟨by decide +kernel, rfl⟩
theorem d19_38 : D1 jdk_43_method_21_code 38 (.iand) 1 39 := ⟨by decide +kernel, rfl⟩
theorem d19_39 : D1 jdk_43_method_21_code 39 (.goto 12) 3 42 := ⟨by decide +kernel, rfl⟩
theorem d19_42 : D1 jdk_43_method_21_code 42 (.aload_n 0) 1 43 := ⟨by decide +kernel, rfl⟩
theorem d19_43 : D1 jdk_43_method_21_code 43 (.iconst 0) 1 44 := ⟨by decide +kernel, rfl⟩
theorem d19_44 : D1 jdk_43_method_21_code 44 (.aload_n 0) 1 45 := ⟨by decide +kernel, rfl⟩
theorem d19_45 : D1 jdk_43_method_21_code 45 (.arraylength) 1 46 := ⟨by decide +kernel, rfl⟩
theorem d19_46 : D1 jdk_43_method_21_code 46 (.iconst 0) 1 47 := ⟨by decide +kernel, rfl⟩
theorem d19_47 : D1 jdk_43_method_21_code 47 (.iconst 4) 1 48 := ⟨by decide +kernel, rfl⟩
theorem d19_48 : D1 jdk_43_method_21_code 48 (.invokestatic 84) 3 51 := ⟨by decide +kernel, rfl⟩
theorem d19_51 : D1 jdk_43_method_21_code 51 (.ireturn) 1 52 := ⟨by decide +kernel, rfl⟩
theorem d24_0 : D1 jdk_48_method_4_code 0 (.iload 4) 2 2 := ⟨by decide +kernel, rfl⟩
theorem d24_2 : D1 jdk_48_method_4_code 2 (.tableswitch 127 4 10 #[42, 55, 127, 127, 88, 101, 114]) 42 44 := ⟨by decide +kernel, rfl⟩
theorem d24_44 : D1 jdk_48_method_4_code 44 (.iload_n 3) 1 45 := ⟨by decide +kernel, rfl⟩
theorem d24_45 : D1 jdk_48_method_4_code 45 (.aload_n 0) 1 46 := ⟨by decide +kernel, rfl⟩
theorem d24_46 : D1 jdk_48_method_4_code 46 (.checkcast 60) 3 49 := ⟨by decide +kernel, rfl⟩
theorem d24_49 : D1 jdk_48_method_4_code 49 (.iload_n 1) 1 50 := ⟨by decide +kernel, rfl⟩
theorem d24_50 : D1 jdk_48_method_4_code 50 (.iload_n 2) 1 51 := ⟨by decide +kernel, rfl⟩
theorem d24_51 : D1 jdk_48_method_4_code 51 (.invokestatic 62) 3 54 := ⟨by decide +kernel, rfl⟩
theorem d24_54 : D1 jdk_48_method_4_code 54 (.goto 103) 3 57 := ⟨by decide +kernel, rfl⟩
theorem d24_157 : D1 jdk_48_method_4_code 157 (.ireturn) 1 158 := ⟨by decide +kernel, rfl⟩
theorem d25_0 : D1 jdk_48_method_5_code 0 (.iload_n 2) 1 1 := ⟨by decide +kernel, rfl⟩
theorem d25_1 : D1 jdk_48_method_5_code 1 (.iload_n 3) 1 2 := ⟨by decide +kernel, rfl⟩
theorem d25_2 : D1 jdk_48_method_5_code 2 (.iadd) 1 3 := ⟨by decide +kernel, rfl⟩
theorem d25_3 : D1 jdk_48_method_5_code 3 (.istore 4) 2 5 := ⟨by decide +kernel, rfl⟩
theorem d25_5 : D1 jdk_48_method_5_code 5 (.iload_n 2) 1 6 := ⟨by decide +kernel, rfl⟩
theorem d25_6 : D1 jdk_48_method_5_code 6 (.istore 5) 2 8 := ⟨by decide +kernel, rfl⟩
theorem d25_8 : D1 jdk_48_method_5_code 8 (.iload 5) 2 10 := ⟨by decide +kernel, rfl⟩
theorem d25_10 : D1 jdk_48_method_5_code 10 (.iload 4) 2 12 := ⟨by decide +kernel, rfl⟩
theorem d25_12 : D1 jdk_48_method_5_code 12 (.if_icmp .ge 23) 3 15 := ⟨by decide +kernel, rfl⟩
theorem d25_15 : D1 jdk_48_method_5_code 15 (.bipush 31) 2 17 := ⟨by decide +kernel, rfl⟩
theorem d25_17 : D1 jdk_48_method_5_code 17 (.iload_n 0) 1 18 := ⟨by decide +kernel, rfl⟩
theorem d25_18 : D1 jdk_48_method_5_code 18 (.imul) 1 19 := ⟨by decide +kernel, rfl⟩
theorem d25_19 : D1 jdk_48_method_5_code 19 (.aload_n 1) 1 20 := ⟨by decide +kernel, rfl⟩
theorem d25_20 : D1 jdk_48_method_5_code 20 (.iload 5) 2 22 := ⟨by decide +kernel, rfl⟩
theorem d25_22 : D1 jdk_48_method_5_code 22 (.baload) 1 23 := ⟨by decide +kernel, rfl⟩
theorem d25_23 : D1 jdk_48_method_5_code 23 (.sipush 255) 3 26 := ⟨by decide +kernel, rfl⟩
theorem d25_26 : D1 jdk_48_method_5_code 26 (.iand) 1 27 := ⟨by decide +kernel, rfl⟩
theorem d25_27 : D1 jdk_48_method_5_code 27 (.iadd) 1 28 := ⟨by decide +kernel, rfl⟩
theorem d25_28 : D1 jdk_48_method_5_code 28 (.istore_n 0) 1 29 := ⟨by decide +kernel, rfl⟩
theorem d25_29 : D1 jdk_48_method_5_code 29 (.iinc 5 1) 3 32 := ⟨by decide +kernel, rfl⟩
theorem d25_32 : D1 jdk_48_method_5_code 32 (.goto (-24)) 3 35 := ⟨by decide +kernel, rfl⟩
theorem d25_35 : D1 jdk_48_method_5_code 35 (.iload_n 0) 1 36 := ⟨by decide +kernel, rfl⟩
theorem d25_36 : D1 jdk_48_method_5_code 36 (.ireturn) 1 37 := ⟨by decide +kernel, rfl⟩
theorem pd8 : parseMethodDescriptor "(I[BII)I" = some ⟨[.int, (.array .byte), .int, .int], some .int⟩ := by decide +kernel
theorem pd9 : parseMethodDescriptor "(Ljava/lang/Object;IIII)I" = some ⟨[(.object "java/lang/Object"), .int, .int, .int, .int], some .int⟩ := by decide +kernel
theorem pd10 : parseMethodDescriptor "()Z" = some ⟨[], some .boolean⟩ := by decide +kernel
theorem pd11 : parseMethodDescriptor "([B)I" = some ⟨[(.array .byte)], some .int⟩ := by decide +kernel
theorem pf2 : parseFieldDescriptor "I" = some .int := by decide +kernel
theorem pf3 : parseFieldDescriptor "Z" = some .boolean := by decide +kernel

/-- String.hashCode's value -/
def hashOf (cl : List Nat) : Int32 := cl.foldl (fun h c => 31 * h + Int32.ofNat c) 0
theorem byte_back : ∀ c : Nat, c < 256 → (Int32.ofNat c).toInt8.toInt32 &&& 255 = Int32.ofNat c := by decide +kernel
theorem byte_inj {c d : Nat} (hc : c < 256) (hd : d < 256) (q : (Int32.ofNat c).toInt8.toInt32 = (Int32.ofNat d).toInt8.toInt32) : c = d := by
  have := byte_back c hc
  rw [q, byte_back d hd] at this
  have e := congrArg Int32.toInt this
  rw [(nat32 (i := c) (by omega)).1, (nat32 (i := d) (by omega)).1] at e
  omega

def StrP (Z : State) (b : Addr) (cl : List Nat) (c : Cell) : Prop := ∃ hv hz : Int32, (hv = 0 ∨ hv = hashOf cl) ∧ (hz = 0 ∨ (hz = 1 ∧ hashOf cl = 0)) ∧ (Ob Z "java/lang/String" ns0 [.int 0, .ref b, .int hv, .int hz]) c
def Sk (Z : State) (L : List Ent) (a b : Addr) (cl : List Nat) : Prop := ow a (StrP Z b cl) ∈ L ∧ (∃ K f, (b, Ar Z .byte K (bsOf cl), f) ∈ L ∧ FcB Z cl K) ∧ ∀ c ∈ cl, c < 256
theorem Sk.cell {Z : State} {L : List Ent} {a b : Addr} {cl : List Nat} (S : Sk Z L a b cl) {h : Heap} (H : Hp Z h L) : ∃ hv hz : Int32, (hv = 0 ∨ hv = hashOf cl) ∧ (hz = 0 ∨ (hz = 1 ∧ hashOf cl = 0)) ∧ Exa Z h a "java/lang/String" ∧ Fld Z h a "java/lang/String" "value" "[B" (.ref b) ∧ Fld Z h a "java/lang/String" "coder" "B" (.int 0) ∧ Fld Z h a "java/lang/String" "hash" "I" (.int hv) ∧ Fld Z h a "java/lang/String" "hashIsZero" "Z" (.int hz) := by
  obtain ⟨c, hc, hv, hz, q1, q2, ⟨k, r⟩, hl, F⟩ := H.atM S.1
  have fl : ∀ (j : Nat) (q : Nm) (v : Value), ns0[j]? = some q → ([.int 0, .ref b, .int hv, .int hz] : List Value)[j]? = some v → Fld Z h a q.1 q.2.1 q.2.2 v := fun j q v h1 h2 => by
    obtain ⟨cf, k, i, f, r⟩ := F j q v h1 h2
    exact ⟨c, cf, k, i, f, hc, r⟩
  exact ⟨hv, hz, q1, q2, ⟨c, k, hc, r⟩, fl 1 _ _ rfl rfl, fl 0 _ _ rfl rfl, fl 2 _ _ rfl rfl, fl 3 _ _ rfl rfl⟩
theorem Sk.sx {Z : State} {L : List Ent} {a b : Addr} {cl : List Nat} (S : Sk Z L a b cl) : Sx Z L a b cl := ⟨by obtain ⟨K, f, q, -⟩ := S.2.1; exact ⟨K, f, q⟩, fun h H => by obtain ⟨hv, hz, -, -, r1, r2, r3, -⟩ := S.cell H; exact ⟨r1, r2, r3⟩⟩
theorem Sk.up {Z : State} {L : List Ent} {a b : Addr} {cl : List Nat} {x : Ent} (S : Sk Z L a b cl) : Sk Z (x :: L) a b cl := ⟨List.mem_cons_of_mem _ S.1, by obtain ⟨K, f, q, r⟩ := S.2.1; exact ⟨K, f, List.mem_cons_of_mem _ q, r⟩, S.2.2⟩

set_option maxRecDepth 65536 in
set_option maxHeartbeats 4000000 in
theorem s_latin1 (l : Launch) {Z : State} {a0 : Array Value} (G : Gl a0 Z) {L : List Ent} {a b : Addr} {cl : List Nat} (hS : Sx Z L a b cl) : Ct WD EL0 l Z (⟨"java/lang/String", "isLatin1", "()Z"⟩ : MethodName) jdk_42_method_154_code 1 (some .boolean) ({ frames := 0, cells := 0, slots := 0, locals := 0 } : Room) #[.ref a] L (rvQ (fun v M => v = .int 1 ∧ M = L)) := by
  refine Ct.intro (by decide +kernel) G.2.1 ?_
  intro p e s m below meth c X
  replace X : Cx WD EL0 p Z s m meth c "java/lang/String" "isLatin1" jdk_42_method_154_code 1 (some .boolean) := X
  refine Go.cast (g' := mkF m 0 #[.val (.ref a)] []) (by first | rfl | (simp [entryFrame, mkF, argsToLocals, Value.category, maxLocals]; done)) ?_
  obtain ⟨cst, hcst, Fcst⟩ := g_cs G
  refine Go.getSta X (w14 G) Via.refl Fcst d18_0 ?_
  refine Go.ifc X d18_3 (pt := 17) ⟨by decide, by decide⟩ ?_ ?_
  · intro q; exact absurd q hcst
  intro _
  refine Go.aloadN X d18_6 rfl rfl ?_
  refine Go.getFld X (w26 G) Via.refl (fun h H => (hS.2 h H).2.2) d18_7 ?_
  refine Go.ifc X d18_10 (pt := 17) ⟨by decide, by decide⟩ ?_ ?_
  · intro q; exact absurd rfl q
  intro _
  refine Go.iconst X (v := 1) d18_13 (by decide) ?_
  refine Go.goto X d18_14 (pt := 18) ⟨by decide, by decide⟩ ?_
  exact Go.zret X d18_18 (Or.inr rfl) (Nat.zero_le _) (Nat.zero_le _) ⟨rfl, rfl⟩
set_option maxRecDepth 65536 in
set_option maxHeartbeats 4000000 in
theorem s_hash_loop {p : Program} {l : Launch} {e : Env} {R : Room} {Z s : State} {m : MethodId} {args : Array Value} {below : List Frame} {meth : Method} {c : Code} {L : List Ent} {b : Addr} {K : ClassId} {f : Bool} {cl : List Nat} {N : Nat} (hb' : (b, Ar Z .byte K (bsOf cl), f) ∈ L) (hN : cl.length = N) (hs : N < 2 ^ 31) (hlt : ∀ c ∈ cl, c < 256)
    (X : Cx WD EL0 p Z s m meth c "jdk/internal/util/ArraysSupport" "signedHashCode" jdk_48_method_5_code 6 (some .int)) : ∀ (suf pre : List Nat), pre ++ suf = cl →
    Go WD EL0 p l e R Z s m args below meth c (rvQ fun v M => v = .int (hashOf cl) ∧ M = L) L 0 0 (mkF m 8 #[.val (.int (hashOf pre)), .val (.ref b), .val (.int 0), .val (.int (Int32.ofNat N)), .val (.int (Int32.ofNat N)), .val (.int (Int32.ofNat pre.length))] []) := by
  intro suf
  induction suf with
  | nil =>
    intro pre hp
    have hp : pre = cl := by simpa using hp
    subst hp
    refine Go.iload X d25_8 rfl ?_
    refine Go.iload X d25_10 rfl ?_
    refine Go.icmp X d25_12 (pt := 35) ⟨by decide, by decide⟩ ?_ ?_
    · intro _
      refine Go.iloadN X d25_35 rfl ?_
      exact Go.iret X d25_36 (Nat.zero_le _) (Nat.zero_le _) ⟨rfl, rfl⟩
    intro q
    exact absurd (show Int32.ofNat N ≤ Int32.ofNat pre.length by rw [hN]; exact Int32.le_refl _) q
  | cons x suf ih =>
    intro pre hp
    have hl : pre.length + (suf.length + 1) = N := by rw [← hN, ← hp]; simp
    have hx : x < 256 := hlt x (by rw [← hp]; simp)
    have hat : cl[pre.length]? = some x := by rw [← hp]; simp
    obtain ⟨n1, n2, n3⟩ := nat32 (i := pre.length) (by omega)
    obtain ⟨k1, k2, k3⟩ := nat32 (i := N) hs
    refine Go.iload X d25_8 rfl ?_
    refine Go.iload X d25_10 rfl ?_
    refine Go.icmp X d25_12 (pt := 35) ⟨by decide, by decide⟩ ?_ ?_
    · intro q
      have q : (N : Int) ≤ pre.length := ccL q n1 k1
      omega
    intro _
    refine Go.bipush X (v := 31) d25_15 (by decide) ?_
    refine Go.iloadN X d25_17 rfl ?_
    refine Go.imul X d25_18 ?_
    refine Go.aloadN X d25_19 rfl rfl ?_
    refine Go.iload X d25_20 rfl ?_
    refine Go.bald X n2 (x := (Int32.ofNat x).toInt8.toInt32) (fun h H => H.elM hb' (by rw [n3]; exact bs_at hat)) d25_22 ?_
    refine Go.sipush X (v := 255) d25_23 (by decide) ?_
    refine Go.iand X d25_26 ?_
    rw [byte_back x hx]
    refine Go.iadd X d25_27 ?_
    have e1 : 31 * hashOf pre + Int32.ofNat x = hashOf (pre ++ [x]) := by simp [hashOf]
    rw [e1]
    refine Go.istoreN X d25_28 rfl ?_
    refine Go.iinc X d25_29 rfl rfl ?_
    refine Go.goto X d25_32 (pt := 8) ⟨by decide, by decide⟩ ?_
    have a2 : Int32.ofNat pre.length + Int32.ofInt 1 = Int32.ofNat (pre ++ [x]).length := by
      rw [show (pre ++ [x]).length = pre.length + 1 by simp]; exact (inc_ofNat _).symm
    rw [a2]
    exact ih (pre ++ [x]) (by rw [← hp]; simp)
set_option maxRecDepth 65536 in
set_option maxHeartbeats 4000000 in
theorem s_signed (l : Launch) {Z : State} {a0 : Array Value} (G : Gl a0 Z) {L : List Ent} {b : Addr} {K : ClassId} {f : Bool} {cl : List Nat} (hb' : (b, Ar Z .byte K (bsOf cl), f) ∈ L) (hlt : ∀ c ∈ cl, c < 256) : Ct WD EL0 l Z (⟨"jdk/internal/util/ArraysSupport", "signedHashCode", "(I[BII)I"⟩ : MethodName) jdk_48_method_5_code 6 (some .int) ({ frames := 0, cells := 0, slots := 0, locals := 0 } : Room) #[.int 0, .ref b, .int 0, .int (Int32.ofNat cl.length)] L (rvQ (fun v M => v = .int (hashOf cl) ∧ M = L)) := by
  refine Ct.intro (by decide +kernel) G.2.1 ?_
  intro p e s m below meth c X
  replace X : Cx WD EL0 p Z s m meth c "jdk/internal/util/ArraysSupport" "signedHashCode" jdk_48_method_5_code 6 (some .int) := X
  refine Go.cast (g' := mkF m 0 #[.val (.int 0), .val (.ref b), .val (.int 0), .val (.int (Int32.ofNat cl.length)), .unset, .unset] []) (by first | rfl | (simp [entryFrame, mkF, argsToLocals, Value.category, maxLocals]; done)) ?_
  refine Go.fact (fun h H => len_small H hb') fun hM => ?_
  rw [bs_len] at hM
  refine Go.iloadN X d25_0 rfl ?_
  refine Go.iloadN X d25_1 rfl ?_
  refine Go.iadd X d25_2 ?_
  rw [Int32.zero_add]
  refine Go.istore X d25_3 rfl ?_
  refine Go.iloadN X d25_5 rfl ?_
  refine Go.istore X d25_6 rfl ?_
  exact s_hash_loop hb' rfl hM hlt X cl [] rfl
set_option maxRecDepth 65536 in
set_option maxHeartbeats 4000000 in
theorem s_vector (l : Launch) {Z : State} {a0 : Array Value} (G : Gl a0 Z) {L : List Ent} {b : Addr} {K : ClassId} {f : Bool} {cl : List Nat} (hb' : (b, Ar Z .byte K (bsOf cl), f) ∈ L) (hlt : ∀ c ∈ cl, c < 256) (hK : Z.vm.findClass "[B" = some K) : Ct WD EL0 l Z (⟨"jdk/internal/util/ArraysSupport", "vectorizedHashCode", "(Ljava/lang/Object;IIII)I"⟩ : MethodName) jdk_48_method_4_code 5 (some .int) ({ frames := 1, cells := 0, slots := 0, locals := 20 } : Room) #[.ref b, .int 0, .int (Int32.ofNat cl.length), .int 0, .int 4] L (rvQ (fun v M => v = .int (hashOf cl) ∧ M = L)) := by
  refine Ct.intro (by decide +kernel) G.2.1 ?_
  intro p e s m below meth c X
  replace X : Cx WD EL0 p Z s m meth c "jdk/internal/util/ArraysSupport" "vectorizedHashCode" jdk_48_method_4_code 5 (some .int) := X
  refine Go.cast (g' := mkF m 0 #[.val (.ref b), .val (.int 0), .val (.int (Int32.ofNat cl.length)), .val (.int 0), .val (.int 4)] []) (by first | rfl | (simp [entryFrame, mkF, argsToLocals, Value.category, maxLocals]; done)) ?_
  refine Go.iload X d24_0 rfl ?_
  refine Go.tswY X d24_2 (off := 42) (pt := 44) (by decide) (by decide) ⟨by decide, by decide⟩ ?_
  refine Go.iloadN X d24_44 rfl ?_
  refine Go.aloadN X d24_45 rfl rfl ?_
  refine Go.ccast X (w130 G) (fun h H => by
    obtain ⟨c, A, q, -⟩ := H.arrM hb'
    exact ⟨c, K, A.1, hK, by rw [A.plain, q]; simp [Vm.assignable_self]⟩) d24_46 ?_
  refine Go.iloadN X d24_49 rfl ?_
  refine Go.iloadN X d24_50 rfl ?_
  refine Go.callS X (s_signed l G hb' hlt) (rest := []) (w132 G) (w133 G) (w128 G) (w134 G) (by decide) pd8 rfl rfl d24_51 rfl (Nat.le_of_ble_eq_true rfl) (Nat.le_of_ble_eq_true rfl) (Nat.le_of_ble_eq_true rfl) (Nat.le_of_ble_eq_true rfl) (Kv ?_)
  rintro v M ⟨rfl, rfl⟩
  refine Go.goto X d24_54 (pt := 157) ⟨by decide, by decide⟩ ?_
  exact Go.iret X d24_157 (Nat.zero_le _) (Nat.zero_le _) ⟨rfl, rfl⟩
set_option maxRecDepth 65536 in
set_option maxHeartbeats 4000000 in
theorem s_l1hash (l : Launch) {Z : State} {a0 : Array Value} (G : Gl a0 Z) {L : List Ent} {b : Addr} {K : ClassId} {f : Bool} {cl : List Nat} (hb' : (b, Ar Z .byte K (bsOf cl), f) ∈ L) (hlt : ∀ c ∈ cl, c < 256) (hF : FcB Z cl K) : Ct WD EL0 l Z (⟨"java/lang/StringLatin1", "hashCode", "([B)I"⟩ : MethodName) jdk_43_method_21_code 1 (some .int) ({ frames := 2, cells := 0, slots := 0, locals := 36 } : Room) #[.ref b] L (rvQ (fun v M => v = .int (hashOf cl) ∧ M = L)) := by
  refine Ct.intro (by decide +kernel) G.2.1 ?_
  intro p e s m below meth c X
  replace X : Cx WD EL0 p Z s m meth c "java/lang/StringLatin1" "hashCode" jdk_43_method_21_code 1 (some .int) := X
  refine Go.cast (g' := mkF m 0 #[.val (.ref b)] []) (by first | rfl | (simp [entryFrame, mkF, argsToLocals, Value.category, maxLocals]; done)) ?_
  refine Go.fact (fun h H => len_small H hb') fun hM => ?_
  rw [bs_len] at hM
  refine Go.aloadN X d19_0 rfl rfl ?_
  refine Go.alenA X (fun h H => H.lenM hb') d19_1 ?_
  rw [bs_len]
  obtain ⟨n1, n2, n3⟩ := nat32 (i := cl.length) hM
  rcases cl with _ | ⟨c0, _ | ⟨c1, cl⟩⟩
  · refine Go.lswY X d19_2 (by decide) (a := 0) (off := 26) (pt := 28) (by decide) ⟨by decide, by decide⟩ ?_
    refine Go.iconst X (v := 0) d19_28 (by decide) ?_
    refine Go.goto X d19_29 (pt := 51) ⟨by decide, by decide⟩ ?_
    exact Go.iret X d19_51 (Nat.zero_le _) (Nat.zero_le _) ⟨rfl, rfl⟩
  · rw [show ([c0] : List Nat).length.toInt32 = 1 from rfl]
    refine Go.lswY X d19_2 (by decide) (a := 1) (off := 30) (pt := 32) (by decide) ⟨by decide, by decide⟩ ?_
    refine Go.aloadN X d19_32 rfl rfl ?_
    refine Go.iconst X (v := 0) d19_33 (by decide) ?_
    refine Go.bald X (by decide) (x := (Int32.ofNat c0).toInt8.toInt32) (fun h H => H.elM hb' (by exact bs_at (cl := [c0]) rfl)) d19_34 ?_
    refine Go.sipush X (v := 255) d19_35 (by decide) ?_
    refine Go.iand X d19_38 ?_
    rw [byte_back c0 (hlt c0 (by simp))]
    refine Go.goto X d19_39 (pt := 51) ⟨by decide, by decide⟩ ?_
    exact Go.iret X d19_51 (Nat.zero_le _) (Nat.zero_le _) ⟨by simp [hashOf], rfl⟩
  · have hK : Z.vm.findClass "[B" = some K := hF.resolve_left (by simp)
    refine Go.lswN X d19_2 (by decide) (pt := 42) (find_miss fun p hp => ?_) ⟨by decide, by decide⟩ ?_
    · simp only [List.mem_cons, List.not_mem_nil, or_false] at hp
      simp only [List.length_cons] at n1
      rcases hp with rfl | rfl
      · show (0 : Int) ≠ _; rw [show (c0 :: c1 :: cl).length.toInt32 = Int32.ofNat (cl.length + 1 + 1) from rfl, n1]; omega
      · show (1 : Int) ≠ _; rw [show (c0 :: c1 :: cl).length.toInt32 = Int32.ofNat (cl.length + 1 + 1) from rfl, n1]; omega
    refine Go.aloadN X d19_42 rfl rfl ?_
    refine Go.iconst X (v := 0) d19_43 (by decide) ?_
    refine Go.aloadN X d19_44 rfl rfl ?_
    refine Go.alenA X (fun h H => H.lenM hb') d19_45 ?_
    rw [bs_len]
    refine Go.iconst X (v := 0) d19_46 (by decide) ?_
    refine Go.iconst X (v := 4) d19_47 (by decide) ?_
    refine Go.callS X (s_vector l G hb' hlt hK) (rest := []) (w126 G) (w127 G) (w128 G) (w129 G) (by decide) pd9 rfl rfl d19_48 rfl (Nat.le_of_ble_eq_true rfl) (Nat.le_of_ble_eq_true rfl) (Nat.le_of_ble_eq_true rfl) (Nat.le_of_ble_eq_true rfl) (Kv ?_)
    rintro v M ⟨rfl, rfl⟩
    exact Go.iret X d19_51 (Nat.zero_le _) (Nat.zero_le _) ⟨rfl, rfl⟩
set_option maxRecDepth 65536 in
set_option maxHeartbeats 4000000 in
theorem s_hash (l : Launch) {Z : State} {a0 : Array Value} (G : Gl a0 Z) {L : List Ent} {a b : Addr} {cl : List Nat} (hS : Sk Z L a b cl) : Ct WD EL0 l Z (⟨"java/lang/String", "hashCode", "()I"⟩ : MethodName) jdk_42_method_78_code 2 (some .int) ({ frames := 3, cells := 0, slots := 0, locals := 48 } : Room) #[.ref a] L (rvQ (fun v M => v = .int (hashOf cl) ∧ M = L)) := by
  refine Ct.intro (by decide +kernel) G.2.1 ?_
  intro p e s m below meth c X
  replace X : Cx WD EL0 p Z s m meth c "java/lang/String" "hashCode" jdk_42_method_78_code 2 (some .int) := X
  refine Go.cast (g' := mkF m 0 #[.val (.ref a), .unset] []) (by first | rfl | (simp [entryFrame, mkF, argsToLocals, Value.category, maxLocals]; done)) ?_
  obtain ⟨K, f, hb', hF⟩ := hS.2.1
  refine Go.aloadN X d17_0 rfl rfl ?_
  refine Go.getAny X (φ := fun v => v = .int 0 ∨ v = .int (hashOf cl)) (w91 G) Via.refl (fun h H => by obtain ⟨hv, hz, r⟩ := hS.cell H; exact ⟨.int hv, by rcases r.1 with q | q <;> simp [q], r.2.2.2.2.2.1⟩) d17_1 ?_
  intro v0 hv0
  obtain ⟨hv, rfl, hhv⟩ : ∃ hv : Int32, v0 = .int hv ∧ (hv = 0 ∨ hv = hashOf cl) := by rcases hv0 with rfl | rfl <;> simp
  refine Go.istoreN X d17_4 rfl ?_
  refine Go.iloadN X d17_5 rfl ?_
  refine Go.ifc X d17_6 (pt := 58) ⟨by decide, by decide⟩ ?_ ?_
  · intro q
    have q : hv = hashOf cl := hhv.resolve_left q
    subst q
    refine Go.iloadN X d17_58 rfl ?_
    exact Go.iret X d17_59 (Nat.zero_le _) (Nat.zero_le _) ⟨rfl, rfl⟩
  intro q0
  obtain rfl : hv = 0 := Decidable.of_not_not q0
  refine Go.aloadN X d17_9 rfl rfl ?_
  refine Go.getAny X (φ := fun v => v = .int 0 ∨ (v = .int 1 ∧ hashOf cl = 0)) (w93 G) Via.refl (fun h H => by obtain ⟨hv, hz, r⟩ := hS.cell H; exact ⟨.int hz, by rcases r.2.1 with q | q <;> simp [q], r.2.2.2.2.2.2⟩) d17_10 ?_
  intro v1 hv1
  obtain ⟨hz, rfl, hhz⟩ : ∃ hz : Int32, v1 = .int hz ∧ (hz = 0 ∨ (hz = 1 ∧ hashOf cl = 0)) := by rcases hv1 with rfl | ⟨rfl, q⟩ <;> simp [*]
  refine Go.ifc X d17_13 (pt := 58) ⟨by decide, by decide⟩ ?_ ?_
  · intro q
    have q : hashOf cl = 0 := (hhz.resolve_left q).2
    refine Go.iloadN X d17_58 rfl ?_
    exact Go.iret X d17_59 (Nat.zero_le _) (Nat.zero_le _) ⟨by rw [q], rfl⟩
  intro _
  refine Go.aloadN X d17_16 rfl rfl ?_
  refine Go.callV X (fun h H => (hS.sx.2 h H).1) (s_latin1 l G hS.sx) (rest := []) (w95 G) (w96 G) (nfS (w98 G)) (w98 G) (w97 G) (w3 G) (w99 G) (by decide) pd10 rfl rfl d17_17 rfl (by first | exact Nat.le_of_ble_eq_true rfl | (simp; done) | (simp; omega)) (by first | exact Nat.le_of_ble_eq_true rfl | (simp; done) | (simp; omega)) (by first | exact Nat.le_of_ble_eq_true rfl | (simp; done) | (simp; omega)) (by first | exact Nat.le_of_ble_eq_true rfl | (simp; done) | (simp; omega)) (Kv ?_)
  rintro v M ⟨rfl, rfl⟩
  refine Go.ifc X d17_20 (pt := 33) ⟨by decide, by decide⟩ ?_ ?_
  · intro q; exact absurd (show (1 : Int32) = 0 from q) (by decide)
  intro _
  refine Go.aloadN X d17_23 rfl rfl ?_
  refine Go.getFld X (w28 G) Via.refl (fun h H => (hS.sx.2 h H).2.1) d17_24 ?_
  refine Go.callS X (s_l1hash l G hb' hS.2.2 hF) (rest := []) (w100 G) (w101 G) (w102 G) (w103 G) (by decide) pd11 rfl rfl d17_27 rfl (by first | exact Nat.le_of_ble_eq_true rfl | (simp; done) | (simp; omega)) (by first | exact Nat.le_of_ble_eq_true rfl | (simp; done) | (simp; omega)) (by first | exact Nat.le_of_ble_eq_true rfl | (simp; done) | (simp; omega)) (by first | exact Nat.le_of_ble_eq_true rfl | (simp; done) | (simp; omega)) (Kv ?_)
  rintro v M ⟨rfl, rfl⟩
  refine Go.goto X d17_30 (pt := 40) ⟨by decide, by decide⟩ ?_
  refine Go.istoreN X d17_40 rfl ?_
  refine Go.iloadN X d17_41 rfl ?_
  refine Go.ifc X d17_42 (pt := 53) ⟨by decide, by decide⟩ ?_ ?_
  · intro q
    refine Go.aloadN X d17_53 rfl rfl ?_
    refine Go.iloadN X d17_54 rfl ?_
    refine Go.putInv X (C := "java/lang/String") (P := StrP Z b cl) hS.1 (w91 G) Via.refl (Or.inl (w92 G)) (w2 G) (fun h H => by obtain ⟨hv, hz, r⟩ := hS.cell H; exact ⟨⟨_, r.2.2.2.2.2.1⟩, r.2.2.1⟩) (fun c q hs lt => by obtain ⟨hv, hz, q1, q2, q3⟩ := q; exact ⟨_, hz, Or.inr rfl, q2, Ob.put (lay0 G) (j := 2) rfl q3 hs lt⟩) pf2 d17_55 (by rfl) (by rfl) ?_
    refine Go.iloadN X d17_58 rfl ?_
    exact Go.iret X d17_59 (Nat.zero_le _) (Nat.zero_le _) ⟨rfl, rfl⟩
  intro q
  have q : hashOf cl = 0 := Decidable.of_not_not q
  refine Go.aloadN X d17_45 rfl rfl ?_
  refine Go.iconst X (v := 1) d17_46 (by decide) ?_
  refine Go.putInv X (C := "java/lang/String") (P := StrP Z b cl) hS.1 (w93 G) Via.refl (Or.inl (w94 G)) (w2 G) (fun h H => by obtain ⟨hv, hz, r⟩ := hS.cell H; exact ⟨⟨_, r.2.2.2.2.2.2⟩, r.2.2.1⟩) (fun c q hs lt => by obtain ⟨hv, hz, q1, q2, q3⟩ := q; exact ⟨hv, _, q1, Or.inr ⟨rfl, q⟩, Ob.put (lay0 G) (j := 3) rfl q3 hs lt⟩) pf3 d17_47 (by rfl) (by rfl) ?_
  refine Go.goto X d17_50 (pt := 58) ⟨by decide, by decide⟩ ?_
  refine Go.iloadN X d17_58 rfl ?_
  exact Go.iret X d17_59 (Nat.zero_le _) (Nat.zero_le _) ⟨rfl, rfl⟩
-- %%% strings 4
theorem w115 {a0 : Array Value} {Z : State} (G : Gl a0 Z) : (Jvm.Cond.classLink "java/lang/String" (10 : Nat) "java/lang/String").before a0 Z = true := G.1 _ (List.mem_of_getElem? (i := 115) rfl)
theorem w116 {a0 : Array Value} {Z : State} (G : Gl a0 Z) : (Jvm.Cond.methodLink "java/lang/String" (541 : Nat) ({ cls := "java/lang/StringLatin1", name := "equals", desc := "([B[B)Z" } : Jvm.MethodName)).before a0 Z = true := G.1 _ (List.mem_of_getElem? (i := 116) rfl)
theorem w117 {a0 : Array Value} {Z : State} (G : Gl a0 Z) : (Jvm.Cond.static ({ cls := "java/lang/StringLatin1", name := "equals", desc := "([B[B)Z" } : Jvm.MethodName)).before a0 Z = true := G.1 _ (List.mem_of_getElem? (i := 117) rfl)
theorem w118 {a0 : Array Value} {Z : State} (G : Gl a0 Z) : (Jvm.Cond.code ({ cls := "java/lang/StringLatin1", name := "equals", desc := "([B[B)Z" } : Jvm.MethodName) jdk_43_method_13_code (3 : Nat) (Option.some Jvm.ClassFile.FieldType.boolean)).before a0 Z = true := G.1 _ (List.mem_of_getElem? (i := 118) rfl)
theorem d21_0 : D1 jdk_42_method_66_code 0 (.aload_n 0) 1 1 := ⟨by decide +kernel, rfl⟩
theorem d21_1 : D1 jdk_42_method_66_code 1 (.aload_n 1) 1 2 := ⟨by decide +kernel, rfl⟩
theorem d21_2 : D1 jdk_42_method_66_code 2 (.if_acmp .ne 5) 3 5 := ⟨by decide +kernel, rfl⟩
theorem d21_5 : D1 jdk_42_method_66_code 5 (.iconst 1) 1 6 := ⟨by decide +kernel, rfl⟩
theorem d21_6 : D1 jdk_42_method_66_code 6 (.ireturn) 1 7 := ⟨by decide +kernel, rfl⟩
theorem d21_7 : D1 jdk_42_method_66_code 7 (.aload_n 1) 1 8 := ⟨by decide +kernel, rfl⟩
theorem d21_8 : D1 jdk_42_method_66_code 8 (.instanceof 10) 3 11 := ⟨by decide +kernel, rfl⟩
theorem d21_11 : D1 jdk_42_method_66_code 11 (.ifCond .eq 43) 3 14 := ⟨by decide +kernel, rfl⟩
theorem d21_14 : D1 jdk_42_method_66_code 14 (.aload_n 1) 1 15 := ⟨by decide +kernel, rfl⟩
theorem d21_15 : D1 jdk_42_method_66_code 15 (.checkcast 10) 3 18 := ⟨by decide +kernel, rfl⟩
theorem d21_18 : D1 jdk_42_method_66_code 18 (.astore_n 2) 1 19 := ⟨by decide +kernel, rfl⟩
theorem d21_19 : D1 jdk_42_method_66_code 19 (.getstatic 38) 3 22 := ⟨by decide +kernel, rfl⟩
theorem d21_22 : D1 jdk_42_method_66_code 22 (.ifCond .eq 14) 3 25 := ⟨by decide +kernel, rfl⟩
theorem d21_25 : D1 jdk_42_method_66_code 25 (.aload_n 0) 1 26 := ⟨by decide +kernel, rfl⟩
theorem d21_26 : D1 jdk_42_method_66_code 26 (.getfield 15) 3 29 := ⟨by decide +kernel, rfl⟩
theorem d21_29 : D1 jdk_42_method_66_code 29 (.aload_n 2) 1 30 := ⟨by decide +kernel, rfl⟩
theorem d21_30 : D1 jdk_42_method_66_code 30 (.getfield 15) 3 33 := ⟨by decide +kernel, rfl⟩
theorem d21_33 : D1 jdk_42_method_66_code 33 (.if_icmp .ne 21) 3 36 := ⟨by decide +kernel, rfl⟩
theorem d21_36 : D1 jdk_42_method_66_code 36 (.aload_n 0) 1 37 := ⟨by decide +kernel, rfl⟩
theorem d21_37 : D1 jdk_42_method_66_code 37 (.getfield 9) 3 40 := ⟨by decide +kernel, rfl⟩
theorem d21_40 : D1 jdk_42_method_66_code 40 (.aload_n 2) 1 41 := ⟨by decide +kernel, rfl⟩
theorem d21_41 : D1 jdk_42_method_66_code 41 (.getfield 9) 3 44 := ⟨by decide +kernel, rfl⟩
theorem d21_44 : D1 jdk_42_method_66_code 44 (.invokestatic 541) 3 47 := ⟨by decide +kernel, rfl⟩
theorem d21_47 : D1 jdk_42_method_66_code 47 (.ifCond .eq 7) 3 50 := ⟨by decide +kernel, rfl⟩
theorem d21_50 : D1 jdk_42_method_66_code 50 (.iconst 1) 1 51 := ⟨by decide +kernel, rfl⟩
theorem d21_51 : D1 jdk_42_method_66_code 51 (.goto 4) 3 54 := ⟨by decide +kernel, rfl⟩
theorem d21_54 : D1 jdk_42_method_66_code 54 (.iconst 0) 1 55 := ⟨by decide +kernel, rfl⟩
theorem d21_55 : D1 jdk_42_method_66_code 55 (.ireturn) 1 56 := ⟨by decide +kernel, rfl⟩
theorem d22_0 : D1 jdk_43_method_13_code 0 (.aload_n 0) 1 1 := ⟨by decide +kernel, rfl⟩
theorem d22_1 : D1 jdk_43_method_13_code 1 (.arraylength) 1 2 := ⟨by decide +kernel, rfl⟩
theorem d22_2 : D1 jdk_43_method_13_code 2 (.aload_n 1) 1 3 := ⟨by decide +kernel, rfl⟩
theorem d22_3 : D1 jdk_43_method_13_code 3 (.arraylength) 1 4 := ⟨by decide +kernel, rfl⟩
theorem d22_4 : D1 jdk_43_method_13_code 4 (.if_icmp .ne 30) 3 7 := ⟨by decide +kernel, rfl⟩
theorem d22_7 : D1 jdk_43_method_13_code 7 (.iconst 0) 1 8 := ⟨by decide +kernel, rfl⟩
theorem d22_8 : D1 jdk_43_method_13_code 8 (.istore_n 2) 1 9 := ⟨by decide +kernel, rfl⟩
theorem d22_9 : D1 jdk_43_method_13_code 9 (.iload_n 2) 1 10 := ⟨by decide +kernel, rfl⟩
theorem d22_10 : D1 jdk_43_method_13_code 10 (.aload_n 0) 1 11 := ⟨by decide +kernel, rfl⟩
theorem d22_11 : D1 jdk_43_method_13_code 11 (.arraylength) 1 12 := ⟨by decide +kernel, rfl⟩
theorem d22_12 : D1 jdk_43_method_13_code 12 (.if_icmp .ge 20) 3 15 := ⟨by decide +kernel, rfl⟩
theorem d22_15 : D1 jdk_43_method_13_code 15 (.aload_n 0) 1 16 := ⟨by decide +kernel, rfl⟩
theorem d22_16 : D1 jdk_43_method_13_code 16 (.iload_n 2) 1 17 := ⟨by decide +kernel, rfl⟩
theorem d22_17 : D1 jdk_43_method_13_code 17 (.baload) 1 18 := ⟨by decide +kernel, rfl⟩
theorem d22_18 : D1 jdk_43_method_13_code 18 (.aload_n 1) 1 19 := ⟨by decide +kernel, rfl⟩
theorem d22_19 : D1 jdk_43_method_13_code 19 (.iload_n 2) 1 20 := ⟨by decide +kernel, rfl⟩
theorem d22_20 : D1 jdk_43_method_13_code 20 (.baload) 1 21 := ⟨by decide +kernel, rfl⟩
theorem d22_21 : D1 jdk_43_method_13_code 21 (.if_icmp .eq 5) 3 24 := ⟨by decide +kernel, rfl⟩
theorem d22_24 : D1 jdk_43_method_13_code 24 (.iconst 0) 1 25 := ⟨by decide +kernel, rfl⟩
theorem d22_25 : D1 jdk_43_method_13_code 25 (.ireturn) 1 26 := ⟨by decide +kernel, rfl⟩
theorem d22_26 : D1 jdk_43_method_13_code 26 (.iinc 2 1) 3 29 := ⟨by decide +kernel, rfl⟩
theorem d22_29 : D1 jdk_43_method_13_code 29 (.goto (-20)) 3 32 := ⟨by decide +kernel, rfl⟩
theorem d22_32 : D1 jdk_43_method_13_code 32 (.iconst 1) 1 33 := ⟨by decide +kernel, rfl⟩
theorem d22_33 : D1 jdk_43_method_13_code 33 (.ireturn) 1 34 := ⟨by decide +kernel, rfl⟩
theorem d22_34 : D1 jdk_43_method_13_code 34 (.iconst 0) 1 35 := ⟨by decide +kernel, rfl⟩
theorem d22_35 : D1 jdk_43_method_13_code 35 (.ireturn) 1 36 := ⟨by decide +kernel, rfl⟩
theorem pd12 : parseMethodDescriptor "([B[B)Z" = some ⟨[(.array .byte), (.array .byte)], some .boolean⟩ := by decide +kernel
set_option maxRecDepth 65536 in
set_option maxHeartbeats 4000000 in
theorem s_eq_loop {p : Program} {l : Launch} {e : Env} {R : Room} {Z s : State} {m : MethodId} {args : Array Value} {below : List Frame} {meth : Method} {c : Code} {L : List Ent} {b1 b2 : Addr} {K1 K2 : ClassId} {f1 f2 : Bool} {c1 c2 : List Nat} (h1 : (b1, Ar Z .byte K1 (bsOf c1), f1) ∈ L) (h2 : (b2, Ar Z .byte K2 (bsOf c2), f2) ∈ L) (hl : c1.length = c2.length) (hs : c1.length < 2 ^ 31) (l1 : ∀ c ∈ c1, c < 256) (l2 : ∀ c ∈ c2, c < 256)
    (X : Cx WD EL0 p Z s m meth c "java/lang/StringLatin1" "equals" jdk_43_method_13_code 3 (some .boolean)) : ∀ (s1 s2 pre : List Nat), pre ++ s1 = c1 → pre ++ s2 = c2 →
    Go WD EL0 p l e R Z s m args below meth c (rvQ fun v M => v = .int (if c1 = c2 then 1 else 0) ∧ M = L) L 0 0 (mkF m 9 #[.val (.ref b1), .val (.ref b2), .val (.int (Int32.ofNat pre.length))] []) := by
  intro s1
  induction s1 with
  | nil =>
    intro s2 pre hp hq
    have hp : pre = c1 := by simpa using hp
    have e2 : s2 = [] := by apply List.eq_nil_of_length_eq_zero; have := congrArg List.length hq; rw [hp] at this; simp at this; omega
    subst e2
    have e3 : c1 = c2 := by rw [← hp, ← hq]; simp
    refine Go.iloadN X d22_9 rfl ?_
    refine Go.aloadN X d22_10 rfl rfl ?_
    refine Go.alenA X (fun h H => H.lenM h1) d22_11 ?_
    rw [bs_len]
    refine Go.icmp X d22_12 (pt := 32) ⟨by decide, by decide⟩ ?_ ?_
    · intro _
      refine Go.iconst X (v := 1) d22_32 (by decide) ?_
      exact Go.zret X d22_33 (Or.inr rfl) (Nat.zero_le _) (Nat.zero_le _) ⟨by rw [if_pos e3], rfl⟩
    intro q
    exact absurd (show c1.length.toInt32 ≤ Int32.ofNat pre.length by rw [hp]; exact Int32.le_refl _) q
  | cons x s1 ih =>
    intro s2 pre hp hq
    obtain ⟨y, s2, rfl⟩ : ∃ y t, s2 = y :: t := by
      cases s2 with
      | nil => exfalso; have a1 := congrArg List.length hp; have a2 := congrArg List.length hq; simp at a1 a2; omega
      | cons y t => exact ⟨y, t, rfl⟩
    have hx : x < 256 := l1 x (by rw [← hp]; simp)
    have hy : y < 256 := l2 y (by rw [← hq]; simp)
    have ax : c1[pre.length]? = some x := by rw [← hp]; simp
    have ay : c2[pre.length]? = some y := by rw [← hq]; simp
    have hlen : pre.length < c1.length := (List.getElem?_eq_some_iff.mp ax).1
    obtain ⟨n1, n2, n3⟩ := nat32 (i := pre.length) (by omega)
    obtain ⟨k1, k2, k3⟩ := nat32 (i := c1.length) hs
    refine Go.iloadN X d22_9 rfl ?_
    refine Go.aloadN X d22_10 rfl rfl ?_
    refine Go.alenA X (fun h H => H.lenM h1) d22_11 ?_
    rw [bs_len]
    refine Go.icmp X d22_12 (pt := 32) ⟨by decide, by decide⟩ ?_ ?_
    · intro q
      have q : (c1.length : Int) ≤ pre.length := ccL q n1 k1
      omega
    intro _
    refine Go.aloadN X d22_15 rfl rfl ?_
    refine Go.iloadN X d22_16 rfl ?_
    refine Go.bald X n2 (x := (Int32.ofNat x).toInt8.toInt32) (fun h H => H.elM h1 (by rw [n3]; exact bs_at ax)) d22_17 ?_
    refine Go.aloadN X d22_18 rfl rfl ?_
    refine Go.iloadN X d22_19 rfl ?_
    refine Go.bald X n2 (x := (Int32.ofNat y).toInt8.toInt32) (fun h H => H.elM h2 (by rw [n3]; exact bs_at ay)) d22_20 ?_
    refine Go.icmp X d22_21 (pt := 26) ⟨by decide, by decide⟩ ?_ ?_
    · intro q
      have q : x = y := byte_inj hx hy q
      subst q
      refine Go.iinc X d22_26 rfl rfl ?_
      refine Go.goto X d22_29 (pt := 9) ⟨by decide, by decide⟩ ?_
      have a2 : Int32.ofNat pre.length + Int32.ofInt 1 = Int32.ofNat (pre ++ [x]).length := by
        rw [show (pre ++ [x]).length = pre.length + 1 by simp]; exact (inc_ofNat _).symm
      rw [a2]
      exact ih s2 (pre ++ [x]) (by rw [← hp]; simp) (by rw [← hq]; simp)
    intro q
    have ne : c1 ≠ c2 := fun z => by rw [z, ay] at ax; cases ax; exact q rfl
    refine Go.iconst X (v := 0) d22_24 (by decide) ?_
    exact Go.zret X d22_25 (Or.inl rfl) (Nat.zero_le _) (Nat.zero_le _) ⟨by rw [if_neg ne], rfl⟩
set_option maxRecDepth 65536 in
set_option maxHeartbeats 4000000 in
theorem s_l1eq (l : Launch) {Z : State} {a0 : Array Value} (G : Gl a0 Z) {L : List Ent} {b1 b2 : Addr} {K1 K2 : ClassId} {f1 f2 : Bool} {c1 c2 : List Nat} (h1 : (b1, Ar Z .byte K1 (bsOf c1), f1) ∈ L) (h2 : (b2, Ar Z .byte K2 (bsOf c2), f2) ∈ L) (l1 : ∀ c ∈ c1, c < 256) (l2 : ∀ c ∈ c2, c < 256) : Ct WD EL0 l Z (⟨"java/lang/StringLatin1", "equals", "([B[B)Z"⟩ : MethodName) jdk_43_method_13_code 3 (some .boolean) ({ frames := 0, cells := 0, slots := 0, locals := 0 } : Room) #[.ref b1, .ref b2] L (rvQ (fun v M => v = .int (if c1 = c2 then 1 else 0) ∧ M = L)) := by
  refine Ct.intro (by decide +kernel) G.2.1 ?_
  intro p e s m below meth c X
  replace X : Cx WD EL0 p Z s m meth c "java/lang/StringLatin1" "equals" jdk_43_method_13_code 3 (some .boolean) := X
  refine Go.cast (g' := mkF m 0 #[.val (.ref b1), .val (.ref b2), .unset] []) (by first | rfl | (simp [entryFrame, mkF, argsToLocals, Value.category, maxLocals]; done)) ?_
  refine Go.fact (fun h H => And.intro (len_small H h1) (len_small H h2)) fun hM => ?_
  rw [bs_len, bs_len] at hM
  obtain ⟨n1, n2, n3⟩ := nat32 (i := c1.length) hM.1
  obtain ⟨m1, m2, m3⟩ := nat32 (i := c2.length) hM.2
  refine Go.aloadN X d22_0 rfl rfl ?_
  refine Go.alenA X (fun h H => H.lenM h1) d22_1 ?_
  rw [bs_len]
  refine Go.aloadN X d22_2 rfl rfl ?_
  refine Go.alenA X (fun h H => H.lenM h2) d22_3 ?_
  rw [bs_len]
  refine Go.icmp X d22_4 (pt := 34) ⟨by decide, by decide⟩ ?_ ?_
  · intro q
    have q : ¬ (c1.length : Int) = c2.length := ccL q n1 m1
    have ne : c1 ≠ c2 := fun z => q (by rw [z])
    refine Go.iconst X (v := 0) d22_34 (by decide) ?_
    exact Go.zret X d22_35 (Or.inl rfl) (Nat.zero_le _) (Nat.zero_le _) ⟨by rw [if_neg ne], rfl⟩
  intro q
  have q : (c1.length : Int) = c2.length := Decidable.of_not_not (ccN q n1 m1)
  refine Go.iconst X (v := 0) d22_7 (by decide) ?_
  refine Go.istoreN X d22_8 rfl ?_
  exact s_eq_loop h1 h2 (by omega) hM.1 l1 l2 X c1 c2 [] rfl rfl
set_option maxRecDepth 65536 in
set_option maxHeartbeats 4000000 in
theorem s_equals (l : Launch) {Z : State} {a0 : Array Value} (G : Gl a0 Z) {L : List Ent} {a1 a2 b1 b2 : Addr} {c1 c2 : List Nat} (hA : Sk Z L a1 b1 c1) (hB : Sk Z L a2 b2 c2) (hE : a1 = a2 → c1 = c2) : Ct WD EL0 l Z (⟨"java/lang/String", "equals", "(Ljava/lang/Object;)Z"⟩ : MethodName) jdk_42_method_66_code 3 (some .boolean) ({ frames := 1, cells := 0, slots := 0, locals := 14 } : Room) #[.ref a1, .ref a2] L (rvQ (fun v M => v = .int (if c1 = c2 then 1 else 0) ∧ M = L)) := by
  refine Ct.intro (by decide +kernel) G.2.1 ?_
  intro p e s m below meth c X
  replace X : Cx WD EL0 p Z s m meth c "java/lang/String" "equals" jdk_42_method_66_code 3 (some .boolean) := X
  refine Go.cast (g' := mkF m 0 #[.val (.ref a1), .val (.ref a2), .unset] []) (by first | rfl | (simp [entryFrame, mkF, argsToLocals, Value.category, maxLocals]; done)) ?_
  obtain ⟨K1, f1, h1, -⟩ := hA.2.1
  obtain ⟨K2, f2, h2, -⟩ := hB.2.1
  refine Go.aloadN X d21_0 rfl rfl ?_
  refine Go.aloadN X d21_1 rfl rfl ?_
  refine Go.acmp X d21_2 (pt := 7) ⟨by decide, by decide⟩ (by rfl) (by rfl) ?_ ?_
  rotate_left
  · intro q
    have q : c1 = c2 := hE (Value.ref.inj (Decidable.of_not_not q))
    refine Go.iconst X (v := 1) d21_5 (by decide) ?_
    exact Go.zret X d21_6 (Or.inr rfl) (Nat.zero_le _) (Nat.zero_le _) ⟨by rw [if_pos q], rfl⟩
  intro _
  refine Go.aloadN X d21_7 rfl rfl ?_
  refine Go.inst1 X (w115 G) (fun h H => Ins.self (hB.sx.2 h H).1) d21_8 ?_
  refine Go.ifc X d21_11 (pt := 54) ⟨by decide, by decide⟩ ?_ ?_
  · intro q; exact absurd (show (1 : Int32) = 0 from q) (by decide)
  intro _
  refine Go.aloadN X d21_14 rfl rfl ?_
  refine Go.ccast X (w115 G) (fun h H => Ins.self (hB.sx.2 h H).1) d21_15 ?_
  refine Go.astoreN X d21_18 rfl rfl ?_
  obtain ⟨cst, hcst, Fcst⟩ := g_cs G
  refine Go.getSta X (w14 G) Via.refl Fcst d21_19 ?_
  refine Go.ifc X d21_22 (pt := 36) ⟨by decide, by decide⟩ ?_ ?_
  · intro q; exact absurd q hcst
  intro _
  refine Go.aloadN X d21_25 rfl rfl ?_
  refine Go.getFld X (w26 G) Via.refl (fun h H => (hA.sx.2 h H).2.2) d21_26 ?_
  refine Go.aloadN X d21_29 rfl rfl ?_
  refine Go.getFld X (w26 G) Via.refl (fun h H => (hB.sx.2 h H).2.2) d21_30 ?_
  refine Go.icmp X d21_33 (pt := 54) ⟨by decide, by decide⟩ ?_ ?_
  · intro q; exact absurd rfl q
  intro _
  refine Go.aloadN X d21_36 rfl rfl ?_
  refine Go.getFld X (w28 G) Via.refl (fun h H => (hA.sx.2 h H).2.1) d21_37 ?_
  refine Go.aloadN X d21_40 rfl rfl ?_
  refine Go.getFld X (w28 G) Via.refl (fun h H => (hB.sx.2 h H).2.1) d21_41 ?_
  refine Go.callS X (s_l1eq l G h1 h2 hA.2.2 hB.2.2) (rest := []) (w116 G) (w117 G) (w102 G) (w118 G) (by decide) pd12 rfl rfl d21_44 rfl (Nat.le_of_ble_eq_true rfl) (Nat.le_of_ble_eq_true rfl) (Nat.le_of_ble_eq_true rfl) (Nat.le_of_ble_eq_true rfl) (Kv ?_)
  rintro v M ⟨rfl, rfl⟩
  refine Go.ifc X d21_47 (pt := 54) ⟨by decide, by decide⟩ ?_ ?_
  · intro q
    have q := ite_0 q
    refine Go.iconst X (v := 0) d21_54 (by decide) ?_
    exact Go.zret X d21_55 (Or.inl rfl) (Nat.zero_le _) (Nat.zero_le _) ⟨by rw [if_neg q], rfl⟩
  intro q
  have q := ite_n0 q
  refine Go.iconst X (v := 1) d21_50 (by decide) ?_
  refine Go.goto X d21_51 (pt := 55) ⟨by decide, by decide⟩ ?_
  exact Go.zret X d21_55 (Or.inr rfl) (Nat.zero_le _) (Nat.zero_le _) ⟨by rw [if_pos q], rfl⟩
-- %%% StringTable.<init>, clear
theorem w31 {a0 : Array Value} {Z : State} (G : Gl a0 Z) : (Jvm.Cond.instantiable "com/example/boxwood/boxwood/input/StringTable" (5 : Nat)).before a0 Z = true := G.1 _ (List.mem_of_getElem? (i := 31) rfl)
theorem w36 {a0 : Array Value} {Z : State} (G : Gl a0 Z) : (Jvm.Cond.methodLink "com/example/boxwood/boxwood/input/StringTable" (1 : Nat) ({ cls := "java/lang/Object", name := "<init>", desc := "()V" } : Jvm.MethodName)).before a0 Z = true := G.1 _ (List.mem_of_getElem? (i := 36) rfl)
theorem w37 {a0 : Array Value} {Z : State} (G : Gl a0 Z) : (Jvm.Cond.classLink "com/example/boxwood/boxwood/input/StringTable" (9 : Nat) "java/lang/String").before a0 Z = true := G.1 _ (List.mem_of_getElem? (i := 37) rfl)
theorem w38 {a0 : Array Value} {Z : State} (G : Gl a0 Z) : (Jvm.Cond.arrayOver (Jvm.ClassFile.FieldType.object "java/lang/String")).before a0 Z = true := G.1 _ (List.mem_of_getElem? (i := 38) rfl)
theorem w39 {a0 : Array Value} {Z : State} (G : Gl a0 Z) : (Jvm.Cond.fieldLink "com/example/boxwood/boxwood/input/StringTable" (11 : Nat) "com/example/boxwood/boxwood/input/StringTable" "tabbed" "[Ljava/lang/String;").before a0 Z = true := G.1 _ (List.mem_of_getElem? (i := 39) rfl)
theorem w40 {a0 : Array Value} {Z : State} (G : Gl a0 Z) : (Jvm.Cond.lays "com/example/boxwood/boxwood/input/StringTable" "com/example/boxwood/boxwood/input/StringTable" "tabbed" "[Ljava/lang/String;").before a0 Z = true := G.1 _ (List.mem_of_getElem? (i := 40) rfl)
theorem w41 {a0 : Array Value} {Z : State} (G : Gl a0 Z) : (Jvm.Cond.fieldLink "com/example/boxwood/boxwood/input/StringTable" (15 : Nat) "com/example/boxwood/boxwood/input/StringTable" "spaced" "[Ljava/lang/String;").before a0 Z = true := G.1 _ (List.mem_of_getElem? (i := 41) rfl)
theorem w42 {a0 : Array Value} {Z : State} (G : Gl a0 Z) : (Jvm.Cond.lays "com/example/boxwood/boxwood/input/StringTable" "com/example/boxwood/boxwood/input/StringTable" "spaced" "[Ljava/lang/String;").before a0 Z = true := G.1 _ (List.mem_of_getElem? (i := 42) rfl)
theorem w43 {a0 : Array Value} {Z : State} (G : Gl a0 Z) : (Jvm.Cond.fieldLink "com/example/boxwood/boxwood/input/StringTable" (18 : Nat) "com/example/boxwood/boxwood/input/StringTable" "values" "[Ljava/lang/String;").before a0 Z = true := G.1 _ (List.mem_of_getElem? (i := 43) rfl)
theorem w44 {a0 : Array Value} {Z : State} (G : Gl a0 Z) : (Jvm.Cond.lays "com/example/boxwood/boxwood/input/StringTable" "com/example/boxwood/boxwood/input/StringTable" "values" "[Ljava/lang/String;").before a0 Z = true := G.1 _ (List.mem_of_getElem? (i := 44) rfl)
theorem w45 {a0 : Array Value} {Z : State} (G : Gl a0 Z) : (Jvm.Cond.arrayClass Jvm.ClassFile.FieldType.int).before a0 Z = true := G.1 _ (List.mem_of_getElem? (i := 45) rfl)
theorem w46 {a0 : Array Value} {Z : State} (G : Gl a0 Z) : (Jvm.Cond.fieldLink "com/example/boxwood/boxwood/input/StringTable" (21 : Nat) "com/example/boxwood/boxwood/input/StringTable" "hashes" "[I").before a0 Z = true := G.1 _ (List.mem_of_getElem? (i := 46) rfl)
theorem w47 {a0 : Array Value} {Z : State} (G : Gl a0 Z) : (Jvm.Cond.lays "com/example/boxwood/boxwood/input/StringTable" "com/example/boxwood/boxwood/input/StringTable" "hashes" "[I").before a0 Z = true := G.1 _ (List.mem_of_getElem? (i := 47) rfl)
theorem w108 {a0 : Array Value} {Z : State} (G : Gl a0 Z) : (Jvm.Cond.fieldLink "com/example/boxwood/boxwood/input/StringTable" (47 : Nat) "com/example/boxwood/boxwood/input/StringTable" "placed" "I").before a0 Z = true := G.1 _ (List.mem_of_getElem? (i := 108) rfl)
theorem w109 {a0 : Array Value} {Z : State} (G : Gl a0 Z) : (Jvm.Cond.lays "com/example/boxwood/boxwood/input/StringTable" "com/example/boxwood/boxwood/input/StringTable" "placed" "I").before a0 Z = true := G.1 _ (List.mem_of_getElem? (i := 109) rfl)
theorem d7_0 : D1 prog_79_method_1_code 0 (.aload_n 0) 1 1 := ⟨by decide +kernel, rfl⟩
theorem d7_1 : D1 prog_79_method_1_code 1 (.invokespecial 1) 3 4 := ⟨by decide +kernel, rfl⟩
theorem d7_4 : D1 prog_79_method_1_code 4 (.aload_n 0) 1 5 := ⟨by decide +kernel, rfl⟩
theorem d7_5 : D1 prog_79_method_1_code 5 (.bipush 65) 2 7 := ⟨by decide +kernel, rfl⟩
theorem d7_7 : D1 prog_79_method_1_code 7 (.anewarray 9) 3 10 := ⟨by decide +kernel, rfl⟩
theorem d7_10 : D1 prog_79_method_1_code 10 (.putfield 11) 3 13 := ⟨by decide +kernel, rfl⟩
theorem d7_13 : D1 prog_79_method_1_code 13 (.aload_n 0) 1 14 := ⟨by decide +kernel, rfl⟩
theorem d7_14 : D1 prog_79_method_1_code 14 (.bipush 65) 2 16 := ⟨by decide +kernel, rfl⟩
theorem d7_16 : D1 prog_79_method_1_code 16 (.anewarray 9) 3 19 := ⟨by decide +kernel, rfl⟩
theorem d7_19 : D1 prog_79_method_1_code 19 (.putfield 15) 3 22 := ⟨by decide +kernel, rfl⟩
theorem d7_22 : D1 prog_79_method_1_code 22 (.aload_n 0) 1 23 := ⟨by decide +kernel, rfl⟩
theorem d7_23 : D1 prog_79_method_1_code 23 (.sipush 256) 3 26 := ⟨by decide +kernel, rfl⟩
theorem d7_26 : D1 prog_79_method_1_code 26 (.anewarray 9) 3 29 := ⟨by decide +kernel, rfl⟩
theorem d7_29 : D1 prog_79_method_1_code 29 (.putfield 18) 3 32 := ⟨by decide +kernel, rfl⟩
theorem d7_32 : D1 prog_79_method_1_code 32 (.aload_n 0) 1 33 := ⟨by decide +kernel, rfl⟩
theorem d7_33 : D1 prog_79_method_1_code 33 (.sipush 256) 3 36 := ⟨by decide +kernel, rfl⟩
theorem d7_36 : D1 prog_79_method_1_code 36 (.newarray .int) 2 38 := ⟨by decide +kernel, rfl⟩
theorem d7_38 : D1 prog_79_method_1_code 38 (.putfield 21) 3 41 := ⟨by decide +kernel, rfl⟩
theorem d7_41 : D1 prog_79_method_1_code 41 (.return_) 1 42 := ⟨by decide +kernel, rfl⟩
theorem d23_0 : D1 prog_79_method_4_code 0 (.aload_n 0) 1 1 := ⟨by decide +kernel, rfl⟩
theorem d23_1 : D1 prog_79_method_4_code 1 (.bipush 65) 2 3 := ⟨by decide +kernel, rfl⟩
theorem d23_3 : D1 prog_79_method_4_code 3 (.anewarray 9) 3 6 := ⟨by decide +kernel, rfl⟩
theorem d23_6 : D1 prog_79_method_4_code 6 (.putfield 11) 3 9 := ⟨by decide +kernel, rfl⟩
theorem d23_9 : D1 prog_79_method_4_code 9 (.aload_n 0) 1 10 := ⟨by decide +kernel, rfl⟩
theorem d23_10 : D1 prog_79_method_4_code 10 (.bipush 65) 2 12 := ⟨by decide +kernel, rfl⟩
theorem d23_12 : D1 prog_79_method_4_code 12 (.anewarray 9) 3 15 := ⟨by decide +kernel, rfl⟩
theorem d23_15 : D1 prog_79_method_4_code 15 (.putfield 15) 3 18 := ⟨by decide +kernel, rfl⟩
theorem d23_18 : D1 prog_79_method_4_code 18 (.aload_n 0) 1 19 := ⟨by decide +kernel, rfl⟩
theorem d23_19 : D1 prog_79_method_4_code 19 (.sipush 256) 3 22 := ⟨by decide +kernel, rfl⟩
theorem d23_22 : D1 prog_79_method_4_code 22 (.anewarray 9) 3 25 := ⟨by decide +kernel, rfl⟩
theorem d23_25 : D1 prog_79_method_4_code 25 (.putfield 18) 3 28 := ⟨by decide +kernel, rfl⟩
theorem d23_28 : D1 prog_79_method_4_code 28 (.aload_n 0) 1 29 := ⟨by decide +kernel, rfl⟩
theorem d23_29 : D1 prog_79_method_4_code 29 (.sipush 256) 3 32 := ⟨by decide +kernel, rfl⟩
theorem d23_32 : D1 prog_79_method_4_code 32 (.newarray .int) 2 34 := ⟨by decide +kernel, rfl⟩
theorem d23_34 : D1 prog_79_method_4_code 34 (.putfield 21) 3 37 := ⟨by decide +kernel, rfl⟩
theorem d23_37 : D1 prog_79_method_4_code 37 (.aload_n 0) 1 38 := ⟨by decide +kernel, rfl⟩
theorem d23_38 : D1 prog_79_method_4_code 38 (.iconst 0) 1 39 := ⟨by decide +kernel, rfl⟩
theorem d23_39 : D1 prog_79_method_4_code 39 (.putfield 47) 3 42 := ⟨by decide +kernel, rfl⟩
theorem d23_42 : D1 prog_79_method_4_code 42 (.return_) 1 43 := ⟨by decide +kernel, rfl⟩
def ns1 : List Nm := [("com/example/boxwood/boxwood/input/StringTable", "tabbed", "[Ljava/lang/String;"), ("com/example/boxwood/boxwood/input/StringTable", "spaced", "[Ljava/lang/String;"), ("com/example/boxwood/boxwood/input/StringTable", "values", "[Ljava/lang/String;"), ("com/example/boxwood/boxwood/input/StringTable", "hashes", "[I"), ("com/example/boxwood/boxwood/input/StringTable", "placed", "I")]
theorem lay1 {a0 : Array Value} {Z : State} (G : Gl a0 Z) : LayC Z a0 "com/example/boxwood/boxwood/input/StringTable" ns1 := LayC.of (fun q hq => by
  simp only [ns1, List.mem_cons, List.not_mem_nil, or_false] at hq
  rcases hq with rfl | rfl | rfl | rfl | rfl
  · exact Or.inl (G.1 _ (List.mem_of_getElem? (i := 40) rfl))
  · exact Or.inl (G.1 _ (List.mem_of_getElem? (i := 42) rfl))
  · exact Or.inl (G.1 _ (List.mem_of_getElem? (i := 44) rfl))
  · exact Or.inl (G.1 _ (List.mem_of_getElem? (i := 47) rfl))
  · exact Or.inl (G.1 _ (List.mem_of_getElem? (i := 109) rfl))) (by decide +kernel) (fun q hq => by
  simp only [ns1, List.mem_cons, List.not_mem_nil, or_false] at hq
  rcases hq with rfl | rfl | rfl | rfl | rfl
  · exact ⟨(.array (.object "java/lang/String")), by decide +kernel⟩
  · exact ⟨(.array (.object "java/lang/String")), by decide +kernel⟩
  · exact ⟨(.array (.object "java/lang/String")), by decide +kernel⟩
  · exact ⟨(.array .int), by decide +kernel⟩
  · exact ⟨.int, by decide +kernel⟩)
theorem df1 : dfl ns1 = ([.null, .null, .null, .null, .int 0] : List Value).map some := by decide +kernel
theorem pf4 : parseFieldDescriptor "[Ljava/lang/String;" = some (.array (.object "java/lang/String")) := by decide +kernel
theorem pf5 : parseFieldDescriptor "[I" = some (.array .int) := by decide +kernel
set_option maxRecDepth 65536 in
set_option maxHeartbeats 4000000 in
theorem t_init (l : Launch) {Z : State} {a0 : Array Value} (G : Gl a0 Z) {L : List Ent} {a : Addr} : Ct WD EL0 l Z (⟨"com/example/boxwood/boxwood/input/StringTable", "<init>", "()V"⟩ : MethodName) prog_79_method_1_code 1 none ({ frames := 1, cells := 4, slots := 642, locals := 12 } : Room) #[.ref a] (ow a (Ob Z "com/example/boxwood/boxwood/input/StringTable" ns1 [.null, .null, .null, .null, .int 0]) :: L) (r0Q (fun M => ∃ b1 b2 b3 b4 Kb1 Kb2 Kb3 Kb4, Ovr Z Kb1 "java/lang/String" ∧ Ovr Z Kb2 "java/lang/String" ∧ Ovr Z Kb3 "java/lang/String" ∧ M = ow b4 (Ar Z .int Kb4 (List.replicate 256 (.int 0))) :: ow b3 (Ar Z (.object "java/lang/String") Kb3 (List.replicate 256 Value.null)) :: ow b2 (Ar Z (.object "java/lang/String") Kb2 (List.replicate 65 Value.null)) :: ow b1 (Ar Z (.object "java/lang/String") Kb1 (List.replicate 65 Value.null)) :: ow a (Ob Z "com/example/boxwood/boxwood/input/StringTable" ns1 [.ref b1, .ref b2, .ref b3, .ref b4, .int 0]) :: L)) := by
  refine Ct.intro (by decide +kernel) G.2.1 ?_
  intro p e s m below meth c X
  replace X : Cx WD EL0 p Z s m meth c "com/example/boxwood/boxwood/input/StringTable" "<init>" prog_79_method_1_code 1 none := X
  refine Go.cast (g' := mkF m 0 #[.val (.ref a)] []) (by first | rfl | (simp [entryFrame, mkF, argsToLocals, Value.category, maxLocals]; done)) ?_
  refine Go.aloadN X d7_0 rfl rfl ?_
  refine Go.initObj X (w36 G) (w12 G) (w13 G) d7_1 rfl (Nat.le_of_ble_eq_true rfl) (Nat.le_of_ble_eq_true rfl) ?_
  refine Go.aloadN X d7_4 rfl rfl ?_
  refine Go.bipush X (v := 65) d7_5 (by decide) ?_
  refine Go.anew X (N := 65) (cap := 65) (w37 G) (w38 G) (by decide) (by decide) (by decide) (by decide) d7_7 (Nat.le_of_ble_eq_true rfl) (Nat.le_of_ble_eq_true rfl) ?_
  intro b1 Kb1 Ob1
  refine Go.putFld X (i := 1) rfl (j := 0) rfl (lay1 G) (w39 G) Via.refl (Or.inl (w40 G)) (w31 G) pf4 d7_10 (by rfl) (by rfl) ?_
  refine Go.aloadN X d7_13 rfl rfl ?_
  refine Go.bipush X (v := 65) d7_14 (by decide) ?_
  refine Go.anew X (N := 65) (cap := 65) (w37 G) (w38 G) (by decide) (by decide) (by decide) (by decide) d7_16 (Nat.le_of_ble_eq_true rfl) (Nat.le_of_ble_eq_true rfl) ?_
  intro b2 Kb2 Ob2
  refine Go.putFld X (i := 2) rfl (j := 1) rfl (lay1 G) (w41 G) Via.refl (Or.inl (w42 G)) (w31 G) pf4 d7_19 (by rfl) (by rfl) ?_
  refine Go.aloadN X d7_22 rfl rfl ?_
  refine Go.sipush X (v := 256) d7_23 (by decide) ?_
  refine Go.anew X (N := 256) (cap := 256) (w37 G) (w38 G) (by decide) (by decide) (by decide) (by decide) d7_26 (Nat.le_of_ble_eq_true rfl) (Nat.le_of_ble_eq_true rfl) ?_
  intro b3 Kb3 Ob3
  refine Go.putFld X (i := 3) rfl (j := 2) rfl (lay1 G) (w43 G) Via.refl (Or.inl (w44 G)) (w31 G) pf4 d7_29 (by rfl) (by rfl) ?_
  refine Go.aloadN X d7_32 rfl rfl ?_
  refine Go.sipush X (v := 256) d7_33 (by decide) ?_
  refine Go.newarr X (aty := .int) (N := 256) (cap := 256) (w45 G) (by decide) (by decide) (by decide) (by decide) d7_36 (Nat.le_of_ble_eq_true rfl) (Nat.le_of_ble_eq_true rfl) ?_
  intro b4 Kb4
  refine Go.putFld X (i := 4) rfl (j := 3) rfl (lay1 G) (w46 G) Via.refl (Or.inl (w47 G)) (w31 G) pf5 d7_38 (by rfl) (by rfl) ?_
  exact Go.ret0 X d7_41 (Nat.le_of_ble_eq_true rfl) (Nat.le_of_ble_eq_true rfl) ⟨b1, b2, b3, b4, Kb1, Kb2, Kb3, Kb4, Ob1, Ob2, Ob3, rfl⟩
set_option maxRecDepth 65536 in
set_option maxHeartbeats 4000000 in
theorem t_clear (l : Launch) {Z : State} {a0 : Array Value} (G : Gl a0 Z) {L : List Ent} {a o1 o2 o3 o4 : Addr} {pl : Int32} : Ct WD EL0 l Z (⟨"com/example/boxwood/boxwood/input/StringTable", "clear", "()V"⟩ : MethodName) prog_79_method_4_code 1 none ({ frames := 0, cells := 4, slots := 642, locals := 0 } : Room) #[.ref a] (ow a (Ob Z "com/example/boxwood/boxwood/input/StringTable" ns1 [.ref o1, .ref o2, .ref o3, .ref o4, .int pl]) :: L) (r0Q (fun M => ∃ b1 b2 b3 b4 Kb1 Kb2 Kb3 Kb4, Ovr Z Kb1 "java/lang/String" ∧ Ovr Z Kb2 "java/lang/String" ∧ Ovr Z Kb3 "java/lang/String" ∧ M = ow b4 (Ar Z .int Kb4 (List.replicate 256 (.int 0))) :: ow b3 (Ar Z (.object "java/lang/String") Kb3 (List.replicate 256 Value.null)) :: ow b2 (Ar Z (.object "java/lang/String") Kb2 (List.replicate 65 Value.null)) :: ow b1 (Ar Z (.object "java/lang/String") Kb1 (List.replicate 65 Value.null)) :: ow a (Ob Z "com/example/boxwood/boxwood/input/StringTable" ns1 [.ref b1, .ref b2, .ref b3, .ref b4, .int 0]) :: L)) := by
  refine Ct.intro (by decide +kernel) G.2.1 ?_
  intro p e s m below meth c X
  replace X : Cx WD EL0 p Z s m meth c "com/example/boxwood/boxwood/input/StringTable" "clear" prog_79_method_4_code 1 none := X
  refine Go.cast (g' := mkF m 0 #[.val (.ref a)] []) (by first | rfl | (simp [entryFrame, mkF, argsToLocals, Value.category, maxLocals]; done)) ?_
  refine Go.aloadN X d23_0 rfl rfl ?_
  refine Go.bipush X (v := 65) d23_1 (by decide) ?_
  refine Go.anew X (N := 65) (cap := 65) (w37 G) (w38 G) (by decide) (by decide) (by decide) (by decide) d23_3 (Nat.le_of_ble_eq_true rfl) (Nat.le_of_ble_eq_true rfl) ?_
  intro b1 Kb1 Ob1
  refine Go.putFld X (i := 1) rfl (j := 0) rfl (lay1 G) (w39 G) Via.refl (Or.inl (w40 G)) (w31 G) pf4 d23_6 (by rfl) (by rfl) ?_
  refine Go.aloadN X d23_9 rfl rfl ?_
  refine Go.bipush X (v := 65) d23_10 (by decide) ?_
  refine Go.anew X (N := 65) (cap := 65) (w37 G) (w38 G) (by decide) (by decide) (by decide) (by decide) d23_12 (Nat.le_of_ble_eq_true rfl) (Nat.le_of_ble_eq_true rfl) ?_
  intro b2 Kb2 Ob2
  refine Go.putFld X (i := 2) rfl (j := 1) rfl (lay1 G) (w41 G) Via.refl (Or.inl (w42 G)) (w31 G) pf4 d23_15 (by rfl) (by rfl) ?_
  refine Go.aloadN X d23_18 rfl rfl ?_
  refine Go.sipush X (v := 256) d23_19 (by decide) ?_
  refine Go.anew X (N := 256) (cap := 256) (w37 G) (w38 G) (by decide) (by decide) (by decide) (by decide) d23_22 (Nat.le_of_ble_eq_true rfl) (Nat.le_of_ble_eq_true rfl) ?_
  intro b3 Kb3 Ob3
  refine Go.putFld X (i := 3) rfl (j := 2) rfl (lay1 G) (w43 G) Via.refl (Or.inl (w44 G)) (w31 G) pf4 d23_25 (by rfl) (by rfl) ?_
  refine Go.aloadN X d23_28 rfl rfl ?_
  refine Go.sipush X (v := 256) d23_29 (by decide) ?_
  refine Go.newarr X (aty := .int) (N := 256) (cap := 256) (w45 G) (by decide) (by decide) (by decide) (by decide) d23_32 (Nat.le_of_ble_eq_true rfl) (Nat.le_of_ble_eq_true rfl) ?_
  intro b4 Kb4
  refine Go.putFld X (i := 4) rfl (j := 3) rfl (lay1 G) (w46 G) Via.refl (Or.inl (w47 G)) (w31 G) pf5 d23_34 (by rfl) (by rfl) ?_
  refine Go.aloadN X d23_37 rfl rfl ?_
  refine Go.iconst X (v := 0) d23_38 (by decide) ?_
  refine Go.putFld X (i := 4) rfl (j := 4) rfl (lay1 G) (w108 G) Via.refl (Or.inl (w109 G)) (w31 G) pf2 d23_39 (by rfl) (by rfl) ?_
  exact Go.ret0 X d23_42 (Nat.le_of_ble_eq_true rfl) (Nat.le_of_ble_eq_true rfl) ⟨b1, b2, b3, b4, Kb1, Kb2, Kb3, Kb4, Ob1, Ob2, Ob3, rfl⟩
-- %%% StringTable.value
theorem w32 {a0 : Array Value} {Z : State} (G : Gl a0 Z) : (Jvm.Cond.initialized "com/example/boxwood/boxwood/input/StringTable").before a0 Z = true := G.1 _ (List.mem_of_getElem? (i := 32) rfl)
theorem w76 {a0 : Array Value} {Z : State} (G : Gl a0 Z) : (Jvm.Cond.methodLink "com/example/boxwood/boxwood/input/StringTable" (32 : Nat) ({ cls := "java/lang/String", name := "length", desc := "()I" } : Jvm.MethodName)).before a0 Z = true := G.1 _ (List.mem_of_getElem? (i := 76) rfl)
theorem w77 {a0 : Array Value} {Z : State} (G : Gl a0 Z) : (Jvm.Cond.declares ({ cls := "java/lang/String", name := "length", desc := "()I" } : Jvm.MethodName)).before a0 Z = true := G.1 _ (List.mem_of_getElem? (i := 77) rfl)
theorem w78 {a0 : Array Value} {Z : State} (G : Gl a0 Z) : (Jvm.Cond.instanceMethod ({ cls := "java/lang/String", name := "length", desc := "()I" } : Jvm.MethodName)).before a0 Z = true := G.1 _ (List.mem_of_getElem? (i := 78) rfl)
theorem w79 {a0 : Array Value} {Z : State} (G : Gl a0 Z) : (Jvm.Cond.selects "java/lang/String" ({ cls := "java/lang/String", name := "length", desc := "()I" } : Jvm.MethodName) ({ cls := "java/lang/String", name := "length", desc := "()I" } : Jvm.MethodName)).before a0 Z = true := G.1 _ (List.mem_of_getElem? (i := 79) rfl)
theorem w80 {a0 : Array Value} {Z : State} (G : Gl a0 Z) : (Jvm.Cond.code ({ cls := "java/lang/String", name := "length", desc := "()I" } : Jvm.MethodName) jdk_42_method_54_code (1 : Nat) (Option.some Jvm.ClassFile.FieldType.int)).before a0 Z = true := G.1 _ (List.mem_of_getElem? (i := 80) rfl)
theorem w86 {a0 : Array Value} {Z : State} (G : Gl a0 Z) : (Jvm.Cond.methodLink "com/example/boxwood/boxwood/input/StringTable" (36 : Nat) ({ cls := "java/lang/String", name := "hashCode", desc := "()I" } : Jvm.MethodName)).before a0 Z = true := G.1 _ (List.mem_of_getElem? (i := 86) rfl)
theorem w87 {a0 : Array Value} {Z : State} (G : Gl a0 Z) : (Jvm.Cond.declares ({ cls := "java/lang/String", name := "hashCode", desc := "()I" } : Jvm.MethodName)).before a0 Z = true := G.1 _ (List.mem_of_getElem? (i := 87) rfl)
theorem w88 {a0 : Array Value} {Z : State} (G : Gl a0 Z) : (Jvm.Cond.instanceMethod ({ cls := "java/lang/String", name := "hashCode", desc := "()I" } : Jvm.MethodName)).before a0 Z = true := G.1 _ (List.mem_of_getElem? (i := 88) rfl)
theorem w89 {a0 : Array Value} {Z : State} (G : Gl a0 Z) : (Jvm.Cond.selects "java/lang/String" ({ cls := "java/lang/String", name := "hashCode", desc := "()I" } : Jvm.MethodName) ({ cls := "java/lang/String", name := "hashCode", desc := "()I" } : Jvm.MethodName)).before a0 Z = true := G.1 _ (List.mem_of_getElem? (i := 89) rfl)
theorem w90 {a0 : Array Value} {Z : State} (G : Gl a0 Z) : (Jvm.Cond.code ({ cls := "java/lang/String", name := "hashCode", desc := "()I" } : Jvm.MethodName) jdk_42_method_78_code (2 : Nat) (Option.some Jvm.ClassFile.FieldType.int)).before a0 Z = true := G.1 _ (List.mem_of_getElem? (i := 90) rfl)
theorem w104 {a0 : Array Value} {Z : State} (G : Gl a0 Z) : (Jvm.Cond.methodLink "com/example/boxwood/boxwood/input/StringTable" (39 : Nat) ({ cls := "com/example/boxwood/boxwood/input/StringTable", name := "slotOf", desc := "(II)I" } : Jvm.MethodName)).before a0 Z = true := G.1 _ (List.mem_of_getElem? (i := 104) rfl)
theorem w105 {a0 : Array Value} {Z : State} (G : Gl a0 Z) : (Jvm.Cond.static ({ cls := "com/example/boxwood/boxwood/input/StringTable", name := "slotOf", desc := "(II)I" } : Jvm.MethodName)).before a0 Z = true := G.1 _ (List.mem_of_getElem? (i := 105) rfl)
theorem w106 {a0 : Array Value} {Z : State} (G : Gl a0 Z) : (Jvm.Cond.code ({ cls := "com/example/boxwood/boxwood/input/StringTable", name := "slotOf", desc := "(II)I" } : Jvm.MethodName) prog_79_method_7_code (3 : Nat) (Option.some Jvm.ClassFile.FieldType.int)).before a0 Z = true := G.1 _ (List.mem_of_getElem? (i := 106) rfl)
theorem w107 {a0 : Array Value} {Z : State} (G : Gl a0 Z) : (Jvm.Cond.constant "com/example/boxwood/boxwood/input/StringTable" (54 : Nat) (-1640531527 : Int32)).before a0 Z = true := G.1 _ (List.mem_of_getElem? (i := 107) rfl)
theorem w110 {a0 : Array Value} {Z : State} (G : Gl a0 Z) : (Jvm.Cond.methodLink "com/example/boxwood/boxwood/input/StringTable" (43 : Nat) ({ cls := "java/lang/String", name := "equals", desc := "(Ljava/lang/Object;)Z" } : Jvm.MethodName)).before a0 Z = true := G.1 _ (List.mem_of_getElem? (i := 110) rfl)
theorem w111 {a0 : Array Value} {Z : State} (G : Gl a0 Z) : (Jvm.Cond.declares ({ cls := "java/lang/String", name := "equals", desc := "(Ljava/lang/Object;)Z" } : Jvm.MethodName)).before a0 Z = true := G.1 _ (List.mem_of_getElem? (i := 111) rfl)
theorem w112 {a0 : Array Value} {Z : State} (G : Gl a0 Z) : (Jvm.Cond.instanceMethod ({ cls := "java/lang/String", name := "equals", desc := "(Ljava/lang/Object;)Z" } : Jvm.MethodName)).before a0 Z = true := G.1 _ (List.mem_of_getElem? (i := 112) rfl)
theorem w113 {a0 : Array Value} {Z : State} (G : Gl a0 Z) : (Jvm.Cond.selects "java/lang/String" ({ cls := "java/lang/String", name := "equals", desc := "(Ljava/lang/Object;)Z" } : Jvm.MethodName) ({ cls := "java/lang/String", name := "equals", desc := "(Ljava/lang/Object;)Z" } : Jvm.MethodName)).before a0 Z = true := G.1 _ (List.mem_of_getElem? (i := 113) rfl)
theorem w114 {a0 : Array Value} {Z : State} (G : Gl a0 Z) : (Jvm.Cond.code ({ cls := "java/lang/String", name := "equals", desc := "(Ljava/lang/Object;)Z" } : Jvm.MethodName) jdk_42_method_66_code (3 : Nat) (Option.some Jvm.ClassFile.FieldType.boolean)).before a0 Z = true := G.1 _ (List.mem_of_getElem? (i := 114) rfl)
theorem d14_0 : D1 prog_79_method_3_code 0 (.aload_n 1) 1 1 := ⟨by decide +kernel, rfl⟩
theorem d14_1 : D1 prog_79_method_3_code 1 (.invokevirtual 32) 3 4 := ⟨by decide +kernel, rfl⟩
theorem d14_4 : D1 prog_79_method_3_code 4 (.bipush 64) 2 6 := ⟨by decide +kernel, rfl⟩
theorem d14_6 : D1 prog_79_method_3_code 6 (.if_icmp .le 5) 3 9 := ⟨by decide +kernel, rfl⟩
theorem d14_11 : D1 prog_79_method_3_code 11 (.aload_n 1) 1 12 := ⟨by decide +kernel, rfl⟩
theorem d14_12 : D1 prog_79_method_3_code 12 (.invokevirtual 36) 3 15 := ⟨by decide +kernel, rfl⟩
theorem d14_15 : D1 prog_79_method_3_code 15 (.istore_n 2) 1 16 := ⟨by decide +kernel, rfl⟩
theorem d14_16 : D1 prog_79_method_3_code 16 (.iload_n 2) 1 17 := ⟨by decide +kernel, rfl⟩
theorem d14_17 : D1 prog_79_method_3_code 17 (.aload_n 0) 1 18 := ⟨by decide +kernel, rfl⟩
theorem d14_18 : D1 prog_79_method_3_code 18 (.getfield 18) 3 21 := ⟨by decide +kernel, rfl⟩
theorem d14_21 : D1 prog_79_method_3_code 21 (.arraylength) 1 22 := ⟨by decide +kernel, rfl⟩
theorem d14_22 : D1 prog_79_method_3_code 22 (.invokestatic 39) 3 25 := ⟨by decide +kernel, rfl⟩
theorem d14_25 : D1 prog_79_method_3_code 25 (.istore_n 3) 1 26 := ⟨by decide +kernel, rfl⟩
theorem d14_26 : D1 prog_79_method_3_code 26 (.aload_n 0) 1 27 := ⟨by decide +kernel, rfl⟩
theorem d14_27 : D1 prog_79_method_3_code 27 (.getfield 18) 3 30 := ⟨by decide +kernel, rfl⟩
theorem d14_30 : D1 prog_79_method_3_code 30 (.iload_n 3) 1 31 := ⟨by decide +kernel, rfl⟩
theorem d14_31 : D1 prog_79_method_3_code 31 (.aaload) 1 32 := ⟨by decide +kernel, rfl⟩
theorem d14_32 : D1 prog_79_method_3_code 32 (.astore 4) 2 34 := ⟨by decide +kernel, rfl⟩
theorem d14_34 : D1 prog_79_method_3_code 34 (.aload 4) 2 36 := ⟨by decide +kernel, rfl⟩
theorem d14_36 : D1 prog_79_method_3_code 36 (.ifnull 25) 3 39 := ⟨by decide +kernel, rfl⟩
theorem d14_39 : D1 prog_79_method_3_code 39 (.aload_n 0) 1 40 := ⟨by decide +kernel, rfl⟩
theorem d14_40 : D1 prog_79_method_3_code 40 (.getfield 21) 3 43 := ⟨by decide +kernel, rfl⟩
theorem d14_43 : D1 prog_79_method_3_code 43 (.iload_n 3) 1 44 := ⟨by decide +kernel, rfl⟩
theorem d14_44 : D1 prog_79_method_3_code 44 (.iaload) 1 45 := ⟨by decide +kernel, rfl⟩
theorem d14_45 : D1 prog_79_method_3_code 45 (.iload_n 2) 1 46 := ⟨by decide +kernel, rfl⟩
theorem d14_46 : D1 prog_79_method_3_code 46 (.if_icmp .ne 15) 3 49 := ⟨by decide +kernel, rfl⟩
theorem d14_49 : D1 prog_79_method_3_code 49 (.aload 4) 2 51 := ⟨by decide +kernel, rfl⟩
theorem d14_51 : D1 prog_79_method_3_code 51 (.aload_n 1) 1 52 := ⟨by decide +kernel, rfl⟩
theorem d14_52 : D1 prog_79_method_3_code 52 (.invokevirtual 43) 3 55 := ⟨by decide +kernel, rfl⟩
theorem d14_55 : D1 prog_79_method_3_code 55 (.ifCond .eq 6) 3 58 := ⟨by decide +kernel, rfl⟩
theorem d14_58 : D1 prog_79_method_3_code 58 (.aload 4) 2 60 := ⟨by decide +kernel, rfl⟩
theorem d14_60 : D1 prog_79_method_3_code 60 (.areturn) 1 61 := ⟨by decide +kernel, rfl⟩
theorem d14_61 : D1 prog_79_method_3_code 61 (.aload_n 0) 1 62 := ⟨by decide +kernel, rfl⟩
theorem d14_62 : D1 prog_79_method_3_code 62 (.getfield 18) 3 65 := ⟨by decide +kernel, rfl⟩
theorem d14_65 : D1 prog_79_method_3_code 65 (.iload_n 3) 1 66 := ⟨by decide +kernel, rfl⟩
theorem d14_66 : D1 prog_79_method_3_code 66 (.aload_n 1) 1 67 := ⟨by decide +kernel, rfl⟩
theorem d14_67 : D1 prog_79_method_3_code 67 (.aastore) 1 68 := ⟨by decide +kernel, rfl⟩
theorem d14_68 : D1 prog_79_method_3_code 68 (.aload_n 0) 1 69 := ⟨by decide +kernel, rfl⟩
theorem d14_69 : D1 prog_79_method_3_code 69 (.getfield 21) 3 72 := ⟨by decide +kernel, rfl⟩
theorem d14_72 : D1 prog_79_method_3_code 72 (.iload_n 3) 1 73 := ⟨by decide +kernel, rfl⟩
theorem d14_73 : D1 prog_79_method_3_code 73 (.iload_n 2) 1 74 := ⟨by decide +kernel, rfl⟩
theorem d14_74 : D1 prog_79_method_3_code 74 (.iastore) 1 75 := ⟨by decide +kernel, rfl⟩
theorem d14_75 : D1 prog_79_method_3_code 75 (.aload_n 0) 1 76 := ⟨by decide +kernel, rfl⟩
theorem d14_76 : D1 prog_79_method_3_code 76 (.dup) 1 77 := ⟨by decide +kernel, rfl⟩
theorem d14_77 : D1 prog_79_method_3_code 77 (.getfield 47) 3 80 := ⟨by decide +kernel, rfl⟩
theorem d14_80 : D1 prog_79_method_3_code 80 (.iconst 1) 1 81 := ⟨by decide +kernel, rfl⟩
theorem d14_81 : D1 prog_79_method_3_code 81 (.iadd) 1 82 := ⟨by decide +kernel, rfl⟩
theorem d14_82 : D1 prog_79_method_3_code 82 (.putfield 47) 3 85 := ⟨by decide +kernel, rfl⟩
theorem d14_85 : D1 prog_79_method_3_code 85 (.aload_n 0) 1 86 := ⟨by decide +kernel, rfl⟩
theorem d14_86 : D1 prog_79_method_3_code 86 (.getfield 47) 3 89 := ⟨by decide +kernel, rfl⟩
theorem d14_89 : D1 prog_79_method_3_code 89 (.aload_n 0) 1 90 := ⟨by decide +kernel, rfl⟩
theorem d14_90 : D1 prog_79_method_3_code 90 (.getfield 18) 3 93 := ⟨by decide +kernel, rfl⟩
theorem d14_93 : D1 prog_79_method_3_code 93 (.arraylength) 1 94 := ⟨by decide +kernel, rfl⟩
theorem d14_94 : D1 prog_79_method_3_code 94 (.if_icmp .le 18) 3 97 := ⟨by decide +kernel, rfl⟩
theorem d14_112 : D1 prog_79_method_3_code 112 (.aload_n 1) 1 113 := ⟨by decide +kernel, rfl⟩
theorem d14_113 : D1 prog_79_method_3_code 113 (.areturn) 1 114 := ⟨by decide +kernel, rfl⟩
theorem d20_0 : D1 prog_79_method_7_code 0 (.iload_n 0) 1 1 := ⟨by decide +kernel, rfl⟩
theorem d20_1 : D1 prog_79_method_7_code 1 (.ldc 54) 2 3 := ⟨by decide +kernel, rfl⟩
theorem d20_3 : D1 prog_79_method_7_code 3 (.imul) 1 4 := ⟨by decide +kernel, rfl⟩
theorem d20_4 : D1 prog_79_method_7_code 4 (.istore_n 2) 1 5 := ⟨by decide +kernel, rfl⟩
theorem d20_5 : D1 prog_79_method_7_code 5 (.iload_n 2) 1 6 := ⟨by decide +kernel, rfl⟩
theorem d20_6 : D1 prog_79_method_7_code 6 (.iload_n 2) 1 7 := ⟨by decide +kernel, rfl⟩
theorem d20_7 : D1 prog_79_method_7_code 7 (.bipush 16) 2 9 := ⟨by decide +kernel, rfl⟩
theorem d20_9 : D1 prog_79_method_7_code 9 (.iushr) 1 10 := ⟨by decide +kernel, rfl⟩
theorem d20_10 : D1 prog_79_method_7_code 10 (.ixor) 1 11 := ⟨by decide +kernel, rfl⟩
theorem d20_11 : D1 prog_79_method_7_code 11 (.iload_n 1) 1 12 := ⟨by decide +kernel, rfl⟩
theorem d20_12 : D1 prog_79_method_7_code 12 (.iconst 1) 1 13 := ⟨by decide +kernel, rfl⟩
theorem d20_13 : D1 prog_79_method_7_code 13 (.isub) 1 14 := ⟨by decide +kernel, rfl⟩
theorem d20_14 : D1 prog_79_method_7_code 14 (.iand) 1 15 := ⟨by decide +kernel, rfl⟩
theorem d20_15 : D1 prog_79_method_7_code 15 (.ireturn) 1 16 := ⟨by decide +kernel, rfl⟩
theorem pd13 : parseMethodDescriptor "()I" = some ⟨[], some .int⟩ := by decide +kernel
theorem pd14 : parseMethodDescriptor "(II)I" = some ⟨[.int, .int], some .int⟩ := by decide +kernel
theorem pd15 : parseMethodDescriptor "(Ljava/lang/Object;)Z" = some ⟨[(.object "java/lang/Object")], some .boolean⟩ := by decide +kernel
def slT (h : Int32) : Int32 := ((h * (-1640531527)) ^^^ XT.ushr (h * (-1640531527)) 16) &&& 255
set_option maxRecDepth 65536 in
set_option maxHeartbeats 4000000 in
theorem t_slot (l : Launch) {Z : State} {a0 : Array Value} (G : Gl a0 Z) {L : List Ent} (h : Int32) : Ct WD EL0 l Z (⟨"com/example/boxwood/boxwood/input/StringTable", "slotOf", "(II)I"⟩ : MethodName) prog_79_method_7_code 3 (some .int) ({ frames := 0, cells := 0, slots := 0, locals := 0 } : Room) #[.int h, .int 256] L (rvQ (fun v M => v = .int (slT h) ∧ M = L)) := by
  refine Ct.intro (by decide +kernel) G.2.1 ?_
  intro p e s m below meth c X
  replace X : Cx WD EL0 p Z s m meth c "com/example/boxwood/boxwood/input/StringTable" "slotOf" prog_79_method_7_code 3 (some .int) := X
  refine Go.cast (g' := mkF m 0 #[.val (.int h), .val (.int 256), .unset] []) (by first | rfl | (simp [entryFrame, mkF, argsToLocals, Value.category, maxLocals]; done)) ?_
  refine Go.iloadN X d20_0 rfl ?_
  refine Go.ldcI X (w107 G) d20_1 ?_
  refine Go.imul X d20_3 ?_
  refine Go.istoreN X d20_4 rfl ?_
  refine Go.iloadN X d20_5 rfl ?_
  refine Go.iloadN X d20_6 rfl ?_
  refine Go.bipush X (v := 16) d20_7 (by decide) ?_
  refine Go.iushr X d20_9 ?_
  refine Go.ixor X d20_10 ?_
  refine Go.iloadN X d20_11 rfl ?_
  refine Go.iconst X (v := 1) d20_12 (by decide) ?_
  refine Go.isub X d20_13 ?_
  refine Go.iand X d20_14 ?_
  exact Go.iret X d20_15 (Nat.zero_le _) (Nat.zero_le _) ⟨rfl, rfl⟩
set_option maxRecDepth 65536 in
set_option maxHeartbeats 4000000 in
theorem t_vmiss (l : Launch) {Z : State} {a0 : Array Value} (G : Gl a0 Z) {L : List Ent} {t x b b1 b2 b3 b4 : Addr} {K3 K4 : ClassId} {vs hs : List Value} {cl : List Nat} {A : Nat} {pl : Int32} (hS : Sk Z L x b cl) (hl : cl.length ≤ 2) (hA : A < 256) (eA : slT (hashOf cl) = Int32.ofNat A) (hv : vs.length = 256) (hh : hs.length = 256) (hvA : vs[A]? = some .null) (O3 : Ovr Z K3 "java/lang/String") : Ct WD EL0 l Z (⟨"com/example/boxwood/boxwood/input/StringTable", "value", "(Ljava/lang/String;)Ljava/lang/String;"⟩ : MethodName) prog_79_method_3_code 5 (some (.object "java/lang/String")) ({ frames := 4, cells := 0, slots := 0, locals := 70 } : Room) #[.ref t, .ref x] (ow t (Ob Z "com/example/boxwood/boxwood/input/StringTable" ns1 [.ref b1, .ref b2, .ref b3, .ref b4, .int 0]) :: ow b3 (Ar Z (.object "java/lang/String") K3 vs) :: ow b4 (Ar Z .int K4 hs) :: L) (rvQ (fun v M => v = .ref x ∧ M = (ow t (Ob Z "com/example/boxwood/boxwood/input/StringTable" ns1 [.ref b1, .ref b2, .ref b3, .ref b4, .int 1]) :: ow b3 (Ar Z (.object "java/lang/String") K3 (updL vs A (.ref x))) :: ow b4 (Ar Z .int K4 (updL hs A (.int (hashOf cl)))) :: L))) := by
  refine Ct.intro (by decide +kernel) G.2.1 ?_
  intro p e s m below meth c X
  replace X : Cx WD EL0 p Z s m meth c "com/example/boxwood/boxwood/input/StringTable" "value" prog_79_method_3_code 5 (some (.object "java/lang/String")) := X
  refine Go.cast (g' := mkF m 0 #[.val (.ref t), .val (.ref x), .unset, .unset, .unset] []) (by first | rfl | (simp [entryFrame, mkF, argsToLocals, Value.category, maxLocals]; done)) ?_
  have hS' : Sk Z (ow t (Ob Z "com/example/boxwood/boxwood/input/StringTable" ns1 [.ref b1, .ref b2, .ref b3, .ref b4, .int 0]) :: ow b3 (Ar Z (.object "java/lang/String") K3 vs) :: ow b4 (Ar Z .int K4 hs) :: L) x b cl := hS.up.up.up
  obtain ⟨n1, n2, n3⟩ := nat32 (i := A) (by omega)
  obtain ⟨k1, k2, k3⟩ := nat32 (i := cl.length) (by omega)
  refine Go.aloadN X d14_0 rfl rfl ?_
  refine Go.callV X (fun h H => (hS'.sx.2 h H).1) (s_length l G hS'.sx) (rest := []) (w76 G) (w77 G) (nfS (w79 G)) (w79 G) (w78 G) (w3 G) (w80 G) (by decide) pd13 rfl rfl d14_1 rfl (by first | exact Nat.le_of_ble_eq_true rfl | (simp; done) | (simp; omega)) (by first | exact Nat.le_of_ble_eq_true rfl | (simp; done) | (simp; omega)) (by first | exact Nat.le_of_ble_eq_true rfl | (simp; done) | (simp; omega)) (by first | exact Nat.le_of_ble_eq_true rfl | (simp; done) | (simp; omega)) (Kv ?_)
  rintro v M ⟨rfl, rfl⟩
  refine Go.bipush X (v := 64) d14_4 (by decide) ?_
  refine Go.icmp X d14_6 (pt := 11) ⟨by decide, by decide⟩ ?_ ?_
  rotate_left
  · intro q
    have q : ¬ (cl.length : Int) ≤ 64 := ccN (b := 64) q k1 rfl
    omega
  intro _
  refine Go.aloadN X d14_11 rfl rfl ?_
  refine Go.callV X (fun h H => (hS'.sx.2 h H).1) (s_hash l G hS') (rest := []) (w86 G) (w87 G) (nfS (w89 G)) (w89 G) (w88 G) (w3 G) (w90 G) (by decide) pd13 rfl rfl d14_12 rfl (by first | exact Nat.le_of_ble_eq_true rfl | (simp; done) | (simp; omega)) (by first | exact Nat.le_of_ble_eq_true rfl | (simp; done) | (simp; omega)) (by first | exact Nat.le_of_ble_eq_true rfl | (simp; done) | (simp; omega)) (by first | exact Nat.le_of_ble_eq_true rfl | (simp; done) | (simp; omega)) (Kv ?_)
  rintro v M ⟨rfl, rfl⟩
  refine Go.istoreN X d14_15 rfl ?_
  refine Go.iloadN X d14_16 rfl ?_
  refine Go.aloadN X d14_17 rfl rfl ?_
  refine Go.getFld X (w43 G) Via.refl (fun h H => H.fld (i := 0) rfl (j := 2) rfl rfl) d14_18 ?_
  refine Go.alenA X (fun h H => H.len (i := 1) rfl) d14_21 ?_
  rw [hv]
  refine Go.callS X (t_slot l G (hashOf cl)) (rest := []) (w104 G) (w105 G) (w32 G) (w106 G) (by decide) pd14 rfl rfl d14_22 rfl (by first | exact Nat.le_of_ble_eq_true rfl | (simp; done) | (simp; omega)) (by first | exact Nat.le_of_ble_eq_true rfl | (simp; done) | (simp; omega)) (by first | exact Nat.le_of_ble_eq_true rfl | (simp; done) | (simp; omega)) (by first | exact Nat.le_of_ble_eq_true rfl | (simp; done) | (simp; omega)) (Kv ?_)
  rintro v M ⟨rfl, rfl⟩
  rw [eA]
  refine Go.istoreN X d14_25 rfl ?_
  refine Go.aloadN X d14_26 rfl rfl ?_
  refine Go.getFld X (w43 G) Via.refl (fun h H => H.fld (i := 0) rfl (j := 2) rfl rfl) d14_27 ?_
  refine Go.iloadN X d14_30 rfl ?_
  refine Go.aald X (ty := .object "java/lang/String") rfl n2 (fun h H => H.el (i := 1) rfl (by rw [n3]; exact hvA)) d14_31 ?_
  refine Go.astore X d14_32 rfl rfl ?_
  refine Go.aload X d14_34 rfl rfl ?_
  refine Go.ifnullY X d14_36 (pt := 61) ⟨by decide, by decide⟩ ?_
  refine Go.aloadN X d14_61 rfl rfl ?_
  refine Go.getFld X (w43 G) Via.refl (fun h H => H.fld (i := 0) rfl (j := 2) rfl rfl) d14_62 ?_
  refine Go.iloadN X d14_65 rfl ?_
  refine Go.aloadN X d14_66 rfl rfl ?_
  refine Go.aast X (i := 1) rfl n2 (by rw [n3, hv]; exact hA) (fun h H => H.sto (i := 1) rfl O3 (Ins.self (hS'.sx.2 h H).1)) rfl d14_67 ?_
  rw [n3]
  refine Go.aloadN X d14_68 rfl rfl ?_
  refine Go.getFld X (w46 G) Via.refl (fun h H => H.fld (i := 0) rfl (j := 3) rfl rfl) d14_69 ?_
  refine Go.iloadN X d14_72 rfl ?_
  refine Go.iloadN X d14_73 rfl ?_
  refine Go.iast X (i := 2) rfl n2 (by rw [n3, hh]; exact hA) d14_74 ?_
  rw [n3]
  refine Go.aloadN X d14_75 rfl rfl ?_
  refine Go.dup X d14_76 rfl ?_
  refine Go.getFld X (w108 G) Via.refl (fun h H => H.fld (i := 0) rfl (j := 4) rfl rfl) d14_77 ?_
  refine Go.iconst X (v := 1) d14_80 (by decide) ?_
  refine Go.iadd X d14_81 ?_
  refine Go.putFld X (i := 0) rfl (j := 4) rfl (lay1 G) (w108 G) Via.refl (Or.inl (w109 G)) (w31 G) pf2 d14_82 (by rfl) (by rfl) ?_
  refine Go.aloadN X d14_85 rfl rfl ?_
  refine Go.getFld X (w108 G) Via.refl (fun h H => H.fld (i := 0) rfl (j := 4) rfl rfl) d14_86 ?_
  refine Go.aloadN X d14_89 rfl rfl ?_
  refine Go.getFld X (w43 G) Via.refl (fun h H => H.fld (i := 0) rfl (j := 2) rfl rfl) d14_90 ?_
  refine Go.alenA X (fun h H => H.len (i := 1) rfl) d14_93 ?_
  rw [upd_len, hv]
  refine Go.icmp X d14_94 (pt := 112) ⟨by decide, by decide⟩ ?_ ?_
  rotate_left
  · intro q; exact absurd (show (0 : Int32) + 1 ≤ 256 by decide) q
  intro _
  refine Go.aloadN X d14_112 rfl rfl ?_
  exact Go.aret X d14_113 (by rfl) (by rfl) (by rfl) (by first | exact Nat.le_of_ble_eq_true rfl | (simp; done) | (simp; omega)) (by first | exact Nat.le_of_ble_eq_true rfl | (simp; done) | (simp; omega)) ⟨rfl, rfl⟩
set_option maxRecDepth 65536 in
set_option maxHeartbeats 4000000 in
theorem t_vhit (l : Launch) {Z : State} {a0 : Array Value} (G : Gl a0 Z) {L : List Ent} {t x b b1 b2 b3 b4 : Addr} {K3 K4 : ClassId} {vs hs : List Value} {cl : List Nat} {A : Nat} {pl : Int32} (hS : Sk Z L x b cl) (hl : cl.length ≤ 2) (hA : A < 256) (eA : slT (hashOf cl) = Int32.ofNat A) (hv : vs.length = 256) (hh : hs.length = 256) {y yb : Addr} (hY : Sk Z L y yb cl) (hvA : vs[A]? = some (.ref y)) (hhA : hs[A]? = some (.int (hashOf cl))) : Ct WD EL0 l Z (⟨"com/example/boxwood/boxwood/input/StringTable", "value", "(Ljava/lang/String;)Ljava/lang/String;"⟩ : MethodName) prog_79_method_3_code 5 (some (.object "java/lang/String")) ({ frames := 4, cells := 0, slots := 0, locals := 70 } : Room) #[.ref t, .ref x] (ow t (Ob Z "com/example/boxwood/boxwood/input/StringTable" ns1 [.ref b1, .ref b2, .ref b3, .ref b4, .int pl]) :: ow b3 (Ar Z (.object "java/lang/String") K3 vs) :: ow b4 (Ar Z .int K4 hs) :: L) (rvQ (fun v M => v = .ref y ∧ M = (ow t (Ob Z "com/example/boxwood/boxwood/input/StringTable" ns1 [.ref b1, .ref b2, .ref b3, .ref b4, .int pl]) :: ow b3 (Ar Z (.object "java/lang/String") K3 vs) :: ow b4 (Ar Z .int K4 hs) :: L))) := by
  refine Ct.intro (by decide +kernel) G.2.1 ?_
  intro p e s m below meth c X
  replace X : Cx WD EL0 p Z s m meth c "com/example/boxwood/boxwood/input/StringTable" "value" prog_79_method_3_code 5 (some (.object "java/lang/String")) := X
  refine Go.cast (g' := mkF m 0 #[.val (.ref t), .val (.ref x), .unset, .unset, .unset] []) (by first | rfl | (simp [entryFrame, mkF, argsToLocals, Value.category, maxLocals]; done)) ?_
  have hS' : Sk Z (ow t (Ob Z "com/example/boxwood/boxwood/input/StringTable" ns1 [.ref b1, .ref b2, .ref b3, .ref b4, .int pl]) :: ow b3 (Ar Z (.object "java/lang/String") K3 vs) :: ow b4 (Ar Z .int K4 hs) :: L) x b cl := hS.up.up.up
  obtain ⟨n1, n2, n3⟩ := nat32 (i := A) (by omega)
  obtain ⟨k1, k2, k3⟩ := nat32 (i := cl.length) (by omega)
  refine Go.aloadN X d14_0 rfl rfl ?_
  refine Go.callV X (fun h H => (hS'.sx.2 h H).1) (s_length l G hS'.sx) (rest := []) (w76 G) (w77 G) (nfS (w79 G)) (w79 G) (w78 G) (w3 G) (w80 G) (by decide) pd13 rfl rfl d14_1 rfl (by first | exact Nat.le_of_ble_eq_true rfl | (simp; done) | (simp; omega)) (by first | exact Nat.le_of_ble_eq_true rfl | (simp; done) | (simp; omega)) (by first | exact Nat.le_of_ble_eq_true rfl | (simp; done) | (simp; omega)) (by first | exact Nat.le_of_ble_eq_true rfl | (simp; done) | (simp; omega)) (Kv ?_)
  rintro v M ⟨rfl, rfl⟩
  refine Go.bipush X (v := 64) d14_4 (by decide) ?_
  refine Go.icmp X d14_6 (pt := 11) ⟨by decide, by decide⟩ ?_ ?_
  rotate_left
  · intro q
    have q : ¬ (cl.length : Int) ≤ 64 := ccN (b := 64) q k1 rfl
    omega
  intro _
  refine Go.aloadN X d14_11 rfl rfl ?_
  refine Go.callV X (fun h H => (hS'.sx.2 h H).1) (s_hash l G hS') (rest := []) (w86 G) (w87 G) (nfS (w89 G)) (w89 G) (w88 G) (w3 G) (w90 G) (by decide) pd13 rfl rfl d14_12 rfl (by first | exact Nat.le_of_ble_eq_true rfl | (simp; done) | (simp; omega)) (by first | exact Nat.le_of_ble_eq_true rfl | (simp; done) | (simp; omega)) (by first | exact Nat.le_of_ble_eq_true rfl | (simp; done) | (simp; omega)) (by first | exact Nat.le_of_ble_eq_true rfl | (simp; done) | (simp; omega)) (Kv ?_)
  rintro v M ⟨rfl, rfl⟩
  refine Go.istoreN X d14_15 rfl ?_
  refine Go.iloadN X d14_16 rfl ?_
  refine Go.aloadN X d14_17 rfl rfl ?_
  refine Go.getFld X (w43 G) Via.refl (fun h H => H.fld (i := 0) rfl (j := 2) rfl rfl) d14_18 ?_
  refine Go.alenA X (fun h H => H.len (i := 1) rfl) d14_21 ?_
  rw [hv]
  refine Go.callS X (t_slot l G (hashOf cl)) (rest := []) (w104 G) (w105 G) (w32 G) (w106 G) (by decide) pd14 rfl rfl d14_22 rfl (by first | exact Nat.le_of_ble_eq_true rfl | (simp; done) | (simp; omega)) (by first | exact Nat.le_of_ble_eq_true rfl | (simp; done) | (simp; omega)) (by first | exact Nat.le_of_ble_eq_true rfl | (simp; done) | (simp; omega)) (by first | exact Nat.le_of_ble_eq_true rfl | (simp; done) | (simp; omega)) (Kv ?_)
  rintro v M ⟨rfl, rfl⟩
  rw [eA]
  refine Go.istoreN X d14_25 rfl ?_
  refine Go.aloadN X d14_26 rfl rfl ?_
  refine Go.getFld X (w43 G) Via.refl (fun h H => H.fld (i := 0) rfl (j := 2) rfl rfl) d14_27 ?_
  refine Go.iloadN X d14_30 rfl ?_
  refine Go.aald X (ty := .object "java/lang/String") rfl n2 (fun h H => H.el (i := 1) rfl (by rw [n3]; exact hvA)) d14_31 ?_
  refine Go.astore X d14_32 rfl rfl ?_
  refine Go.aload X d14_34 rfl rfl ?_
  have hY' : Sk Z (ow t (Ob Z "com/example/boxwood/boxwood/input/StringTable" ns1 [.ref b1, .ref b2, .ref b3, .ref b4, .int pl]) :: ow b3 (Ar Z (.object "java/lang/String") K3 vs) :: ow b4 (Ar Z .int K4 hs) :: L) y yb cl := hY.up.up.up
  refine Go.ifnullN X d14_36 ?_
  refine Go.aloadN X d14_39 rfl rfl ?_
  refine Go.getFld X (w46 G) Via.refl (fun h H => H.fld (i := 0) rfl (j := 3) rfl rfl) d14_40 ?_
  refine Go.iloadN X d14_43 rfl ?_
  refine Go.iald X n2 (fun h H => H.el (i := 2) rfl (by rw [n3]; exact hhA)) d14_44 ?_
  refine Go.iloadN X d14_45 rfl ?_
  refine Go.icmp X d14_46 (pt := 61) ⟨by decide, by decide⟩ ?_ ?_
  · intro q; exact absurd rfl q
  intro _
  refine Go.aload X d14_49 rfl rfl ?_
  refine Go.aloadN X d14_51 rfl rfl ?_
  refine Go.callV X (fun h H => (hY'.sx.2 h H).1) (s_equals l G hY' hS' (fun _ => rfl)) (rest := []) (w110 G) (w111 G) (nfS (w113 G)) (w113 G) (w112 G) (w3 G) (w114 G) (by decide) pd15 rfl rfl d14_52 rfl (by first | exact Nat.le_of_ble_eq_true rfl | (simp; done) | (simp; omega)) (by first | exact Nat.le_of_ble_eq_true rfl | (simp; done) | (simp; omega)) (by first | exact Nat.le_of_ble_eq_true rfl | (simp; done) | (simp; omega)) (by first | exact Nat.le_of_ble_eq_true rfl | (simp; done) | (simp; omega)) (Kv ?_)
  rintro v M ⟨rfl, rfl⟩
  rw [if_pos rfl]
  refine Go.ifc X d14_55 (pt := 61) ⟨by decide, by decide⟩ ?_ ?_
  · intro q; exact absurd (show (1 : Int32) = 0 from q) (by decide)
  intro _
  refine Go.aload X d14_58 rfl rfl ?_
  exact Go.aret X d14_60 (by rfl) (by rfl) (by rfl) (by first | exact Nat.le_of_ble_eq_true rfl | (simp; done) | (simp; omega)) (by first | exact Nat.le_of_ble_eq_true rfl | (simp; done) | (simp; omega)) ⟨rfl, rfl⟩
-- %%% sharedIndentation, front
theorem d9_0 : D1 prog_79_method_5_code 0 (.iload_n 2) 1 1 := ⟨by decide +kernel, rfl⟩
theorem d9_1 : D1 prog_79_method_5_code 1 (.ifCond .eq 17) 3 4 := ⟨by decide +kernel, rfl⟩
theorem d9_4 : D1 prog_79_method_5_code 4 (.iload_n 2) 1 5 := ⟨by decide +kernel, rfl⟩
theorem d9_5 : D1 prog_79_method_5_code 5 (.bipush 65) 2 7 := ⟨by decide +kernel, rfl⟩
theorem d9_7 : D1 prog_79_method_5_code 7 (.if_icmp .gt 11) 3 10 := ⟨by decide +kernel, rfl⟩
theorem d9_10 : D1 prog_79_method_5_code 10 (.aload_n 1) 1 11 := ⟨by decide +kernel, rfl⟩
theorem d9_11 : D1 prog_79_method_5_code 11 (.iconst 0) 1 12 := ⟨by decide +kernel, rfl⟩
theorem d9_12 : D1 prog_79_method_5_code 12 (.caload) 1 13 := ⟨by decide +kernel, rfl⟩
theorem d9_13 : D1 prog_79_method_5_code 13 (.bipush 10) 2 15 := ⟨by decide +kernel, rfl⟩
theorem d9_15 : D1 prog_79_method_5_code 15 (.if_icmp .eq 5) 3 18 := ⟨by decide +kernel, rfl⟩
theorem d9_20 : D1 prog_79_method_5_code 20 (.iload_n 2) 1 21 := ⟨by decide +kernel, rfl⟩
theorem d9_21 : D1 prog_79_method_5_code 21 (.iconst 1) 1 22 := ⟨by decide +kernel, rfl⟩
theorem d9_22 : D1 prog_79_method_5_code 22 (.if_icmp .le 9) 3 25 := ⟨by decide +kernel, rfl⟩
theorem d9_25 : D1 prog_79_method_5_code 25 (.aload_n 1) 1 26 := ⟨by decide +kernel, rfl⟩
theorem d9_26 : D1 prog_79_method_5_code 26 (.iconst 1) 1 27 := ⟨by decide +kernel, rfl⟩
theorem d9_27 : D1 prog_79_method_5_code 27 (.caload) 1 28 := ⟨by decide +kernel, rfl⟩
theorem d9_28 : D1 prog_79_method_5_code 28 (.goto 5) 3 31 := ⟨by decide +kernel, rfl⟩
theorem d9_31 : D1 prog_79_method_5_code 31 (.bipush 9) 2 33 := ⟨by decide +kernel, rfl⟩
theorem d9_33 : D1 prog_79_method_5_code 33 (.istore_n 3) 1 34 := ⟨by decide +kernel, rfl⟩
theorem d9_34 : D1 prog_79_method_5_code 34 (.iload_n 3) 1 35 := ⟨by decide +kernel, rfl⟩
theorem d9_35 : D1 prog_79_method_5_code 35 (.bipush 9) 2 37 := ⟨by decide +kernel, rfl⟩
theorem d9_37 : D1 prog_79_method_5_code 37 (.if_icmp .eq 11) 3 40 := ⟨by decide +kernel, rfl⟩
theorem d9_40 : D1 prog_79_method_5_code 40 (.iload_n 3) 1 41 := ⟨by decide +kernel, rfl⟩
theorem d9_41 : D1 prog_79_method_5_code 41 (.bipush 32) 2 43 := ⟨by decide +kernel, rfl⟩
theorem d9_43 : D1 prog_79_method_5_code 43 (.if_icmp .eq 5) 3 46 := ⟨by decide +kernel, rfl⟩
theorem d9_48 : D1 prog_79_method_5_code 48 (.iconst 2) 1 49 := ⟨by decide +kernel, rfl⟩
theorem d9_49 : D1 prog_79_method_5_code 49 (.istore 4) 2 51 := ⟨by decide +kernel, rfl⟩
theorem d9_51 : D1 prog_79_method_5_code 51 (.iload 4) 2 53 := ⟨by decide +kernel, rfl⟩
theorem d9_53 : D1 prog_79_method_5_code 53 (.iload_n 2) 1 54 := ⟨by decide +kernel, rfl⟩
theorem d9_54 : D1 prog_79_method_5_code 54 (.if_icmp .ge 19) 3 57 := ⟨by decide +kernel, rfl⟩
theorem d9_57 : D1 prog_79_method_5_code 57 (.aload_n 1) 1 58 := ⟨by decide +kernel, rfl⟩
theorem d9_58 : D1 prog_79_method_5_code 58 (.iload 4) 2 60 := ⟨by decide +kernel, rfl⟩
theorem d9_60 : D1 prog_79_method_5_code 60 (.caload) 1 61 := ⟨by decide +kernel, rfl⟩
theorem d9_61 : D1 prog_79_method_5_code 61 (.iload_n 3) 1 62 := ⟨by decide +kernel, rfl⟩
theorem d9_62 : D1 prog_79_method_5_code 62 (.if_icmp .eq 5) 3 65 := ⟨by decide +kernel, rfl⟩
theorem d9_67 : D1 prog_79_method_5_code 67 (.iinc 4 1) 3 70 := ⟨by decide +kernel, rfl⟩
theorem d9_70 : D1 prog_79_method_5_code 70 (.goto (-19)) 3 73 := ⟨by decide +kernel, rfl⟩
theorem take_cs {l : List Nat} {N i c : Nat} (h : (l.take N)[i]? = some c) : (csOf l)[i]? = some (.int (Int32.ofNat c)) := by
  rw [List.getElem?_take] at h
  split at h
  · simp [csOf, h]
  · cases h
set_option maxRecDepth 65536 in
set_option maxHeartbeats 4000000 in
theorem t_front {p : Program} {l : Launch} {e : Env} {R : Room} {Z s : State} {m : MethodId} {args : Array Value} {below : List Frame} {meth : Method} {c : Code} {Q : Option Value → List Ent → Prop} {L : List Ent} {t ca : Addr} {Kc : ClassId} {f : Bool} {N d : Nat} {k n : Nat} (hd : d = 9 ∨ d = 32) (hN : N = 1 ∨ N = 2 ∨ N = 3 ∨ N = 4) (hc : (ca, Ar Z .char Kc (csOf [10, d, d, d]), f) ∈ L)
    (X : Cx WD EL0 p Z s m meth c "com/example/boxwood/boxwood/input/StringTable" "sharedIndentation" prog_79_method_5_code 6 (some (.object "java/lang/String"))) (K : ∀ j : Int32, Go WD EL0 p l e R Z s m args below meth c Q L k n (mkF m 73 #[.val (.ref t), .val (.ref ca), .val (.int (Int32.ofNat N)), .val (.int (Int32.ofNat (if N = 1 then 9 else d))), .val (.int j), .unset] [])) :
    Go WD EL0 p l e R Z s m args below meth c Q L k n (mkF m 0 #[.val (.ref t), .val (.ref ca), .val (.int (Int32.ofNat N)), .unset, .unset, .unset] []) := by
  rcases hd with rfl | rfl <;> rcases hN with rfl | rfl | rfl | rfl
  · refine Go.iloadN X d9_0 rfl ?_
    refine Go.ifc X d9_1 (pt := 18) ⟨by decide, by decide⟩ ?_ ?_
    · intro q; exact absurd (show Int32.ofNat 1 = 0 from q) (by decide)
    intro _
    refine Go.iloadN X d9_4 rfl ?_
    refine Go.bipush X (v := 65) d9_5 (by decide) ?_
    refine Go.icmp X d9_7 (pt := 18) ⟨by decide, by decide⟩ ?_ ?_
    · intro q; exact absurd (show (65 : Int32) < Int32.ofNat 1 from q) (by decide)
    intro _
    refine Go.aloadN X d9_10 rfl rfl ?_
    refine Go.iconst X (v := 0) d9_11 (by decide) ?_
    refine Go.cald X (by decide) (x := Int32.ofNat 10) (fun h H => H.elM hc rfl) d9_12 ?_
    refine Go.bipush X (v := 10) d9_13 (by decide) ?_
    refine Go.icmp X d9_15 (pt := 20) ⟨by decide, by decide⟩ ?_ ?_
    rotate_left
    · intro q; exact absurd rfl q
    intro _
    refine Go.iloadN X d9_20 rfl ?_
    refine Go.iconst X (v := 1) d9_21 (by decide) ?_
    refine Go.icmp X d9_22 (pt := 31) ⟨by decide, by decide⟩ ?_ ?_
    rotate_left
    · intro q; exact absurd (show Int32.ofNat 1 ≤ 1 by decide) q
    intro _
    refine Go.bipush X (v := 9) d9_31 (by decide) ?_
    refine Go.istoreN X d9_33 rfl ?_
    refine Go.iloadN X d9_34 rfl ?_
    refine Go.bipush X (v := 9) d9_35 (by decide) ?_
    refine Go.icmp X d9_37 (pt := 48) ⟨by decide, by decide⟩ ?_ ?_
    rotate_left
    · intro q; exact absurd rfl q
    intro _
    refine Go.iconst X (v := 2) d9_48 (by decide) ?_
    refine Go.istore X d9_49 rfl ?_
    refine Go.iload X d9_51 rfl ?_
    refine Go.iloadN X d9_53 rfl ?_
    refine Go.icmp X d9_54 (pt := 73) ⟨by decide, by decide⟩ ?_ ?_
    rotate_left
    · intro q; exact absurd (show Int32.ofNat 1 ≤ 2 by decide) q
    intro _
    exact K _
  · refine Go.iloadN X d9_0 rfl ?_
    refine Go.ifc X d9_1 (pt := 18) ⟨by decide, by decide⟩ ?_ ?_
    · intro q; exact absurd (show Int32.ofNat 2 = 0 from q) (by decide)
    intro _
    refine Go.iloadN X d9_4 rfl ?_
    refine Go.bipush X (v := 65) d9_5 (by decide) ?_
    refine Go.icmp X d9_7 (pt := 18) ⟨by decide, by decide⟩ ?_ ?_
    · intro q; exact absurd (show (65 : Int32) < Int32.ofNat 2 from q) (by decide)
    intro _
    refine Go.aloadN X d9_10 rfl rfl ?_
    refine Go.iconst X (v := 0) d9_11 (by decide) ?_
    refine Go.cald X (by decide) (x := Int32.ofNat 10) (fun h H => H.elM hc rfl) d9_12 ?_
    refine Go.bipush X (v := 10) d9_13 (by decide) ?_
    refine Go.icmp X d9_15 (pt := 20) ⟨by decide, by decide⟩ ?_ ?_
    rotate_left
    · intro q; exact absurd rfl q
    intro _
    refine Go.iloadN X d9_20 rfl ?_
    refine Go.iconst X (v := 1) d9_21 (by decide) ?_
    refine Go.icmp X d9_22 (pt := 31) ⟨by decide, by decide⟩ ?_ ?_
    · intro q; exact absurd (show Int32.ofNat 2 ≤ 1 from q) (by decide)
    intro _
    refine Go.aloadN X d9_25 rfl rfl ?_
    refine Go.iconst X (v := 1) d9_26 (by decide) ?_
    refine Go.cald X (by decide) (x := Int32.ofNat 9) (fun h H => H.elM hc rfl) d9_27 ?_
    refine Go.goto X d9_28 (pt := 33) ⟨by decide, by decide⟩ ?_
    refine Go.istoreN X d9_33 rfl ?_
    refine Go.iloadN X d9_34 rfl ?_
    refine Go.bipush X (v := 9) d9_35 (by decide) ?_
    refine Go.icmp X d9_37 (pt := 48) ⟨by decide, by decide⟩ ?_ ?_
    rotate_left
    · intro q; exact absurd rfl q
    intro _
    refine Go.iconst X (v := 2) d9_48 (by decide) ?_
    refine Go.istore X d9_49 rfl ?_
    refine Go.iload X d9_51 rfl ?_
    refine Go.iloadN X d9_53 rfl ?_
    refine Go.icmp X d9_54 (pt := 73) ⟨by decide, by decide⟩ ?_ ?_
    rotate_left
    · intro q; exact absurd (show Int32.ofNat 2 ≤ 2 by decide) q
    intro _
    exact K _
  · refine Go.iloadN X d9_0 rfl ?_
    refine Go.ifc X d9_1 (pt := 18) ⟨by decide, by decide⟩ ?_ ?_
    · intro q; exact absurd (show Int32.ofNat 3 = 0 from q) (by decide)
    intro _
    refine Go.iloadN X d9_4 rfl ?_
    refine Go.bipush X (v := 65) d9_5 (by decide) ?_
    refine Go.icmp X d9_7 (pt := 18) ⟨by decide, by decide⟩ ?_ ?_
    · intro q; exact absurd (show (65 : Int32) < Int32.ofNat 3 from q) (by decide)
    intro _
    refine Go.aloadN X d9_10 rfl rfl ?_
    refine Go.iconst X (v := 0) d9_11 (by decide) ?_
    refine Go.cald X (by decide) (x := Int32.ofNat 10) (fun h H => H.elM hc rfl) d9_12 ?_
    refine Go.bipush X (v := 10) d9_13 (by decide) ?_
    refine Go.icmp X d9_15 (pt := 20) ⟨by decide, by decide⟩ ?_ ?_
    rotate_left
    · intro q; exact absurd rfl q
    intro _
    refine Go.iloadN X d9_20 rfl ?_
    refine Go.iconst X (v := 1) d9_21 (by decide) ?_
    refine Go.icmp X d9_22 (pt := 31) ⟨by decide, by decide⟩ ?_ ?_
    · intro q; exact absurd (show Int32.ofNat 3 ≤ 1 from q) (by decide)
    intro _
    refine Go.aloadN X d9_25 rfl rfl ?_
    refine Go.iconst X (v := 1) d9_26 (by decide) ?_
    refine Go.cald X (by decide) (x := Int32.ofNat 9) (fun h H => H.elM hc rfl) d9_27 ?_
    refine Go.goto X d9_28 (pt := 33) ⟨by decide, by decide⟩ ?_
    refine Go.istoreN X d9_33 rfl ?_
    refine Go.iloadN X d9_34 rfl ?_
    refine Go.bipush X (v := 9) d9_35 (by decide) ?_
    refine Go.icmp X d9_37 (pt := 48) ⟨by decide, by decide⟩ ?_ ?_
    rotate_left
    · intro q; exact absurd rfl q
    intro _
    refine Go.iconst X (v := 2) d9_48 (by decide) ?_
    refine Go.istore X d9_49 rfl ?_
    refine Go.iload X d9_51 rfl ?_
    refine Go.iloadN X d9_53 rfl ?_
    refine Go.icmp X d9_54 (pt := 73) ⟨by decide, by decide⟩ ?_ ?_
    · intro q; exact absurd (show Int32.ofNat 3 ≤ 2 from q) (by decide)
    intro _
    refine Go.aloadN X d9_57 rfl rfl ?_
    refine Go.iload X d9_58 rfl ?_
    refine Go.cald X (by decide) (x := Int32.ofNat 9) (fun h H => H.elM hc rfl) d9_60 ?_
    refine Go.iloadN X d9_61 rfl ?_
    refine Go.icmp X d9_62 (pt := 67) ⟨by decide, by decide⟩ ?_ ?_
    rotate_left
    · intro q; exact absurd rfl q
    intro _
    refine Go.iinc X d9_67 rfl rfl ?_
    refine Go.goto X d9_70 (pt := 51) ⟨by decide, by decide⟩ ?_
    refine Go.iload X d9_51 rfl ?_
    refine Go.iloadN X d9_53 rfl ?_
    refine Go.icmp X d9_54 (pt := 73) ⟨by decide, by decide⟩ ?_ ?_
    rotate_left
    · intro q; exact absurd (show Int32.ofNat 3 ≤ 3 by decide) q
    intro _
    exact K _
  · refine Go.iloadN X d9_0 rfl ?_
    refine Go.ifc X d9_1 (pt := 18) ⟨by decide, by decide⟩ ?_ ?_
    · intro q; exact absurd (show Int32.ofNat 4 = 0 from q) (by decide)
    intro _
    refine Go.iloadN X d9_4 rfl ?_
    refine Go.bipush X (v := 65) d9_5 (by decide) ?_
    refine Go.icmp X d9_7 (pt := 18) ⟨by decide, by decide⟩ ?_ ?_
    · intro q; exact absurd (show (65 : Int32) < Int32.ofNat 4 from q) (by decide)
    intro _
    refine Go.aloadN X d9_10 rfl rfl ?_
    refine Go.iconst X (v := 0) d9_11 (by decide) ?_
    refine Go.cald X (by decide) (x := Int32.ofNat 10) (fun h H => H.elM hc rfl) d9_12 ?_
    refine Go.bipush X (v := 10) d9_13 (by decide) ?_
    refine Go.icmp X d9_15 (pt := 20) ⟨by decide, by decide⟩ ?_ ?_
    rotate_left
    · intro q; exact absurd rfl q
    intro _
    refine Go.iloadN X d9_20 rfl ?_
    refine Go.iconst X (v := 1) d9_21 (by decide) ?_
    refine Go.icmp X d9_22 (pt := 31) ⟨by decide, by decide⟩ ?_ ?_
    · intro q; exact absurd (show Int32.ofNat 4 ≤ 1 from q) (by decide)
    intro _
    refine Go.aloadN X d9_25 rfl rfl ?_
    refine Go.iconst X (v := 1) d9_26 (by decide) ?_
    refine Go.cald X (by decide) (x := Int32.ofNat 9) (fun h H => H.elM hc rfl) d9_27 ?_
    refine Go.goto X d9_28 (pt := 33) ⟨by decide, by decide⟩ ?_
    refine Go.istoreN X d9_33 rfl ?_
    refine Go.iloadN X d9_34 rfl ?_
    refine Go.bipush X (v := 9) d9_35 (by decide) ?_
    refine Go.icmp X d9_37 (pt := 48) ⟨by decide, by decide⟩ ?_ ?_
    rotate_left
    · intro q; exact absurd rfl q
    intro _
    refine Go.iconst X (v := 2) d9_48 (by decide) ?_
    refine Go.istore X d9_49 rfl ?_
    refine Go.iload X d9_51 rfl ?_
    refine Go.iloadN X d9_53 rfl ?_
    refine Go.icmp X d9_54 (pt := 73) ⟨by decide, by decide⟩ ?_ ?_
    · intro q; exact absurd (show Int32.ofNat 4 ≤ 2 from q) (by decide)
    intro _
    refine Go.aloadN X d9_57 rfl rfl ?_
    refine Go.iload X d9_58 rfl ?_
    refine Go.cald X (by decide) (x := Int32.ofNat 9) (fun h H => H.elM hc rfl) d9_60 ?_
    refine Go.iloadN X d9_61 rfl ?_
    refine Go.icmp X d9_62 (pt := 67) ⟨by decide, by decide⟩ ?_ ?_
    rotate_left
    · intro q; exact absurd rfl q
    intro _
    refine Go.iinc X d9_67 rfl rfl ?_
    refine Go.goto X d9_70 (pt := 51) ⟨by decide, by decide⟩ ?_
    refine Go.iload X d9_51 rfl ?_
    refine Go.iloadN X d9_53 rfl ?_
    refine Go.icmp X d9_54 (pt := 73) ⟨by decide, by decide⟩ ?_ ?_
    · intro q; exact absurd (show Int32.ofNat 4 ≤ 3 from q) (by decide)
    intro _
    refine Go.aloadN X d9_57 rfl rfl ?_
    refine Go.iload X d9_58 rfl ?_
    refine Go.cald X (by decide) (x := Int32.ofNat 9) (fun h H => H.elM hc rfl) d9_60 ?_
    refine Go.iloadN X d9_61 rfl ?_
    refine Go.icmp X d9_62 (pt := 67) ⟨by decide, by decide⟩ ?_ ?_
    rotate_left
    · intro q; exact absurd rfl q
    intro _
    refine Go.iinc X d9_67 rfl rfl ?_
    refine Go.goto X d9_70 (pt := 51) ⟨by decide, by decide⟩ ?_
    refine Go.iload X d9_51 rfl ?_
    refine Go.iloadN X d9_53 rfl ?_
    refine Go.icmp X d9_54 (pt := 73) ⟨by decide, by decide⟩ ?_ ?_
    rotate_left
    · intro q; exact absurd (show Int32.ofNat 4 ≤ 4 by decide) q
    intro _
    exact K _
  · refine Go.iloadN X d9_0 rfl ?_
    refine Go.ifc X d9_1 (pt := 18) ⟨by decide, by decide⟩ ?_ ?_
    · intro q; exact absurd (show Int32.ofNat 1 = 0 from q) (by decide)
    intro _
    refine Go.iloadN X d9_4 rfl ?_
    refine Go.bipush X (v := 65) d9_5 (by decide) ?_
    refine Go.icmp X d9_7 (pt := 18) ⟨by decide, by decide⟩ ?_ ?_
    · intro q; exact absurd (show (65 : Int32) < Int32.ofNat 1 from q) (by decide)
    intro _
    refine Go.aloadN X d9_10 rfl rfl ?_
    refine Go.iconst X (v := 0) d9_11 (by decide) ?_
    refine Go.cald X (by decide) (x := Int32.ofNat 10) (fun h H => H.elM hc rfl) d9_12 ?_
    refine Go.bipush X (v := 10) d9_13 (by decide) ?_
    refine Go.icmp X d9_15 (pt := 20) ⟨by decide, by decide⟩ ?_ ?_
    rotate_left
    · intro q; exact absurd rfl q
    intro _
    refine Go.iloadN X d9_20 rfl ?_
    refine Go.iconst X (v := 1) d9_21 (by decide) ?_
    refine Go.icmp X d9_22 (pt := 31) ⟨by decide, by decide⟩ ?_ ?_
    rotate_left
    · intro q; exact absurd (show Int32.ofNat 1 ≤ 1 by decide) q
    intro _
    refine Go.bipush X (v := 9) d9_31 (by decide) ?_
    refine Go.istoreN X d9_33 rfl ?_
    refine Go.iloadN X d9_34 rfl ?_
    refine Go.bipush X (v := 9) d9_35 (by decide) ?_
    refine Go.icmp X d9_37 (pt := 48) ⟨by decide, by decide⟩ ?_ ?_
    rotate_left
    · intro q; exact absurd rfl q
    intro _
    refine Go.iconst X (v := 2) d9_48 (by decide) ?_
    refine Go.istore X d9_49 rfl ?_
    refine Go.iload X d9_51 rfl ?_
    refine Go.iloadN X d9_53 rfl ?_
    refine Go.icmp X d9_54 (pt := 73) ⟨by decide, by decide⟩ ?_ ?_
    rotate_left
    · intro q; exact absurd (show Int32.ofNat 1 ≤ 2 by decide) q
    intro _
    exact K _
  · refine Go.iloadN X d9_0 rfl ?_
    refine Go.ifc X d9_1 (pt := 18) ⟨by decide, by decide⟩ ?_ ?_
    · intro q; exact absurd (show Int32.ofNat 2 = 0 from q) (by decide)
    intro _
    refine Go.iloadN X d9_4 rfl ?_
    refine Go.bipush X (v := 65) d9_5 (by decide) ?_
    refine Go.icmp X d9_7 (pt := 18) ⟨by decide, by decide⟩ ?_ ?_
    · intro q; exact absurd (show (65 : Int32) < Int32.ofNat 2 from q) (by decide)
    intro _
    refine Go.aloadN X d9_10 rfl rfl ?_
    refine Go.iconst X (v := 0) d9_11 (by decide) ?_
    refine Go.cald X (by decide) (x := Int32.ofNat 10) (fun h H => H.elM hc rfl) d9_12 ?_
    refine Go.bipush X (v := 10) d9_13 (by decide) ?_
    refine Go.icmp X d9_15 (pt := 20) ⟨by decide, by decide⟩ ?_ ?_
    rotate_left
    · intro q; exact absurd rfl q
    intro _
    refine Go.iloadN X d9_20 rfl ?_
    refine Go.iconst X (v := 1) d9_21 (by decide) ?_
    refine Go.icmp X d9_22 (pt := 31) ⟨by decide, by decide⟩ ?_ ?_
    · intro q; exact absurd (show Int32.ofNat 2 ≤ 1 from q) (by decide)
    intro _
    refine Go.aloadN X d9_25 rfl rfl ?_
    refine Go.iconst X (v := 1) d9_26 (by decide) ?_
    refine Go.cald X (by decide) (x := Int32.ofNat 32) (fun h H => H.elM hc rfl) d9_27 ?_
    refine Go.goto X d9_28 (pt := 33) ⟨by decide, by decide⟩ ?_
    refine Go.istoreN X d9_33 rfl ?_
    refine Go.iloadN X d9_34 rfl ?_
    refine Go.bipush X (v := 9) d9_35 (by decide) ?_
    refine Go.icmp X d9_37 (pt := 48) ⟨by decide, by decide⟩ ?_ ?_
    · intro q; exact absurd (show (Int32.ofNat 32) = 9 from q) (by decide)
    intro _
    refine Go.iloadN X d9_40 rfl ?_
    refine Go.bipush X (v := 32) d9_41 (by decide) ?_
    refine Go.icmp X d9_43 (pt := 48) ⟨by decide, by decide⟩ ?_ ?_
    rotate_left
    · intro q; exact absurd rfl q
    intro _
    refine Go.iconst X (v := 2) d9_48 (by decide) ?_
    refine Go.istore X d9_49 rfl ?_
    refine Go.iload X d9_51 rfl ?_
    refine Go.iloadN X d9_53 rfl ?_
    refine Go.icmp X d9_54 (pt := 73) ⟨by decide, by decide⟩ ?_ ?_
    rotate_left
    · intro q; exact absurd (show Int32.ofNat 2 ≤ 2 by decide) q
    intro _
    exact K _
  · refine Go.iloadN X d9_0 rfl ?_
    refine Go.ifc X d9_1 (pt := 18) ⟨by decide, by decide⟩ ?_ ?_
    · intro q; exact absurd (show Int32.ofNat 3 = 0 from q) (by decide)
    intro _
    refine Go.iloadN X d9_4 rfl ?_
    refine Go.bipush X (v := 65) d9_5 (by decide) ?_
    refine Go.icmp X d9_7 (pt := 18) ⟨by decide, by decide⟩ ?_ ?_
    · intro q; exact absurd (show (65 : Int32) < Int32.ofNat 3 from q) (by decide)
    intro _
    refine Go.aloadN X d9_10 rfl rfl ?_
    refine Go.iconst X (v := 0) d9_11 (by decide) ?_
    refine Go.cald X (by decide) (x := Int32.ofNat 10) (fun h H => H.elM hc rfl) d9_12 ?_
    refine Go.bipush X (v := 10) d9_13 (by decide) ?_
    refine Go.icmp X d9_15 (pt := 20) ⟨by decide, by decide⟩ ?_ ?_
    rotate_left
    · intro q; exact absurd rfl q
    intro _
    refine Go.iloadN X d9_20 rfl ?_
    refine Go.iconst X (v := 1) d9_21 (by decide) ?_
    refine Go.icmp X d9_22 (pt := 31) ⟨by decide, by decide⟩ ?_ ?_
    · intro q; exact absurd (show Int32.ofNat 3 ≤ 1 from q) (by decide)
    intro _
    refine Go.aloadN X d9_25 rfl rfl ?_
    refine Go.iconst X (v := 1) d9_26 (by decide) ?_
    refine Go.cald X (by decide) (x := Int32.ofNat 32) (fun h H => H.elM hc rfl) d9_27 ?_
    refine Go.goto X d9_28 (pt := 33) ⟨by decide, by decide⟩ ?_
    refine Go.istoreN X d9_33 rfl ?_
    refine Go.iloadN X d9_34 rfl ?_
    refine Go.bipush X (v := 9) d9_35 (by decide) ?_
    refine Go.icmp X d9_37 (pt := 48) ⟨by decide, by decide⟩ ?_ ?_
    · intro q; exact absurd (show (Int32.ofNat 32) = 9 from q) (by decide)
    intro _
    refine Go.iloadN X d9_40 rfl ?_
    refine Go.bipush X (v := 32) d9_41 (by decide) ?_
    refine Go.icmp X d9_43 (pt := 48) ⟨by decide, by decide⟩ ?_ ?_
    rotate_left
    · intro q; exact absurd rfl q
    intro _
    refine Go.iconst X (v := 2) d9_48 (by decide) ?_
    refine Go.istore X d9_49 rfl ?_
    refine Go.iload X d9_51 rfl ?_
    refine Go.iloadN X d9_53 rfl ?_
    refine Go.icmp X d9_54 (pt := 73) ⟨by decide, by decide⟩ ?_ ?_
    · intro q; exact absurd (show Int32.ofNat 3 ≤ 2 from q) (by decide)
    intro _
    refine Go.aloadN X d9_57 rfl rfl ?_
    refine Go.iload X d9_58 rfl ?_
    refine Go.cald X (by decide) (x := Int32.ofNat 32) (fun h H => H.elM hc rfl) d9_60 ?_
    refine Go.iloadN X d9_61 rfl ?_
    refine Go.icmp X d9_62 (pt := 67) ⟨by decide, by decide⟩ ?_ ?_
    rotate_left
    · intro q; exact absurd rfl q
    intro _
    refine Go.iinc X d9_67 rfl rfl ?_
    refine Go.goto X d9_70 (pt := 51) ⟨by decide, by decide⟩ ?_
    refine Go.iload X d9_51 rfl ?_
    refine Go.iloadN X d9_53 rfl ?_
    refine Go.icmp X d9_54 (pt := 73) ⟨by decide, by decide⟩ ?_ ?_
    rotate_left
    · intro q; exact absurd (show Int32.ofNat 3 ≤ 3 by decide) q
    intro _
    exact K _
  · refine Go.iloadN X d9_0 rfl ?_
    refine Go.ifc X d9_1 (pt := 18) ⟨by decide, by decide⟩ ?_ ?_
    · intro q; exact absurd (show Int32.ofNat 4 = 0 from q) (by decide)
    intro _
    refine Go.iloadN X d9_4 rfl ?_
    refine Go.bipush X (v := 65) d9_5 (by decide) ?_
    refine Go.icmp X d9_7 (pt := 18) ⟨by decide, by decide⟩ ?_ ?_
    · intro q; exact absurd (show (65 : Int32) < Int32.ofNat 4 from q) (by decide)
    intro _
    refine Go.aloadN X d9_10 rfl rfl ?_
    refine Go.iconst X (v := 0) d9_11 (by decide) ?_
    refine Go.cald X (by decide) (x := Int32.ofNat 10) (fun h H => H.elM hc rfl) d9_12 ?_
    refine Go.bipush X (v := 10) d9_13 (by decide) ?_
    refine Go.icmp X d9_15 (pt := 20) ⟨by decide, by decide⟩ ?_ ?_
    rotate_left
    · intro q; exact absurd rfl q
    intro _
    refine Go.iloadN X d9_20 rfl ?_
    refine Go.iconst X (v := 1) d9_21 (by decide) ?_
    refine Go.icmp X d9_22 (pt := 31) ⟨by decide, by decide⟩ ?_ ?_
    · intro q; exact absurd (show Int32.ofNat 4 ≤ 1 from q) (by decide)
    intro _
    refine Go.aloadN X d9_25 rfl rfl ?_
    refine Go.iconst X (v := 1) d9_26 (by decide) ?_
    refine Go.cald X (by decide) (x := Int32.ofNat 32) (fun h H => H.elM hc rfl) d9_27 ?_
    refine Go.goto X d9_28 (pt := 33) ⟨by decide, by decide⟩ ?_
    refine Go.istoreN X d9_33 rfl ?_
    refine Go.iloadN X d9_34 rfl ?_
    refine Go.bipush X (v := 9) d9_35 (by decide) ?_
    refine Go.icmp X d9_37 (pt := 48) ⟨by decide, by decide⟩ ?_ ?_
    · intro q; exact absurd (show (Int32.ofNat 32) = 9 from q) (by decide)
    intro _
    refine Go.iloadN X d9_40 rfl ?_
    refine Go.bipush X (v := 32) d9_41 (by decide) ?_
    refine Go.icmp X d9_43 (pt := 48) ⟨by decide, by decide⟩ ?_ ?_
    rotate_left
    · intro q; exact absurd rfl q
    intro _
    refine Go.iconst X (v := 2) d9_48 (by decide) ?_
    refine Go.istore X d9_49 rfl ?_
    refine Go.iload X d9_51 rfl ?_
    refine Go.iloadN X d9_53 rfl ?_
    refine Go.icmp X d9_54 (pt := 73) ⟨by decide, by decide⟩ ?_ ?_
    · intro q; exact absurd (show Int32.ofNat 4 ≤ 2 from q) (by decide)
    intro _
    refine Go.aloadN X d9_57 rfl rfl ?_
    refine Go.iload X d9_58 rfl ?_
    refine Go.cald X (by decide) (x := Int32.ofNat 32) (fun h H => H.elM hc rfl) d9_60 ?_
    refine Go.iloadN X d9_61 rfl ?_
    refine Go.icmp X d9_62 (pt := 67) ⟨by decide, by decide⟩ ?_ ?_
    rotate_left
    · intro q; exact absurd rfl q
    intro _
    refine Go.iinc X d9_67 rfl rfl ?_
    refine Go.goto X d9_70 (pt := 51) ⟨by decide, by decide⟩ ?_
    refine Go.iload X d9_51 rfl ?_
    refine Go.iloadN X d9_53 rfl ?_
    refine Go.icmp X d9_54 (pt := 73) ⟨by decide, by decide⟩ ?_ ?_
    · intro q; exact absurd (show Int32.ofNat 4 ≤ 3 from q) (by decide)
    intro _
    refine Go.aloadN X d9_57 rfl rfl ?_
    refine Go.iload X d9_58 rfl ?_
    refine Go.cald X (by decide) (x := Int32.ofNat 32) (fun h H => H.elM hc rfl) d9_60 ?_
    refine Go.iloadN X d9_61 rfl ?_
    refine Go.icmp X d9_62 (pt := 67) ⟨by decide, by decide⟩ ?_ ?_
    rotate_left
    · intro q; exact absurd rfl q
    intro _
    refine Go.iinc X d9_67 rfl rfl ?_
    refine Go.goto X d9_70 (pt := 51) ⟨by decide, by decide⟩ ?_
    refine Go.iload X d9_51 rfl ?_
    refine Go.iloadN X d9_53 rfl ?_
    refine Go.icmp X d9_54 (pt := 73) ⟨by decide, by decide⟩ ?_ ?_
    rotate_left
    · intro q; exact absurd (show Int32.ofNat 4 ≤ 4 by decide) q
    intro _
    exact K _
-- %%% sharedIndentation
theorem w57 {a0 : Array Value} {Z : State} (G : Gl a0 Z) : (Jvm.Cond.methodLink "com/example/boxwood/boxwood/input/StringTable" (29 : Nat) ({ cls := "java/lang/String", name := "<init>", desc := "([CII)V" } : Jvm.MethodName)).before a0 Z = true := G.1 _ (List.mem_of_getElem? (i := 57) rfl)
theorem w58 {a0 : Array Value} {Z : State} (G : Gl a0 Z) : (Jvm.Cond.instanceMethod ({ cls := "java/lang/String", name := "<init>", desc := "([CII)V" } : Jvm.MethodName)).before a0 Z = true := G.1 _ (List.mem_of_getElem? (i := 58) rfl)
theorem w59 {a0 : Array Value} {Z : State} (G : Gl a0 Z) : (Jvm.Cond.code ({ cls := "java/lang/String", name := "<init>", desc := "([CII)V" } : Jvm.MethodName) jdk_42_method_4_code (4 : Nat) (Option.none : Option Jvm.ClassFile.FieldType)).before a0 Z = true := G.1 _ (List.mem_of_getElem? (i := 59) rfl)
theorem d9_73 : D1 prog_79_method_5_code 73 (.iload_n 3) 1 74 := ⟨by decide +kernel, rfl⟩
theorem d9_74 : D1 prog_79_method_5_code 74 (.bipush 9) 2 76 := ⟨by decide +kernel, rfl⟩
theorem d9_76 : D1 prog_79_method_5_code 76 (.if_icmp .ne 10) 3 79 := ⟨by decide +kernel, rfl⟩
theorem d9_79 : D1 prog_79_method_5_code 79 (.aload_n 0) 1 80 := ⟨by decide +kernel, rfl⟩
theorem d9_80 : D1 prog_79_method_5_code 80 (.getfield 11) 3 83 := ⟨by decide +kernel, rfl⟩
theorem d9_83 : D1 prog_79_method_5_code 83 (.goto 7) 3 86 := ⟨by decide +kernel, rfl⟩
theorem d9_86 : D1 prog_79_method_5_code 86 (.aload_n 0) 1 87 := ⟨by decide +kernel, rfl⟩
theorem d9_87 : D1 prog_79_method_5_code 87 (.getfield 15) 3 90 := ⟨by decide +kernel, rfl⟩
theorem d9_90 : D1 prog_79_method_5_code 90 (.astore 4) 2 92 := ⟨by decide +kernel, rfl⟩
theorem d9_92 : D1 prog_79_method_5_code 92 (.iload_n 2) 1 93 := ⟨by decide +kernel, rfl⟩
theorem d9_93 : D1 prog_79_method_5_code 93 (.iconst 1) 1 94 := ⟨by decide +kernel, rfl⟩
theorem d9_94 : D1 prog_79_method_5_code 94 (.isub) 1 95 := ⟨by decide +kernel, rfl⟩
theorem d9_95 : D1 prog_79_method_5_code 95 (.istore 5) 2 97 := ⟨by decide +kernel, rfl⟩
theorem d9_97 : D1 prog_79_method_5_code 97 (.aload 4) 2 99 := ⟨by decide +kernel, rfl⟩
theorem d9_99 : D1 prog_79_method_5_code 99 (.iload 5) 2 101 := ⟨by decide +kernel, rfl⟩
theorem d9_101 : D1 prog_79_method_5_code 101 (.aaload) 1 102 := ⟨by decide +kernel, rfl⟩
theorem d9_102 : D1 prog_79_method_5_code 102 (.ifnonnull 18) 3 105 := ⟨by decide +kernel, rfl⟩
theorem d9_105 : D1 prog_79_method_5_code 105 (.aload 4) 2 107 := ⟨by decide +kernel, rfl⟩
theorem d9_107 : D1 prog_79_method_5_code 107 (.iload 5) 2 109 := ⟨by decide +kernel, rfl⟩
theorem d9_109 : D1 prog_79_method_5_code 109 (.new 9) 3 112 := ⟨by decide +kernel, rfl⟩
theorem d9_112 : D1 prog_79_method_5_code 112 (.dup) 1 113 := ⟨by decide +kernel, rfl⟩
theorem d9_113 : D1 prog_79_method_5_code 113 (.aload_n 1) 1 114 := ⟨by decide +kernel, rfl⟩
theorem d9_114 : D1 prog_79_method_5_code 114 (.iconst 0) 1 115 := ⟨by decide +kernel, rfl⟩
theorem d9_115 : D1 prog_79_method_5_code 115 (.iload_n 2) 1 116 := ⟨by decide +kernel, rfl⟩
theorem d9_116 : D1 prog_79_method_5_code 116 (.invokespecial 29) 3 119 := ⟨by decide +kernel, rfl⟩
theorem d9_119 : D1 prog_79_method_5_code 119 (.aastore) 1 120 := ⟨by decide +kernel, rfl⟩
theorem d9_120 : D1 prog_79_method_5_code 120 (.aload 4) 2 122 := ⟨by decide +kernel, rfl⟩
theorem d9_122 : D1 prog_79_method_5_code 122 (.iload 5) 2 124 := ⟨by decide +kernel, rfl⟩
theorem d9_124 : D1 prog_79_method_5_code 124 (.aaload) 1 125 := ⟨by decide +kernel, rfl⟩
theorem d9_125 : D1 prog_79_method_5_code 125 (.areturn) 1 126 := ⟨by decide +kernel, rfl⟩
theorem pd16 : parseMethodDescriptor "([CII)V" = some ⟨[(.array .char), .int, .int], none⟩ := by decide +kernel
set_option maxRecDepth 65536 in
set_option maxHeartbeats 4000000 in
theorem t_smiss (l : Launch) {Z : State} {a0 : Array Value} (G : Gl a0 Z) {L : List Ent} {t ca ba b1 b2 b3 b4 : Addr} {Kc Ka : ClassId} {f : Bool} {vs : List Value} {N d it : Nat} {pl : Int32} (hd : d = 9 ∨ d = 32) (hN : N = 1 ∨ N = 2 ∨ N = 3 ∨ N = 4) (hc : (ca, Ar Z .char Kc (csOf [10, d, d, d]), f) ∈ L) (hT : L[it]? = some (ow t (Ob Z "com/example/boxwood/boxwood/input/StringTable" ns1 [.ref b1, .ref b2, .ref b3, .ref b4, .int pl]))) (h9 : (if N = 1 then 9 else d) = 9 → b1 = ba) (h32 : (if N = 1 then 9 else d) ≠ 9 → b2 = ba) (Oa : Ovr Z Ka "java/lang/String") (hvA : vs[N - 1]? = some .null) : Ct WD EL0 l Z (⟨"com/example/boxwood/boxwood/input/StringTable", "sharedIndentation", "([CI)Ljava/lang/String;"⟩ : MethodName) prog_79_method_5_code 6 (some (.object "java/lang/String")) ({ frames := 4, cells := 5, slots := 16, locals := 72 } : Room) #[.ref t, .ref ca, .int (Int32.ofNat N)] (ow ba (Ar Z (.object "java/lang/String") Ka vs) :: L) (rvQ (fun v M => ∃ s1 b K f, v = .ref s1 ∧ FcB Z (List.take N [10, d, d, d]) K ∧ M = (b, Ar Z .byte K (bsOf (List.take N [10, d, d, d])), f) :: ow s1 (StrP Z b (List.take N [10, d, d, d])) :: ow ba (Ar Z (.object "java/lang/String") Ka (updL vs (N - 1) (.ref s1))) :: L)) := by
  refine Ct.intro (by decide +kernel) G.2.1 ?_
  intro p e s m below meth c X
  replace X : Cx WD EL0 p Z s m meth c "com/example/boxwood/boxwood/input/StringTable" "sharedIndentation" prog_79_method_5_code 6 (some (.object "java/lang/String")) := X
  refine Go.cast (g' := mkF m 0 #[.val (.ref t), .val (.ref ca), .val (.int (Int32.ofNat N)), .unset, .unset, .unset] []) (by first | rfl | (simp [entryFrame, mkF, argsToLocals, Value.category, maxLocals]; done)) ?_
  have eN : Int32.ofNat N - 1 = Int32.ofNat (N - 1) := by rcases hN with rfl | rfl | rfl | rfl <;> rfl
  have eC : (if N = 1 then 9 else d) < 2 ^ 31 := by split <;> omega
  obtain ⟨n1, n2, n3⟩ := nat32 (i := N - 1) (by omega)
  obtain ⟨c1, c2, c3⟩ := nat32 (i := (if N = 1 then 9 else d)) eC
  have k90 : ∀ j : Int32, Go WD EL0 p l e ({ frames := 4, cells := 5, slots := 16, locals := 72 } : Room) Z s m #[.ref t, .ref ca, .int (Int32.ofNat N)] below meth c (rvQ (fun v M => ∃ s1 b K f, v = .ref s1 ∧ FcB Z (List.take N [10, d, d, d]) K ∧ M = (b, Ar Z .byte K (bsOf (List.take N [10, d, d, d])), f) :: ow s1 (StrP Z b (List.take N [10, d, d, d])) :: ow ba (Ar Z (.object "java/lang/String") Ka (updL vs (N - 1) (.ref s1))) :: L)) (ow ba (Ar Z (.object "java/lang/String") Ka vs) :: L) 0 0 (mkF m 90 #[.val (.ref t), .val (.ref ca), .val (.int (Int32.ofNat N)), .val (.int (Int32.ofNat (if N = 1 then 9 else d))), .val (.int j), .unset] [.ref ba]) := by
    intro j
    refine Go.astore X d9_90 rfl rfl ?_
    refine Go.iloadN X d9_92 rfl ?_
    refine Go.iconst X (v := 1) d9_93 (by decide) ?_
    refine Go.isub X d9_94 ?_
    rw [eN]
    refine Go.istore X d9_95 rfl ?_
    refine Go.aload X d9_97 rfl rfl ?_
    refine Go.iload X d9_99 rfl ?_
    refine Go.aald X (ty := .object "java/lang/String") rfl n2 (fun h H => H.el (i := 0) rfl (by rw [n3]; exact hvA)) d9_101 ?_
    refine Go.ifnonnullN X d9_102 ?_
    refine Go.aload X d9_105 rfl rfl ?_
    refine Go.iload X d9_107 rfl ?_
    refine Go.new X (w37 G) (w2 G) (w3 G) (lay0 G) df0 d9_109 (by first | exact Nat.le_of_ble_eq_true rfl | (simp; done) | (simp; omega)) (by first | exact Nat.le_of_ble_eq_true rfl | (simp; done) | (simp; omega)) ?_
    intro s1
    refine Go.dup X d9_112 rfl ?_
    refine Go.aloadN X d9_113 rfl rfl ?_
    refine Go.iconst X (v := 0) d9_114 (by decide) ?_
    refine Go.iloadN X d9_115 rfl ?_
    have hlen : (List.take N [10, d, d, d]).length = N := by simp; omega
    have r := s_init3 l G (a := s1) (cap := 4) (cl := (List.take N [10, d, d, d])) (L := (ow ba (Ar Z (.object "java/lang/String") Ka vs) :: L)) (List.mem_cons_of_mem _ hc) (fun c h => by
      have := List.mem_of_mem_take h
      simp at this; omega) (fun i c h => take_cs h) (by simp [csOf]; omega) (by simp; omega) (by omega)
    rw [hlen] at r
    refine Go.callI X (r) rfl (rest := [.ref s1, .int (Int32.ofNat (N - 1)), .ref ba]) (w57 G) (w58 G) (w3 G) (w59 G) (by decide) pd16 rfl rfl d9_116 rfl (by first | exact Nat.le_of_ble_eq_true rfl | (simp; done) | (simp; omega)) (by first | exact Nat.le_of_ble_eq_true rfl | (simp; done) | (simp; omega)) (by first | exact Nat.le_of_ble_eq_true rfl | (simp; done) | (simp; omega)) (by first | exact Nat.le_of_ble_eq_true rfl | (simp; done) | (simp; omega)) (K0 ?_)
    rintro W ⟨b, K, f, hK, rfl⟩
    refine Go.aast X (i := 2) rfl n2 (by rw [n3]; exact (List.getElem?_eq_some_iff.mp hvA).1) (fun h H => H.sto (i := 2) rfl Oa (Ins.self (H.exa (i := 1) rfl))) rfl d9_119 ?_
    rw [n3]
    refine Go.weak (i := 1) rfl (P' := StrP Z b (List.take N [10, d, d, d])) (fun c q => ⟨0, 0, Or.inl rfl, Or.inl rfl, q⟩) ?_
    refine Go.aload X d9_120 rfl rfl ?_
    refine Go.iload X d9_122 rfl ?_
    refine Go.aald X (ty := .object "java/lang/String") rfl n2 (fun h H => H.el (i := 2) rfl (by rw [n3]; exact upd_at _ _ _ _ hvA)) d9_124 ?_
    exact Go.aret X d9_125 (by rfl) (by rfl) (by rfl) (by first | exact Nat.le_of_ble_eq_true rfl | (simp; done) | (simp; omega)) (by first | exact Nat.le_of_ble_eq_true rfl | (simp; done) | (simp; omega)) ⟨s1, b, K, f, rfl, hK, rfl⟩
  refine t_front hd hN (List.mem_cons_of_mem _ hc) X ?_
  intro j
  refine Go.iloadN X d9_73 rfl ?_
  refine Go.bipush X (v := 9) d9_74 (by decide) ?_
  refine Go.icmp X d9_76 (pt := 86) ⟨by decide, by decide⟩ ?_ ?_
  · intro q
    have q : (if N = 1 then 9 else d) ≠ 9 := fun z => (ccL (b := 9) q c1 rfl : ¬ (((if N = 1 then 9 else d) : Nat) : Int) = 9) (by rw [z]; rfl)
    refine Go.aloadN X d9_86 rfl rfl ?_
    refine Go.getFld X (w41 G) Via.refl (fun h H => H.fld (i := it + 1) hT (j := 1) rfl rfl) d9_87 ?_
    rw [h32 q]
    exact k90 j
  intro q
  have q : (((if N = 1 then 9 else d) : Nat) : Int) = 9 := Decidable.of_not_not (ccN (b := 9) q c1 rfl)
  have q : (if N = 1 then 9 else d) = 9 := by omega
  refine Go.aloadN X d9_79 rfl rfl ?_
  refine Go.getFld X (w39 G) Via.refl (fun h H => H.fld (i := it + 1) hT (j := 0) rfl rfl) d9_80 ?_
  rw [h9 q]
  refine Go.goto X d9_83 (pt := 90) ⟨by decide, by decide⟩ ?_
  exact k90 j
set_option maxRecDepth 65536 in
set_option maxHeartbeats 4000000 in
theorem t_shit (l : Launch) {Z : State} {a0 : Array Value} (G : Gl a0 Z) {L : List Ent} {t ca ba b1 b2 b3 b4 : Addr} {Kc Ka : ClassId} {f : Bool} {vs : List Value} {N d it : Nat} {pl : Int32} (hd : d = 9 ∨ d = 32) (hN : N = 1 ∨ N = 2 ∨ N = 3 ∨ N = 4) (hc : (ca, Ar Z .char Kc (csOf [10, d, d, d]), f) ∈ L) (hT : L[it]? = some (ow t (Ob Z "com/example/boxwood/boxwood/input/StringTable" ns1 [.ref b1, .ref b2, .ref b3, .ref b4, .int pl]))) (h9 : (if N = 1 then 9 else d) = 9 → b1 = ba) (h32 : (if N = 1 then 9 else d) ≠ 9 → b2 = ba) {s1 : Addr} (hvA : vs[N - 1]? = some (.ref s1)) : Ct WD EL0 l Z (⟨"com/example/boxwood/boxwood/input/StringTable", "sharedIndentation", "([CI)Ljava/lang/String;"⟩ : MethodName) prog_79_method_5_code 6 (some (.object "java/lang/String")) ({ frames := 0, cells := 0, slots := 0, locals := 0 } : Room) #[.ref t, .ref ca, .int (Int32.ofNat N)] (ow ba (Ar Z (.object "java/lang/String") Ka vs) :: L) (rvQ (fun v M => v = .ref s1 ∧ M = (ow ba (Ar Z (.object "java/lang/String") Ka vs) :: L))) := by
  refine Ct.intro (by decide +kernel) G.2.1 ?_
  intro p e s m below meth c X
  replace X : Cx WD EL0 p Z s m meth c "com/example/boxwood/boxwood/input/StringTable" "sharedIndentation" prog_79_method_5_code 6 (some (.object "java/lang/String")) := X
  refine Go.cast (g' := mkF m 0 #[.val (.ref t), .val (.ref ca), .val (.int (Int32.ofNat N)), .unset, .unset, .unset] []) (by first | rfl | (simp [entryFrame, mkF, argsToLocals, Value.category, maxLocals]; done)) ?_
  have eN : Int32.ofNat N - 1 = Int32.ofNat (N - 1) := by rcases hN with rfl | rfl | rfl | rfl <;> rfl
  have eC : (if N = 1 then 9 else d) < 2 ^ 31 := by split <;> omega
  obtain ⟨n1, n2, n3⟩ := nat32 (i := N - 1) (by omega)
  obtain ⟨c1, c2, c3⟩ := nat32 (i := (if N = 1 then 9 else d)) eC
  have k90 : ∀ j : Int32, Go WD EL0 p l e ({ frames := 0, cells := 0, slots := 0, locals := 0 } : Room) Z s m #[.ref t, .ref ca, .int (Int32.ofNat N)] below meth c (rvQ (fun v M => v = .ref s1 ∧ M = (ow ba (Ar Z (.object "java/lang/String") Ka vs) :: L))) (ow ba (Ar Z (.object "java/lang/String") Ka vs) :: L) 0 0 (mkF m 90 #[.val (.ref t), .val (.ref ca), .val (.int (Int32.ofNat N)), .val (.int (Int32.ofNat (if N = 1 then 9 else d))), .val (.int j), .unset] [.ref ba]) := by
    intro j
    refine Go.astore X d9_90 rfl rfl ?_
    refine Go.iloadN X d9_92 rfl ?_
    refine Go.iconst X (v := 1) d9_93 (by decide) ?_
    refine Go.isub X d9_94 ?_
    rw [eN]
    refine Go.istore X d9_95 rfl ?_
    refine Go.aload X d9_97 rfl rfl ?_
    refine Go.iload X d9_99 rfl ?_
    refine Go.aald X (ty := .object "java/lang/String") rfl n2 (fun h H => H.el (i := 0) rfl (by rw [n3]; exact hvA)) d9_101 ?_
    refine Go.ifnonnullY X d9_102 (pt := 120) ⟨by decide, by decide⟩ ?_
    refine Go.aload X d9_120 rfl rfl ?_
    refine Go.iload X d9_122 rfl ?_
    refine Go.aald X (ty := .object "java/lang/String") rfl n2 (fun h H => H.el (i := 0) rfl (by rw [n3]; exact hvA)) d9_124 ?_
    exact Go.aret X d9_125 (by rfl) (by rfl) (by rfl) (by first | exact Nat.le_of_ble_eq_true rfl | (simp; done) | (simp; omega)) (by first | exact Nat.le_of_ble_eq_true rfl | (simp; done) | (simp; omega)) ⟨rfl, rfl⟩
  refine t_front hd hN (List.mem_cons_of_mem _ hc) X ?_
  intro j
  refine Go.iloadN X d9_73 rfl ?_
  refine Go.bipush X (v := 9) d9_74 (by decide) ?_
  refine Go.icmp X d9_76 (pt := 86) ⟨by decide, by decide⟩ ?_ ?_
  · intro q
    have q : (if N = 1 then 9 else d) ≠ 9 := fun z => (ccL (b := 9) q c1 rfl : ¬ (((if N = 1 then 9 else d) : Nat) : Int) = 9) (by rw [z]; rfl)
    refine Go.aloadN X d9_86 rfl rfl ?_
    refine Go.getFld X (w41 G) Via.refl (fun h H => H.fld (i := it + 1) hT (j := 1) rfl rfl) d9_87 ?_
    rw [h32 q]
    exact k90 j
  intro q
  have q : (((if N = 1 then 9 else d) : Nat) : Int) = 9 := Decidable.of_not_not (ccN (b := 9) q c1 rfl)
  have q : (if N = 1 then 9 else d) = 9 := by omega
  refine Go.aloadN X d9_79 rfl rfl ?_
  refine Go.getFld X (w39 G) Via.refl (fun h H => H.fld (i := it + 1) hT (j := 0) rfl rfl) d9_80 ?_
  rw [h9 q]
  refine Go.goto X d9_83 (pt := 90) ⟨by decide, by decide⟩ ?_
  exact k90 j
-- %%% text
theorem w53 {a0 : Array Value} {Z : State} (G : Gl a0 Z) : (Jvm.Cond.methodLink "com/example/boxwood/boxwood/input/StringTable" (25 : Nat) ({ cls := "com/example/boxwood/boxwood/input/StringTable", name := "sharedIndentation", desc := "([CI)Ljava/lang/String;" } : Jvm.MethodName)).before a0 Z = true := G.1 _ (List.mem_of_getElem? (i := 53) rfl)
theorem w54 {a0 : Array Value} {Z : State} (G : Gl a0 Z) : (Jvm.Cond.instanceMethod ({ cls := "com/example/boxwood/boxwood/input/StringTable", name := "sharedIndentation", desc := "([CI)Ljava/lang/String;" } : Jvm.MethodName)).before a0 Z = true := G.1 _ (List.mem_of_getElem? (i := 54) rfl)
theorem w55 {a0 : Array Value} {Z : State} (G : Gl a0 Z) : (Jvm.Cond.privateMethod ({ cls := "com/example/boxwood/boxwood/input/StringTable", name := "sharedIndentation", desc := "([CI)Ljava/lang/String;" } : Jvm.MethodName)).before a0 Z = true := G.1 _ (List.mem_of_getElem? (i := 55) rfl)
theorem w56 {a0 : Array Value} {Z : State} (G : Gl a0 Z) : (Jvm.Cond.code ({ cls := "com/example/boxwood/boxwood/input/StringTable", name := "sharedIndentation", desc := "([CI)Ljava/lang/String;" } : Jvm.MethodName) prog_79_method_5_code (6 : Nat) (Option.some (Jvm.ClassFile.FieldType.object "java/lang/String"))).before a0 Z = true := G.1 _ (List.mem_of_getElem? (i := 56) rfl)
theorem d8_0 : D1 prog_79_method_2_code 0 (.aload_n 0) 1 1 := ⟨by decide +kernel, rfl⟩
theorem d8_1 : D1 prog_79_method_2_code 1 (.aload_n 1) 1 2 := ⟨by decide +kernel, rfl⟩
theorem d8_2 : D1 prog_79_method_2_code 2 (.iload_n 2) 1 3 := ⟨by decide +kernel, rfl⟩
theorem d8_3 : D1 prog_79_method_2_code 3 (.invokevirtual 25) 3 6 := ⟨by decide +kernel, rfl⟩
theorem d8_6 : D1 prog_79_method_2_code 6 (.astore_n 3) 1 7 := ⟨by decide +kernel, rfl⟩
theorem d8_7 : D1 prog_79_method_2_code 7 (.aload_n 3) 1 8 := ⟨by decide +kernel, rfl⟩
theorem d8_8 : D1 prog_79_method_2_code 8 (.ifnull 7) 3 11 := ⟨by decide +kernel, rfl⟩
theorem d8_11 : D1 prog_79_method_2_code 11 (.aload_n 3) 1 12 := ⟨by decide +kernel, rfl⟩
theorem d8_12 : D1 prog_79_method_2_code 12 (.goto 13) 3 15 := ⟨by decide +kernel, rfl⟩
theorem d8_25 : D1 prog_79_method_2_code 25 (.areturn) 1 26 := ⟨by decide +kernel, rfl⟩
theorem pd17 : parseMethodDescriptor "([CI)Ljava/lang/String;" = some ⟨[(.array .char), .int], some (.object "java/lang/String")⟩ := by decide +kernel
set_option maxRecDepth 65536 in
set_option maxHeartbeats 4000000 in
theorem t_tmiss (l : Launch) {Z : State} {a0 : Array Value} (G : Gl a0 Z) {L : List Ent} {t ca ba b1 b2 b3 b4 : Addr} {Kc Ka : ClassId} {f : Bool} {vs : List Value} {N d it : Nat} {pl : Int32} (hd : d = 9 ∨ d = 32) (hN : N = 1 ∨ N = 2 ∨ N = 3 ∨ N = 4) (hc : (ca, Ar Z .char Kc (csOf [10, d, d, d]), f) ∈ L) (hT : L[it]? = some (ow t (Ob Z "com/example/boxwood/boxwood/input/StringTable" ns1 [.ref b1, .ref b2, .ref b3, .ref b4, .int pl]))) (h9 : (if N = 1 then 9 else d) = 9 → b1 = ba) (h32 : (if N = 1 then 9 else d) ≠ 9 → b2 = ba) (Oa : Ovr Z Ka "java/lang/String") (hvA : vs[N - 1]? = some .null) : Ct WD EL0 l Z (⟨"com/example/boxwood/boxwood/input/StringTable", "text", "([CI)Ljava/lang/String;"⟩ : MethodName) prog_79_method_2_code 4 (some (.object "java/lang/String")) ({ frames := 5, cells := 5, slots := 16, locals := 94 } : Room) #[.ref t, .ref ca, .int (Int32.ofNat N)] (ow ba (Ar Z (.object "java/lang/String") Ka vs) :: L) (rvQ (fun v M => ∃ s1 b K f, v = .ref s1 ∧ FcB Z (List.take N [10, d, d, d]) K ∧ M = (b, Ar Z .byte K (bsOf (List.take N [10, d, d, d])), f) :: ow s1 (StrP Z b (List.take N [10, d, d, d])) :: ow ba (Ar Z (.object "java/lang/String") Ka (updL vs (N - 1) (.ref s1))) :: L)) := by
  refine Ct.intro (by decide +kernel) G.2.1 ?_
  intro p e s m below meth c X
  replace X : Cx WD EL0 p Z s m meth c "com/example/boxwood/boxwood/input/StringTable" "text" prog_79_method_2_code 4 (some (.object "java/lang/String")) := X
  refine Go.cast (g' := mkF m 0 #[.val (.ref t), .val (.ref ca), .val (.int (Int32.ofNat N)), .unset] []) (by first | rfl | (simp [entryFrame, mkF, argsToLocals, Value.category, maxLocals]; done)) ?_
  refine Go.aloadN X d8_0 rfl rfl ?_
  refine Go.aloadN X d8_1 rfl rfl ?_
  refine Go.iloadN X d8_2 rfl ?_
  refine Go.callP X (fun h H => H.exa (i := it + 1) hT) (t_smiss l G hd hN hc hT h9 h32 Oa hvA) (rest := []) (w53 G) (w54 G) (selP (w31 G) (w55 G) (w54 G) (by decide)) (w55 G) (w32 G) (w56 G) (by decide) pd17 rfl rfl d8_3 rfl (by first | exact Nat.le_of_ble_eq_true rfl | (simp; done) | (simp; omega)) (by first | exact Nat.le_of_ble_eq_true rfl | (simp; done) | (simp; omega)) (by first | exact Nat.le_of_ble_eq_true rfl | (simp; done) | (simp; omega)) (by first | exact Nat.le_of_ble_eq_true rfl | (simp; done) | (simp; omega)) (Kv ?_)
  rintro v W ⟨s1, b, K, f, rfl, hK, rfl⟩
  refine Go.astoreN X d8_6 rfl rfl ?_
  refine Go.aloadN X d8_7 rfl rfl ?_
  refine Go.ifnullN X d8_8 ?_
  refine Go.aloadN X d8_11 rfl rfl ?_
  refine Go.goto X d8_12 (pt := 25) ⟨by decide, by decide⟩ ?_
  exact Go.aret X d8_25 (by rfl) (by rfl) (by rfl) (by first | exact Nat.le_of_ble_eq_true rfl | (simp; done) | (simp; omega)) (by first | exact Nat.le_of_ble_eq_true rfl | (simp; done) | (simp; omega)) ⟨s1, b, K, f, rfl, hK, rfl⟩
set_option maxRecDepth 65536 in
set_option maxHeartbeats 4000000 in
theorem t_thit (l : Launch) {Z : State} {a0 : Array Value} (G : Gl a0 Z) {L : List Ent} {t ca ba b1 b2 b3 b4 : Addr} {Kc Ka : ClassId} {f : Bool} {vs : List Value} {N d it : Nat} {pl : Int32} (hd : d = 9 ∨ d = 32) (hN : N = 1 ∨ N = 2 ∨ N = 3 ∨ N = 4) (hc : (ca, Ar Z .char Kc (csOf [10, d, d, d]), f) ∈ L) (hT : L[it]? = some (ow t (Ob Z "com/example/boxwood/boxwood/input/StringTable" ns1 [.ref b1, .ref b2, .ref b3, .ref b4, .int pl]))) (h9 : (if N = 1 then 9 else d) = 9 → b1 = ba) (h32 : (if N = 1 then 9 else d) ≠ 9 → b2 = ba) {s1 : Addr} (hvA : vs[N - 1]? = some (.ref s1)) : Ct WD EL0 l Z (⟨"com/example/boxwood/boxwood/input/StringTable", "text", "([CI)Ljava/lang/String;"⟩ : MethodName) prog_79_method_2_code 4 (some (.object "java/lang/String")) ({ frames := 1, cells := 0, slots := 0, locals := 20 } : Room) #[.ref t, .ref ca, .int (Int32.ofNat N)] (ow ba (Ar Z (.object "java/lang/String") Ka vs) :: L) (rvQ (fun v M => v = .ref s1 ∧ M = (ow ba (Ar Z (.object "java/lang/String") Ka vs) :: L))) := by
  refine Ct.intro (by decide +kernel) G.2.1 ?_
  intro p e s m below meth c X
  replace X : Cx WD EL0 p Z s m meth c "com/example/boxwood/boxwood/input/StringTable" "text" prog_79_method_2_code 4 (some (.object "java/lang/String")) := X
  refine Go.cast (g' := mkF m 0 #[.val (.ref t), .val (.ref ca), .val (.int (Int32.ofNat N)), .unset] []) (by first | rfl | (simp [entryFrame, mkF, argsToLocals, Value.category, maxLocals]; done)) ?_
  refine Go.aloadN X d8_0 rfl rfl ?_
  refine Go.aloadN X d8_1 rfl rfl ?_
  refine Go.iloadN X d8_2 rfl ?_
  refine Go.callP X (fun h H => H.exa (i := it + 1) hT) (t_shit l G hd hN hc hT h9 h32 hvA) (rest := []) (w53 G) (w54 G) (selP (w31 G) (w55 G) (w54 G) (by decide)) (w55 G) (w32 G) (w56 G) (by decide) pd17 rfl rfl d8_3 rfl (by first | exact Nat.le_of_ble_eq_true rfl | (simp; done) | (simp; omega)) (by first | exact Nat.le_of_ble_eq_true rfl | (simp; done) | (simp; omega)) (by first | exact Nat.le_of_ble_eq_true rfl | (simp; done) | (simp; omega)) (by first | exact Nat.le_of_ble_eq_true rfl | (simp; done) | (simp; omega)) (Kv ?_)
  rintro v W ⟨rfl, rfl⟩
  refine Go.astoreN X d8_6 rfl rfl ?_
  refine Go.aloadN X d8_7 rfl rfl ?_
  refine Go.ifnullN X d8_8 ?_
  refine Go.aloadN X d8_11 rfl rfl ?_
  refine Go.goto X d8_12 (pt := 25) ⟨by decide, by decide⟩ ?_
  exact Go.aret X d8_25 (by rfl) (by rfl) (by rfl) (by first | exact Nat.le_of_ble_eq_true rfl | (simp; done) | (simp; omega)) (by first | exact Nat.le_of_ble_eq_true rfl | (simp; done) | (simp; omega)) ⟨rfl, rfl⟩
-- %%% law 221
theorem w0 {a0 : Array Value} {Z : State} (G : Gl a0 Z) : (Jvm.Cond.arrayClass Jvm.ClassFile.FieldType.char).before a0 Z = true := G.1 _ (List.mem_of_getElem? (i := 0) rfl)
theorem w1 {a0 : Array Value} {Z : State} (G : Gl a0 Z) : (Jvm.Cond.classLink "com/example/boxwood/boxwood/input/StringTableClearPinLaw" (7 : Nat) "java/lang/String").before a0 Z = true := G.1 _ (List.mem_of_getElem? (i := 1) rfl)
theorem w4 {a0 : Array Value} {Z : State} (G : Gl a0 Z) : (Jvm.Cond.methodLink "com/example/boxwood/boxwood/input/StringTableClearPinLaw" (9 : Nat) ({ cls := "java/lang/String", name := "<init>", desc := "([C)V" } : Jvm.MethodName)).before a0 Z = true := G.1 _ (List.mem_of_getElem? (i := 4) rfl)
theorem w5 {a0 : Array Value} {Z : State} (G : Gl a0 Z) : (Jvm.Cond.instanceMethod ({ cls := "java/lang/String", name := "<init>", desc := "([C)V" } : Jvm.MethodName)).before a0 Z = true := G.1 _ (List.mem_of_getElem? (i := 5) rfl)
theorem w6 {a0 : Array Value} {Z : State} (G : Gl a0 Z) : (Jvm.Cond.code ({ cls := "java/lang/String", name := "<init>", desc := "([C)V" } : Jvm.MethodName) jdk_42_method_3_code (2 : Nat) (Option.none : Option Jvm.ClassFile.FieldType)).before a0 Z = true := G.1 _ (List.mem_of_getElem? (i := 6) rfl)
theorem w30 {a0 : Array Value} {Z : State} (G : Gl a0 Z) : (Jvm.Cond.classLink "com/example/boxwood/boxwood/input/StringTableClearPinLaw" (12 : Nat) "com/example/boxwood/boxwood/input/StringTable").before a0 Z = true := G.1 _ (List.mem_of_getElem? (i := 30) rfl)
theorem w33 {a0 : Array Value} {Z : State} (G : Gl a0 Z) : (Jvm.Cond.methodLink "com/example/boxwood/boxwood/input/StringTableClearPinLaw" (14 : Nat) ({ cls := "com/example/boxwood/boxwood/input/StringTable", name := "<init>", desc := "()V" } : Jvm.MethodName)).before a0 Z = true := G.1 _ (List.mem_of_getElem? (i := 33) rfl)
theorem w34 {a0 : Array Value} {Z : State} (G : Gl a0 Z) : (Jvm.Cond.instanceMethod ({ cls := "com/example/boxwood/boxwood/input/StringTable", name := "<init>", desc := "()V" } : Jvm.MethodName)).before a0 Z = true := G.1 _ (List.mem_of_getElem? (i := 34) rfl)
theorem w35 {a0 : Array Value} {Z : State} (G : Gl a0 Z) : (Jvm.Cond.code ({ cls := "com/example/boxwood/boxwood/input/StringTable", name := "<init>", desc := "()V" } : Jvm.MethodName) prog_79_method_1_code (1 : Nat) (Option.none : Option Jvm.ClassFile.FieldType)).before a0 Z = true := G.1 _ (List.mem_of_getElem? (i := 35) rfl)
theorem w48 {a0 : Array Value} {Z : State} (G : Gl a0 Z) : (Jvm.Cond.methodLink "com/example/boxwood/boxwood/input/StringTableClearPinLaw" (15 : Nat) ({ cls := "com/example/boxwood/boxwood/input/StringTable", name := "text", desc := "([CI)Ljava/lang/String;" } : Jvm.MethodName)).before a0 Z = true := G.1 _ (List.mem_of_getElem? (i := 48) rfl)
theorem w49 {a0 : Array Value} {Z : State} (G : Gl a0 Z) : (Jvm.Cond.declares ({ cls := "com/example/boxwood/boxwood/input/StringTable", name := "text", desc := "([CI)Ljava/lang/String;" } : Jvm.MethodName)).before a0 Z = true := G.1 _ (List.mem_of_getElem? (i := 49) rfl)
theorem w50 {a0 : Array Value} {Z : State} (G : Gl a0 Z) : (Jvm.Cond.instanceMethod ({ cls := "com/example/boxwood/boxwood/input/StringTable", name := "text", desc := "([CI)Ljava/lang/String;" } : Jvm.MethodName)).before a0 Z = true := G.1 _ (List.mem_of_getElem? (i := 50) rfl)
theorem w51 {a0 : Array Value} {Z : State} (G : Gl a0 Z) : (Jvm.Cond.selects "com/example/boxwood/boxwood/input/StringTable" ({ cls := "com/example/boxwood/boxwood/input/StringTable", name := "text", desc := "([CI)Ljava/lang/String;" } : Jvm.MethodName) ({ cls := "com/example/boxwood/boxwood/input/StringTable", name := "text", desc := "([CI)Ljava/lang/String;" } : Jvm.MethodName)).before a0 Z = true := G.1 _ (List.mem_of_getElem? (i := 51) rfl)
theorem w52 {a0 : Array Value} {Z : State} (G : Gl a0 Z) : (Jvm.Cond.code ({ cls := "com/example/boxwood/boxwood/input/StringTable", name := "text", desc := "([CI)Ljava/lang/String;" } : Jvm.MethodName) prog_79_method_2_code (4 : Nat) (Option.some (Jvm.ClassFile.FieldType.object "java/lang/String"))).before a0 Z = true := G.1 _ (List.mem_of_getElem? (i := 52) rfl)
theorem w71 {a0 : Array Value} {Z : State} (G : Gl a0 Z) : (Jvm.Cond.methodLink "com/example/boxwood/boxwood/input/StringTableClearPinLaw" (19 : Nat) ({ cls := "com/example/boxwood/boxwood/input/StringTable", name := "value", desc := "(Ljava/lang/String;)Ljava/lang/String;" } : Jvm.MethodName)).before a0 Z = true := G.1 _ (List.mem_of_getElem? (i := 71) rfl)
theorem w72 {a0 : Array Value} {Z : State} (G : Gl a0 Z) : (Jvm.Cond.declares ({ cls := "com/example/boxwood/boxwood/input/StringTable", name := "value", desc := "(Ljava/lang/String;)Ljava/lang/String;" } : Jvm.MethodName)).before a0 Z = true := G.1 _ (List.mem_of_getElem? (i := 72) rfl)
theorem w73 {a0 : Array Value} {Z : State} (G : Gl a0 Z) : (Jvm.Cond.instanceMethod ({ cls := "com/example/boxwood/boxwood/input/StringTable", name := "value", desc := "(Ljava/lang/String;)Ljava/lang/String;" } : Jvm.MethodName)).before a0 Z = true := G.1 _ (List.mem_of_getElem? (i := 73) rfl)
theorem w74 {a0 : Array Value} {Z : State} (G : Gl a0 Z) : (Jvm.Cond.selects "com/example/boxwood/boxwood/input/StringTable" ({ cls := "com/example/boxwood/boxwood/input/StringTable", name := "value", desc := "(Ljava/lang/String;)Ljava/lang/String;" } : Jvm.MethodName) ({ cls := "com/example/boxwood/boxwood/input/StringTable", name := "value", desc := "(Ljava/lang/String;)Ljava/lang/String;" } : Jvm.MethodName)).before a0 Z = true := G.1 _ (List.mem_of_getElem? (i := 74) rfl)
theorem w75 {a0 : Array Value} {Z : State} (G : Gl a0 Z) : (Jvm.Cond.code ({ cls := "com/example/boxwood/boxwood/input/StringTable", name := "value", desc := "(Ljava/lang/String;)Ljava/lang/String;" } : Jvm.MethodName) prog_79_method_3_code (5 : Nat) (Option.some (Jvm.ClassFile.FieldType.object "java/lang/String"))).before a0 Z = true := G.1 _ (List.mem_of_getElem? (i := 75) rfl)
theorem w119 {a0 : Array Value} {Z : State} (G : Gl a0 Z) : (Jvm.Cond.methodLink "com/example/boxwood/boxwood/input/StringTableClearPinLaw" (23 : Nat) ({ cls := "com/example/boxwood/boxwood/input/StringTable", name := "clear", desc := "()V" } : Jvm.MethodName)).before a0 Z = true := G.1 _ (List.mem_of_getElem? (i := 119) rfl)
theorem w120 {a0 : Array Value} {Z : State} (G : Gl a0 Z) : (Jvm.Cond.declares ({ cls := "com/example/boxwood/boxwood/input/StringTable", name := "clear", desc := "()V" } : Jvm.MethodName)).before a0 Z = true := G.1 _ (List.mem_of_getElem? (i := 120) rfl)
theorem w121 {a0 : Array Value} {Z : State} (G : Gl a0 Z) : (Jvm.Cond.instanceMethod ({ cls := "com/example/boxwood/boxwood/input/StringTable", name := "clear", desc := "()V" } : Jvm.MethodName)).before a0 Z = true := G.1 _ (List.mem_of_getElem? (i := 121) rfl)
theorem w122 {a0 : Array Value} {Z : State} (G : Gl a0 Z) : (Jvm.Cond.selects "com/example/boxwood/boxwood/input/StringTable" ({ cls := "com/example/boxwood/boxwood/input/StringTable", name := "clear", desc := "()V" } : Jvm.MethodName) ({ cls := "com/example/boxwood/boxwood/input/StringTable", name := "clear", desc := "()V" } : Jvm.MethodName)).before a0 Z = true := G.1 _ (List.mem_of_getElem? (i := 122) rfl)
theorem w123 {a0 : Array Value} {Z : State} (G : Gl a0 Z) : (Jvm.Cond.code ({ cls := "com/example/boxwood/boxwood/input/StringTable", name := "clear", desc := "()V" } : Jvm.MethodName) prog_79_method_4_code (1 : Nat) (Option.none : Option Jvm.ClassFile.FieldType)).before a0 Z = true := G.1 _ (List.mem_of_getElem? (i := 123) rfl)
theorem w124 {a0 : Array Value} {Z : State} (G : Gl a0 Z) : (Jvm.Cond.methodLink "com/example/boxwood/boxwood/input/StringTableClearPinLaw" (26 : Nat) ({ cls := "java/lang/String", name := "equals", desc := "(Ljava/lang/Object;)Z" } : Jvm.MethodName)).before a0 Z = true := G.1 _ (List.mem_of_getElem? (i := 124) rfl)
theorem w125 {a0 : Array Value} {Z : State} (G : Gl a0 Z) : (Jvm.Cond.methodLink "com/example/boxwood/boxwood/input/StringTableClearPinLaw" (30 : Nat) ({ cls := "java/lang/String", name := "length", desc := "()I" } : Jvm.MethodName)).before a0 Z = true := G.1 _ (List.mem_of_getElem? (i := 125) rfl)
theorem d0_0 : D1 code 0 (.iload_n 1) 1 1 := ⟨at_0, rfl⟩
theorem d0_1 : D1 code 1 (.iconst 1) 1 2 := ⟨at_1, rfl⟩
theorem d0_2 : D1 code 2 (.iand) 1 3 := ⟨at_2, rfl⟩
theorem d0_3 : D1 code 3 (.ifCond .eq 8) 3 6 := ⟨at_3, rfl⟩
theorem d0_6 : D1 code 6 (.bipush 9) 2 8 := ⟨at_6, rfl⟩
theorem d0_8 : D1 code 8 (.goto 5) 3 11 := ⟨at_8, rfl⟩
theorem d0_11 : D1 code 11 (.bipush 32) 2 13 := ⟨at_11, rfl⟩
theorem d0_13 : D1 code 13 (.istore 4) 2 15 := ⟨at_13, rfl⟩
theorem d0_15 : D1 code 15 (.iconst 4) 1 16 := ⟨at_15, rfl⟩
theorem d0_16 : D1 code 16 (.newarray .char) 2 18 := ⟨at_16, rfl⟩
theorem d0_18 : D1 code 18 (.dup) 1 19 := ⟨at_18, rfl⟩
theorem d0_19 : D1 code 19 (.iconst 0) 1 20 := ⟨at_19, rfl⟩
theorem d0_20 : D1 code 20 (.bipush 10) 2 22 := ⟨at_20, rfl⟩
theorem d0_22 : D1 code 22 (.castore) 1 23 := ⟨at_22, rfl⟩
theorem d0_23 : D1 code 23 (.dup) 1 24 := ⟨at_23, rfl⟩
theorem d0_24 : D1 code 24 (.iconst 1) 1 25 := ⟨at_24, rfl⟩
theorem d0_25 : D1 code 25 (.iload 4) 2 27 := ⟨at_25, rfl⟩
theorem d0_27 : D1 code 27 (.castore) 1 28 := ⟨at_27, rfl⟩
theorem d0_28 : D1 code 28 (.dup) 1 29 := ⟨at_28, rfl⟩
theorem d0_29 : D1 code 29 (.iconst 2) 1 30 := ⟨at_29, rfl⟩
theorem d0_30 : D1 code 30 (.iload 4) 2 32 := ⟨at_30, rfl⟩
theorem d0_32 : D1 code 32 (.castore) 1 33 := ⟨at_32, rfl⟩
theorem d0_33 : D1 code 33 (.dup) 1 34 := ⟨at_33, rfl⟩
theorem d0_34 : D1 code 34 (.iconst 3) 1 35 := ⟨at_34, rfl⟩
theorem d0_35 : D1 code 35 (.iload 4) 2 37 := ⟨at_35, rfl⟩
theorem d0_37 : D1 code 37 (.castore) 1 38 := ⟨at_37, rfl⟩
theorem d0_38 : D1 code 38 (.astore 5) 2 40 := ⟨at_38, rfl⟩
theorem d0_40 : D1 code 40 (.iconst 1) 1 41 := ⟨at_40, rfl⟩
theorem d0_41 : D1 code 41 (.iload_n 0) 1 42 := ⟨at_41, rfl⟩
theorem d0_42 : D1 code 42 (.iconst 3) 1 43 := ⟨at_42, rfl⟩
theorem d0_43 : D1 code 43 (.iand) 1 44 := ⟨at_43, rfl⟩
theorem d0_44 : D1 code 44 (.iadd) 1 45 := ⟨at_44, rfl⟩
theorem d0_45 : D1 code 45 (.istore 6) 2 47 := ⟨at_45, rfl⟩
theorem d0_47 : D1 code 47 (.iload_n 2) 1 48 := ⟨at_47, rfl⟩
theorem d0_48 : D1 code 48 (.sipush 255) 3 51 := ⟨at_48, rfl⟩
theorem d0_51 : D1 code 51 (.iand) 1 52 := ⟨at_51, rfl⟩
theorem d0_52 : D1 code 52 (.i2c) 1 53 := ⟨at_52, rfl⟩
theorem d0_53 : D1 code 53 (.istore 7) 2 55 := ⟨at_53, rfl⟩
theorem d0_55 : D1 code 55 (.iload_n 3) 1 56 := ⟨at_55, rfl⟩
theorem d0_56 : D1 code 56 (.sipush 255) 3 59 := ⟨at_56, rfl⟩
theorem d0_59 : D1 code 59 (.iand) 1 60 := ⟨at_59, rfl⟩
theorem d0_60 : D1 code 60 (.i2c) 1 61 := ⟨at_60, rfl⟩
theorem d0_61 : D1 code 61 (.istore 8) 2 63 := ⟨at_61, rfl⟩
theorem d0_63 : D1 code 63 (.iload_n 1) 1 64 := ⟨at_63, rfl⟩
theorem d0_64 : D1 code 64 (.iconst 1) 1 65 := ⟨at_64, rfl⟩
theorem d0_65 : D1 code 65 (.iushr) 1 66 := ⟨at_65, rfl⟩
theorem d0_66 : D1 code 66 (.iconst 3) 1 67 := ⟨at_66, rfl⟩
theorem d0_67 : D1 code 67 (.iand) 1 68 := ⟨at_67, rfl⟩
theorem d0_68 : D1 code 68 (.istore 9) 2 70 := ⟨at_68, rfl⟩
theorem d0_70 : D1 code 70 (.iload 9) 2 72 := ⟨at_70, rfl⟩
theorem d0_72 : D1 code 72 (.ifCond .ne 11) 3 75 := ⟨at_72, rfl⟩
theorem d0_75 : D1 code 75 (.iconst 0) 1 76 := ⟨at_75, rfl⟩
theorem d0_76 : D1 code 76 (.newarray .char) 2 78 := ⟨at_76, rfl⟩
theorem d0_78 : D1 code 78 (.astore 10) 2 80 := ⟨at_78, rfl⟩
theorem d0_80 : D1 code 80 (.goto 37) 3 83 := ⟨at_80, rfl⟩
theorem d0_83 : D1 code 83 (.iload 9) 2 85 := ⟨at_83, rfl⟩
theorem d0_85 : D1 code 85 (.iconst 1) 1 86 := ⟨at_85, rfl⟩
theorem d0_86 : D1 code 86 (.if_icmp .ne 16) 3 89 := ⟨at_86, rfl⟩
theorem d0_89 : D1 code 89 (.iconst 1) 1 90 := ⟨at_89, rfl⟩
theorem d0_90 : D1 code 90 (.newarray .char) 2 92 := ⟨at_90, rfl⟩
theorem d0_92 : D1 code 92 (.dup) 1 93 := ⟨at_92, rfl⟩
theorem d0_93 : D1 code 93 (.iconst 0) 1 94 := ⟨at_93, rfl⟩
theorem d0_94 : D1 code 94 (.iload 7) 2 96 := ⟨at_94, rfl⟩
theorem d0_96 : D1 code 96 (.castore) 1 97 := ⟨at_96, rfl⟩
theorem d0_97 : D1 code 97 (.astore 10) 2 99 := ⟨at_97, rfl⟩
theorem d0_99 : D1 code 99 (.goto 18) 3 102 := ⟨at_99, rfl⟩
theorem d0_102 : D1 code 102 (.iconst 2) 1 103 := ⟨at_102, rfl⟩
theorem d0_103 : D1 code 103 (.newarray .char) 2 105 := ⟨at_103, rfl⟩
theorem d0_105 : D1 code 105 (.dup) 1 106 := ⟨at_105, rfl⟩
theorem d0_106 : D1 code 106 (.iconst 0) 1 107 := ⟨at_106, rfl⟩
theorem d0_107 : D1 code 107 (.iload 7) 2 109 := ⟨at_107, rfl⟩
theorem d0_109 : D1 code 109 (.castore) 1 110 := ⟨at_109, rfl⟩
theorem d0_110 : D1 code 110 (.dup) 1 111 := ⟨at_110, rfl⟩
theorem d0_111 : D1 code 111 (.iconst 1) 1 112 := ⟨at_111, rfl⟩
theorem d0_112 : D1 code 112 (.iload 8) 2 114 := ⟨at_112, rfl⟩
theorem d0_114 : D1 code 114 (.castore) 1 115 := ⟨at_114, rfl⟩
theorem d0_115 : D1 code 115 (.astore 10) 2 117 := ⟨at_115, rfl⟩
theorem d0_117 : D1 code 117 (.new 7) 3 120 := ⟨at_117, rfl⟩
theorem d0_120 : D1 code 120 (.dup) 1 121 := ⟨at_120, rfl⟩
theorem d0_121 : D1 code 121 (.aload 10) 2 123 := ⟨at_121, rfl⟩
theorem d0_123 : D1 code 123 (.invokespecial 9) 3 126 := ⟨at_123, rfl⟩
theorem d0_126 : D1 code 126 (.astore 11) 2 128 := ⟨at_126, rfl⟩
theorem d0_128 : D1 code 128 (.new 7) 3 131 := ⟨at_128, rfl⟩
theorem d0_131 : D1 code 131 (.dup) 1 132 := ⟨at_131, rfl⟩
theorem d0_132 : D1 code 132 (.aload 10) 2 134 := ⟨at_132, rfl⟩
theorem d0_134 : D1 code 134 (.invokespecial 9) 3 137 := ⟨at_134, rfl⟩
theorem d0_137 : D1 code 137 (.astore 12) 2 139 := ⟨at_137, rfl⟩
theorem d0_139 : D1 code 139 (.new 12) 3 142 := ⟨at_139, rfl⟩
theorem d0_142 : D1 code 142 (.dup) 1 143 := ⟨at_142, rfl⟩
theorem d0_143 : D1 code 143 (.invokespecial 14) 3 146 := ⟨at_143, rfl⟩
theorem d0_146 : D1 code 146 (.astore 13) 2 148 := ⟨at_146, rfl⟩
theorem d0_148 : D1 code 148 (.aload 13) 2 150 := ⟨at_148, rfl⟩
theorem d0_150 : D1 code 150 (.aload 5) 2 152 := ⟨at_150, rfl⟩
theorem d0_152 : D1 code 152 (.iload 6) 2 154 := ⟨at_152, rfl⟩
theorem d0_154 : D1 code 154 (.invokevirtual 15) 3 157 := ⟨at_154, rfl⟩
theorem d0_157 : D1 code 157 (.astore 14) 2 159 := ⟨at_157, rfl⟩
theorem d0_159 : D1 code 159 (.aload 13) 2 161 := ⟨at_159, rfl⟩
theorem d0_161 : D1 code 161 (.aload 11) 2 163 := ⟨at_161, rfl⟩
theorem d0_163 : D1 code 163 (.invokevirtual 19) 3 166 := ⟨at_163, rfl⟩
theorem d0_166 : D1 code 166 (.astore 15) 2 168 := ⟨at_166, rfl⟩
theorem d0_168 : D1 code 168 (.aload 13) 2 170 := ⟨at_168, rfl⟩
theorem d0_170 : D1 code 170 (.aload 5) 2 172 := ⟨at_170, rfl⟩
theorem d0_172 : D1 code 172 (.iload 6) 2 174 := ⟨at_172, rfl⟩
theorem d0_174 : D1 code 174 (.invokevirtual 15) 3 177 := ⟨at_174, rfl⟩
theorem d0_177 : D1 code 177 (.astore 16) 2 179 := ⟨at_177, rfl⟩
theorem d0_179 : D1 code 179 (.aload 13) 2 181 := ⟨at_179, rfl⟩
theorem d0_181 : D1 code 181 (.aload 12) 2 183 := ⟨at_181, rfl⟩
theorem d0_183 : D1 code 183 (.invokevirtual 19) 3 186 := ⟨at_183, rfl⟩
theorem d0_186 : D1 code 186 (.astore 17) 2 188 := ⟨at_186, rfl⟩
theorem d0_188 : D1 code 188 (.aload 16) 2 190 := ⟨at_188, rfl⟩
theorem d0_190 : D1 code 190 (.aload 14) 2 192 := ⟨at_190, rfl⟩
theorem d0_192 : D1 code 192 (.if_acmp .ne 21) 3 195 := ⟨at_192, rfl⟩
theorem d0_195 : D1 code 195 (.aload 15) 2 197 := ⟨at_195, rfl⟩
theorem d0_197 : D1 code 197 (.aload 11) 2 199 := ⟨at_197, rfl⟩
theorem d0_199 : D1 code 199 (.if_acmp .ne 14) 3 202 := ⟨at_199, rfl⟩
theorem d0_202 : D1 code 202 (.aload 17) 2 204 := ⟨at_202, rfl⟩
theorem d0_204 : D1 code 204 (.aload 11) 2 206 := ⟨at_204, rfl⟩
theorem d0_206 : D1 code 206 (.if_acmp .ne 7) 3 209 := ⟨at_206, rfl⟩
theorem d0_209 : D1 code 209 (.iconst 1) 1 210 := ⟨at_209, rfl⟩
theorem d0_210 : D1 code 210 (.goto 4) 3 213 := ⟨at_210, rfl⟩
theorem d0_214 : D1 code 214 (.istore 18) 2 216 := ⟨at_214, rfl⟩
theorem d0_216 : D1 code 216 (.aload 13) 2 218 := ⟨at_216, rfl⟩
theorem d0_218 : D1 code 218 (.invokevirtual 23) 3 221 := ⟨at_218, rfl⟩
theorem d0_221 : D1 code 221 (.aload 13) 2 223 := ⟨at_221, rfl⟩
theorem d0_223 : D1 code 223 (.aload 5) 2 225 := ⟨at_223, rfl⟩
theorem d0_225 : D1 code 225 (.iload 6) 2 227 := ⟨at_225, rfl⟩
theorem d0_227 : D1 code 227 (.invokevirtual 15) 3 230 := ⟨at_227, rfl⟩
theorem d0_230 : D1 code 230 (.astore 19) 2 232 := ⟨at_230, rfl⟩
theorem d0_232 : D1 code 232 (.aload 13) 2 234 := ⟨at_232, rfl⟩
theorem d0_234 : D1 code 234 (.aload 12) 2 236 := ⟨at_234, rfl⟩
theorem d0_236 : D1 code 236 (.invokevirtual 19) 3 239 := ⟨at_236, rfl⟩
theorem d0_239 : D1 code 239 (.astore 20) 2 241 := ⟨at_239, rfl⟩
theorem d0_241 : D1 code 241 (.aload 19) 2 243 := ⟨at_241, rfl⟩
theorem d0_243 : D1 code 243 (.aload 14) 2 245 := ⟨at_243, rfl⟩
theorem d0_245 : D1 code 245 (.if_acmp .eq 34) 3 248 := ⟨at_245, rfl⟩
theorem d0_248 : D1 code 248 (.aload 19) 2 250 := ⟨at_248, rfl⟩
theorem d0_250 : D1 code 250 (.aload 14) 2 252 := ⟨at_250, rfl⟩
theorem d0_252 : D1 code 252 (.invokevirtual 26) 3 255 := ⟨at_252, rfl⟩
theorem d0_255 : D1 code 255 (.ifCond .eq 24) 3 258 := ⟨at_255, rfl⟩
theorem d0_258 : D1 code 258 (.aload 19) 2 260 := ⟨at_258, rfl⟩
theorem d0_260 : D1 code 260 (.invokevirtual 30) 3 263 := ⟨at_260, rfl⟩
theorem d0_263 : D1 code 263 (.iload 6) 2 265 := ⟨at_263, rfl⟩
theorem d0_265 : D1 code 265 (.if_icmp .ne 14) 3 268 := ⟨at_265, rfl⟩
theorem d0_268 : D1 code 268 (.aload 20) 2 270 := ⟨at_268, rfl⟩
theorem d0_270 : D1 code 270 (.aload 12) 2 272 := ⟨at_270, rfl⟩
theorem d0_272 : D1 code 272 (.if_acmp .ne 7) 3 275 := ⟨at_272, rfl⟩
theorem d0_275 : D1 code 275 (.iconst 1) 1 276 := ⟨at_275, rfl⟩
theorem d0_276 : D1 code 276 (.goto 4) 3 279 := ⟨at_276, rfl⟩
theorem d0_280 : D1 code 280 (.istore 21) 2 282 := ⟨at_280, rfl⟩
theorem d0_282 : D1 code 282 (.aload 13) 2 284 := ⟨at_282, rfl⟩
theorem d0_284 : D1 code 284 (.aload 5) 2 286 := ⟨at_284, rfl⟩
theorem d0_286 : D1 code 286 (.iload 6) 2 288 := ⟨at_286, rfl⟩
theorem d0_288 : D1 code 288 (.invokevirtual 15) 3 291 := ⟨at_288, rfl⟩
theorem d0_291 : D1 code 291 (.astore 22) 2 293 := ⟨at_291, rfl⟩
theorem d0_293 : D1 code 293 (.aload 13) 2 295 := ⟨at_293, rfl⟩
theorem d0_295 : D1 code 295 (.aload 11) 2 297 := ⟨at_295, rfl⟩
theorem d0_297 : D1 code 297 (.invokevirtual 19) 3 300 := ⟨at_297, rfl⟩
theorem d0_300 : D1 code 300 (.astore 23) 2 302 := ⟨at_300, rfl⟩
theorem d0_302 : D1 code 302 (.aload 22) 2 304 := ⟨at_302, rfl⟩
theorem d0_304 : D1 code 304 (.aload 19) 2 306 := ⟨at_304, rfl⟩
theorem d0_306 : D1 code 306 (.if_acmp .ne 14) 3 309 := ⟨at_306, rfl⟩
theorem d0_309 : D1 code 309 (.aload 23) 2 311 := ⟨at_309, rfl⟩
theorem d0_311 : D1 code 311 (.aload 12) 2 313 := ⟨at_311, rfl⟩
theorem d0_313 : D1 code 313 (.if_acmp .ne 7) 3 316 := ⟨at_313, rfl⟩
theorem d0_316 : D1 code 316 (.iconst 1) 1 317 := ⟨at_316, rfl⟩
theorem d0_317 : D1 code 317 (.goto 4) 3 320 := ⟨at_317, rfl⟩
theorem d0_321 : D1 code 321 (.istore 24) 2 323 := ⟨at_321, rfl⟩
theorem d0_323 : D1 code 323 (.iload 18) 2 325 := ⟨at_323, rfl⟩
theorem d0_325 : D1 code 325 (.ifCond .eq 17) 3 328 := ⟨at_325, rfl⟩
theorem d0_328 : D1 code 328 (.iload 21) 2 330 := ⟨at_328, rfl⟩
theorem d0_330 : D1 code 330 (.ifCond .eq 12) 3 333 := ⟨at_330, rfl⟩
theorem d0_333 : D1 code 333 (.iload 24) 2 335 := ⟨at_333, rfl⟩
theorem d0_335 : D1 code 335 (.ifCond .eq 7) 3 338 := ⟨at_335, rfl⟩
theorem d0_338 : D1 code 338 (.iconst 1) 1 339 := ⟨at_338, rfl⟩
theorem d0_339 : D1 code 339 (.goto 4) 3 342 := ⟨at_339, rfl⟩
theorem d0_343 : D1 code 343 (.ireturn) 1 344 := ⟨at_343, rfl⟩
theorem pd18 : parseMethodDescriptor "(Ljava/lang/String;)Ljava/lang/String;" = some ⟨[(.object "java/lang/String")], some (.object "java/lang/String")⟩ := by decide +kernel
theorem pd19 : parseMethodDescriptor "()V" = some ⟨[], none⟩ := by decide +kernel
theorem pd20 : parseMethodDescriptor "([C)V" = some ⟨[(.array .char)], none⟩ := by decide +kernel
theorem ch_back : ∀ c : Nat, c < 256 → (Int32.ofNat c).toUInt32.toUInt16.toUInt32.toInt32 = Int32.ofNat c := by decide +kernel
theorem and3 (x : Int32) : ∃ c : Nat, (c = 0 ∨ c = 1 ∨ c = 2 ∨ c = 3) ∧ x &&& 3 = Int32.ofNat c := by
  refine ⟨(x.toBitVec &&& 3#32).toNat, ?_, ?_⟩
  · have : (x.toBitVec &&& 3#32).toNat = x.toBitVec.toNat % 4 := by rw [BitVec.toNat_and]; exact Nat.and_two_pow_sub_one_eq_mod _ 2
    omega
  · apply Int32.toBitVec_inj.mp
    rw [Int32.toBitVec_and]
    apply BitVec.eq_of_toNat_eq
    rw [Int32.toBitVec_ofNat]
    simp
theorem ent0 (v0 v1 v2 v3 : Value) (h0 : v0.category ≠ 2) (h1 : v1.category ≠ 2) (h2 : v2.category ≠ 2) (h3 : v3.category ≠ 2) (n : Nat) : argsToLocals #[v0, v1, v2, v3] (n + 4) = #[.val v0, .val v1, .val v2, .val v3] ++ Array.replicate n .unset := by
  have : (#[v0, v1, v2, v3] : Array Value).foldl (init := #[]) (fun acc v => if v.category = 2 then (acc.push (Slot.val v)).push .second else acc.push (.val v)) = #[.val v0, .val v1, .val v2, .val v3] := by
    simp [h0, h1, h2, h3]
  unfold argsToLocals
  rw [this]
  rfl
theorem ent1 (m : MethodId) (i0 i1 i2 i3 : Int32) : entryFrame m #[.int i0, .int i1, .int i2, .int i3] 25 = mkF m 0 #[.val (.int i0), .val (.int i1), .val (.int i2), .val (.int i3), .unset, .unset, .unset, .unset, .unset, .unset, .unset, .unset, .unset, .unset, .unset, .unset, .unset, .unset, .unset, .unset, .unset, .unset, .unset, .unset, .unset] [] := by
  have e : Array.replicate 21 Slot.unset = #[.unset, .unset, .unset, .unset, .unset, .unset, .unset, .unset, .unset, .unset, .unset, .unset, .unset, .unset, .unset, .unset, .unset, .unset, .unset, .unset, .unset] := by rw [← List.toArray_replicate]; rfl
  have e2 : argsToLocals #[.int i0, .int i1, .int i2, .int i3] 25 = #[.val (.int i0), .val (.int i1), .val (.int i2), .val (.int i3), .unset, .unset, .unset, .unset, .unset, .unset, .unset, .unset, .unset, .unset, .unset, .unset, .unset, .unset, .unset, .unset, .unset, .unset, .unset, .unset, .unset] := by
    rw [ent0 (.int i0) (.int i1) (.int i2) (.int i3) (by simp [Value.category]) (by simp [Value.category]) (by simp [Value.category]) (by simp [Value.category]) 21, e, List.append_toArray]
    simp only [List.cons_append, List.nil_append]
  unfold entryFrame mkF
  rw [e2]
set_option maxRecDepth 65536 in
set_option maxHeartbeats 4000000 in
theorem k221 {p : Program} {l : Launch} {e : Env} {Z s : State} {a0 : Array Value} {m : MethodId} {below : List Frame} {meth : Method} {c : Code} {i0 i1 i2 i3 : Int32} (X : Cx WD EL0 p Z s m meth c "com/example/boxwood/boxwood/input/StringTableClearPinLaw" "law" code 25 (some .boolean)) (G : Gl a0 Z) {d N B D mm A : Nat} {ca vc s1 s2 p1 p2 t : Addr} {Kc : ClassId} {cl : List Nat} (hd : d = 9 ∨ d = 32) (hN : N = 1 ∨ N = 2 ∨ N = 3 ∨ N = 4) (hcl : cl.length ≤ 2) (hA : A < 256) (eA : slT (hashOf cl) = Int32.ofNat A) (hlen : (List.take N [10, d, d, d]).length = N) (hTX : ∀ c ∈ (List.take N [10, d, d, d]), c < 256) : ∀ (x1 y1 : Addr) (Ky1 : ClassId) (fy1 : Bool) (ba b1 b2 b3 b4 : Addr) (Ka K3 K4 : ClassId) (UU : List Ent), FcB Z (List.take N [10, d, d, d]) Ky1 → Ovr Z Ka "java/lang/String" → Ovr Z K3 "java/lang/String" → ((if N = 1 then 9 else d) = 9 → b1 = ba) → ((if N = 1 then 9 else d) ≠ 9 → b2 = ba) → Sk Z UU s1 p1 cl → Sk Z UU s2 p2 cl → (ca, Ar Z .char Kc (csOf [10, d, d, d]), true) ∈ UU → Go WD EL0 p l e room_1 Z s m #[.int i0, .int i1, .int i2, .int i3] below meth c (rvQ fun v _ => v = .int 1) (ow ba (Ar Z (.object "java/lang/String") Ka (List.replicate 65 Value.null)) :: ow t (Ob Z "com/example/boxwood/boxwood/input/StringTable" ns1 [.ref b1, .ref b2, .ref b3, .ref b4, .int 0]) :: ow b3 (Ar Z (.object "java/lang/String") K3 (List.replicate 256 Value.null)) :: ow b4 (Ar Z .int K4 (List.replicate 256 (Value.int 0))) :: ow x1 (StrP Z y1 (List.take N [10, d, d, d])) :: (y1, Ar Z .byte Ky1 (bsOf (List.take N [10, d, d, d])), fy1) :: UU) 30 1400 (mkF m 221 #[.val (.int i0), .val (.int i1), .val (.int i2), .val (.int i3), .val (.int (Int32.ofNat d)), .val (.ref ca), .val (.int (Int32.ofNat N)), .val (.int (Int32.ofNat B)), .val (.int (Int32.ofNat D)), .val (.int (Int32.ofNat mm)), .val (.ref vc), .val (.ref s1), .val (.ref s2), .val (.ref t), .val (.ref x1), .val (.ref s1), .val (.ref x1), .val (.ref s1), .val (.int 1), .unset, .unset, .unset, .unset, .unset, .unset] []) := by
      intro x1 y1 Ky1 fy1 ba b1 b2 b3 b4 Ka K3 K4 UU hKy1 Oa O3 h9 h32 hS1 hS2 hca
      refine Go.aload X d0_221 rfl rfl ?_
      refine Go.aload X d0_223 rfl rfl ?_
      refine Go.iload X d0_225 rfl ?_
      refine Go.callV X (fun h H => H.exa (i := 1) rfl) (t_tmiss l G (t := t) (ba := ba) (it := 0) (N := N) (d := d) hd hN (List.mem_cons_of_mem _ (List.mem_cons_of_mem _ (List.mem_cons_of_mem _ (List.mem_cons_of_mem _ (List.mem_cons_of_mem _ hca))))) rfl h9 h32 Oa (rep_at (by omega))) (rest := []) (w48 G) (w49 G) (nfS (w51 G)) (w51 G) (w50 G) (w32 G) (w52 G) (by decide) pd17 rfl rfl d0_227 rfl (by first | exact Nat.le_of_ble_eq_true rfl | (simp; done) | (simp; omega)) (by first | exact Nat.le_of_ble_eq_true rfl | (simp; done) | (simp; omega)) (by first | exact Nat.le_of_ble_eq_true rfl | (simp; done) | (simp; omega)) (by first | exact Nat.le_of_ble_eq_true rfl | (simp; done) | (simp; omega)) (Kv ?_)
      rintro v W ⟨x3, y3, Ky3, fy3, rfl, hKy3, rfl⟩
      refine Go.astore X d0_230 rfl (stL rfl rfl (by dsimp only [updL])) ?_
      refine Go.perm (L' := ow t (Ob Z "com/example/boxwood/boxwood/input/StringTable" ns1 [.ref b1, .ref b2, .ref b3, .ref b4, .int 0]) :: ow b3 (Ar Z (.object "java/lang/String") K3 (List.replicate 256 Value.null)) :: ow b4 (Ar Z .int K4 (List.replicate 256 (Value.int 0))) :: (y3, Ar Z .byte Ky3 (bsOf (List.take N [10, d, d, d])), fy3) :: ow x3 (StrP Z y3 (List.take N [10, d, d, d])) :: ow ba (Ar Z (.object "java/lang/String") Ka (updL (List.replicate 65 Value.null) (N - 1) (.ref x3))) :: ow x1 (StrP Z y1 (List.take N [10, d, d, d])) :: (y1, Ar Z .byte Ky1 (bsOf (List.take N [10, d, d, d])), fy1) :: UU) ((front (i := 7) rfl).trans ((front (i := 7) rfl).trans ((front (i := 4) rfl).trans ((front (i := 4) rfl).trans ((front (i := 4) rfl).trans ((front (i := 7) rfl).trans ((front (i := 7) rfl).trans (front (i := 7) rfl)))))))) ?_
      refine Go.aload X d0_232 rfl rfl ?_
      refine Go.aload X d0_234 rfl rfl ?_
      refine Go.callV X (fun h H => H.exa (i := 0) rfl) (t_vmiss l G (pl := 0) (cl := cl) (A := A) hS2.up.up.up.up.up hcl hA eA List.length_replicate List.length_replicate (rep_at hA) O3) (rest := []) (w71 G) (w72 G) (nfS (w74 G)) (w74 G) (w73 G) (w32 G) (w75 G) (by decide) pd18 rfl rfl d0_236 rfl (by first | exact Nat.le_of_ble_eq_true rfl | (simp; done) | (simp; omega)) (by first | exact Nat.le_of_ble_eq_true rfl | (simp; done) | (simp; omega)) (by first | exact Nat.le_of_ble_eq_true rfl | (simp; done) | (simp; omega)) (by first | exact Nat.le_of_ble_eq_true rfl | (simp; done) | (simp; omega)) (Kv ?_)
      rintro v W ⟨rfl, rfl⟩
      refine Go.astore X d0_239 rfl (stL rfl rfl (by dsimp only [updL])) ?_
      refine Go.aload X d0_241 rfl rfl ?_
      refine Go.aload X d0_243 rfl rfl ?_
      refine Go.fact (fun h H => H.ne (i := 4) (j := 6) rfl rfl (by decide)) fun hne => ?_
      refine Go.acmp X d0_245 (pt := 279) ⟨by decide, by decide⟩ (by rfl) (by rfl) ?_ ?_
      · intro q; exact absurd (Value.ref.inj q) hne
      intro _
      refine Go.aload X d0_248 rfl rfl ?_
      refine Go.aload X d0_250 rfl rfl ?_
      have hX3 : Sk Z (ow t (Ob Z "com/example/boxwood/boxwood/input/StringTable" ns1 [.ref b1, .ref b2, .ref b3, .ref b4, .int 1]) :: ow b3 (Ar Z (.object "java/lang/String") K3 (updL (List.replicate 256 Value.null) A (.ref s2))) :: ow b4 (Ar Z .int K4 (updL (List.replicate 256 (Value.int 0)) A (.int (hashOf cl)))) :: (y3, Ar Z .byte Ky3 (bsOf (List.take N [10, d, d, d])), fy3) :: ow x3 (StrP Z y3 (List.take N [10, d, d, d])) :: ow ba (Ar Z (.object "java/lang/String") Ka (updL (List.replicate 65 Value.null) (N - 1) (.ref x3))) :: ow x1 (StrP Z y1 (List.take N [10, d, d, d])) :: (y1, Ar Z .byte Ky1 (bsOf (List.take N [10, d, d, d])), fy1) :: UU) x3 y3 (List.take N [10, d, d, d]) := (⟨List.mem_of_getElem? (i := 4) rfl, ⟨Ky3, fy3, List.mem_of_getElem? (i := 3) rfl, hKy3⟩, hTX⟩ : Sk Z _ x3 y3 (List.take N [10, d, d, d]))
      have hX1 : Sk Z (ow t (Ob Z "com/example/boxwood/boxwood/input/StringTable" ns1 [.ref b1, .ref b2, .ref b3, .ref b4, .int 1]) :: ow b3 (Ar Z (.object "java/lang/String") K3 (updL (List.replicate 256 Value.null) A (.ref s2))) :: ow b4 (Ar Z .int K4 (updL (List.replicate 256 (Value.int 0)) A (.int (hashOf cl)))) :: (y3, Ar Z .byte Ky3 (bsOf (List.take N [10, d, d, d])), fy3) :: ow x3 (StrP Z y3 (List.take N [10, d, d, d])) :: ow ba (Ar Z (.object "java/lang/String") Ka (updL (List.replicate 65 Value.null) (N - 1) (.ref x3))) :: ow x1 (StrP Z y1 (List.take N [10, d, d, d])) :: (y1, Ar Z .byte Ky1 (bsOf (List.take N [10, d, d, d])), fy1) :: UU) x1 y1 (List.take N [10, d, d, d]) := (⟨List.mem_of_getElem? (i := 6) rfl, ⟨Ky1, fy1, List.mem_of_getElem? (i := 7) rfl, hKy1⟩, hTX⟩ : Sk Z _ x1 y1 (List.take N [10, d, d, d]))
      refine Go.callV X (fun h H => (hX3.sx.2 h H).1) (s_equals l G hX3 hX1 (fun _ => rfl)) (rest := []) (w124 G) (w111 G) (nfS (w113 G)) (w113 G) (w112 G) (w3 G) (w114 G) (by decide) pd15 rfl rfl d0_252 rfl (by first | exact Nat.le_of_ble_eq_true rfl | (simp; done) | (simp; omega)) (by first | exact Nat.le_of_ble_eq_true rfl | (simp; done) | (simp; omega)) (by first | exact Nat.le_of_ble_eq_true rfl | (simp; done) | (simp; omega)) (by first | exact Nat.le_of_ble_eq_true rfl | (simp; done) | (simp; omega)) (Kv ?_)
      rintro v W ⟨rfl, rfl⟩
      rw [if_pos rfl]
      refine Go.ifc X d0_255 (pt := 279) ⟨by decide, by decide⟩ ?_ ?_
      · intro q; exact absurd (show (1 : Int32) = 0 from q) (by decide)
      intro _
      refine Go.aload X d0_258 rfl rfl ?_
      refine Go.callV X (fun h H => (hX3.sx.2 h H).1) (s_length l G hX3.sx) (rest := []) (w125 G) (w77 G) (nfS (w79 G)) (w79 G) (w78 G) (w3 G) (w80 G) (by decide) pd13 rfl rfl d0_260 rfl (by first | exact Nat.le_of_ble_eq_true rfl | (simp; done) | (simp; omega)) (by first | exact Nat.le_of_ble_eq_true rfl | (simp; done) | (simp; omega)) (by first | exact Nat.le_of_ble_eq_true rfl | (simp; done) | (simp; omega)) (by first | exact Nat.le_of_ble_eq_true rfl | (simp; done) | (simp; omega)) (Kv ?_)
      rintro v W ⟨rfl, rfl⟩
      rw [hlen]
      refine Go.iload X d0_263 rfl ?_
      refine Go.icmp X d0_265 (pt := 279) ⟨by decide, by decide⟩ ?_ ?_
      · intro q; exact absurd rfl q
      intro _
      refine Go.aload X d0_268 rfl rfl ?_
      refine Go.aload X d0_270 rfl rfl ?_
      refine Go.acmp X d0_272 (pt := 279) ⟨by decide, by decide⟩ (by rfl) (by rfl) ?_ ?_
      · intro q; exact absurd rfl q
      intro _
      refine Go.iconst X (v := 1) d0_275 (by decide) ?_
      refine Go.goto X d0_276 (pt := 280) ⟨by decide, by decide⟩ ?_
      refine Go.istore X d0_280 (stL rfl rfl (by dsimp only [updL])) ?_
      refine Go.perm (L' := ow ba (Ar Z (.object "java/lang/String") Ka (updL (List.replicate 65 Value.null) (N - 1) (.ref x3))) :: ow t (Ob Z "com/example/boxwood/boxwood/input/StringTable" ns1 [.ref b1, .ref b2, .ref b3, .ref b4, .int 1]) :: ow b3 (Ar Z (.object "java/lang/String") K3 (updL (List.replicate 256 Value.null) A (.ref s2))) :: ow b4 (Ar Z .int K4 (updL (List.replicate 256 (Value.int 0)) A (.int (hashOf cl)))) :: (y3, Ar Z .byte Ky3 (bsOf (List.take N [10, d, d, d])), fy3) :: ow x3 (StrP Z y3 (List.take N [10, d, d, d])) :: ow x1 (StrP Z y1 (List.take N [10, d, d, d])) :: (y1, Ar Z .byte Ky1 (bsOf (List.take N [10, d, d, d])), fy1) :: UU) ((front (i := 7) rfl).trans ((front (i := 7) rfl).trans ((front (i := 6) rfl).trans ((front (i := 6) rfl).trans ((front (i := 6) rfl).trans ((front (i := 6) rfl).trans ((front (i := 6) rfl).trans (front (i := 7) rfl)))))))) ?_
      refine Go.aload X d0_282 rfl rfl ?_
      refine Go.aload X d0_284 rfl rfl ?_
      refine Go.iload X d0_286 rfl ?_
      refine Go.callV X (fun h H => H.exa (i := 1) rfl) (t_thit l G (t := t) (ba := ba) (it := 0) (N := N) (d := d) hd hN (List.mem_cons_of_mem _ (List.mem_cons_of_mem _ (List.mem_cons_of_mem _ (List.mem_cons_of_mem _ (List.mem_cons_of_mem _ (List.mem_cons_of_mem _ (List.mem_cons_of_mem _ (hca)))))))) rfl h9 h32 (s1 := x3) (upd_at _ _ _ _ (rep_at (by omega)))) (rest := []) (w48 G) (w49 G) (nfS (w51 G)) (w51 G) (w50 G) (w32 G) (w52 G) (by decide) pd17 rfl rfl d0_288 rfl (by first | exact Nat.le_of_ble_eq_true rfl | (simp; done) | (simp; omega)) (by first | exact Nat.le_of_ble_eq_true rfl | (simp; done) | (simp; omega)) (by first | exact Nat.le_of_ble_eq_true rfl | (simp; done) | (simp; omega)) (by first | exact Nat.le_of_ble_eq_true rfl | (simp; done) | (simp; omega)) (Kv ?_)
      rintro v W ⟨rfl, rfl⟩
      refine Go.astore X d0_291 rfl (stL rfl rfl (by dsimp only [updL])) ?_
      refine Go.perm (L' := ow t (Ob Z "com/example/boxwood/boxwood/input/StringTable" ns1 [.ref b1, .ref b2, .ref b3, .ref b4, .int 1]) :: ow b3 (Ar Z (.object "java/lang/String") K3 (updL (List.replicate 256 Value.null) A (.ref s2))) :: ow b4 (Ar Z .int K4 (updL (List.replicate 256 (Value.int 0)) A (.int (hashOf cl)))) :: (y3, Ar Z .byte Ky3 (bsOf (List.take N [10, d, d, d])), fy3) :: ow x3 (StrP Z y3 (List.take N [10, d, d, d])) :: ow ba (Ar Z (.object "java/lang/String") Ka (updL (List.replicate 65 Value.null) (N - 1) (.ref x3))) :: ow x1 (StrP Z y1 (List.take N [10, d, d, d])) :: (y1, Ar Z .byte Ky1 (bsOf (List.take N [10, d, d, d])), fy1) :: UU) ((front (i := 7) rfl).trans ((front (i := 7) rfl).trans ((front (i := 2) rfl).trans ((front (i := 7) rfl).trans ((front (i := 7) rfl).trans ((front (i := 7) rfl).trans ((front (i := 7) rfl).trans (front (i := 7) rfl)))))))) ?_
      refine Go.aload X d0_293 rfl rfl ?_
      refine Go.aload X d0_295 rfl rfl ?_
      refine Go.callV X (fun h H => H.exa (i := 0) rfl) (t_vhit l G (cl := cl) (A := A) (vs := (updL (List.replicate 256 Value.null) A (.ref s2))) (hs := (updL (List.replicate 256 (Value.int 0)) A (.int (hashOf cl)))) hS1.up.up.up.up.up hcl hA eA (by rw [upd_len, List.length_replicate]) (by rw [upd_len, List.length_replicate]) (y := s2) hS2.up.up.up.up.up (upd_at _ _ _ _ (rep_at hA)) (upd_at _ _ _ _ (rep_at hA))) (rest := []) (w71 G) (w72 G) (nfS (w74 G)) (w74 G) (w73 G) (w32 G) (w75 G) (by decide) pd18 rfl rfl d0_297 rfl (by first | exact Nat.le_of_ble_eq_true rfl | (simp; done) | (simp; omega)) (by first | exact Nat.le_of_ble_eq_true rfl | (simp; done) | (simp; omega)) (by first | exact Nat.le_of_ble_eq_true rfl | (simp; done) | (simp; omega)) (by first | exact Nat.le_of_ble_eq_true rfl | (simp; done) | (simp; omega)) (Kv ?_)
      rintro v W ⟨rfl, rfl⟩
      refine Go.astore X d0_300 rfl (stL rfl rfl (by dsimp only [updL])) ?_
      refine Go.aload X d0_302 rfl rfl ?_
      refine Go.aload X d0_304 rfl rfl ?_
      refine Go.acmp X d0_306 (pt := 320) ⟨by decide, by decide⟩ (by rfl) (by rfl) ?_ ?_
      · intro q; exact absurd rfl q
      intro _
      refine Go.aload X d0_309 rfl rfl ?_
      refine Go.aload X d0_311 rfl rfl ?_
      refine Go.acmp X d0_313 (pt := 320) ⟨by decide, by decide⟩ (by rfl) (by rfl) ?_ ?_
      · intro q; exact absurd rfl q
      intro _
      refine Go.iconst X (v := 1) d0_316 (by decide) ?_
      refine Go.goto X d0_317 (pt := 321) ⟨by decide, by decide⟩ ?_
      refine Go.istore X d0_321 (stL rfl rfl (by dsimp only [updL])) ?_
      refine Go.iload X d0_323 rfl ?_
      refine Go.ifc X d0_325 (pt := 342) ⟨by decide, by decide⟩ ?_ ?_
      · intro q; exact absurd (show (1 : Int32) = 0 from q) (by decide)
      intro _
      refine Go.iload X d0_328 rfl ?_
      refine Go.ifc X d0_330 (pt := 342) ⟨by decide, by decide⟩ ?_ ?_
      · intro q; exact absurd (show (1 : Int32) = 0 from q) (by decide)
      intro _
      refine Go.iload X d0_333 rfl ?_
      refine Go.ifc X d0_335 (pt := 342) ⟨by decide, by decide⟩ ?_ ?_
      · intro q; exact absurd (show (1 : Int32) = 0 from q) (by decide)
      intro _
      refine Go.iconst X (v := 1) d0_338 (by decide) ?_
      refine Go.goto X d0_339 (pt := 343) ⟨by decide, by decide⟩ ?_
      exact Go.zret X d0_343 (Or.inr rfl) (by first | exact Nat.le_of_ble_eq_true rfl | (simp; done) | (simp; omega)) (by first | exact Nat.le_of_ble_eq_true rfl | (simp; done) | (simp; omega)) rfl
-- %%% law 148

set_option maxRecDepth 65536 in
set_option maxHeartbeats 4000000 in
theorem k148 {p : Program} {l : Launch} {e : Env} {Z s : State} {a0 : Array Value} {m : MethodId} {below : List Frame} {meth : Method} {c : Code} {i0 i1 i2 i3 : Int32} (X : Cx WD EL0 p Z s m meth c "com/example/boxwood/boxwood/input/StringTableClearPinLaw" "law" code 25 (some .boolean)) (G : Gl a0 Z) {d N B D mm A : Nat} {ca vc s1 s2 p1 p2 t : Addr} {Kc : ClassId} {cl : List Nat} (hd : d = 9 ∨ d = 32) (hN : N = 1 ∨ N = 2 ∨ N = 3 ∨ N = 4) (hcl : cl.length ≤ 2) (hA : A < 256) (eA : slT (hashOf cl) = Int32.ofNat A) (hlen : (List.take N [10, d, d, d]).length = N) (hTX : ∀ c ∈ (List.take N [10, d, d, d]), c < 256) : ∀ (ba b1 b2 b3 b4 : Addr) (Ka K3 K4 : ClassId) (UU : List Ent), Ovr Z Ka "java/lang/String" → Ovr Z K3 "java/lang/String" → ((if N = 1 then 9 else d) = 9 → b1 = ba) → ((if N = 1 then 9 else d) ≠ 9 → b2 = ba) → Sk Z UU s1 p1 cl → Sk Z UU s2 p2 cl → (ca, Ar Z .char Kc (csOf [10, d, d, d]), true) ∈ UU → Go WD EL0 p l e room_1 Z s m #[.int i0, .int i1, .int i2, .int i3] below meth c (rvQ fun v _ => v = .int 1) (ow ba (Ar Z (.object "java/lang/String") Ka (List.replicate 65 Value.null)) :: ow t (Ob Z "com/example/boxwood/boxwood/input/StringTable" ns1 [.ref b1, .ref b2, .ref b3, .ref b4, .int 0]) :: ow b3 (Ar Z (.object "java/lang/String") K3 (List.replicate 256 Value.null)) :: ow b4 (Ar Z .int K4 (List.replicate 256 (Value.int 0))) :: UU) 20 700 (mkF m 148 #[.val (.int i0), .val (.int i1), .val (.int i2), .val (.int i3), .val (.int (Int32.ofNat d)), .val (.ref ca), .val (.int (Int32.ofNat N)), .val (.int (Int32.ofNat B)), .val (.int (Int32.ofNat D)), .val (.int (Int32.ofNat mm)), .val (.ref vc), .val (.ref s1), .val (.ref s2), .val (.ref t), .unset, .unset, .unset, .unset, .unset, .unset, .unset, .unset, .unset, .unset, .unset] []) := by
      intro ba b1 b2 b3 b4 Ka K3 K4 UU Oa O3 h9 h32 hS1 hS2 hca
      refine Go.aload X d0_148 rfl rfl ?_
      refine Go.aload X d0_150 rfl rfl ?_
      refine Go.iload X d0_152 rfl ?_
      refine Go.callV X (fun h H => H.exa (i := 1) rfl) (t_tmiss l G (t := t) (ba := ba) (it := 0) (N := N) (d := d) hd hN (List.mem_cons_of_mem _ (List.mem_cons_of_mem _ (List.mem_cons_of_mem _ hca))) rfl h9 h32 Oa (rep_at (by omega))) (rest := []) (w48 G) (w49 G) (nfS (w51 G)) (w51 G) (w50 G) (w32 G) (w52 G) (by decide) pd17 rfl rfl d0_154 rfl (by first | exact Nat.le_of_ble_eq_true rfl | (simp; done) | (simp; omega)) (by first | exact Nat.le_of_ble_eq_true rfl | (simp; done) | (simp; omega)) (by first | exact Nat.le_of_ble_eq_true rfl | (simp; done) | (simp; omega)) (by first | exact Nat.le_of_ble_eq_true rfl | (simp; done) | (simp; omega)) (Kv ?_)
      rintro v W ⟨x1, y1, Ky1, fy1, rfl, hKy1, rfl⟩
      refine Go.astore X d0_157 rfl (stL rfl rfl (by dsimp only [updL])) ?_
      refine Go.perm (L' := ow t (Ob Z "com/example/boxwood/boxwood/input/StringTable" ns1 [.ref b1, .ref b2, .ref b3, .ref b4, .int 0]) :: ow b3 (Ar Z (.object "java/lang/String") K3 (List.replicate 256 Value.null)) :: ow b4 (Ar Z .int K4 (List.replicate 256 (Value.int 0))) :: (y1, Ar Z .byte Ky1 (bsOf (List.take N [10, d, d, d])), fy1) :: ow x1 (StrP Z y1 (List.take N [10, d, d, d])) :: ow ba (Ar Z (.object "java/lang/String") Ka (updL (List.replicate 65 Value.null) (N - 1) (.ref x1))) :: UU) ((front (i := 2) rfl).trans ((front (i := 2) rfl).trans ((front (i := 2) rfl).trans ((front (i := 5) rfl).trans ((front (i := 5) rfl).trans (front (i := 5) rfl)))))) ?_
      refine Go.aload X d0_159 rfl rfl ?_
      refine Go.aload X d0_161 rfl rfl ?_
      refine Go.callV X (fun h H => H.exa (i := 0) rfl) (t_vmiss l G (pl := 0) (cl := cl) (A := A) hS1.up.up.up hcl hA eA List.length_replicate List.length_replicate (rep_at hA) O3) (rest := []) (w71 G) (w72 G) (nfS (w74 G)) (w74 G) (w73 G) (w32 G) (w75 G) (by decide) pd18 rfl rfl d0_163 rfl (by first | exact Nat.le_of_ble_eq_true rfl | (simp; done) | (simp; omega)) (by first | exact Nat.le_of_ble_eq_true rfl | (simp; done) | (simp; omega)) (by first | exact Nat.le_of_ble_eq_true rfl | (simp; done) | (simp; omega)) (by first | exact Nat.le_of_ble_eq_true rfl | (simp; done) | (simp; omega)) (Kv ?_)
      rintro v W ⟨rfl, rfl⟩
      refine Go.astore X d0_166 rfl (stL rfl rfl (by dsimp only [updL])) ?_
      refine Go.perm (L' := ow ba (Ar Z (.object "java/lang/String") Ka (updL (List.replicate 65 Value.null) (N - 1) (.ref x1))) :: ow t (Ob Z "com/example/boxwood/boxwood/input/StringTable" ns1 [.ref b1, .ref b2, .ref b3, .ref b4, .int 1]) :: ow b3 (Ar Z (.object "java/lang/String") K3 (updL (List.replicate 256 Value.null) A (.ref s1))) :: ow b4 (Ar Z .int K4 (updL (List.replicate 256 (Value.int 0)) A (.int (hashOf cl)))) :: (y1, Ar Z .byte Ky1 (bsOf (List.take N [10, d, d, d])), fy1) :: ow x1 (StrP Z y1 (List.take N [10, d, d, d])) :: UU) ((front (i := 4) rfl).trans ((front (i := 4) rfl).trans ((front (i := 4) rfl).trans ((front (i := 4) rfl).trans ((front (i := 4) rfl).trans (front (i := 5) rfl)))))) ?_
      refine Go.aload X d0_168 rfl rfl ?_
      refine Go.aload X d0_170 rfl rfl ?_
      refine Go.iload X d0_172 rfl ?_
      refine Go.callV X (fun h H => H.exa (i := 1) rfl) (t_thit l G (t := t) (ba := ba) (it := 0) (N := N) (d := d) hd hN (List.mem_cons_of_mem _ (List.mem_cons_of_mem _ (List.mem_cons_of_mem _ (List.mem_cons_of_mem _ (List.mem_cons_of_mem _ (hca)))))) rfl h9 h32 (s1 := x1) (upd_at _ _ _ _ (rep_at (by omega)))) (rest := []) (w48 G) (w49 G) (nfS (w51 G)) (w51 G) (w50 G) (w32 G) (w52 G) (by decide) pd17 rfl rfl d0_174 rfl (by first | exact Nat.le_of_ble_eq_true rfl | (simp; done) | (simp; omega)) (by first | exact Nat.le_of_ble_eq_true rfl | (simp; done) | (simp; omega)) (by first | exact Nat.le_of_ble_eq_true rfl | (simp; done) | (simp; omega)) (by first | exact Nat.le_of_ble_eq_true rfl | (simp; done) | (simp; omega)) (Kv ?_)
      rintro v W ⟨rfl, rfl⟩
      refine Go.astore X d0_177 rfl (stL rfl rfl (by dsimp only [updL])) ?_
      refine Go.perm (L' := ow t (Ob Z "com/example/boxwood/boxwood/input/StringTable" ns1 [.ref b1, .ref b2, .ref b3, .ref b4, .int 1]) :: ow b3 (Ar Z (.object "java/lang/String") K3 (updL (List.replicate 256 Value.null) A (.ref s1))) :: ow b4 (Ar Z .int K4 (updL (List.replicate 256 (Value.int 0)) A (.int (hashOf cl)))) :: (y1, Ar Z .byte Ky1 (bsOf (List.take N [10, d, d, d])), fy1) :: ow x1 (StrP Z y1 (List.take N [10, d, d, d])) :: ow ba (Ar Z (.object "java/lang/String") Ka (updL (List.replicate 65 Value.null) (N - 1) (.ref x1))) :: UU) ((front (i := 0) rfl).trans ((front (i := 5) rfl).trans ((front (i := 5) rfl).trans ((front (i := 5) rfl).trans ((front (i := 5) rfl).trans (front (i := 5) rfl)))))) ?_
      refine Go.aload X d0_179 rfl rfl ?_
      refine Go.aload X d0_181 rfl rfl ?_
      refine Go.callV X (fun h H => H.exa (i := 0) rfl) (t_vhit l G (cl := cl) (A := A) (vs := (updL (List.replicate 256 Value.null) A (.ref s1))) (hs := (updL (List.replicate 256 (Value.int 0)) A (.int (hashOf cl)))) hS2.up.up.up hcl hA eA (by rw [upd_len, List.length_replicate]) (by rw [upd_len, List.length_replicate]) (y := s1) hS1.up.up.up (upd_at _ _ _ _ (rep_at hA)) (upd_at _ _ _ _ (rep_at hA))) (rest := []) (w71 G) (w72 G) (nfS (w74 G)) (w74 G) (w73 G) (w32 G) (w75 G) (by decide) pd18 rfl rfl d0_183 rfl (by first | exact Nat.le_of_ble_eq_true rfl | (simp; done) | (simp; omega)) (by first | exact Nat.le_of_ble_eq_true rfl | (simp; done) | (simp; omega)) (by first | exact Nat.le_of_ble_eq_true rfl | (simp; done) | (simp; omega)) (by first | exact Nat.le_of_ble_eq_true rfl | (simp; done) | (simp; omega)) (Kv ?_)
      rintro v W ⟨rfl, rfl⟩
      refine Go.astore X d0_186 rfl (stL rfl rfl (by dsimp only [updL])) ?_
      refine Go.aload X d0_188 rfl rfl ?_
      refine Go.aload X d0_190 rfl rfl ?_
      refine Go.acmp X d0_192 (pt := 213) ⟨by decide, by decide⟩ (by rfl) (by rfl) ?_ ?_
      · intro q; exact absurd rfl q
      intro _
      refine Go.aload X d0_195 rfl rfl ?_
      refine Go.aload X d0_197 rfl rfl ?_
      refine Go.acmp X d0_199 (pt := 213) ⟨by decide, by decide⟩ (by rfl) (by rfl) ?_ ?_
      · intro q; exact absurd rfl q
      intro _
      refine Go.aload X d0_202 rfl rfl ?_
      refine Go.aload X d0_204 rfl rfl ?_
      refine Go.acmp X d0_206 (pt := 213) ⟨by decide, by decide⟩ (by rfl) (by rfl) ?_ ?_
      · intro q; exact absurd rfl q
      intro _
      refine Go.iconst X (v := 1) d0_209 (by decide) ?_
      refine Go.goto X d0_210 (pt := 214) ⟨by decide, by decide⟩ ?_
      refine Go.istore X d0_214 (stL rfl rfl (by dsimp only [updL])) ?_
      refine Go.aload X d0_216 rfl rfl ?_
      refine Go.callV X (fun h H => H.exa (i := 0) rfl) (t_clear l G (a := t)) (rest := []) (w119 G) (w120 G) (nfS (w122 G)) (w122 G) (w121 G) (w32 G) (w123 G) (by decide) pd19 rfl rfl d0_218 rfl (by first | exact Nat.le_of_ble_eq_true rfl | (simp; done) | (simp; omega)) (by first | exact Nat.le_of_ble_eq_true rfl | (simp; done) | (simp; omega)) (by first | exact Nat.le_of_ble_eq_true rfl | (simp; done) | (simp; omega)) (by first | exact Nat.le_of_ble_eq_true rfl | (simp; done) | (simp; omega)) (K0 ?_)
      rintro W ⟨c1, c2, c3, c4, Kc1, Kc2, Kc3, Kc4, Oc1, Oc2, Oc3, rfl⟩
      by_cases q9 : (if N = 1 then 9 else d) = 9
      · refine Go.perm (L' := ow c1 (Ar Z (.object "java/lang/String") Kc1 (List.replicate 65 Value.null)) :: ow t (Ob Z "com/example/boxwood/boxwood/input/StringTable" ns1 [.ref c1, .ref c2, .ref c3, .ref c4, .int 0]) :: ow c3 (Ar Z (.object "java/lang/String") Kc3 (List.replicate 256 Value.null)) :: ow c4 (Ar Z .int Kc4 (List.replicate 256 (Value.int 0))) :: ow x1 (StrP Z y1 (List.take N [10, d, d, d])) :: (y1, Ar Z .byte Ky1 (bsOf (List.take N [10, d, d, d])), fy1) :: ow c2 (Ar Z (.object "java/lang/String") Kc2 (List.replicate 65 Value.null)) :: ow b3 (Ar Z (.object "java/lang/String") K3 (updL (List.replicate 256 Value.null) A (.ref s1))) :: ow b4 (Ar Z .int K4 (updL (List.replicate 256 (Value.int 0)) A (.int (hashOf cl)))) :: ow ba (Ar Z (.object "java/lang/String") Ka (updL (List.replicate 65 Value.null) (N - 1) (.ref x1))) :: UU) ((front (i := 9) rfl).trans ((front (i := 7) rfl).trans ((front (i := 7) rfl).trans ((front (i := 5) rfl).trans ((front (i := 8) rfl).trans ((front (i := 9) rfl).trans ((front (i := 6) rfl).trans ((front (i := 7) rfl).trans ((front (i := 9) rfl).trans (front (i := 9) rfl)))))))))) ?_
        exact Go.book (by first | exact Nat.le_of_ble_eq_true rfl | (simp; done) | (simp; omega)) (by first | exact Nat.le_of_ble_eq_true rfl | (simp; done) | (simp; omega)) (k221 X G hd hN hcl hA eA hlen hTX x1 y1 Ky1 fy1 c1 c1 c2 c3 c4 Kc1 Kc3 Kc4 (ow c2 (Ar Z (.object "java/lang/String") Kc2 (List.replicate 65 Value.null)) :: ow b3 (Ar Z (.object "java/lang/String") K3 (updL (List.replicate 256 Value.null) A (.ref s1))) :: ow b4 (Ar Z .int K4 (updL (List.replicate 256 (Value.int 0)) A (.int (hashOf cl)))) :: ow ba (Ar Z (.object "java/lang/String") Ka (updL (List.replicate 65 Value.null) (N - 1) (.ref x1))) :: UU) hKy1 Oc1 Oc3 (fun _ => rfl) (fun q => absurd q9 q) hS1.up.up.up.up hS2.up.up.up.up (List.mem_cons_of_mem _ (List.mem_cons_of_mem _ (List.mem_cons_of_mem _ (List.mem_cons_of_mem _ (hca))))))
      · refine Go.perm (L' := ow c2 (Ar Z (.object "java/lang/String") Kc2 (List.replicate 65 Value.null)) :: ow t (Ob Z "com/example/boxwood/boxwood/input/StringTable" ns1 [.ref c1, .ref c2, .ref c3, .ref c4, .int 0]) :: ow c3 (Ar Z (.object "java/lang/String") Kc3 (List.replicate 256 Value.null)) :: ow c4 (Ar Z .int Kc4 (List.replicate 256 (Value.int 0))) :: ow x1 (StrP Z y1 (List.take N [10, d, d, d])) :: (y1, Ar Z .byte Ky1 (bsOf (List.take N [10, d, d, d])), fy1) :: ow c1 (Ar Z (.object "java/lang/String") Kc1 (List.replicate 65 Value.null)) :: ow b3 (Ar Z (.object "java/lang/String") K3 (updL (List.replicate 256 Value.null) A (.ref s1))) :: ow b4 (Ar Z .int K4 (updL (List.replicate 256 (Value.int 0)) A (.int (hashOf cl)))) :: ow ba (Ar Z (.object "java/lang/String") Ka (updL (List.replicate 65 Value.null) (N - 1) (.ref x1))) :: UU) ((front (i := 9) rfl).trans ((front (i := 7) rfl).trans ((front (i := 7) rfl).trans ((front (i := 6) rfl).trans ((front (i := 8) rfl).trans ((front (i := 9) rfl).trans ((front (i := 6) rfl).trans ((front (i := 7) rfl).trans ((front (i := 9) rfl).trans (front (i := 9) rfl)))))))))) ?_
        exact Go.book (by first | exact Nat.le_of_ble_eq_true rfl | (simp; done) | (simp; omega)) (by first | exact Nat.le_of_ble_eq_true rfl | (simp; done) | (simp; omega)) (k221 X G hd hN hcl hA eA hlen hTX x1 y1 Ky1 fy1 c2 c1 c2 c3 c4 Kc2 Kc3 Kc4 (ow c1 (Ar Z (.object "java/lang/String") Kc1 (List.replicate 65 Value.null)) :: ow b3 (Ar Z (.object "java/lang/String") K3 (updL (List.replicate 256 Value.null) A (.ref s1))) :: ow b4 (Ar Z .int K4 (updL (List.replicate 256 (Value.int 0)) A (.int (hashOf cl)))) :: ow ba (Ar Z (.object "java/lang/String") Ka (updL (List.replicate 65 Value.null) (N - 1) (.ref x1))) :: UU) hKy1 Oc2 Oc3 (fun q => absurd q q9) (fun _ => rfl) hS1.up.up.up.up hS2.up.up.up.up (List.mem_cons_of_mem _ (List.mem_cons_of_mem _ (List.mem_cons_of_mem _ (List.mem_cons_of_mem _ (hca))))))
-- %%% law 117

set_option maxRecDepth 65536 in
set_option maxHeartbeats 4000000 in
theorem k117 {p : Program} {l : Launch} {e : Env} {Z s : State} {a0 : Array Value} {m : MethodId} {below : List Frame} {meth : Method} {c : Code} {i0 i1 i2 i3 : Int32} (X : Cx WD EL0 p Z s m meth c "com/example/boxwood/boxwood/input/StringTableClearPinLaw" "law" code 25 (some .boolean)) (G : Gl a0 Z) : ∀ (d N B D mm : Nat) (ca vc : Addr) (Kc Kv : ClassId) (cl : List Nat), (d = 9 ∨ d = 32) → (N = 1 ∨ N = 2 ∨ N = 3 ∨ N = 4) → cl.length ≤ 2 → (∀ c ∈ cl, c < 256) → Go WD EL0 p l e room_1 Z s m #[.int i0, .int i1, .int i2, .int i3] below meth c (rvQ fun v _ => v = .int 1) [ow vc (Ar Z .char Kv (csOf cl)), ow ca (Ar Z .char Kc (csOf [10, d, d, d]))] 2 6 (mkF m 117 #[.val (.int i0), .val (.int i1), .val (.int i2), .val (.int i3), .val (.int (Int32.ofNat d)), .val (.ref ca), .val (.int (Int32.ofNat N)), .val (.int (Int32.ofNat B)), .val (.int (Int32.ofNat D)), .val (.int (Int32.ofNat mm)), .val (.ref vc), .unset, .unset, .unset, .unset, .unset, .unset, .unset, .unset, .unset, .unset, .unset, .unset, .unset, .unset] []) := by
    intro d N B D mm ca vc Kc Kv cl hd hN hcl hlt
    obtain ⟨A, hA, eA⟩ : ∃ A : Nat, A < 256 ∧ slT (hashOf cl) = Int32.ofNat A := and255 _
    have hlen : (List.take N [10, d, d, d]).length = N := by simp; omega
    have hTX : ∀ c ∈ (List.take N [10, d, d, d]), c < 256 := fun c h => by
      have := List.mem_of_mem_take h
      simp at this; omega
    refine Go.new X (w1 G) (w2 G) (w3 G) (lay0 G) df0 d0_117 (by first | exact Nat.le_of_ble_eq_true rfl | (simp; done) | (simp; omega)) (by first | exact Nat.le_of_ble_eq_true rfl | (simp; done) | (simp; omega)) ?_
    intro s1
    refine Go.dup X d0_120 rfl ?_
    refine Go.aload X d0_121 rfl rfl ?_
    refine Go.callI X (s_initC l G (a := s1) (cap := 2) (cl := cl) (ca := vc) (Kc := Kv) (f := true) (List.mem_of_getElem? (i := 0) rfl) hlt (by omega) (by omega)) rfl (rest := [.ref s1]) (w4 G) (w5 G) (w3 G) (w6 G) (by decide) pd20 rfl rfl d0_123 rfl (by first | exact Nat.le_of_ble_eq_true rfl | (simp; done) | (simp; omega)) (by first | exact Nat.le_of_ble_eq_true rfl | (simp; done) | (simp; omega)) (by first | exact Nat.le_of_ble_eq_true rfl | (simp; done) | (simp; omega)) (by first | exact Nat.le_of_ble_eq_true rfl | (simp; done) | (simp; omega)) (K0 ?_)
    rintro M ⟨p1, Kp1, fp1, hKp1, rfl⟩
    refine Go.weak (i := 1) rfl (P' := StrP Z p1 cl) (fun c q => ⟨0, 0, Or.inl rfl, Or.inl rfl, q⟩) ?_
    refine Go.astore X d0_126 rfl (stL rfl rfl (by dsimp only [updL])) ?_
    refine Go.new X (w1 G) (w2 G) (w3 G) (lay0 G) df0 d0_128 (by first | exact Nat.le_of_ble_eq_true rfl | (simp; done) | (simp; omega)) (by first | exact Nat.le_of_ble_eq_true rfl | (simp; done) | (simp; omega)) ?_
    intro s2
    refine Go.dup X d0_131 rfl ?_
    refine Go.aload X d0_132 rfl rfl ?_
    refine Go.callI X (s_initC l G (a := s2) (cap := 2) (cl := cl) (ca := vc) (Kc := Kv) (f := true) (List.mem_of_getElem? (i := 2) rfl) hlt (by omega) (by omega)) rfl (rest := [.ref s2]) (w4 G) (w5 G) (w3 G) (w6 G) (by decide) pd20 rfl rfl d0_134 rfl (by first | exact Nat.le_of_ble_eq_true rfl | (simp; done) | (simp; omega)) (by first | exact Nat.le_of_ble_eq_true rfl | (simp; done) | (simp; omega)) (by first | exact Nat.le_of_ble_eq_true rfl | (simp; done) | (simp; omega)) (by first | exact Nat.le_of_ble_eq_true rfl | (simp; done) | (simp; omega)) (K0 ?_)
    rintro M ⟨p2, Kp2, fp2, hKp2, rfl⟩
    refine Go.weak (i := 1) rfl (P' := StrP Z p2 cl) (fun c q => ⟨0, 0, Or.inl rfl, Or.inl rfl, q⟩) ?_
    refine Go.astore X d0_137 rfl (stL rfl rfl (by dsimp only [updL])) ?_
    refine Go.new X (w30 G) (w31 G) (w32 G) (lay1 G) df1 d0_139 (by first | exact Nat.le_of_ble_eq_true rfl | (simp; done) | (simp; omega)) (by first | exact Nat.le_of_ble_eq_true rfl | (simp; done) | (simp; omega)) ?_
    intro t
    refine Go.dup X d0_142 rfl ?_
    refine Go.callI X (t_init l G (a := t)) rfl (rest := [.ref t]) (w33 G) (w34 G) (w32 G) (w35 G) (by decide) pd19 rfl rfl d0_143 rfl (by first | exact Nat.le_of_ble_eq_true rfl | (simp; done) | (simp; omega)) (by first | exact Nat.le_of_ble_eq_true rfl | (simp; done) | (simp; omega)) (by first | exact Nat.le_of_ble_eq_true rfl | (simp; done) | (simp; omega)) (by first | exact Nat.le_of_ble_eq_true rfl | (simp; done) | (simp; omega)) (K0 ?_)
    rintro W ⟨b1, b2, b3, b4, Kb1, Kb2, Kb3, Kb4, Ob1, Ob2, Ob3, rfl⟩
    refine Go.astore X d0_146 rfl (stL rfl rfl (by dsimp only [updL])) ?_
    have hU1 : Sk Z [(p2, Ar Z .byte Kp2 (bsOf cl), fp2), ow s2 (StrP Z p2 cl), (p1, Ar Z .byte Kp1 (bsOf cl), fp1), ow s1 (StrP Z p1 cl), ow vc (Ar Z .char Kv (csOf cl)), ow ca (Ar Z .char Kc (csOf [10, d, d, d]))] s1 p1 cl := ⟨List.mem_of_getElem? (i := 3) rfl, ⟨Kp1, fp1, List.mem_of_getElem? (i := 2) rfl, hKp1⟩, hlt⟩
    have hU2 : Sk Z [(p2, Ar Z .byte Kp2 (bsOf cl), fp2), ow s2 (StrP Z p2 cl), (p1, Ar Z .byte Kp1 (bsOf cl), fp1), ow s1 (StrP Z p1 cl), ow vc (Ar Z .char Kv (csOf cl)), ow ca (Ar Z .char Kc (csOf [10, d, d, d]))] s2 p2 cl := ⟨List.mem_of_getElem? (i := 1) rfl, ⟨Kp2, fp2, List.mem_of_getElem? (i := 0) rfl, hKp2⟩, hlt⟩
    have hU3 : (ca, Ar Z .char Kc (csOf [10, d, d, d]), true) ∈ [(p2, Ar Z .byte Kp2 (bsOf cl), fp2), ow s2 (StrP Z p2 cl), (p1, Ar Z .byte Kp1 (bsOf cl), fp1), ow s1 (StrP Z p1 cl), ow vc (Ar Z .char Kv (csOf cl)), ow ca (Ar Z .char Kc (csOf [10, d, d, d]))] := List.mem_of_getElem? (i := 5) rfl
    change Go WD EL0 p l e room_1 Z s m #[.int i0, .int i1, .int i2, .int i3] below meth c (rvQ fun v _ => v = .int 1) (ow b4 (Ar Z .int Kb4 (List.replicate 256 (Value.int 0))) :: ow b3 (Ar Z (.object "java/lang/String") Kb3 (List.replicate 256 Value.null)) :: ow b2 (Ar Z (.object "java/lang/String") Kb2 (List.replicate 65 Value.null)) :: ow b1 (Ar Z (.object "java/lang/String") Kb1 (List.replicate 65 Value.null)) :: ow t (Ob Z "com/example/boxwood/boxwood/input/StringTable" ns1 [.ref b1, .ref b2, .ref b3, .ref b4, .int 0]) :: [(p2, Ar Z .byte Kp2 (bsOf cl), fp2), ow s2 (StrP Z p2 cl), (p1, Ar Z .byte Kp1 (bsOf cl), fp1), ow s1 (StrP Z p1 cl), ow vc (Ar Z .char Kv (csOf cl)), ow ca (Ar Z .char Kc (csOf [10, d, d, d]))]) _ _ (mkF m 148 #[.val (.int i0), .val (.int i1), .val (.int i2), .val (.int i3), .val (.int (Int32.ofNat d)), .val (.ref ca), .val (.int (Int32.ofNat N)), .val (.int (Int32.ofNat B)), .val (.int (Int32.ofNat D)), .val (.int (Int32.ofNat mm)), .val (.ref vc), .val (.ref s1), .val (.ref s2), .val (.ref t), .unset, .unset, .unset, .unset, .unset, .unset, .unset, .unset, .unset, .unset, .unset] [])
    generalize ([(p2, Ar Z .byte Kp2 (bsOf cl), fp2), ow s2 (StrP Z p2 cl), (p1, Ar Z .byte Kp1 (bsOf cl), fp1), ow s1 (StrP Z p1 cl), ow vc (Ar Z .char Kv (csOf cl)), ow ca (Ar Z .char Kc (csOf [10, d, d, d]))] : List Ent) = UU at *
    by_cases q9 : (if N = 1 then 9 else d) = 9
    · refine Go.perm (L' := ow b1 (Ar Z (.object "java/lang/String") Kb1 (List.replicate 65 Value.null)) :: ow t (Ob Z "com/example/boxwood/boxwood/input/StringTable" ns1 [.ref b1, .ref b2, .ref b3, .ref b4, .int 0]) :: ow b3 (Ar Z (.object "java/lang/String") Kb3 (List.replicate 256 Value.null)) :: ow b4 (Ar Z .int Kb4 (List.replicate 256 (Value.int 0))) :: ow b2 (Ar Z (.object "java/lang/String") Kb2 (List.replicate 65 Value.null)) :: UU) ((front (i := 2) rfl).trans ((front (i := 1) rfl).trans ((front (i := 2) rfl).trans ((front (i := 4) rfl).trans (front (i := 4) rfl))))) ?_
      exact Go.book (by first | exact Nat.le_of_ble_eq_true rfl | (simp; done) | (simp; omega)) (by first | exact Nat.le_of_ble_eq_true rfl | (simp; done) | (simp; omega)) (k148 X G hd hN hcl hA eA hlen hTX b1 b1 b2 b3 b4 Kb1 Kb3 Kb4 (ow b2 (Ar Z (.object "java/lang/String") Kb2 (List.replicate 65 Value.null)) :: UU) Ob1 Ob3 (fun _ => rfl) (fun q => absurd q9 q) hU1.up hU2.up (List.mem_cons_of_mem _ hU3))
    · refine Go.perm (L' := ow b2 (Ar Z (.object "java/lang/String") Kb2 (List.replicate 65 Value.null)) :: ow t (Ob Z "com/example/boxwood/boxwood/input/StringTable" ns1 [.ref b1, .ref b2, .ref b3, .ref b4, .int 0]) :: ow b3 (Ar Z (.object "java/lang/String") Kb3 (List.replicate 256 Value.null)) :: ow b4 (Ar Z .int Kb4 (List.replicate 256 (Value.int 0))) :: ow b1 (Ar Z (.object "java/lang/String") Kb1 (List.replicate 65 Value.null)) :: UU) ((front (i := 3) rfl).trans ((front (i := 1) rfl).trans ((front (i := 2) rfl).trans ((front (i := 4) rfl).trans (front (i := 4) rfl))))) ?_
      exact Go.book (by first | exact Nat.le_of_ble_eq_true rfl | (simp; done) | (simp; omega)) (by first | exact Nat.le_of_ble_eq_true rfl | (simp; done) | (simp; omega)) (k148 X G hd hN hcl hA eA hlen hTX b2 b1 b2 b3 b4 Kb2 Kb3 Kb4 (ow b1 (Ar Z (.object "java/lang/String") Kb1 (List.replicate 65 Value.null)) :: UU) Ob2 Ob3 (fun q => absurd q q9) (fun _ => rfl) hU1.up hU2.up (List.mem_cons_of_mem _ hU3))
-- %%% law

set_option maxRecDepth 65536 in
set_option maxHeartbeats 4000000 in
theorem law_ct (l : Launch) {Z : State} {a0 : Array Value} (G : Gl a0 Z) (i0 i1 i2 i3 : Int32) : Ct WD EL0 l Z x code maxLocals ret room_1 #[.int i0, .int i1, .int i2, .int i3] [] (rvQ (fun v _ => v = .int 1)) := by
  refine Ct.intro (by decide +kernel) G.2.1 ?_
  intro p e s m below meth c X
  replace X : Cx WD EL0 p Z s m meth c "com/example/boxwood/boxwood/input/StringTableClearPinLaw" "law" code 25 (some .boolean) := X
  refine Go.cast (g' := mkF m 0 #[.val (.int i0), .val (.int i1), .val (.int i2), .val (.int i3), .unset, .unset, .unset, .unset, .unset, .unset, .unset, .unset, .unset, .unset, .unset, .unset, .unset, .unset, .unset, .unset, .unset, .unset, .unset, .unset, .unset] []) (ent1 m i0 i1 i2 i3) ?_
  have k13 : ∀ d : Nat, (d = 9 ∨ d = 32) → Go WD EL0 p l e room_1 Z s m #[.int i0, .int i1, .int i2, .int i3] below meth c (rvQ fun v _ => v = .int 1) [] 0 0 (mkF m 13 #[.val (.int i0), .val (.int i1), .val (.int i2), .val (.int i3), .unset, .unset, .unset, .unset, .unset, .unset, .unset, .unset, .unset, .unset, .unset, .unset, .unset, .unset, .unset, .unset, .unset, .unset, .unset, .unset, .unset] [.int (Int32.ofNat d)]) := by
    intro d hd
    refine Go.istore X d0_13 (stL rfl rfl (by dsimp only [updL])) ?_
    refine Go.iconst X (v := 4) d0_15 (by decide) ?_
    refine Go.newarr X (aty := .char) (N := 4) (cap := 4) (w0 G) (by decide) (by decide) (by decide) (by decide) d0_16 (by first | exact Nat.le_of_ble_eq_true rfl | (simp; done) | (simp; omega)) (by first | exact Nat.le_of_ble_eq_true rfl | (simp; done) | (simp; omega)) ?_
    intro ca Kc
    refine Go.dup X d0_18 rfl ?_
    refine Go.iconst X (v := 0) d0_19 (by decide) ?_
    refine Go.bipush X (v := 10) d0_20 (by decide) ?_
    refine Go.cast' X (i := 0) rfl (by decide) (by first | decide | (simp only [upd_len]; decide)) (y := Int32.ofNat 10) rfl d0_22 ?_
    refine Go.dup X d0_23 rfl ?_
    refine Go.iconst X (v := 1) d0_24 (by decide) ?_
    refine Go.iload X d0_25 rfl ?_
    refine Go.cast' X (i := 0) rfl (by decide) (by first | decide | (simp only [upd_len]; decide)) (y := Int32.ofNat d) (by rcases hd with rfl | rfl <;> rfl) d0_27 ?_
    refine Go.dup X d0_28 rfl ?_
    refine Go.iconst X (v := 2) d0_29 (by decide) ?_
    refine Go.iload X d0_30 rfl ?_
    refine Go.cast' X (i := 0) rfl (by decide) (by first | decide | (simp only [upd_len]; decide)) (y := Int32.ofNat d) (by rcases hd with rfl | rfl <;> rfl) d0_32 ?_
    refine Go.dup X d0_33 rfl ?_
    refine Go.iconst X (v := 3) d0_34 (by decide) ?_
    refine Go.iload X d0_35 rfl ?_
    refine Go.cast' X (i := 0) rfl (by decide) (by first | decide | (simp only [upd_len]; decide)) (y := Int32.ofNat d) (by rcases hd with rfl | rfl <;> rfl) d0_37 ?_
    refine Go.perm (L' := [ow ca (Ar Z .char Kc (csOf [10, d, d, d]))]) (List.Perm.refl _) ?_
    refine Go.astore X d0_38 rfl (stL rfl rfl (by dsimp only [updL])) ?_
    refine Go.iconst X (v := 1) d0_40 (by decide) ?_
    refine Go.iloadN X d0_41 rfl ?_
    refine Go.iconst X (v := 3) d0_42 (by decide) ?_
    refine Go.iand X d0_43 ?_
    obtain ⟨N0, hN0, eN0⟩ := and3 i0
    rw [eN0]
    refine Go.iadd X d0_44 ?_
    rw [show (1 : Int32) + Int32.ofNat N0 = Int32.ofNat (N0 + 1) from by rcases hN0 with rfl | rfl | rfl | rfl <;> rfl]
    generalize eN : N0 + 1 = N
    have hN : N = 1 ∨ N = 2 ∨ N = 3 ∨ N = 4 := by omega
    refine Go.istore X d0_45 (stL rfl rfl (by dsimp only [updL])) ?_
    refine Go.iloadN X d0_47 rfl ?_
    refine Go.sipush X (v := 255) d0_48 (by decide) ?_
    refine Go.iand X d0_51 ?_
    obtain ⟨B, hB, eB⟩ := and255 i2
    rw [eB]
    refine Go.i2c X d0_52 ?_
    rw [ch_back B hB]
    refine Go.istore X d0_53 (stL rfl rfl (by dsimp only [updL])) ?_
    refine Go.iloadN X d0_55 rfl ?_
    refine Go.sipush X (v := 255) d0_56 (by decide) ?_
    refine Go.iand X d0_59 ?_
    obtain ⟨D, hD, eD⟩ := and255 i3
    rw [eD]
    refine Go.i2c X d0_60 ?_
    rw [ch_back D hD]
    refine Go.istore X d0_61 (stL rfl rfl (by dsimp only [updL])) ?_
    refine Go.iloadN X d0_63 rfl ?_
    refine Go.iconst X (v := 1) d0_64 (by decide) ?_
    refine Go.iushr X d0_65 ?_
    refine Go.iconst X (v := 3) d0_66 (by decide) ?_
    refine Go.iand X d0_67 ?_
    obtain ⟨mm, hm, em⟩ := and3 (XT.ushr i1 1)
    rw [em]
    refine Go.istore X d0_68 (stL rfl rfl (by dsimp only [updL])) ?_
    refine Go.iload X d0_70 rfl ?_
    obtain ⟨y1, y2, y3⟩ := nat32 (i := mm) (by omega)
    refine Go.ifc X d0_72 (pt := 83) ⟨by decide, by decide⟩ ?_ ?_
    rotate_left
    · intro q
      refine Go.iconst X (v := 0) d0_75 (by decide) ?_
      refine Go.newarr X (aty := .char) (N := 0) (cap := 2) (w0 G) (by decide) (by decide) (by decide) (by decide) d0_76 (by first | exact Nat.le_of_ble_eq_true rfl | (simp; done) | (simp; omega)) (by first | exact Nat.le_of_ble_eq_true rfl | (simp; done) | (simp; omega)) ?_
      intro vc Kv
      refine Go.perm (L' := [ow vc (Ar Z .char Kv (csOf [])), ow ca (Ar Z .char Kc (csOf [10, d, d, d]))]) (List.Perm.refl _) ?_
      refine Go.astore X d0_78 rfl (stL rfl rfl (by dsimp only [updL])) ?_
      refine Go.goto X d0_80 (pt := 117) ⟨by decide, by decide⟩ ?_
      exact Go.book (by first | exact Nat.le_of_ble_eq_true rfl | (simp; done) | (simp; omega)) (by first | exact Nat.le_of_ble_eq_true rfl | (simp; done) | (simp; omega)) (k117 X G d N B D mm ca vc Kc Kv [] hd hN (by simp) (by simp))
    intro q
    refine Go.iload X d0_83 rfl ?_
    refine Go.iconst X (v := 1) d0_85 (by decide) ?_
    refine Go.icmp X d0_86 (pt := 102) ⟨by decide, by decide⟩ ?_ ?_
    rotate_left
    · intro q
      refine Go.iconst X (v := 1) d0_89 (by decide) ?_
      refine Go.newarr X (aty := .char) (N := 1) (cap := 2) (w0 G) (by decide) (by decide) (by decide) (by decide) d0_90 (by first | exact Nat.le_of_ble_eq_true rfl | (simp; done) | (simp; omega)) (by first | exact Nat.le_of_ble_eq_true rfl | (simp; done) | (simp; omega)) ?_
      intro vc Kv
      refine Go.dup X d0_92 rfl ?_
      refine Go.iconst X (v := 0) d0_93 (by decide) ?_
      refine Go.iload X d0_94 rfl ?_
      refine Go.cast' X (i := 0) rfl (by decide) (by first | decide | (simp only [upd_len]; decide)) (y := Int32.ofNat B) (ch_back B hB) d0_96 ?_
      refine Go.perm (L' := [ow vc (Ar Z .char Kv (csOf [B])), ow ca (Ar Z .char Kc (csOf [10, d, d, d]))]) (List.Perm.refl _) ?_
      refine Go.astore X d0_97 rfl (stL rfl rfl (by dsimp only [updL])) ?_
      refine Go.goto X d0_99 (pt := 117) ⟨by decide, by decide⟩ ?_
      exact Go.book (by first | exact Nat.le_of_ble_eq_true rfl | (simp; done) | (simp; omega)) (by first | exact Nat.le_of_ble_eq_true rfl | (simp; done) | (simp; omega)) (k117 X G d N B D mm ca vc Kc Kv [B] hd hN (by simp) (by simp; omega))
    intro q2
    refine Go.iconst X (v := 2) d0_102 (by decide) ?_
    refine Go.newarr X (aty := .char) (N := 2) (cap := 2) (w0 G) (by decide) (by decide) (by decide) (by decide) d0_103 (by first | exact Nat.le_of_ble_eq_true rfl | (simp; done) | (simp; omega)) (by first | exact Nat.le_of_ble_eq_true rfl | (simp; done) | (simp; omega)) ?_
    intro vc Kv
    refine Go.dup X d0_105 rfl ?_
    refine Go.iconst X (v := 0) d0_106 (by decide) ?_
    refine Go.iload X d0_107 rfl ?_
    refine Go.cast' X (i := 0) rfl (by decide) (by first | decide | (simp only [upd_len]; decide)) (y := Int32.ofNat B) (ch_back B hB) d0_109 ?_
    refine Go.dup X d0_110 rfl ?_
    refine Go.iconst X (v := 1) d0_111 (by decide) ?_
    refine Go.iload X d0_112 rfl ?_
    refine Go.cast' X (i := 0) rfl (by decide) (by first | decide | (simp only [upd_len]; decide)) (y := Int32.ofNat D) (ch_back D hD) d0_114 ?_
    refine Go.perm (L' := [ow vc (Ar Z .char Kv (csOf [B, D])), ow ca (Ar Z .char Kc (csOf [10, d, d, d]))]) (List.Perm.refl _) ?_
    refine Go.astore X d0_115 rfl (stL rfl rfl (by dsimp only [updL])) ?_
    exact Go.book (by first | exact Nat.le_of_ble_eq_true rfl | (simp; done) | (simp; omega)) (by first | exact Nat.le_of_ble_eq_true rfl | (simp; done) | (simp; omega)) (k117 X G d N B D mm ca vc Kc Kv [B, D] hd hN (by simp) (by simp; omega))
  refine Go.iloadN X d0_0 rfl ?_
  refine Go.iconst X (v := 1) d0_1 (by decide) ?_
  refine Go.iand X d0_2 ?_
  refine Go.ifc X d0_3 (pt := 11) ⟨by decide, by decide⟩ ?_ ?_
  · intro _
    refine Go.bipush X (v := 32) d0_11 (by decide) ?_
    exact k13 32 (Or.inr rfl)
  intro _
  refine Go.bipush X (v := 9) d0_6 (by decide) ?_
  refine Go.goto X d0_8 (pt := 13) ⟨by decide, by decide⟩ ?_
  exact k13 9 (Or.inl rfl)
-- %%% ends

set_option maxRecDepth 65536 in
set_option maxHeartbeats 4000000 in
theorem comes_1 {Post : Tables → Env → Array Value → State → Outcome → State → Prop} (hpost : ∀ tb e args s v u, (limb_1_1.after args s (.returned v) u = true ∧ limb_1_2.after args s (.returned v) u = true ∧ True) → ReturnedEndW s (.returned v) u (Jvm.fieldLocs frame_1_writes args s ++ Jvm.arrayLocs frame_1_arrays args s ++ Jvm.staticLocs frame_1_statics s) 48 3776 → Post tb e args s (.returned v) u) :
    ArmFor flags0 classFile x code maxLocals ret World_1 tables_1 room_1 Calls_1 rest_1 Pre_1 Post := by
  intro l hfl _ _ p e ha hc hk s m args below hf hA hF happ hP
  obtain ⟨hcalls, hrest, hpre⟩ := hP
  obtain ⟨-, -, -, hnamed, -, -, -, hat⟩ := (Spec.applies_iff hf).mp happ
  obtain ⟨hg, hn⟩ := and_e (Cond.before_iff.mp (show (Jvm.Cond.and given_1 narrow_1).before args s = true from hpre))
  obtain ⟨h1, h2⟩ := and_e hg
  obtain ⟨w0, w1, w2, w3, rfl⟩ : ∃ w0 w1 w2 w3 : Value, args = #[w0, w1, w2, w3] := by
    have hs : args.size = 4 := by simpa [Cond.value, given_1] using h1
    obtain ⟨L⟩ := args
    match L, hs with
    | [w0, w1, w2, w3], _ => exact ⟨w0, w1, w2, w3, rfl⟩
  have hw : ∀ d ∈ tables_1, d.before #[w0, w1, w2, w3] s = true := fun d (hd : d ∈ tables_1) => atoms_spec (ws := Jvm.Cond.code x code maxLocals ret :: tables_1) hat d (List.mem_cons_of_mem _ hd)
  have hfit : Fit s := fun {y c} hc i hi => by
    obtain ⟨ha, rfl⟩ := Array.getElem?_eq_some_iff.mp hc
    have q := List.all_eq_true.mp ((Array.all_eq_true_iff_forall_mem.mp hF) _ (Array.getElem_mem ha)) i (List.mem_range.mpr hi)
    simpa [Array.getElem?_eq_getElem hi] using q
  obtain ⟨a0, h3⟩ := and_e h2
  obtain ⟨i0, e0⟩ := is_v a0
  obtain rfl : w0 = (.int i0) := Option.some.inj e0
  obtain ⟨a1, h4⟩ := and_e h3
  obtain ⟨i1, e1⟩ := is_v a1
  obtain rfl : w1 = (.int i1) := Option.some.inj e1
  obtain ⟨a2, h5⟩ := and_e h4
  obtain ⟨i2, e2⟩ := is_v a2
  obtain rfl : w2 = (.int i2) := Option.some.inj e2
  obtain ⟨i3, e3⟩ := is_v h5
  obtain rfl : w3 = (.int i3) := Option.some.inj e3
  have hsets : ∀ d ∈ jdkStatics_1, d.before #[.int i0, .int i1, .int i2, .int i3] s = true := (atoms_of (own := restOwn_1) jdkStatics_1 (show (jdkStatics_1.foldr Jvm.Cond.and restOwn_1).before _ s = true from hrest)).1
  have G_cs : ∃ cs : Int32, cs ≠ 0 ∧ Sta s s.heap "java/lang/String" "COMPACT_STRINGS" "Z" (.int cs) := by
    obtain ⟨x, ex⟩ := is_v (Cond.before_iff.mp (hsets _ (List.mem_of_getElem? (i := 1) rfl)))
    refine ⟨x, fun z => ?_, Sta.start ex (Or.inl (hsets _ (List.mem_of_getElem? (i := 0) rfl)))⟩
    have q := Cond.before_iff.mp (hsets _ (List.mem_of_getElem? (i := 2) rfl))
    subst z
    have q2 : (Cond.eq (Term.static "java/lang/String" "COMPACT_STRINGS" "Z") (Term.int 0)).value #[.int i0, .int i1, .int i2, .int i3] s none s [] = some true := eq_i ex (Term.int_eval (0)) rfl
    simp only [Cond.value] at q q2
    rw [q2] at q
    cases q
  have G_sf : ∃ v3 : Value, v3.category = 1 ∧ Sta s s.heap "jdk/internal/util/Preconditions" "SIOOBE_FORMATTER" "Ljava/util/function/BiFunction;" v3 := by
    have q := Cond.before_iff.mp (hsets _ (List.mem_of_getElem? (i := 8) rfl))
    cases ht : (Term.static "jdk/internal/util/Preconditions" "SIOOBE_FORMATTER" "Ljava/util/function/BiFunction;").eval #[.int i0, .int i1, .int i2, .int i3] s none [] s with
    | none => simp [Cond.value, ht] at q
    | some v =>
      refine ⟨v, ?_, Sta.start ht (Or.inl (hsets _ (List.mem_of_getElem? (i := 7) rfl)))⟩
      cases v <;> first | rfl | (simp [Cond.value, ht] at q; done)
  have hew : EW s _ EL0 := (EW.cons (hw _ (List.mem_of_getElem? (i := 135) rfl)) (by decide) EW.nil)
  have hEW : WD = true → ∃ a0, EW s a0 EL0 := fun _ => ⟨_, hew⟩
  have hIv : WD = true → CHv s EL0 s.vm s.heap ∧ ∀ x ∈ ([] : List Ent), x.2.2 = true → Safe s EL0 s.vm s.heap x.1 := fun _ => ⟨CHv.start hew (fun p hp => hcalls.1 p hp) (hsets _ (List.mem_of_getElem? (i := 2) rfl)) (hw _ (List.mem_of_getElem? (i := 19) rfl)) (hw _ (List.mem_of_getElem? (i := 2) rfl)), fun _ q => nomatch q⟩
  have G : Gl #[.int i0, .int i1, .int i2, .int i3] s := ⟨hw, hEW, G_cs, G_sf⟩
  obtain ⟨n, o, h1, h2, h3, _, M, lc, rfl, ⟨_, rfl, rfl⟩, -, N, hq⟩ := (law_ct l G i0 i1 i2 i3) tables_1 p e ha hc hk s m _ below hf ((Spec.applies_iff_loose hf).mp happ).1 ⟨rfl, State.Warmed39.refl s, Hp.start s, hIv⟩ trivial
  exact ⟨n, _, h1, h2, h3, hpost _ _ _ _ _ _ ⟨Cond.after_iff.mpr rfl, Cond.after_iff.mpr (eq_i res_at (Term.int_eval (1)) rfl), trivial⟩ ⟨hq.1, hq.2.1, hq.2.2.1, (hq.2.2.2.sift fun y hy => Or.inr (N y hy)).mono (by decide) (by decide)⟩⟩
theorem main_1_1 : Claimed_1_1 := comes_1 fun _ _ _ _ _ _ h hF => ⟨h.1, hF⟩
theorem main_1_2 : Claimed_1_2 := comes_1 fun _ _ _ _ _ _ h hF => ⟨h.2.1, hF⟩
end Jvm.Pilot.@@N@@
namespace Jvm.Pilot.@@N@@
open Jvm Jvm.ClassFile Sem Op Lib Jvm.Free Jvm.Stand Jvm.Pilot.@@N@@.Jvm.D
/-! MADE BY PROGRAM (witnessworld.py) out of the Statement's table words and the real class files: 21 classes; the members and pool entries that the words name. The judged class is class 1, her method 1. -/
namespace start1
open Jvm.ClassFile
def u (s : String) : CpInfo := .utf8 (stringToUtf16 s)
/-- a pool by its gaps: so many unusable entries, then the entry; so many at the end -/
def gap : Nat → List CpInfo → List CpInfo
  | 0, r => r
  | n + 1, r => .unusable :: gap n r
def poolList (es : List (Nat × CpInfo)) (last : Nat) : List CpInfo := es.foldr (fun e r => gap e.1 (e.2 :: r)) (gap last [])
def pool (es : List (Nat × CpInfo)) (last : Nat) : Array CpInfo := ⟨poolList es last⟩
def fileOf (pool : Array CpInfo) (this : Nat) (attrs : Array Attribute := #[]) (ms : Array MethodInfo := #[]) (fl : Nat := 33) (sup : Nat := 0) (ifs : Array Nat := #[]) (fds : Array FieldInfo := #[]) : ClassFile where
  minorVersion := 0
  majorVersion := 65
  constantPool := pool
  accessFlags := fl
  thisClass := this
  superClass := sup
  interfaces := ifs
  fields := fds
  methods := ms
  attributes := attrs
def plain (name : String) (sup : Option ClassId) : Class where
  name := name
  kind := .ordinary
  loader := none
  accessFlags := 33
  super := sup
  interfaces := #[]
  cf := none
  fields := #[]
  methods := #[]
  instanceTypes := #[]
  staticTypes := #[]
  resolved := #[]
  callSites := []
  init := .initialized
  statics := none
  mirror := none

def pool0 : Array CpInfo := pool [(5, u "<init>"), (0, u "()V"), (1, .class_ 10), (1, u "java/lang/Object")] 113

def k0c0 : Code := { maxStack := 0, maxLocals := 1, code := object_method_1_code, exceptionTable := #[], attributes := #[] }
def k0m0 : Method := { name := "<init>", desc := "()V", sig := { parameters := [], returnType := none }, accessFlags := 1, code := some k0c0 }
/-- java/lang/Object -/
def k0 : Class := { plain "java/lang/Object" none with
  accessFlags := 33
  interfaces := #[]
  cf := some (fileOf pool0 8 #[] #[{ accessFlags := 1, nameIndex := 5, descriptorIndex := 6, attributes := #[] }] 33 0 #[] #[])
  fields := #[]
  methods := #[k0m0]
  instanceTypes := #[]
  staticTypes := #[]
  resolved := Array.replicate 124 none
  statics := none }

def pool1 : Array CpInfo := pool [(2, .class_ 4), (0, .nameAndType 5 6), (0, u "java/lang/Object"), (0, u "<init>"), (0, u "()V"), (0, .class_ 8), (0, u "java/lang/String"), (0, .methodref 7 10), (0, .nameAndType 5 11), (0, u "([C)V"), (0, .class_ 13), (0, u "com/example/boxwood/boxwood/input/StringTable"), (0, .methodref 12 3), (0, .methodref 12 16), (0, .nameAndType 17 18), (0, u "text"), (0, u "([CI)Ljava/lang/String;"), (0, .methodref 12 20), (0, .nameAndType 21 22), (0, u "value"), (0, u "(Ljava/lang/String;)Ljava/lang/String;"), (0, .methodref 12 24), (0, .nameAndType 25 6), (0, u "clear"), (0, .methodref 7 27), (0, .nameAndType 28 29), (0, u "equals"), (0, u "(Ljava/lang/Object;)Z"), (0, .methodref 7 31), (0, .nameAndType 32 33), (0, u "length"), (0, u "()I"), (0, .class_ 35), (0, u "com/example/boxwood/boxwood/input/StringTableClearPinLaw"), (2, u "law"), (0, u "(IIII)Z")] 5

def k1m0 : Method := { name := "<init>", desc := "()V", sig := { parameters := [], returnType := none }, accessFlags := 2, code := none }
def k1c1 : Code := { maxStack := 4, maxLocals := 25, code := code, exceptionTable := #[], attributes := #[] }
def k1m1 : Method := { name := "law", desc := "(IIII)Z", sig := { parameters := [.int, .int, .int, .int], returnType := some .boolean }, accessFlags := 9, code := some k1c1 }
/-- com/example/boxwood/boxwood/input/StringTableClearPinLaw -/
def k1 : Class := { plain "com/example/boxwood/boxwood/input/StringTableClearPinLaw" (some 0) with
  accessFlags := 49
  interfaces := #[]
  cf := some (fileOf pool1 34 #[] #[{ accessFlags := 2, nameIndex := 5, descriptorIndex := 6, attributes := #[] }, { accessFlags := 9, nameIndex := 38, descriptorIndex := 39, attributes := #[] }] 49 2 #[] #[])
  fields := #[]
  methods := #[k1m0, k1m1]
  instanceTypes := #[]
  staticTypes := #[]
  resolved := Array.replicate 45 none
  statics := none }

def pool2 : Array CpInfo := pool [(1, .class_ 2), (0, u "java/io/Serializable"), (0, .class_ 4), (0, u "java/lang/Object")] 2

/-- java/io/Serializable -/
def k2 : Class := { plain "java/io/Serializable" (some 0) with
  accessFlags := 1537
  interfaces := #[]
  cf := some (fileOf pool2 1 #[] #[] 1537 3 #[] #[])
  fields := #[]
  methods := #[]
  instanceTypes := #[]
  staticTypes := #[]
  resolved := Array.replicate 7 none
  statics := none }

def pool3 : Array CpInfo := pool [(1, .class_ 2), (0, u "java/lang/Comparable"), (0, .class_ 4), (0, u "java/lang/Object")] 7

/-- java/lang/Comparable -/
def k3 : Class := { plain "java/lang/Comparable" (some 0) with
  accessFlags := 1537
  interfaces := #[]
  cf := some (fileOf pool3 1 #[] #[] 1537 3 #[] #[])
  fields := #[]
  methods := #[]
  instanceTypes := #[]
  staticTypes := #[]
  resolved := Array.replicate 12 none
  statics := none }

def pool4 : Array CpInfo := pool [(2, .class_ 4), (1, u "java/lang/CharSequence"), (42, .class_ 48), (0, u "java/lang/CharSequence$1CodePointIterator"), (10, .class_ 60), (0, u "java/lang/CharSequence$1CharIterator"), (5, .class_ 67), (0, u "java/lang/Object")] 63

/-- java/lang/CharSequence -/
def k4 : Class := { plain "java/lang/CharSequence" (some 0) with
  accessFlags := 1537
  interfaces := #[]
  cf := some (fileOf pool4 2 #[.nestMembers #[47, 59]] #[] 1537 66 #[] #[])
  fields := #[]
  methods := #[]
  instanceTypes := #[]
  staticTypes := #[]
  resolved := Array.replicate 131 none
  statics := none }

def pool5 : Array CpInfo := pool [(1, .class_ 2), (0, u "java/lang/constant/Constable"), (0, .class_ 4), (0, u "java/lang/Object")] 6

/-- java/lang/constant/Constable -/
def k5 : Class := { plain "java/lang/constant/Constable" (some 0) with
  accessFlags := 1537
  interfaces := #[]
  cf := some (fileOf pool5 1 #[] #[] 1537 3 #[] #[])
  fields := #[]
  methods := #[]
  instanceTypes := #[]
  staticTypes := #[]
  resolved := Array.replicate 11 none
  statics := none }

def pool6 : Array CpInfo := pool [(1, .class_ 2), (0, u "java/lang/constant/ConstantDesc"), (0, .class_ 4), (0, u "java/lang/Object")] 32

/-- java/lang/constant/ConstantDesc -/
def k6 : Class := { plain "java/lang/constant/ConstantDesc" (some 0) with
  accessFlags := 1537
  interfaces := #[]
  cf := some (fileOf pool6 1 #[] #[] 1537 3 #[] #[])
  fields := #[]
  methods := #[]
  instanceTypes := #[]
  staticTypes := #[]
  resolved := Array.replicate 37 none
  statics := none }

def pool7 : Array CpInfo := pool [(1, .methodref 2 3), (0, .class_ 4), (0, .nameAndType 5 6), (0, u "java/lang/Object"), (0, u "<init>"), (0, u "()V"), (0, .string 8), (0, u ""), (0, .fieldref 10 11), (0, .class_ 12), (0, .nameAndType 13 14), (0, u "java/lang/String"), (0, u "value"), (0, u "[B"), (0, .fieldref 10 16), (0, .nameAndType 17 18), (0, u "coder"), (0, u "B"), (0, .fieldref 10 20), (0, .nameAndType 21 22), (0, u "hash"), (0, u "I"), (0, .fieldref 10 24), (0, .nameAndType 25 26), (0, u "hashIsZero"), (0, u "Z"), (0, .methodref 10 28), (0, .nameAndType 5 29), (0, u "([CIILjava/lang/Void;)V"), (0, .methodref 10 31), (0, .nameAndType 32 33), (0, u "rangeCheck"), (0, u "([CII)Ljava/lang/Void;"), (0, .methodref 10 35), (0, .nameAndType 36 37), (0, u "checkBoundsOffCount"), (0, u "(III)I"), (0, .fieldref 10 39), (0, .nameAndType 40 26), (0, u "COMPACT_STRINGS"), (1, .class_ 44), (1, u "java/lang/StringUTF16"), (0, u "compress"), (1, .methodref 42 48), (0, .nameAndType 49 50), (0, u "coderFromArrayLen"), (0, u "([BI)B"), (56, .class_ 109), (1, u "java/lang/StringLatin1"), (32, u "()Z"), (34, .methodref 42 178), (0, .nameAndType 45 179), (0, u "([CII)[B"), (154, u "()I"), (0, .methodref 10 336), (0, .nameAndType 17 337), (0, u "()B"), (154, .methodref 10 493), (0, .nameAndType 494 142), (0, u "isLatin1"), (12, u "length"), (33, .methodref 107 542), (0, .nameAndType 543 544), (0, u "equals"), (0, u "([B[B)Z"), (28, u "(Ljava/lang/Object;)Z"), (1, .class_ 576), (0, u "java/lang/CharSequence"), (22, u "CASE_INSENSITIVE_ORDER"), (0, u "Ljava/util/Comparator;"), (27, .methodref 107 629), (0, .nameAndType 630 631), (0, u "hashCode"), (0, u "([B)I"), (340, u "([CII)V"), (37, u "([C)V"), (42, .fieldref 1054 1055), (0, .class_ 1056), (0, .nameAndType 1057 1058), (0, u "jdk/internal/util/Preconditions"), (0, u "SIOOBE_FORMATTER"), (0, u "Ljava/util/function/BiFunction;"), (5, u "(IIILjava/util/function/BiFunction;)I"), (0, .methodref 1054 1066), (0, .nameAndType 1067 1064), (0, u "checkFromIndexSize"), (33, u "serialPersistentFields"), (0, u "[Ljava/io/ObjectStreamField;"), (0, .class_ 1104), (0, u "java/lang/String$CaseInsensitiveComparator"), (1, .class_ 1107), (0, u "java/io/Serializable"), (0, .class_ 1109), (0, u "java/lang/Comparable"), (0, .class_ 1111), (0, u "java/lang/constant/Constable"), (0, .class_ 1113), (0, u "java/lang/constant/ConstantDesc"), (2, u "serialVersionUID"), (0, u "J"), (3, u "REPL"), (0, u "C"), (2, u "LATIN1"), (1, u "UTF16")] 323

def k7m0 : Method := { name := "<init>", desc := "()V", sig := { parameters := [], returnType := none }, accessFlags := 1, code := none }
def k7c1 : Code := { maxStack := 5, maxLocals := 2, code := jdk_42_method_3_code, exceptionTable := #[], attributes := #[] }
def k7m1 : Method := { name := "<init>", desc := "([C)V", sig := { parameters := [(.array .char)], returnType := none }, accessFlags := 1, code := some k7c1 }
def k7c2 : Code := { maxStack := 7, maxLocals := 4, code := jdk_42_method_4_code, exceptionTable := #[], attributes := #[] }
def k7m2 : Method := { name := "<init>", desc := "([CII)V", sig := { parameters := [(.array .char), .int, .int], returnType := none }, accessFlags := 1, code := some k7c2 }
def k7c3 : Code := { maxStack := 3, maxLocals := 3, code := jdk_42_method_5_code, exceptionTable := #[], attributes := #[] }
def k7m3 : Method := { name := "rangeCheck", desc := "([CII)Ljava/lang/Void;", sig := { parameters := [(.array .char), .int, .int], returnType := some (.object "java/lang/Void") }, accessFlags := 10, code := some k7c3 }
def k7c4 : Code := { maxStack := 2, maxLocals := 1, code := jdk_42_method_54_code, exceptionTable := #[], attributes := #[] }
def k7m4 : Method := { name := "length", desc := "()I", sig := { parameters := [], returnType := some .int }, accessFlags := 1, code := some k7c4 }
def k7c5 : Code := { maxStack := 2, maxLocals := 3, code := jdk_42_method_66_code, exceptionTable := #[], attributes := #[] }
def k7m5 : Method := { name := "equals", desc := "(Ljava/lang/Object;)Z", sig := { parameters := [(.object "java/lang/Object")], returnType := some .boolean }, accessFlags := 1, code := some k7c5 }
def k7c6 : Code := { maxStack := 2, maxLocals := 2, code := jdk_42_method_78_code, exceptionTable := #[], attributes := #[] }
def k7m6 : Method := { name := "hashCode", desc := "()I", sig := { parameters := [], returnType := some .int }, accessFlags := 1, code := some k7c6 }
def k7c7 : Code := { maxStack := 4, maxLocals := 6, code := jdk_42_method_149_code, exceptionTable := #[], attributes := #[] }
def k7m7 : Method := { name := "<init>", desc := "([CIILjava/lang/Void;)V", sig := { parameters := [(.array .char), .int, .int, (.object "java/lang/Void")], returnType := none }, accessFlags := 2, code := some k7c7 }
def k7c8 : Code := { maxStack := 1, maxLocals := 1, code := jdk_42_method_152_code, exceptionTable := #[], attributes := #[] }
def k7m8 : Method := { name := "coder", desc := "()B", sig := { parameters := [], returnType := some .byte }, accessFlags := 0, code := some k7c8 }
def k7c9 : Code := { maxStack := 1, maxLocals := 1, code := jdk_42_method_154_code, exceptionTable := #[], attributes := #[] }
def k7m9 : Method := { name := "isLatin1", desc := "()Z", sig := { parameters := [], returnType := some .boolean }, accessFlags := 0, code := some k7c9 }
def k7c10 : Code := { maxStack := 4, maxLocals := 3, code := jdk_42_method_157_code, exceptionTable := #[], attributes := #[] }
def k7m10 : Method := { name := "checkBoundsOffCount", desc := "(III)I", sig := { parameters := [.int, .int, .int], returnType := some .int }, accessFlags := 8, code := some k7c10 }
/-- java/lang/String -/
def k7 : Class := { plain "java/lang/String" (some 0) with
  accessFlags := 49
  interfaces := #[2, 3, 4, 5, 6]
  cf := some (fileOf pool7 10 #[.nestMembers #[1103]] #[{ accessFlags := 1, nameIndex := 5, descriptorIndex := 6, attributes := #[] }, { accessFlags := 1, nameIndex := 5, descriptorIndex := 1010, attributes := #[] }, { accessFlags := 1, nameIndex := 5, descriptorIndex := 972, attributes := #[] }, { accessFlags := 10, nameIndex := 32, descriptorIndex := 33, attributes := #[] }, { accessFlags := 1, nameIndex := 507, descriptorIndex := 334, attributes := #[] }, { accessFlags := 1, nameIndex := 543, descriptorIndex := 573, attributes := #[] }, { accessFlags := 1, nameIndex := 630, descriptorIndex := 334, attributes := #[] }, { accessFlags := 2, nameIndex := 5, descriptorIndex := 29, attributes := #[] }, { accessFlags := 0, nameIndex := 17, descriptorIndex := 337, attributes := #[] }, { accessFlags := 0, nameIndex := 494, descriptorIndex := 142, attributes := #[] }, { accessFlags := 8, nameIndex := 36, descriptorIndex := 37, attributes := #[] }] 49 2 #[1106, 1108, 575, 1110, 1112] #[{ accessFlags := 18, nameIndex := 13, descriptorIndex := 14, attributes := #[] }, { accessFlags := 18, nameIndex := 17, descriptorIndex := 18, attributes := #[] }, { accessFlags := 2, nameIndex := 21, descriptorIndex := 22, attributes := #[] }, { accessFlags := 2, nameIndex := 25, descriptorIndex := 26, attributes := #[] }, { accessFlags := 26, nameIndex := 1116, descriptorIndex := 1117, attributes := #[] }, { accessFlags := 24, nameIndex := 40, descriptorIndex := 26, attributes := #[] }, { accessFlags := 26, nameIndex := 1101, descriptorIndex := 1102, attributes := #[] }, { accessFlags := 26, nameIndex := 1121, descriptorIndex := 1122, attributes := #[] }, { accessFlags := 25, nameIndex := 599, descriptorIndex := 600, attributes := #[] }, { accessFlags := 24, nameIndex := 1125, descriptorIndex := 18, attributes := #[] }, { accessFlags := 24, nameIndex := 1127, descriptorIndex := 18, attributes := #[] }])
  fields := #[{ name := "value", type := (.array .byte), accessFlags := 18, slot := 0, constantValue := 0 }, { name := "coder", type := .byte, accessFlags := 18, slot := 1, constantValue := 0 }, { name := "hash", type := .int, accessFlags := 2, slot := 2, constantValue := 0 }, { name := "hashIsZero", type := .boolean, accessFlags := 2, slot := 3, constantValue := 0 }, { name := "serialVersionUID", type := .long, accessFlags := 26, slot := 0, constantValue := 0 }, { name := "COMPACT_STRINGS", type := .boolean, accessFlags := 24, slot := 1, constantValue := 0 }, { name := "serialPersistentFields", type := (.array (.object "java/io/ObjectStreamField")), accessFlags := 26, slot := 2, constantValue := 0 }, { name := "REPL", type := .char, accessFlags := 26, slot := 3, constantValue := 0 }, { name := "CASE_INSENSITIVE_ORDER", type := (.object "java/util/Comparator"), accessFlags := 25, slot := 4, constantValue := 0 }, { name := "LATIN1", type := .byte, accessFlags := 24, slot := 5, constantValue := 0 }, { name := "UTF16", type := .byte, accessFlags := 24, slot := 6, constantValue := 0 }]
  methods := #[k7m0, k7m1, k7m2, k7m3, k7m4, k7m5, k7m6, k7m7, k7m8, k7m9, k7m10]
  instanceTypes := #[(.array .byte), .byte, .int, .boolean]
  staticTypes := #[.long, .boolean, (.array (.object "java/io/ObjectStreamField")), .char, (.object "java/util/Comparator"), .byte, .byte]
  resolved := Array.replicate 1451 none
  statics := some 0 }

def pool8 : Array CpInfo := pool [(6, .class_ 8), (1, u "java/lang/Object"), (0, u "<init>"), (0, u "()V"), (1, .class_ 14), (1, u "java/lang/StringUTF16"), (31, u "$assertionsDisabled"), (0, u "Z"), (13, u "HI_BYTE_SHIFT"), (0, u "I"), (2, u "LO_BYTE_SHIFT"), (49, .methodref 12 116), (0, .nameAndType 117 118), (0, u "compress"), (0, u "([CI[BII)I"), (3, u "([CII)[B"), (138, u "coderFromArrayLen"), (0, u "([BI)B"), (106, .class_ 371), (1, u "java/lang/StringUTF16$LinesSpliterator"), (58, u "MAX_LENGTH"), (196, .class_ 628), (0, u "java/lang/StringUTF16$CodePointsSpliterator"), (0, .class_ 630), (0, u "java/lang/StringUTF16$CharsSpliterator")] 4

def k8m0 : Method := { name := "<init>", desc := "()V", sig := { parameters := [], returnType := none }, accessFlags := 0, code := none }
def k8c1 : Code := { maxStack := 2, maxLocals := 2, code := jdk_52_method_15_code, exceptionTable := #[], attributes := #[] }
def k8m1 : Method := { name := "coderFromArrayLen", desc := "([BI)B", sig := { parameters := [(.array .byte), .int], returnType := some .byte }, accessFlags := 8, code := some k8c1 }
def k8c2 : Code := { maxStack := 5, maxLocals := 6, code := jdk_52_method_16_code, exceptionTable := #[], attributes := #[] }
def k8m2 : Method := { name := "compress", desc := "([CII)[B", sig := { parameters := [(.array .char), .int, .int], returnType := some (.array .byte) }, accessFlags := 9, code := some k8c2 }
def k8c3 : Code := { maxStack := 3, maxLocals := 7, code := jdk_52_method_21_code, exceptionTable := #[], attributes := #[] }
def k8m3 : Method := { name := "compress", desc := "([CI[BII)I", sig := { parameters := [(.array .char), .int, (.array .byte), .int, .int], returnType := some .int }, accessFlags := 9, code := some k8c3 }
/-- java/lang/StringUTF16 -/
def k8 : Class := { plain "java/lang/StringUTF16" (some 0) with
  accessFlags := 48
  interfaces := #[]
  cf := some (fileOf pool8 12 #[.nestMembers #[627, 629, 369]] #[{ accessFlags := 0, nameIndex := 9, descriptorIndex := 10, attributes := #[] }, { accessFlags := 8, nameIndex := 261, descriptorIndex := 262, attributes := #[] }, { accessFlags := 9, nameIndex := 117, descriptorIndex := 122, attributes := #[] }, { accessFlags := 9, nameIndex := 117, descriptorIndex := 118, attributes := #[] }] 48 6 #[] #[{ accessFlags := 26, nameIndex := 61, descriptorIndex := 62, attributes := #[] }, { accessFlags := 26, nameIndex := 65, descriptorIndex := 62, attributes := #[] }, { accessFlags := 24, nameIndex := 430, descriptorIndex := 62, attributes := #[] }, { accessFlags := 4120, nameIndex := 46, descriptorIndex := 47, attributes := #[] }])
  fields := #[{ name := "HI_BYTE_SHIFT", type := .int, accessFlags := 26, slot := 0, constantValue := 0 }, { name := "LO_BYTE_SHIFT", type := .int, accessFlags := 26, slot := 1, constantValue := 0 }, { name := "MAX_LENGTH", type := .int, accessFlags := 24, slot := 2, constantValue := 0 }, { name := "$assertionsDisabled", type := .boolean, accessFlags := 4120, slot := 3, constantValue := 0 }]
  methods := #[k8m0, k8m1, k8m2, k8m3]
  instanceTypes := #[]
  staticTypes := #[.int, .int, .int, .boolean]
  resolved := Array.replicate 635 none
  statics := none }

def pool9 : Array CpInfo := pool [(1, .methodref 2 3), (0, .class_ 4), (0, .nameAndType 5 6), (0, u "java/lang/Object"), (0, u "<init>"), (0, u "()V"), (0, .class_ 8), (0, u "com/example/boxwood/boxwood/input/StringTable"), (0, .class_ 10), (0, u "java/lang/String"), (0, .fieldref 7 12), (0, .nameAndType 13 14), (0, u "tabbed"), (0, u "[Ljava/lang/String;"), (0, .fieldref 7 16), (0, .nameAndType 17 14), (0, u "spaced"), (0, .fieldref 7 19), (0, .nameAndType 20 14), (0, u "values"), (0, .fieldref 7 22), (0, .nameAndType 23 24), (0, u "hashes"), (0, u "[I"), (0, .methodref 7 26), (0, .nameAndType 27 28), (0, u "sharedIndentation"), (0, u "([CI)Ljava/lang/String;"), (0, .methodref 9 30), (0, .nameAndType 5 31), (0, u "([CII)V"), (0, .methodref 9 33), (0, .nameAndType 34 35), (0, u "length"), (0, u "()I"), (0, .methodref 9 37), (0, .nameAndType 38 35), (0, u "hashCode"), (0, .methodref 7 40), (0, .nameAndType 41 42), (0, u "slotOf"), (0, u "(II)I"), (0, .methodref 9 44), (0, .nameAndType 45 46), (0, u "equals"), (0, u "(Ljava/lang/Object;)Z"), (0, .fieldref 7 48), (0, .nameAndType 49 50), (0, u "placed"), (0, u "I"), (3, .integer 2654435769), (0, u "DEEPEST_SHARED"), (2, u "LONGEST_SHARED"), (0, u "FEWEST_SLOTS"), (1, u "MOST_SLOTS"), (3, u "text"), (1, u "value"), (0, u "(Ljava/lang/String;)Ljava/lang/String;"), (0, u "clear")] 4

def k9c0 : Code := { maxStack := 2, maxLocals := 1, code := prog_79_method_1_code, exceptionTable := #[], attributes := #[] }
def k9m0 : Method := { name := "<init>", desc := "()V", sig := { parameters := [], returnType := none }, accessFlags := 0, code := some k9c0 }
def k9c1 : Code := { maxStack := 5, maxLocals := 4, code := prog_79_method_2_code, exceptionTable := #[], attributes := #[] }
def k9m1 : Method := { name := "text", desc := "([CI)Ljava/lang/String;", sig := { parameters := [(.array .char), .int], returnType := some (.object "java/lang/String") }, accessFlags := 0, code := some k9c1 }
def k9c2 : Code := { maxStack := 3, maxLocals := 5, code := prog_79_method_3_code, exceptionTable := #[], attributes := #[] }
def k9m2 : Method := { name := "value", desc := "(Ljava/lang/String;)Ljava/lang/String;", sig := { parameters := [(.object "java/lang/String")], returnType := some (.object "java/lang/String") }, accessFlags := 0, code := some k9c2 }
def k9c3 : Code := { maxStack := 2, maxLocals := 1, code := prog_79_method_4_code, exceptionTable := #[], attributes := #[] }
def k9m3 : Method := { name := "clear", desc := "()V", sig := { parameters := [], returnType := none }, accessFlags := 0, code := some k9c3 }
def k9c4 : Code := { maxStack := 7, maxLocals := 6, code := prog_79_method_5_code, exceptionTable := #[], attributes := #[] }
def k9m4 : Method := { name := "sharedIndentation", desc := "([CI)Ljava/lang/String;", sig := { parameters := [(.array .char), .int], returnType := some (.object "java/lang/String") }, accessFlags := 2, code := some k9c4 }
def k9c5 : Code := { maxStack := 3, maxLocals := 3, code := prog_79_method_7_code, exceptionTable := #[], attributes := #[] }
def k9m5 : Method := { name := "slotOf", desc := "(II)I", sig := { parameters := [.int, .int], returnType := some .int }, accessFlags := 10, code := some k9c5 }
/-- com/example/boxwood/boxwood/input/StringTable -/
def k9 : Class := { plain "com/example/boxwood/boxwood/input/StringTable" (some 0) with
  accessFlags := 48
  interfaces := #[]
  cf := some (fileOf pool9 7 #[] #[{ accessFlags := 0, nameIndex := 5, descriptorIndex := 6, attributes := #[] }, { accessFlags := 0, nameIndex := 65, descriptorIndex := 28, attributes := #[] }, { accessFlags := 0, nameIndex := 67, descriptorIndex := 68, attributes := #[] }, { accessFlags := 0, nameIndex := 69, descriptorIndex := 6, attributes := #[] }, { accessFlags := 2, nameIndex := 27, descriptorIndex := 28, attributes := #[] }, { accessFlags := 10, nameIndex := 41, descriptorIndex := 42, attributes := #[] }] 48 2 #[] #[{ accessFlags := 26, nameIndex := 55, descriptorIndex := 50, attributes := #[] }, { accessFlags := 26, nameIndex := 58, descriptorIndex := 50, attributes := #[] }, { accessFlags := 26, nameIndex := 59, descriptorIndex := 50, attributes := #[] }, { accessFlags := 26, nameIndex := 61, descriptorIndex := 50, attributes := #[] }, { accessFlags := 2, nameIndex := 13, descriptorIndex := 14, attributes := #[] }, { accessFlags := 2, nameIndex := 17, descriptorIndex := 14, attributes := #[] }, { accessFlags := 2, nameIndex := 20, descriptorIndex := 14, attributes := #[] }, { accessFlags := 2, nameIndex := 23, descriptorIndex := 24, attributes := #[] }, { accessFlags := 2, nameIndex := 49, descriptorIndex := 50, attributes := #[] }])
  fields := #[{ name := "DEEPEST_SHARED", type := .int, accessFlags := 26, slot := 0, constantValue := 0 }, { name := "LONGEST_SHARED", type := .int, accessFlags := 26, slot := 1, constantValue := 0 }, { name := "FEWEST_SLOTS", type := .int, accessFlags := 26, slot := 2, constantValue := 0 }, { name := "MOST_SLOTS", type := .int, accessFlags := 26, slot := 3, constantValue := 0 }, { name := "tabbed", type := (.array (.object "java/lang/String")), accessFlags := 2, slot := 0, constantValue := 0 }, { name := "spaced", type := (.array (.object "java/lang/String")), accessFlags := 2, slot := 1, constantValue := 0 }, { name := "values", type := (.array (.object "java/lang/String")), accessFlags := 2, slot := 2, constantValue := 0 }, { name := "hashes", type := (.array .int), accessFlags := 2, slot := 3, constantValue := 0 }, { name := "placed", type := .int, accessFlags := 2, slot := 4, constantValue := 0 }]
  methods := #[k9m0, k9m1, k9m2, k9m3, k9m4, k9m5]
  instanceTypes := #[(.array (.object "java/lang/String")), (.array (.object "java/lang/String")), (.array (.object "java/lang/String")), (.array .int), .int]
  staticTypes := #[.int, .int, .int, .int]
  resolved := Array.replicate 74 none
  statics := none }

def pool10 : Array CpInfo := pool [(2, .class_ 4), (1, u "java/lang/Object"), (0, u "<init>"), (0, u "()V"), (17, .class_ 26), (1, u "jdk/internal/util/Preconditions"), (22, u "checkFromIndexSize"), (5, .class_ 56), (0, u "jdk/internal/util/Preconditions$4"), (57, .class_ 115), (0, u "jdk/internal/util/Preconditions$1"), (7, u "SIOOBE_FORMATTER"), (0, u "Ljava/util/function/BiFunction;"), (0, .class_ 126), (0, u "jdk/internal/util/Preconditions$2"), (3, u "AIOOBE_FORMATTER"), (0, .class_ 132), (0, u "jdk/internal/util/Preconditions$3"), (3, u "IOOBE_FORMATTER"), (46, u "(IIILjava/util/function/BiFunction;)I")] 10

def k10m0 : Method := { name := "<init>", desc := "()V", sig := { parameters := [], returnType := none }, accessFlags := 1, code := none }
def k10c1 : Code := { maxStack := 4, maxLocals := 4, code := jdk_41_method_13_code, exceptionTable := #[], attributes := #[] }
def k10m1 : Method := { name := "checkFromIndexSize", desc := "(IIILjava/util/function/BiFunction;)I", sig := { parameters := [.int, .int, .int, (.object "java/util/function/BiFunction")], returnType := some .int }, accessFlags := 9, code := some k10c1 }
/-- jdk/internal/util/Preconditions -/
def k10 : Class := { plain "jdk/internal/util/Preconditions" (some 0) with
  accessFlags := 33
  interfaces := #[]
  cf := some (fileOf pool10 24 #[.nestMembers #[55, 131, 125, 114]] #[{ accessFlags := 1, nameIndex := 5, descriptorIndex := 6, attributes := #[] }, { accessFlags := 9, nameIndex := 49, descriptorIndex := 183, attributes := #[] }] 33 2 #[] #[{ accessFlags := 25, nameIndex := 123, descriptorIndex := 124, attributes := #[] }, { accessFlags := 25, nameIndex := 130, descriptorIndex := 124, attributes := #[] }, { accessFlags := 25, nameIndex := 136, descriptorIndex := 124, attributes := #[] }])
  fields := #[{ name := "SIOOBE_FORMATTER", type := (.object "java/util/function/BiFunction"), accessFlags := 25, slot := 0, constantValue := 0 }, { name := "AIOOBE_FORMATTER", type := (.object "java/util/function/BiFunction"), accessFlags := 25, slot := 1, constantValue := 0 }, { name := "IOOBE_FORMATTER", type := (.object "java/util/function/BiFunction"), accessFlags := 25, slot := 2, constantValue := 0 }]
  methods := #[k10m0, k10m1]
  instanceTypes := #[]
  staticTypes := #[(.object "java/util/function/BiFunction"), (.object "java/util/function/BiFunction"), (.object "java/util/function/BiFunction")]
  resolved := Array.replicate 194 none
  statics := some 1 }

def pool11 : Array CpInfo := pool [(4, .class_ 6), (1, u "java/lang/Object"), (0, u "<init>"), (0, u "()V"), (5, .class_ 16), (1, u "java/lang/StringLatin1"), (28, .class_ 47), (1, u "jdk/internal/util/ArraysSupport"), (9, u "([B)I"), (26, .methodref 45 85), (0, .nameAndType 86 87), (0, u "vectorizedHashCode"), (0, u "(Ljava/lang/Object;IIII)I"), (33, u "$assertionsDisabled"), (0, u "Z"), (98, .class_ 223), (1, u "java/lang/StringLatin1$LinesSpliterator"), (57, u "equals"), (0, u "([B[B)Z"), (15, u "hashCode"), (91, .class_ 391), (0, u "java/lang/StringLatin1$CharsSpliterator")] 3

def k11m0 : Method := { name := "<init>", desc := "()V", sig := { parameters := [], returnType := none }, accessFlags := 0, code := none }
def k11c1 : Code := { maxStack := 3, maxLocals := 3, code := jdk_43_method_13_code, exceptionTable := #[], attributes := #[] }
def k11m1 : Method := { name := "equals", desc := "([B[B)Z", sig := { parameters := [(.array .byte), (.array .byte)], returnType := some .boolean }, accessFlags := 9, code := some k11c1 }
def k11c2 : Code := { maxStack := 5, maxLocals := 1, code := jdk_43_method_21_code, exceptionTable := #[], attributes := #[] }
def k11m2 : Method := { name := "hashCode", desc := "([B)I", sig := { parameters := [(.array .byte)], returnType := some .int }, accessFlags := 9, code := some k11c2 }
/-- java/lang/StringLatin1 -/
def k11 : Class := { plain "java/lang/StringLatin1" (some 0) with
  accessFlags := 48
  interfaces := #[]
  cf := some (fileOf pool11 14 #[.nestMembers #[390, 221]] #[{ accessFlags := 0, nameIndex := 7, descriptorIndex := 8, attributes := #[] }, { accessFlags := 9, nameIndex := 281, descriptorIndex := 282, attributes := #[] }, { accessFlags := 9, nameIndex := 298, descriptorIndex := 57, attributes := #[] }] 48 4 #[] #[{ accessFlags := 4120, nameIndex := 121, descriptorIndex := 122, attributes := #[] }])
  fields := #[{ name := "$assertionsDisabled", type := .boolean, accessFlags := 4120, slot := 0, constantValue := 0 }]
  methods := #[k11m0, k11m1, k11m2]
  instanceTypes := #[]
  staticTypes := #[.boolean]
  resolved := Array.replicate 395 none
  statics := none }

def pool12 : Array CpInfo := pool [(9, u "<init>"), (6, .class_ 18), (1, u "java/lang/Object"), (0, u "()V"), (1, .class_ 23), (1, u "jdk/internal/util/ArraysSupport"), (0, u "LOG2_ARRAY_LONG_INDEX_SCALE"), (0, u "I"), (2, u "U"), (0, u "Ljdk/internal/misc/Unsafe;"), (8, u "BIG_ENDIAN"), (0, u "Z"), (8, u "LOG2_BYTE_BIT_SIZE"), (4, u "LOG2_ARRAY_INT_INDEX_SCALE"), (6, .class_ 61), (0, u "[B"), (0, .methodref 21 63), (0, .nameAndType 64 65), (0, u "signedHashCode"), (0, u "(I[BII)I"), (42, u "JLA"), (0, u "Ljdk/internal/access/JavaLangAccess;"), (11, u "LOG2_ARRAY_BOOLEAN_INDEX_SCALE"), (9, u "LOG2_ARRAY_BYTE_INDEX_SCALE"), (5, u "LOG2_ARRAY_CHAR_INDEX_SCALE"), (5, u "LOG2_ARRAY_SHORT_INDEX_SCALE"), (18, u "LOG2_ARRAY_FLOAT_INDEX_SCALE"), (24, u "LOG2_ARRAY_DOUBLE_INDEX_SCALE"), (89, u "T_BOOLEAN"), (2, u "T_CHAR"), (1, u "T_FLOAT"), (1, u "T_DOUBLE"), (1, u "T_BYTE"), (1, u "T_SHORT"), (1, u "T_INT"), (1, u "T_LONG"), (1, u "SOFT_MAX_ARRAY_LENGTH"), (26, u "vectorizedHashCode"), (0, u "(Ljava/lang/Object;IIII)I")] 55

def k12m0 : Method := { name := "<init>", desc := "()V", sig := { parameters := [], returnType := none }, accessFlags := 2, code := none }
def k12c1 : Code := { maxStack := 4, maxLocals := 5, code := jdk_48_method_4_code, exceptionTable := #[], attributes := #[] }
def k12m1 : Method := { name := "vectorizedHashCode", desc := "(Ljava/lang/Object;IIII)I", sig := { parameters := [(.object "java/lang/Object"), .int, .int, .int, .int], returnType := some .int }, accessFlags := 9, code := some k12c1 }
def k12c2 : Code := { maxStack := 3, maxLocals := 6, code := jdk_48_method_5_code, exceptionTable := #[], attributes := #[] }
def k12m2 : Method := { name := "signedHashCode", desc := "(I[BII)I", sig := { parameters := [.int, (.array .byte), .int, .int], returnType := some .int }, accessFlags := 10, code := some k12c2 }
/-- jdk/internal/util/ArraysSupport -/
def k12 : Class := { plain "jdk/internal/util/ArraysSupport" (some 0) with
  accessFlags := 33
  interfaces := #[]
  cf := some (fileOf pool12 21 #[] #[{ accessFlags := 2, nameIndex := 9, descriptorIndex := 19, attributes := #[] }, { accessFlags := 9, nameIndex := 321, descriptorIndex := 322, attributes := #[] }, { accessFlags := 10, nameIndex := 64, descriptorIndex := 65, attributes := #[] }] 33 16 #[] #[{ accessFlags := 24, nameIndex := 28, descriptorIndex := 29, attributes := #[] }, { accessFlags := 26, nameIndex := 38, descriptorIndex := 39, attributes := #[] }, { accessFlags := 25, nameIndex := 121, descriptorIndex := 25, attributes := #[] }, { accessFlags := 25, nameIndex := 131, descriptorIndex := 25, attributes := #[] }, { accessFlags := 25, nameIndex := 137, descriptorIndex := 25, attributes := #[] }, { accessFlags := 25, nameIndex := 143, descriptorIndex := 25, attributes := #[] }, { accessFlags := 25, nameIndex := 53, descriptorIndex := 25, attributes := #[] }, { accessFlags := 25, nameIndex := 24, descriptorIndex := 25, attributes := #[] }, { accessFlags := 25, nameIndex := 162, descriptorIndex := 25, attributes := #[] }, { accessFlags := 25, nameIndex := 187, descriptorIndex := 25, attributes := #[] }, { accessFlags := 26, nameIndex := 48, descriptorIndex := 25, attributes := #[] }, { accessFlags := 25, nameIndex := 277, descriptorIndex := 25, attributes := #[] }, { accessFlags := 25, nameIndex := 280, descriptorIndex := 25, attributes := #[] }, { accessFlags := 25, nameIndex := 282, descriptorIndex := 25, attributes := #[] }, { accessFlags := 25, nameIndex := 284, descriptorIndex := 25, attributes := #[] }, { accessFlags := 25, nameIndex := 286, descriptorIndex := 25, attributes := #[] }, { accessFlags := 25, nameIndex := 288, descriptorIndex := 25, attributes := #[] }, { accessFlags := 25, nameIndex := 290, descriptorIndex := 25, attributes := #[] }, { accessFlags := 25, nameIndex := 292, descriptorIndex := 25, attributes := #[] }, { accessFlags := 26, nameIndex := 108, descriptorIndex := 109, attributes := #[] }, { accessFlags := 25, nameIndex := 294, descriptorIndex := 25, attributes := #[] }])
  fields := #[{ name := "U", type := (.object "jdk/internal/misc/Unsafe"), accessFlags := 24, slot := 0, constantValue := 0 }, { name := "BIG_ENDIAN", type := .boolean, accessFlags := 26, slot := 1, constantValue := 0 }, { name := "LOG2_ARRAY_BOOLEAN_INDEX_SCALE", type := .int, accessFlags := 25, slot := 2, constantValue := 0 }, { name := "LOG2_ARRAY_BYTE_INDEX_SCALE", type := .int, accessFlags := 25, slot := 3, constantValue := 0 }, { name := "LOG2_ARRAY_CHAR_INDEX_SCALE", type := .int, accessFlags := 25, slot := 4, constantValue := 0 }, { name := "LOG2_ARRAY_SHORT_INDEX_SCALE", type := .int, accessFlags := 25, slot := 5, constantValue := 0 }, { name := "LOG2_ARRAY_INT_INDEX_SCALE", type := .int, accessFlags := 25, slot := 6, constantValue := 0 }, { name := "LOG2_ARRAY_LONG_INDEX_SCALE", type := .int, accessFlags := 25, slot := 7, constantValue := 0 }, { name := "LOG2_ARRAY_FLOAT_INDEX_SCALE", type := .int, accessFlags := 25, slot := 8, constantValue := 0 }, { name := "LOG2_ARRAY_DOUBLE_INDEX_SCALE", type := .int, accessFlags := 25, slot := 9, constantValue := 0 }, { name := "LOG2_BYTE_BIT_SIZE", type := .int, accessFlags := 26, slot := 10, constantValue := 0 }, { name := "T_BOOLEAN", type := .int, accessFlags := 25, slot := 11, constantValue := 0 }, { name := "T_CHAR", type := .int, accessFlags := 25, slot := 12, constantValue := 0 }, { name := "T_FLOAT", type := .int, accessFlags := 25, slot := 13, constantValue := 0 }, { name := "T_DOUBLE", type := .int, accessFlags := 25, slot := 14, constantValue := 0 }, { name := "T_BYTE", type := .int, accessFlags := 25, slot := 15, constantValue := 0 }, { name := "T_SHORT", type := .int, accessFlags := 25, slot := 16, constantValue := 0 }, { name := "T_INT", type := .int, accessFlags := 25, slot := 17, constantValue := 0 }, { name := "T_LONG", type := .int, accessFlags := 25, slot := 18, constantValue := 0 }, { name := "JLA", type := (.object "jdk/internal/access/JavaLangAccess"), accessFlags := 26, slot := 19, constantValue := 0 }, { name := "SOFT_MAX_ARRAY_LENGTH", type := .int, accessFlags := 25, slot := 20, constantValue := 0 }]
  methods := #[k12m0, k12m1, k12m2]
  instanceTypes := #[]
  staticTypes := #[(.object "jdk/internal/misc/Unsafe"), .boolean, .int, .int, .int, .int, .int, .int, .int, .int, .int, .int, .int, .int, .int, .int, .int, .int, .int, (.object "jdk/internal/access/JavaLangAccess"), .int]
  resolved := Array.replicate 378 none
  statics := none }

def pool13 : Array CpInfo := pool [(1, u "java/lang/Cloneable"), (0, .class_ 1), (0, u "java/lang/Object"), (0, .class_ 3)] 3

/-- java/lang/Cloneable -/
def k13 : Class := { plain "java/lang/Cloneable" (some 0) with
  accessFlags := 1537
  interfaces := #[]
  cf := some (fileOf pool13 2 #[] #[] 1537 4 #[] #[])
  fields := #[]
  methods := #[]
  instanceTypes := #[]
  staticTypes := #[]
  resolved := Array.replicate 8 none
  statics := none }

/-- the primitive byte -/
def k14 : Class := { plain "byte" none with kind := .primitive 'B', accessFlags := 0x411 }
/-- [B -/
def k15 : Class := { plain "[B" (some 0) with kind := .array 14 .byte, interfaces := #[13, 2], accessFlags := 1041 }

/-- the primitive char -/
def k16 : Class := { plain "char" none with kind := .primitive 'C', accessFlags := 0x411 }
/-- [C -/
def k17 : Class := { plain "[C" (some 0) with kind := .array 16 .char, interfaces := #[13, 2], accessFlags := 1041 }

/-- the primitive int -/
def k18 : Class := { plain "int" none with kind := .primitive 'I', accessFlags := 0x411 }
/-- [I -/
def k19 : Class := { plain "[I" (some 0) with kind := .array 18 .int, interfaces := #[13, 2], accessFlags := 1041 }

/-- [Ljava/lang/String; -/
def k20 : Class := { plain "[Ljava/lang/String;" (some 0) with kind := .array 7 (.object "java/lang/String"), interfaces := #[13, 2], accessFlags := 1041 }

def heap : Heap := #[{ cls := 7, slots := #[.long 0, .int 1, .null, .int 0, .null, .int 0, .int 0], vm := .statics 7 },
  { cls := 10, slots := #[.null, .null, .null], vm := .statics 10 }]
def classes : Array Class := #[k0, k1, k2, k3, k4, k5, k6, k7, k8, k9, k10, k11, k12, k13, k14, k15, k16, k17, k18, k19, k20]
def interned : List (Array UInt16 × Addr) := []
def slotsUsed : Nat := 10
def theMethod : MethodId := ⟨1, 1⟩
def args0 : Array Value := #[.int 5, .int 7, .int 1, .int 2]
def aboutOver (below : List Frame) : State where
  vm := { classes := classes, interned := interned.toArray }
  heap := heap
  slotsUsed := slotsUsed
  threads := #[{ frames := .invoking theMethod args0 :: below }]
def below0 : List Frame := [.native { method := ⟨0, 0⟩, args := #[] }]
def about1 : State := aboutOver below0
def p0 : Program := .bare "" "" ""
def e0 : Env := launch0.env 0 0 0
theorem w_frames : about1.frames = Frame.invoking theMethod args0 :: below0 := rfl
set_option maxRecDepth 65536 in
theorem w_args : argsFit about1.vm theMethod args0 = true := by decide +kernel
set_option maxRecDepth 65536 in
theorem w_heap : heapFits about1 = true := by decide +kernel
set_option maxRecDepth 65536 in
theorem w_runnable : about1.curStatus? = some .runnable := by decide +kernel
set_option maxRecDepth 65536 in
theorem w_alone : about1.alone = true := by decide +kernel
set_option maxRecDepth 65536 in
theorem w_named : about1.methodNamed? x = some theMethod := by decide +kernel
set_option maxRecDepth 65536 in
theorem w_hears : about1.hears theMethod below0 = true := by decide +kernel
set_option maxRecDepth 65536 in
theorem w_ripe : about1.ripe theMethod args0 below0 = true := by decide +kernel
theorem w_running : about1.status = .running := rfl
set_option maxRecDepth 65536 in
theorem w_room : about1.hasRoom e0.platform room_1 = true :=
  launch0.hasRoom_least _ room_1 (by decide +kernel) (by decide +kernel) (by decide +kernel) (by decide +kernel) (by decide +kernel) (by decide +kernel)
theorem allAtoms_all (ts : List Jvm.Cond) (a : Array Jvm.Value) (st : Jvm.State) : (allAtoms ts).before a st = ts.all (fun c => c.before a st) := by
  induction ts with
  | nil => rfl
  | cons c t ih =>
    show (Jvm.Cond.and c (allAtoms t)).before a st = _
    rw [Jvm.Cond.before_and, ih, List.all_cons]
def words1 : List Jvm.Cond := Jvm.Cond.code x code maxLocals ret :: tables_1
/-- a 'code' word, met by the world's own term for the bytes: nothing is compared byte by byte -/
theorem code_word {y : MethodName} {bytes : ByteArray} {mx : Nat} {rt : Option FieldType} {a : Array Value} {s : State} {m : MethodId} {meth : Method} {c : Code} (h1 : s.methodNamed? y = some m) (h2 : s.vm.method? m = some meth) (h3 : meth.code = some c) (h4 : c.code = bytes)
    (h5 : (c.maxLocals == mx && c.exceptionTable.isEmpty && decide (c.maxStack ≤ mostOperands) && decide (meth.sig.returnType = rt) && !meth.locks && decide (parseMethodDescriptor y.desc = some meth.sig)) = true) : (Jvm.Cond.code y bytes mx rt).before a s = true := by
  simp only [Bool.and_eq_true, beq_iff_eq, Bool.not_eq_true', decide_eq_true_eq] at h5
  obtain ⟨⟨⟨⟨⟨g1, g2⟩, g3⟩, g4⟩, g5⟩, g6⟩ := h5
  simp [Cond.before, Cond.holds, Cond.value, h1, h2, h3, h4, g1, g2, g3, g4, g5, g6]
def isCode : Jvm.Cond → Bool
  | .code _ _ _ _ => true
  | _ => false
theorem all_split {L : List Jvm.Cond} {P : Jvm.Cond → Bool} (h1 : L.all (fun c => isCode c || P c) = true) (h2 : ∀ c ∈ L.filter isCode, P c = true) : L.all P = true := by
  refine List.all_eq_true.mpr fun c hc => ?_
  have h := List.all_eq_true.mp h1 c hc
  rcases Bool.eq_false_or_eq_true (isCode c) with hi | hi
  · exact h2 c (List.mem_filter.mpr ⟨hc, hi⟩)
  · simpa [hi] using h
set_option maxRecDepth 65536 in
theorem w_c0 : (Jvm.Cond.code x code maxLocals ret).before args0 about1 = true := code_word (m := ⟨1, 1⟩) (meth := k1m1) (c := k1c1) (by decide +kernel) rfl rfl rfl (by decide +kernel)
set_option maxRecDepth 65536 in
theorem w_c1 : (Jvm.Cond.code ({ cls := "java/lang/String", name := "<init>", desc := "([C)V" } : Jvm.MethodName) jdk_42_method_3_code (2 : Nat) (Option.none : Option Jvm.ClassFile.FieldType)).before args0 about1 = true := code_word (m := ⟨7, 1⟩) (meth := k7m1) (c := k7c1) (by decide +kernel) rfl rfl rfl (by decide +kernel)
set_option maxRecDepth 65536 in
theorem w_c2 : (Jvm.Cond.code ({ cls := "java/lang/String", name := "<init>", desc := "([CIILjava/lang/Void;)V" } : Jvm.MethodName) jdk_42_method_149_code (6 : Nat) (Option.none : Option Jvm.ClassFile.FieldType)).before args0 about1 = true := code_word (m := ⟨7, 7⟩) (meth := k7m7) (c := k7c7) (by decide +kernel) rfl rfl rfl (by decide +kernel)
set_option maxRecDepth 65536 in
theorem w_c3 : (Jvm.Cond.code ({ cls := "java/lang/Object", name := "<init>", desc := "()V" } : Jvm.MethodName) object_method_1_code (1 : Nat) (Option.none : Option Jvm.ClassFile.FieldType)).before args0 about1 = true := code_word (m := ⟨0, 0⟩) (meth := k0m0) (c := k0c0) (by decide +kernel) rfl rfl rfl (by decide +kernel)
set_option maxRecDepth 65536 in
theorem w_c4 : (Jvm.Cond.code ({ cls := "java/lang/StringUTF16", name := "compress", desc := "([CII)[B" } : Jvm.MethodName) jdk_52_method_16_code (6 : Nat) (Option.some (Jvm.ClassFile.FieldType.array Jvm.ClassFile.FieldType.byte))).before args0 about1 = true := code_word (m := ⟨8, 2⟩) (meth := k8m2) (c := k8c2) (by decide +kernel) rfl rfl rfl (by decide +kernel)
set_option maxRecDepth 65536 in
theorem w_c5 : (Jvm.Cond.code ({ cls := "java/lang/StringUTF16", name := "compress", desc := "([CI[BII)I" } : Jvm.MethodName) jdk_52_method_21_code (7 : Nat) (Option.some Jvm.ClassFile.FieldType.int)).before args0 about1 = true := code_word (m := ⟨8, 3⟩) (meth := k8m3) (c := k8c3) (by decide +kernel) rfl rfl rfl (by decide +kernel)
set_option maxRecDepth 65536 in
theorem w_c6 : (Jvm.Cond.code ({ cls := "java/lang/StringUTF16", name := "coderFromArrayLen", desc := "([BI)B" } : Jvm.MethodName) jdk_52_method_15_code (2 : Nat) (Option.some Jvm.ClassFile.FieldType.byte)).before args0 about1 = true := code_word (m := ⟨8, 1⟩) (meth := k8m1) (c := k8c1) (by decide +kernel) rfl rfl rfl (by decide +kernel)
set_option maxRecDepth 65536 in
theorem w_c7 : (Jvm.Cond.code ({ cls := "com/example/boxwood/boxwood/input/StringTable", name := "<init>", desc := "()V" } : Jvm.MethodName) prog_79_method_1_code (1 : Nat) (Option.none : Option Jvm.ClassFile.FieldType)).before args0 about1 = true := code_word (m := ⟨9, 0⟩) (meth := k9m0) (c := k9c0) (by decide +kernel) rfl rfl rfl (by decide +kernel)
set_option maxRecDepth 65536 in
theorem w_c8 : (Jvm.Cond.code ({ cls := "com/example/boxwood/boxwood/input/StringTable", name := "text", desc := "([CI)Ljava/lang/String;" } : Jvm.MethodName) prog_79_method_2_code (4 : Nat) (Option.some (Jvm.ClassFile.FieldType.object "java/lang/String"))).before args0 about1 = true := code_word (m := ⟨9, 1⟩) (meth := k9m1) (c := k9c1) (by decide +kernel) rfl rfl rfl (by decide +kernel)
set_option maxRecDepth 65536 in
theorem w_c9 : (Jvm.Cond.code ({ cls := "com/example/boxwood/boxwood/input/StringTable", name := "sharedIndentation", desc := "([CI)Ljava/lang/String;" } : Jvm.MethodName) prog_79_method_5_code (6 : Nat) (Option.some (Jvm.ClassFile.FieldType.object "java/lang/String"))).before args0 about1 = true := code_word (m := ⟨9, 4⟩) (meth := k9m4) (c := k9c4) (by decide +kernel) rfl rfl rfl (by decide +kernel)
set_option maxRecDepth 65536 in
theorem w_c10 : (Jvm.Cond.code ({ cls := "java/lang/String", name := "<init>", desc := "([CII)V" } : Jvm.MethodName) jdk_42_method_4_code (4 : Nat) (Option.none : Option Jvm.ClassFile.FieldType)).before args0 about1 = true := code_word (m := ⟨7, 2⟩) (meth := k7m2) (c := k7c2) (by decide +kernel) rfl rfl rfl (by decide +kernel)
set_option maxRecDepth 65536 in
theorem w_c11 : (Jvm.Cond.code ({ cls := "java/lang/String", name := "rangeCheck", desc := "([CII)Ljava/lang/Void;" } : Jvm.MethodName) jdk_42_method_5_code (3 : Nat) (Option.some (Jvm.ClassFile.FieldType.object "java/lang/Void"))).before args0 about1 = true := code_word (m := ⟨7, 3⟩) (meth := k7m3) (c := k7c3) (by decide +kernel) rfl rfl rfl (by decide +kernel)
set_option maxRecDepth 65536 in
theorem w_c12 : (Jvm.Cond.code ({ cls := "java/lang/String", name := "checkBoundsOffCount", desc := "(III)I" } : Jvm.MethodName) jdk_42_method_157_code (3 : Nat) (Option.some Jvm.ClassFile.FieldType.int)).before args0 about1 = true := code_word (m := ⟨7, 10⟩) (meth := k7m10) (c := k7c10) (by decide +kernel) rfl rfl rfl (by decide +kernel)
set_option maxRecDepth 65536 in
theorem w_c13 : (Jvm.Cond.code ({ cls := "jdk/internal/util/Preconditions", name := "checkFromIndexSize", desc := "(IIILjava/util/function/BiFunction;)I" } : Jvm.MethodName) jdk_41_method_13_code (4 : Nat) (Option.some Jvm.ClassFile.FieldType.int)).before args0 about1 = true := code_word (m := ⟨10, 1⟩) (meth := k10m1) (c := k10c1) (by decide +kernel) rfl rfl rfl (by decide +kernel)
set_option maxRecDepth 65536 in
theorem w_c14 : (Jvm.Cond.code ({ cls := "com/example/boxwood/boxwood/input/StringTable", name := "value", desc := "(Ljava/lang/String;)Ljava/lang/String;" } : Jvm.MethodName) prog_79_method_3_code (5 : Nat) (Option.some (Jvm.ClassFile.FieldType.object "java/lang/String"))).before args0 about1 = true := code_word (m := ⟨9, 2⟩) (meth := k9m2) (c := k9c2) (by decide +kernel) rfl rfl rfl (by decide +kernel)
set_option maxRecDepth 65536 in
theorem w_c15 : (Jvm.Cond.code ({ cls := "java/lang/String", name := "length", desc := "()I" } : Jvm.MethodName) jdk_42_method_54_code (1 : Nat) (Option.some Jvm.ClassFile.FieldType.int)).before args0 about1 = true := code_word (m := ⟨7, 4⟩) (meth := k7m4) (c := k7c4) (by decide +kernel) rfl rfl rfl (by decide +kernel)
set_option maxRecDepth 65536 in
theorem w_c16 : (Jvm.Cond.code ({ cls := "java/lang/String", name := "coder", desc := "()B" } : Jvm.MethodName) jdk_42_method_152_code (1 : Nat) (Option.some Jvm.ClassFile.FieldType.byte)).before args0 about1 = true := code_word (m := ⟨7, 8⟩) (meth := k7m8) (c := k7c8) (by decide +kernel) rfl rfl rfl (by decide +kernel)
set_option maxRecDepth 65536 in
theorem w_c17 : (Jvm.Cond.code ({ cls := "java/lang/String", name := "hashCode", desc := "()I" } : Jvm.MethodName) jdk_42_method_78_code (2 : Nat) (Option.some Jvm.ClassFile.FieldType.int)).before args0 about1 = true := code_word (m := ⟨7, 6⟩) (meth := k7m6) (c := k7c6) (by decide +kernel) rfl rfl rfl (by decide +kernel)
set_option maxRecDepth 65536 in
theorem w_c18 : (Jvm.Cond.code ({ cls := "java/lang/String", name := "isLatin1", desc := "()Z" } : Jvm.MethodName) jdk_42_method_154_code (1 : Nat) (Option.some Jvm.ClassFile.FieldType.boolean)).before args0 about1 = true := code_word (m := ⟨7, 9⟩) (meth := k7m9) (c := k7c9) (by decide +kernel) rfl rfl rfl (by decide +kernel)
set_option maxRecDepth 65536 in
theorem w_c19 : (Jvm.Cond.code ({ cls := "java/lang/StringLatin1", name := "hashCode", desc := "([B)I" } : Jvm.MethodName) jdk_43_method_21_code (1 : Nat) (Option.some Jvm.ClassFile.FieldType.int)).before args0 about1 = true := code_word (m := ⟨11, 2⟩) (meth := k11m2) (c := k11c2) (by decide +kernel) rfl rfl rfl (by decide +kernel)
set_option maxRecDepth 65536 in
theorem w_c20 : (Jvm.Cond.code ({ cls := "com/example/boxwood/boxwood/input/StringTable", name := "slotOf", desc := "(II)I" } : Jvm.MethodName) prog_79_method_7_code (3 : Nat) (Option.some Jvm.ClassFile.FieldType.int)).before args0 about1 = true := code_word (m := ⟨9, 5⟩) (meth := k9m5) (c := k9c5) (by decide +kernel) rfl rfl rfl (by decide +kernel)
set_option maxRecDepth 65536 in
theorem w_c21 : (Jvm.Cond.code ({ cls := "java/lang/String", name := "equals", desc := "(Ljava/lang/Object;)Z" } : Jvm.MethodName) jdk_42_method_66_code (3 : Nat) (Option.some Jvm.ClassFile.FieldType.boolean)).before args0 about1 = true := code_word (m := ⟨7, 5⟩) (meth := k7m5) (c := k7c5) (by decide +kernel) rfl rfl rfl (by decide +kernel)
set_option maxRecDepth 65536 in
theorem w_c22 : (Jvm.Cond.code ({ cls := "java/lang/StringLatin1", name := "equals", desc := "([B[B)Z" } : Jvm.MethodName) jdk_43_method_13_code (3 : Nat) (Option.some Jvm.ClassFile.FieldType.boolean)).before args0 about1 = true := code_word (m := ⟨11, 1⟩) (meth := k11m1) (c := k11c1) (by decide +kernel) rfl rfl rfl (by decide +kernel)
set_option maxRecDepth 65536 in
theorem w_c23 : (Jvm.Cond.code ({ cls := "com/example/boxwood/boxwood/input/StringTable", name := "clear", desc := "()V" } : Jvm.MethodName) prog_79_method_4_code (1 : Nat) (Option.none : Option Jvm.ClassFile.FieldType)).before args0 about1 = true := code_word (m := ⟨9, 3⟩) (meth := k9m3) (c := k9c3) (by decide +kernel) rfl rfl rfl (by decide +kernel)
set_option maxRecDepth 65536 in
theorem w_c24 : (Jvm.Cond.code ({ cls := "jdk/internal/util/ArraysSupport", name := "vectorizedHashCode", desc := "(Ljava/lang/Object;IIII)I" } : Jvm.MethodName) jdk_48_method_4_code (5 : Nat) (Option.some Jvm.ClassFile.FieldType.int)).before args0 about1 = true := code_word (m := ⟨12, 1⟩) (meth := k12m1) (c := k12c1) (by decide +kernel) rfl rfl rfl (by decide +kernel)
set_option maxRecDepth 65536 in
theorem w_c25 : (Jvm.Cond.code ({ cls := "jdk/internal/util/ArraysSupport", name := "signedHashCode", desc := "(I[BII)I" } : Jvm.MethodName) jdk_48_method_5_code (6 : Nat) (Option.some Jvm.ClassFile.FieldType.int)).before args0 about1 = true := code_word (m := ⟨12, 2⟩) (meth := k12m2) (c := k12c2) (by decide +kernel) rfl rfl rfl (by decide +kernel)
def codes1 : List Jvm.Cond := [Jvm.Cond.code x code maxLocals ret, Jvm.Cond.code ({ cls := "java/lang/String", name := "<init>", desc := "([C)V" } : Jvm.MethodName) jdk_42_method_3_code (2 : Nat) (Option.none : Option Jvm.ClassFile.FieldType), Jvm.Cond.code ({ cls := "java/lang/String", name := "<init>", desc := "([CIILjava/lang/Void;)V" } : Jvm.MethodName) jdk_42_method_149_code (6 : Nat) (Option.none : Option Jvm.ClassFile.FieldType), Jvm.Cond.code ({ cls := "java/lang/Object", name := "<init>", desc := "()V" } : Jvm.MethodName) object_method_1_code (1 : Nat) (Option.none : Option Jvm.ClassFile.FieldType), Jvm.Cond.code ({ cls := "java/lang/StringUTF16", name := "compress", desc := "([CII)[B" } : Jvm.MethodName) jdk_52_method_16_code (6 : Nat) (Option.some (Jvm.ClassFile.FieldType.array Jvm.ClassFile.FieldType.byte)), Jvm.Cond.code ({ cls := "java/lang/StringUTF16", name := "compress", desc := "([CI[BII)I" } : Jvm.MethodName) jdk_52_method_21_code (7 : Nat) (Option.some Jvm.ClassFile.FieldType.int), Jvm.Cond.code ({ cls := "java/lang/StringUTF16", name := "coderFromArrayLen", desc := "([BI)B" } : Jvm.MethodName) jdk_52_method_15_code (2 : Nat) (Option.some Jvm.ClassFile.FieldType.byte), Jvm.Cond.code ({ cls := "com/example/boxwood/boxwood/input/StringTable", name := "<init>", desc := "()V" } : Jvm.MethodName) prog_79_method_1_code (1 : Nat) (Option.none : Option Jvm.ClassFile.FieldType), Jvm.Cond.code ({ cls := "com/example/boxwood/boxwood/input/StringTable", name := "text", desc := "([CI)Ljava/lang/String;" } : Jvm.MethodName) prog_79_method_2_code (4 : Nat) (Option.some (Jvm.ClassFile.FieldType.object "java/lang/String")), Jvm.Cond.code ({ cls := "com/example/boxwood/boxwood/input/StringTable", name := "sharedIndentation", desc := "([CI)Ljava/lang/String;" } : Jvm.MethodName) prog_79_method_5_code (6 : Nat) (Option.some (Jvm.ClassFile.FieldType.object "java/lang/String")), Jvm.Cond.code ({ cls := "java/lang/String", name := "<init>", desc := "([CII)V" } : Jvm.MethodName) jdk_42_method_4_code (4 : Nat) (Option.none : Option Jvm.ClassFile.FieldType), Jvm.Cond.code ({ cls := "java/lang/String", name := "rangeCheck", desc := "([CII)Ljava/lang/Void;" } : Jvm.MethodName) jdk_42_method_5_code (3 : Nat) (Option.some (Jvm.ClassFile.FieldType.object "java/lang/Void")), Jvm.Cond.code ({ cls := "java/lang/String", name := "checkBoundsOffCount", desc := "(III)I" } : Jvm.MethodName) jdk_42_method_157_code (3 : Nat) (Option.some Jvm.ClassFile.FieldType.int), Jvm.Cond.code ({ cls := "jdk/internal/util/Preconditions", name := "checkFromIndexSize", desc := "(IIILjava/util/function/BiFunction;)I" } : Jvm.MethodName) jdk_41_method_13_code (4 : Nat) (Option.some Jvm.ClassFile.FieldType.int), Jvm.Cond.code ({ cls := "com/example/boxwood/boxwood/input/StringTable", name := "value", desc := "(Ljava/lang/String;)Ljava/lang/String;" } : Jvm.MethodName) prog_79_method_3_code (5 : Nat) (Option.some (Jvm.ClassFile.FieldType.object "java/lang/String")), Jvm.Cond.code ({ cls := "java/lang/String", name := "length", desc := "()I" } : Jvm.MethodName) jdk_42_method_54_code (1 : Nat) (Option.some Jvm.ClassFile.FieldType.int), Jvm.Cond.code ({ cls := "java/lang/String", name := "coder", desc := "()B" } : Jvm.MethodName) jdk_42_method_152_code (1 : Nat) (Option.some Jvm.ClassFile.FieldType.byte), Jvm.Cond.code ({ cls := "java/lang/String", name := "hashCode", desc := "()I" } : Jvm.MethodName) jdk_42_method_78_code (2 : Nat) (Option.some Jvm.ClassFile.FieldType.int), Jvm.Cond.code ({ cls := "java/lang/String", name := "isLatin1", desc := "()Z" } : Jvm.MethodName) jdk_42_method_154_code (1 : Nat) (Option.some Jvm.ClassFile.FieldType.boolean), Jvm.Cond.code ({ cls := "java/lang/StringLatin1", name := "hashCode", desc := "([B)I" } : Jvm.MethodName) jdk_43_method_21_code (1 : Nat) (Option.some Jvm.ClassFile.FieldType.int), Jvm.Cond.code ({ cls := "com/example/boxwood/boxwood/input/StringTable", name := "slotOf", desc := "(II)I" } : Jvm.MethodName) prog_79_method_7_code (3 : Nat) (Option.some Jvm.ClassFile.FieldType.int), Jvm.Cond.code ({ cls := "java/lang/String", name := "equals", desc := "(Ljava/lang/Object;)Z" } : Jvm.MethodName) jdk_42_method_66_code (3 : Nat) (Option.some Jvm.ClassFile.FieldType.boolean), Jvm.Cond.code ({ cls := "java/lang/StringLatin1", name := "equals", desc := "([B[B)Z" } : Jvm.MethodName) jdk_43_method_13_code (3 : Nat) (Option.some Jvm.ClassFile.FieldType.boolean), Jvm.Cond.code ({ cls := "com/example/boxwood/boxwood/input/StringTable", name := "clear", desc := "()V" } : Jvm.MethodName) prog_79_method_4_code (1 : Nat) (Option.none : Option Jvm.ClassFile.FieldType), Jvm.Cond.code ({ cls := "jdk/internal/util/ArraysSupport", name := "vectorizedHashCode", desc := "(Ljava/lang/Object;IIII)I" } : Jvm.MethodName) jdk_48_method_4_code (5 : Nat) (Option.some Jvm.ClassFile.FieldType.int), Jvm.Cond.code ({ cls := "jdk/internal/util/ArraysSupport", name := "signedHashCode", desc := "(I[BII)I" } : Jvm.MethodName) jdk_48_method_5_code (6 : Nat) (Option.some Jvm.ClassFile.FieldType.int)]
set_option maxRecDepth 65536 in
theorem codes_eq : words1.filter isCode = codes1 := rfl
theorem w_codes : ∀ c ∈ words1.filter isCode, c.before args0 about1 = true := by
  rw [codes_eq]
  intro c hc
  simp only [codes1, List.mem_cons, List.not_mem_nil, or_false] at hc
  rcases hc with rfl | rfl | rfl | rfl | rfl | rfl | rfl | rfl | rfl | rfl | rfl | rfl | rfl | rfl | rfl | rfl | rfl | rfl | rfl | rfl | rfl | rfl | rfl | rfl | rfl | rfl
  · exact w_c0
  · exact w_c1
  · exact w_c2
  · exact w_c3
  · exact w_c4
  · exact w_c5
  · exact w_c6
  · exact w_c7
  · exact w_c8
  · exact w_c9
  · exact w_c10
  · exact w_c11
  · exact w_c12
  · exact w_c13
  · exact w_c14
  · exact w_c15
  · exact w_c16
  · exact w_c17
  · exact w_c18
  · exact w_c19
  · exact w_c20
  · exact w_c21
  · exact w_c22
  · exact w_c23
  · exact w_c24
  · exact w_c25
set_option maxRecDepth 65536 in
theorem w_t1 : (words1.take 24).all (fun c => isCode c || c.before args0 about1) = true := by decide +kernel
set_option maxRecDepth 65536 in
theorem w_t2 : ((words1.drop 24).take 24).all (fun c => isCode c || c.before args0 about1) = true := by decide +kernel
set_option maxRecDepth 65536 in
theorem w_t3 : (((words1.drop 24).drop 24).take 24).all (fun c => isCode c || c.before args0 about1) = true := by decide +kernel
set_option maxRecDepth 65536 in
theorem w_t4 : ((((words1.drop 24).drop 24).drop 24).take 24).all (fun c => isCode c || c.before args0 about1) = true := by decide +kernel
set_option maxRecDepth 65536 in
theorem w_t5 : (((((words1.drop 24).drop 24).drop 24).drop 24).take 24).all (fun c => isCode c || c.before args0 about1) = true := by decide +kernel
set_option maxRecDepth 65536 in
theorem w_t6 : (((((words1.drop 24).drop 24).drop 24).drop 24).drop 24).all (fun c => isCode c || c.before args0 about1) = true := by decide +kernel
theorem w_tables : (allAtoms (Jvm.Cond.code x code maxLocals ret :: tables_1)).before args0 about1 = true := by
  rw [allAtoms_all]
  show words1.all (fun c => c.before args0 about1) = true
  refine all_split ?_ w_codes
  rw [← List.take_append_drop 24 words1, List.all_append, w_t1, ← List.take_append_drop 24 (words1.drop 24), List.all_append, w_t2, ← List.take_append_drop 24 ((words1.drop 24).drop 24), List.all_append, w_t3, ← List.take_append_drop 24 (((words1.drop 24).drop 24).drop 24), List.all_append, w_t4, ← List.take_append_drop 24 ((((words1.drop 24).drop 24).drop 24).drop 24), List.all_append, w_t5, w_t6]
  rfl
set_option maxRecDepth 65536 in
theorem w_rest : rest_1_c.before args0 about1 = true := by decide +kernel
set_option maxRecDepth 65536 in
theorem w_case : (Jvm.Cond.and given_1 narrow_1).before args0 about1 = true := by decide +kernel
set_option maxRecDepth 65536 in
theorem w_consts : constsHeld consts_1 about1 := Jvm.Lit.constsHeldB_iff.mp (by decide +kernel)
theorem w_applies : (headSpec (Jvm.Cond.code x code maxLocals ret :: tables_1) room_1).applies x e0.platform about1 = true :=
  (Spec.applies_iff w_frames).mpr ⟨w_running, w_runnable, w_alone, w_named, w_hears, w_ripe, w_room, w_tables⟩
theorem atStart : AtStart classFile x code maxLocals ret World_1 tables_1 room_1 Calls_1 rest_1 Pre_1 launch0 p0 e0 about1 theMethod args0 below0 :=
  ⟨lists_1, trivial, launch0.admits_env _ _ _, launch0.least_env, fairChoices_fair.cas, fairChoices_fair.clock, w_frames, w_args, w_heap, w_applies, ⟨w_consts, trivial⟩, w_rest, w_case⟩
end start1
theorem witness_1 : WitnessClaimed_1 := ⟨start1.p0, start1.e0, start1.about1, start1.theMethod, start1.args0, start1.below0, start1.atStart⟩
end Jvm.Pilot.@@N@@
