import JvmDerived
import JvmDerived.Pilot.@@N@@Statement
import JvmDerived.Pilot.@@N@@Code
set_option linter.unusedVariables false
set_option linter.unusedSimpArgs false
namespace Jvm.OwnKit
open Sem ClassFile Op Lib Jvm.Stand Jvm.Free Jvm.LawKit Jvm.RoadKit
/-! ## own kit: a body's walk as 'what is left to run' (Go), contracts (Ct), the known cells (Hp) -/
def updL {α : Type} : List α → Nat → α → List α
  | [], _, _ => []
  | _ :: r, 0, x => x :: r
  | y :: r, i + 1, x => y :: updL r i x
theorem upd_nil {α : Type} (i : Nat) (x : α) : updL [] i x = [] := by cases i <;> rfl
theorem upd_zero {α : Type} (y : α) (r : List α) (x : α) : updL (y :: r) 0 x = x :: r := rfl
theorem upd_succ {α : Type} (y : α) (r : List α) (i : Nat) (x : α) : updL (y :: r) (i + 1) x = y :: updL r i x := rfl
theorem upd_mem {α : Type} : ∀ (L : List α) (i : Nat) (x y : α), y ∈ updL L i x → y = x ∨ ∃ j, j ≠ i ∧ L[j]? = some y
  | [], i, x, y, q => by rw [upd_nil] at q; cases q
  | z :: r, 0, x, y, q => by
    rcases List.mem_cons.mp q with u | u
    · exact Or.inl u
    · obtain ⟨j, hj⟩ := List.getElem?_of_mem u
      exact Or.inr ⟨j + 1, by omega, by simpa using hj⟩
  | z :: r, i + 1, x, y, q => by
    rcases List.mem_cons.mp q with u | u
    · exact Or.inr ⟨0, by omega, by simp [u]⟩
    · rcases upd_mem r i x y u with v | ⟨j, v, w⟩
      · exact Or.inl v
      · exact Or.inr ⟨j + 1, by omega, by simpa using w⟩
theorem upd_map {α β : Type} (f : α → β) : ∀ (L : List α) (i : Nat) (x y : α), L[i]? = some y → f x = f y → (updL L i x).map f = L.map f
  | [], _, _, _, q, _ => by cases q
  | z :: r, 0, x, y, q, e => by cases q; simp [updL, e]
  | z :: r, i + 1, x, y, q, e => by simp [updL, upd_map f r i x y q e]
theorem upd_at {α : Type} : ∀ (L : List α) (i : Nat) (x y : α), L[i]? = some y → (updL L i x)[i]? = some x
  | [], _, _, _, q => by cases q
  | z :: r, 0, x, y, q => rfl
  | z :: r, i + 1, x, y, q => upd_at r i x y q
theorem upd_ne {α : Type} : ∀ (L : List α) (i j : Nat) (x : α), j ≠ i → (updL L i x)[j]? = L[j]?
  | [], i, j, x, _ => by rw [upd_nil]
  | z :: r, 0, 0, x, q => absurd rfl q
  | z :: r, 0, j + 1, x, _ => rfl
  | z :: r, i + 1, 0, x, _ => rfl
  | z :: r, i + 1, j + 1, x, q => upd_ne r i j x (by omega)
theorem upd_len {α : Type} : ∀ (L : List α) (i : Nat) (x : α), (updL L i x).length = L.length
  | [], i, x => by rw [upd_nil]
  | z :: r, 0, x => rfl
  | z :: r, i + 1, x => by simp [updL, upd_len r i x]
theorem upd_set {α : Type} : ∀ (L : List α) (i : Nat) (x : α), updL L i x = L.set i x
  | [], i, x => by rw [upd_nil]; simp
  | z :: r, 0, x => rfl
  | z :: r, i + 1, x => by simp [updL, upd_set r i x]
/-- the i-th to the front -/
theorem front {α : Type} : ∀ {L : List α} {i : Nat} {x : α}, L[i]? = some x → L.Perm (x :: L.eraseIdx i)
  | [], _, _, q => by cases q
  | z :: r, 0, x, q => by cases q; exact List.Perm.refl _
  | z :: r, i + 1, x, q => ((front (L := r) (i := i) q).cons z).trans (List.Perm.swap x z (r.eraseIdx i))
theorem upd_erase {α : Type} : ∀ (L : List α) (i : Nat) (x : α), (updL L i x).eraseIdx i = L.eraseIdx i
  | [], i, x => by rw [upd_nil]
  | z :: r, 0, x => rfl
  | z :: r, i + 1, x => by simp [updL, upd_erase r i x]
/-- .. and back to its place, another value -/
theorem unfront {α : Type} {L : List α} {i : Nat} {x x' : α} (hi : L[i]? = some x) : (x' :: L.eraseIdx i).Perm (updL L i x') := by
  have := front (upd_at L i x' x hi)
  rw [upd_erase] at this
  exact this.symm
abbrev Nm : Type := String × String × String
abbrev slo (Z : State) (q : Nm) : Nat := RoadKit.slotOf Z q.1 q.2.1 q.2.2
/-- a cell that is known: its address, what it holds, whether it is the walk's own (new; may be written) -/
abbrev Ent : Type := Addr × (Cell → Prop) × Bool
abbrev ow (a : Addr) (P : Cell → Prop) : Ent := (a, P, true)
abbrev ro (a : Addr) (P : Cell → Prop) : Ent := (a, P, false)
theorem upd_self {α : Type} : ∀ (L : List α) (i : Nat) (x : α), L[i]? = some x → updL L i x = L
  | [], _, _, q => by cases q
  | z :: r, 0, x, q => by cases q; rfl
  | z :: r, i + 1, x, q => by rw [upd_succ, upd_self r i x q]
/-- an object of exactly the class C; its fields ns hold vs -/
def Ob (Z : State) (C : String) (ns : List Nm) (vs : List Value) (c : Cell) : Prop :=
  (∃ k, Z.vm.findClass C = some c.cls ∧ Z.vm.classes[c.cls]? = some k ∧ c.vm.isStatics = false ∧ (k.kind = .ordinary → c.slots.size = k.instanceTypes.size)) ∧ vs.length = ns.length ∧
  ∀ (j : Nat) (q : Nm) (v : Value), ns[j]? = some q → vs[j]? = some v → ∃ cf k i f, Z.fieldFound? q.1 q.2.1 q.2.2 = some (cf, k, i, f) ∧ f.isStatic = false ∧ c.vm ≠ .unknown ∧ c.vm.isStatics = false ∧ Z.vm.assignable c.cls cf = true ∧ c.slots[f.slot]? = some v
/-- an array of the class number K, its components' kind ty; it holds vs -/
def Ar (Z : State) (ty : FieldType) (K : ClassId) (vs : List Value) (c : Cell) : Prop := Z.isArrayOf c ty ∧ c.vm ≠ .unknown ∧ c.cls = K ∧ c.slots = vs.toArray ∧ vs.length < 2 ^ 31 ∧ ∀ v ∈ vs, fits ty v = true
/-- what stood at the start stands; the cells of L are new, each as it says, no two the same -/
def Apart (x y : Ent) : Prop := (x.2.2 || y.2.2) = true → x.1 ≠ y.1
def Hp (Z : State) (h : Heap) (L : List Ent) : Prop := Ext Z.heap h ∧ (∀ x ∈ L, (x.2.2 = true → Z.heap.size ≤ x.1) ∧ ∃ c, h[x.1]? = some c ∧ x.2.1 c) ∧ L.Pairwise Apart
section Facts
variable {Z : State} {h h' : Heap} {L L' : List Ent} {i j : Nat} {a b : Addr} {P P' : Cell → Prop} {C : String} {ns : List Nm} {vs : List Value} {v w : Value} {sl : Nat} {ty : FieldType} {K : ClassId} {f f' : Bool}
theorem Apart.symm {x y : Ent} (q : Apart x y) : Apart y x := fun r e => q (by rw [Bool.or_comm]; exact r) e.symm
theorem Hp.start (Z : State) : Hp Z Z.heap [] := ⟨⟨Nat.le_refl _, fun _ _ q => q⟩, (fun _ q => nomatch q), List.Pairwise.nil⟩
theorem Hp.atM (H : Hp Z h L) (hi : (a, P, f) ∈ L) : ∃ c, h[a]? = some c ∧ P c := (H.2.1 _ hi).2
theorem Hp.at (H : Hp Z h L) (hi : L[i]? = some (a, P, f)) : ∃ c, h[a]? = some c ∧ P c := (H.2.1 _ (List.mem_of_getElem? hi)).2
theorem Hp.ge (H : Hp Z h L) (hi : L[i]? = some (ow a P)) : Z.heap.size ≤ a := (H.2.1 _ (List.mem_of_getElem? hi)).1 rfl
theorem Hp.lt (H : Hp Z h L) (hi : L[i]? = some (a, P, f)) : a < h.size := by obtain ⟨c, q, -⟩ := H.at hi; exact (Array.getElem?_eq_some_iff.mp q).1
theorem Hp.ne (H : Hp Z h L) (hi : L[i]? = some (a, P, f)) (hj : L[j]? = some (b, P', f')) (ij : i ≠ j) (hf : (f || f') = true := by rfl) : a ≠ b := by
  obtain ⟨li, ei⟩ := List.getElem?_eq_some_iff.mp hi
  obtain ⟨lj, ej⟩ := List.getElem?_eq_some_iff.mp hj
  have W := List.pairwise_iff_getElem.mp H.2.2
  rcases Nat.lt_or_ge i j with q | q
  · have r := W i j li lj q
    rw [ei, ej] at r
    exact r hf
  · have r := W j i lj li (by omega)
    rw [ei, ej] at r
    exact fun e => r (by rw [Bool.or_comm]; exact hf) e.symm
theorem Hp.mono (H : Hp Z h L) (E : Ext h h') : Hp Z h' L := ⟨⟨Nat.le_trans H.1.1 E.1, fun x c q => E.2 x c (H.1.2 x c q)⟩, fun x hx => by obtain ⟨q1, c, q2, q3⟩ := H.2.1 x hx; exact ⟨q1, c, E.2 _ _ q2, q3⟩, H.2.2⟩
theorem Hp.push (H : Hp Z h L) (E : Ext h h') (ha : h.size ≤ a) (hc : ∃ c, h'[a]? = some c ∧ P c) : Hp Z h' (ow a P :: L) := by
  have H' := H.mono E
  refine ⟨H'.1, fun x hx => ?_, ?_⟩
  · rcases List.mem_cons.mp hx with rfl | u
    · exact ⟨fun _ => Nat.le_trans H.1.1 ha, hc⟩
    · exact H'.2.1 x u
  · rw [List.pairwise_cons]
    refine ⟨fun x hx _ e => ?_, H.2.2⟩
    obtain ⟨-, c, q2, -⟩ := H.2.1 x hx
    have := (Array.getElem?_eq_some_iff.mp q2).1
    have e : a = x.1 := e
    rw [← e] at this
    exact absurd this (Nat.not_lt.mpr ha)
/-- a cell that is read alone -/
theorem Hp.know (H : Hp Z h L) (hc : ∃ c, h[a]? = some c ∧ P c) (hn : ∀ x ∈ L, x.2.2 = true → x.1 ≠ a) : Hp Z h (ro a P :: L) := by
  refine ⟨H.1, fun x hx => ?_, ?_⟩
  · rcases List.mem_cons.mp hx with rfl | u
    · exact ⟨fun q => (nomatch q), hc⟩
    · exact H.2.1 x u
  · rw [List.pairwise_cons]
    exact ⟨fun x hx q e => hn x hx (by simpa using q) e.symm, H.2.2⟩
theorem upd_apart : ∀ (L : List Ent) (i : Nat) (x y : Ent), L[i]? = some y → x.1 = y.1 → x.2.2 = y.2.2 → L.Pairwise Apart → (updL L i x).Pairwise Apart
  | [], _, _, _, q, _, _, _ => by cases q
  | z :: r, 0, x, y, q, e1, e2, W => by
    cases q
    rw [List.pairwise_cons] at W
    rw [upd_zero, List.pairwise_cons]
    exact ⟨fun u hu => by have := W.1 u hu; unfold Apart at this ⊢; rw [e1, e2]; exact this, W.2⟩
  | z :: r, i + 1, x, y, q, e1, e2, W => by
    rw [List.pairwise_cons] at W
    rw [upd_succ, List.pairwise_cons]
    refine ⟨fun u hu => ?_, upd_apart r i x y q e1 e2 W.2⟩
    rcases upd_mem _ _ _ _ hu with rfl | ⟨j, -, hj⟩
    · have := W.1 y (List.mem_of_getElem? (i := i) q); unfold Apart at this ⊢; rw [e1, e2]; exact this
    · exact W.1 u (List.mem_of_getElem? hj)
theorem Hp.wr (H : Hp Z h L) (hi : L[i]? = some (ow a P)) (W : Wr h h' a sl v) (hP : ∀ c : Cell, P c → c.vm.isStatics = false → sl < c.slots.size → P' (c.setSlot sl v)) : Hp Z h' (updL L i (ow a P')) := by
  have ge := H.ge hi
  obtain ⟨cell, h1, h2, h3, rfl⟩ := W
  obtain ⟨c, hc, hPc⟩ := H.at hi
  cases hc.symm.trans h1
  have lt := (Array.getElem?_eq_some_iff.mp h1).1
  have hset : (h.setIfInBounds a (cell.setSlot sl v))[a]? = some (cell.setSlot sl v) := by simp [lt]
  refine ⟨⟨by simpa using H.1.1, fun x c q => ?_⟩, fun x hx => ?_, upd_apart L i (ow a P') (ow a P) hi rfl rfl H.2.2⟩
  · have := (Array.getElem?_eq_some_iff.mp q).1
    rw [Array.getElem?_setIfInBounds_ne (by omega)]; exact H.1.2 x c q
  · rcases upd_mem _ _ _ _ hx with rfl | ⟨j, hj, hLj⟩
    · exact ⟨fun _ => ge, _, hset, hP _ hPc h2 h3⟩
    · obtain ⟨xa, xP, xf⟩ := x
      have ne : a ≠ xa := H.ne hi hLj (Ne.symm hj) (by simp)
      obtain ⟨q1, c, q2, q3⟩ := H.2.1 _ (List.mem_of_getElem? hLj)
      exact ⟨q1, c, by rw [Array.getElem?_setIfInBounds_ne ne]; exact q2, q3⟩
theorem Hp.weak (H : Hp Z h L) (hi : L[i]? = some (a, P, f)) (hP : ∀ c, P c → P' c) : Hp Z h (updL L i (a, P', f)) := by
  refine ⟨H.1, fun x hx => ?_, upd_apart L i (a, P', f) (a, P, f) hi rfl rfl H.2.2⟩
  rcases upd_mem _ _ _ _ hx with rfl | ⟨j, hj, hLj⟩
  · obtain ⟨c, q1, q2⟩ := H.at hi; exact ⟨(H.2.1 _ (List.mem_of_getElem? hi)).1, c, q1, hP c q2⟩
  · exact H.2.1 x (List.mem_of_getElem? hLj)
theorem Hp.perm (H : Hp Z h L) (q : L.Perm L') : Hp Z h L' := ⟨H.1, fun x hx => H.2.1 x (q.mem_iff.mpr hx), (q.pairwise_iff fun r => r.symm).mp H.2.2⟩
theorem Hp.exa (H : Hp Z h L) (hi : L[i]? = some (a, Ob Z C ns vs, f)) : Exa Z h a C := by
  obtain ⟨c, q, ⟨k, r⟩, -⟩ := H.at hi; exact ⟨c, k, q, r⟩
theorem Hp.exaM (H : Hp Z h L) (hi : (a, P, f) ∈ L) (hP : ∀ c, P c → ∃ ns vs, Ob Z C ns vs c) : Exa Z h a C := by
  obtain ⟨c, q, q2⟩ := H.atM hi; obtain ⟨ns, vs, ⟨k, r⟩, -⟩ := hP c q2; exact ⟨c, k, q, r⟩
theorem Hp.fld (H : Hp Z h L) (hi : L[i]? = some (a, Ob Z C ns vs, f)) {q : Nm} (hj : ns[j]? = some q) (hv : vs[j]? = some v) : Fld Z h a q.1 q.2.1 q.2.2 v := by
  obtain ⟨c, hc, -, -, F⟩ := H.at hi
  obtain ⟨cf, k, i, f, r⟩ := F j q v hj hv
  exact ⟨c, cf, k, i, f, hc, r⟩
theorem Hp.arr (H : Hp Z h L) (hi : L[i]? = some (a, Ar Z ty K vs, f)) : ∃ cl, Arr Z h a cl ty ∧ cl.cls = K ∧ cl.slots = vs.toArray ∧ vs.length < 2 ^ 31 ∧ ∀ v ∈ vs, fits ty v = true := by
  obtain ⟨c, hc, q1, q2, q3, q4, q5, q6⟩ := H.at hi; exact ⟨c, ⟨hc, q1, q2⟩, q3, q4, q5, q6⟩
theorem Hp.arrM (H : Hp Z h L) (hi : (a, Ar Z ty K vs, f) ∈ L) : ∃ cl, Arr Z h a cl ty ∧ cl.cls = K ∧ cl.slots = vs.toArray ∧ vs.length < 2 ^ 31 ∧ ∀ v ∈ vs, fits ty v = true := by
  obtain ⟨c, hc, q1, q2, q3, q4, q5, q6⟩ := H.atM hi; exact ⟨c, ⟨hc, q1, q2⟩, q3, q4, q5, q6⟩
/-- a class's fields: each laid, their slots distinct -/
def LayC (Z : State) (a0 : Array Value) (C : String) (ns : List Nm) : Prop := (∀ q ∈ ns, Laid Z a0 C q.1 q.2.1 q.2.2) ∧ (ns.map (slo Z)).Nodup
theorem LayC.of {a0 : Array Value} (hl : ∀ q ∈ ns, Laid Z a0 C q.1 q.2.1 q.2.2) (hn : (ns.map (·.2.1)).Nodup) (hp : ∀ q ∈ ns, ∃ t, parseFieldDescriptor q.2.2 = some t) : LayC Z a0 C ns := by
  refine ⟨hl, ?_⟩
  revert hl hn hp
  induction ns with
  | nil => intros; exact List.nodup_nil
  | cons x r ih =>
    intro hl hn hp
    rw [List.map_cons, List.nodup_cons] at hn ⊢
    refine ⟨fun q => ?_, ih (fun q hq => hl q (List.mem_cons_of_mem _ hq)) hn.2 (fun q hq => hp q (List.mem_cons_of_mem _ hq))⟩
    obtain ⟨y, hy, ey⟩ := List.mem_map.mp q
    obtain ⟨t1, p1⟩ := hp x List.mem_cons_self
    obtain ⟨t2, p2⟩ := hp y (List.mem_cons_of_mem _ hy)
    refine slot_ne (hl y (List.mem_cons_of_mem _ hy)) (hl x List.mem_cons_self) (fun z => ?_) p2 p1 ey
    exact hn.1 (List.mem_map.mpr ⟨y, hy, z⟩)
theorem Ob.put {a0 : Array Value} (Y : LayC Z a0 C ns) {q : Nm} (hj : ns[j]? = some q) {c : Cell} (O : Ob Z C ns vs c) (hs : c.vm.isStatics = false) (lt : slo Z q < c.slots.size) : Ob Z C ns (updL vs j v) (c.setSlot (slo Z q) v) := by
  obtain ⟨⟨k, r1, r2, r3, r4⟩, hl, F⟩ := O
  refine ⟨⟨k, r1, r2, r3, by rw [sz_set]; exact r4⟩, by rw [upd_len]; exact hl, fun j' q' v' hj' hv' => ?_⟩
  by_cases e : j' = j
  · subst e
    cases hj.symm.trans hj'
    have lj : j' < vs.length := by rw [hl]; exact (List.getElem?_eq_some_iff.mp hj).1
    obtain ⟨cf, k, i, f, f1, f2, f3, f4, f5, f6⟩ := F j' q (vs[j']) hj (List.getElem?_eq_getElem lj)
    rw [upd_at _ _ _ _ (List.getElem?_eq_getElem lj)] at hv'
    cases hv'
    have es : slo Z q = f.slot := by simp [slo, RoadKit.slotOf, f1]
    exact ⟨cf, k, i, f, f1, f2, f3, f4, f5, by rw [es] at lt ⊢; simp [Cell.setSlot, lt]⟩
  · rw [upd_ne _ _ _ _ e] at hv'
    obtain ⟨cf, k, i, f, f1, f2, f3, f4, f5, f6⟩ := F j' q' v' hj' hv'
    refine ⟨cf, k, i, f, f1, f2, f3, f4, f5, ?_⟩
    have es : slo Z q' = f.slot := by simp [slo, RoadKit.slotOf, f1]
    have ne : slo Z q ≠ f.slot := by
      rw [← es]
      intro z
      have l1 : (ns.map (slo Z))[j]? = some (slo Z q) := by simp [hj]
      have l2 : (ns.map (slo Z))[j']? = some (slo Z q) := by simp [hj', z]
      exact e ((List.getElem?_inj (List.getElem?_eq_some_iff.mp l2).1 Y.2).mp (l2.trans l1.symm))
    show (c.slots.setIfInBounds _ _)[_]? = _
    rw [Array.getElem?_setIfInBounds_ne ne]; exact f6
theorem Ar.put {c : Cell} (A : Ar Z ty K vs c) (hv : fits ty v = true) : Ar Z ty K (updL vs j v) (c.setSlot j v) := by
  obtain ⟨q1, q2, q3, q4, q5, q6⟩ := A
  rw [upd_set]
  refine ⟨q1, q2, q3, ?_, by simpa using q5, fun u hu => (List.mem_or_eq_of_mem_set hu).elim (q6 u) fun e => e ▸ hv⟩
  show c.slots.setIfInBounds j v = _
  rw [q4]; simp
end Facts
end Jvm.OwnKit
namespace Jvm.OwnKit
open Sem ClassFile Op Lib Jvm.Stand Jvm.Free Jvm.LawKit Jvm.RoadKit
/-- the tables over which the walk stands: the start's own, or (wd: it may have interned strings) re-based ones -/
def Bse (wd : Bool) (s : State) (vm : Vm) (N : Nat) : Prop := match wd with | false => vm = s.vm | true => s.Since vm N
/-- the frame that is promised at the end -/
def FrE (wd : Bool) (s : State) (o : Outcome) (t : State) (L : List Loc) (k n : Nat) : Prop := match wd with | false => FrameEnd s o t L k n | true => ReturnedEndW s o t L k n
/-- what is known of the heap: the cells of L; and (wd) that whatever is booked for a constant of EL spells it, and is none of L's -/
def Iv (wd : Bool) (Z : State) (EL : List (String × Nat)) (vm : Vm) (h : Heap) (L : List Ent) : Prop := Hp Z h L ∧ (wd = true → CHv Z EL vm h ∧ ∀ x ∈ L, x.2.2 = true → Safe Z EL vm h x.1)
/-- what a body's walk knows throughout -/
def Cx (wd : Bool) (EL : List (String × Nat)) (p : Program) (Z s : State) (m : MethodId) (meth : Method) (c : Code) (own nm : String) (code : ByteArray) (ml : Nat) (ret : Option FieldType) : Prop :=
  p.tables.exec = Jvm.exec ∧ Z.Warmed39 s.vm ∧ s.vm.findClass own = some m.cls ∧ c.code = code ∧ c.maxLocals = ml ∧ meth.sig.returnType = ret ∧ meth.locks = false ∧ meth.name = nm ∧ (wd = true → ∃ a0, EW Z a0 EL)
/-- from frame g the body goes to its end, and its end is as Q says -/
def Go (wd : Bool) (EL : List (String × Nat)) (p : Program) (l : Launch) (e : Env) (R : Room) (Z s : State) (m : MethodId) (args : Array Value) (below : List Frame) (meth : Method) (c : Code) (Q : Option Value → List Ent → Prop) (L : List Ent) (k n : Nat) (g : JFrame) : Prop :=
  ∀ (vm : Vm) (T : State) (lc : List Loc), Fr Z.heap.size lc → Bse wd s vm T.heap.size → Iv wd Z EL vm T.heap L → Stand p l e R (s.setVm vm) m args below meth c T lc k n →
    ∃ u o, Steps p.tables e below (T.setTop g) u ∧ u.status = .running ∧ Ended u below o ∧ ∃ v L' lc', o = .returned v ∧ Q v L' ∧ Iv wd Z EL u.vm u.heap L' ∧ Fr Z.heap.size lc' ∧ FrE wd s o u lc' R.cells R.slots
/-- a body's contract: called with 'as' over the cells L it returns as Q says -/
def Ct (wd : Bool) (EL : List (String × Nat)) (l : Launch) (Z : State) (y : MethodName) (code : ByteArray) (ml : Nat) (ret : Option FieldType) (rm : Room) (as : Array Value) (L : List Ent) (Q : Option Value → List Ent → Prop) : Prop :=
  ∀ ws : List Jvm.Cond, MetFree l y (head1 (Jvm.Cond.code y code ml ret :: ws) rm) (fun a U => a = as ∧ Z.Warmed39 U.vm ∧ Iv wd Z EL U.vm U.heap L) (fun _ _ _ _ _ => True) (fun _ U o U' => ∃ v L' lc, o = .returned v ∧ Q v L' ∧ Iv wd Z EL U'.vm U'.heap L' ∧ Fr Z.heap.size lc ∧ FrE wd U o U' lc rm.cells rm.slots)
def rvQ (Q : Value → List Ent → Prop) : Option Value → List Ent → Prop := fun o L => ∃ v, o = some v ∧ Q v L
def r0Q (Q : List Ent → Prop) : Option Value → List Ent → Prop := fun o L => o = none ∧ Q L
/-- the instruction at pc, and the pc behind it -/
def D1 (code : ByteArray) (pc : Nat) (i : Instr) (len pc' : Nat) : Prop := decode code pc = .ok (i, len) ∧ pc + len = pc'
section Steps
variable {wd : Bool} {EL : List (String × Nat)} {p : Program} {l : Launch} {e : Env} {R : Room} {Z s : State} {m : MethodId} {args : Array Value} {below : List Frame} {meth : Method} {c : Code} {Q : Option Value → List Ent → Prop} {L L' : List Ent} {k n : Nat} {own nm : String} {code : ByteArray} {ml : Nat} {ret : Option FieldType} {a0 : Array Value}
variable {pc pc' : Nat} {Ls : Array Slot} {st : List Value} {i j : Nat} {a b : Addr} {C : String} {ns : List Nm} {vs : List Value} {v : Value} {h h' : Heap} {vm : Vm}
theorem Bse.start (s : State) (N : Nat) : Bse wd s s.vm N := by
  cases wd
  · exact rfl
  · exact (State.WarmedH.refl s).since N
theorem Bse.mono {N N' : Nat} (B : Bse wd s vm N) (q : N ≤ N') : Bse wd s vm N' := by
  cases wd
  · exact B
  · exact ⟨B.1, fun j p hj hp => by obtain ⟨x, y⟩ := B.2 j p hj hp; exact ⟨x, Nat.lt_of_lt_of_le y q⟩⟩
theorem Bse.wide {N : Nat} (B : Bse wd s vm N) : s.Warmed39 vm := by
  cases wd
  · rw [show vm = s.vm from B]; exact State.Warmed39.refl s
  · exact B.1
theorem Cx.re {N : Nat} (X : Cx wd EL p Z s m meth c own nm code ml ret) (B : Bse wd s vm N) : Cx wd EL p Z (s.setVm vm) m meth c own nm code ml ret :=
  ⟨X.1, State.Warmed39.trans X.2.1 B.wide, by rw [show (s.setVm vm).vm = vm from rfl, B.wide.alike.findClass]; exact X.2.2.1, X.2.2.2⟩
theorem Bse.ended {N : Nat} (B : Bse wd s vm N) {U : State} {o : Outcome} {lc : List Loc} {k n k' n' : Nat} (hr : ∃ v, o = .returned v) (hW : (s.setVm vm).WarmedH U.vm) (hn : N ≤ U.heap.size) (hs : (s.setVm vm).sameButNew ({ U with vm := vm } : State) lc k n) (hk : k ≤ k') (hl : n ≤ n') : FrE wd s o U lc k' n' := by
  cases wd
  · obtain rfl : vm = s.vm := B
    exact ⟨hr, hW, hs.mono hk hl⟩
  · obtain ⟨q1, q2, q3⟩ := State.Since.ended B hW hn hs
    exact ⟨hr, q1, q2, q3.mono hk hl⟩
theorem Iv.ext (I : Iv wd Z EL vm h L) (E : Ext h h') : Iv wd Z EL vm h' L := ⟨I.1.mono E, fun q => ⟨(I.2 q).1.ext E, fun x hx hf => Safe.ext E (I.2 q).1 ((I.2 q).2 x hx hf)⟩⟩
theorem Iv.push {P : Cell → Prop} (I : Iv wd Z EL vm h L) (E : Ext h h') (ha : h.size ≤ a) (hc : ∃ c, h'[a]? = some c ∧ P c) : Iv wd Z EL vm h' (ow a P :: L) := ⟨I.1.push E ha hc, fun q => ⟨(I.2 q).1.ext E, fun x hx hf => by
  rcases List.mem_cons.mp hx with rfl | u
  · exact Safe.ext E (I.2 q).1 (Safe.new ha)
  · exact Safe.ext E (I.2 q).1 ((I.2 q).2 x u hf)⟩⟩
theorem Iv.know {P : Cell → Prop} (I : Iv wd Z EL vm h L) (hc : ∃ c, h[a]? = some c ∧ P c) (hn : ∀ x ∈ L, x.2.2 = true → x.1 ≠ a) : Iv wd Z EL vm h (ro a P :: L) := ⟨I.1.know hc hn, fun q => ⟨(I.2 q).1, fun x hx hf => by
  rcases List.mem_cons.mp hx with rfl | u
  · cases hf
  · exact (I.2 q).2 x u hf⟩⟩
theorem Iv.wr {P P' : Cell → Prop} {sl : Nat} (I : Iv wd Z EL vm h L) (hi : L[i]? = some (ow a P)) (W : Wr h h' a sl v) (hP : ∀ c : Cell, P c → c.vm.isStatics = false → sl < c.slots.size → P' (c.setSlot sl v)) : Iv wd Z EL vm h' (updL L i (ow a P')) := ⟨I.1.wr hi W hP, fun q => by
  have S := (I.2 q).2 _ (List.mem_of_getElem? hi) rfl
  refine ⟨(I.2 q).1.wr W S, fun x hx hf => ?_⟩
  rcases upd_mem _ _ _ _ hx with rfl | ⟨j, hj, hLj⟩
  · exact Safe.wr W S (I.2 q).1 S
  · exact Safe.wr W S (I.2 q).1 ((I.2 q).2 x (List.mem_of_getElem? hLj) hf)⟩
theorem Iv.perm (I : Iv wd Z EL vm h L) (q : L.Perm L') : Iv wd Z EL vm h L' := ⟨I.1.perm q, fun r => ⟨(I.2 r).1, fun x hx => (I.2 r).2 x (q.mem_iff.mpr hx)⟩⟩
theorem Iv.weak {P P' : Cell → Prop} {f : Bool} (I : Iv wd Z EL vm h L) (hi : L[i]? = some (a, P, f)) (hP : ∀ c, P c → P' c) : Iv wd Z EL vm h (updL L i (a, P', f)) := ⟨I.1.weak hi hP, fun q => ⟨(I.2 q).1, fun x hx hf => by
  rcases upd_mem _ _ _ _ hx with rfl | ⟨j, hj, hLj⟩
  · exact (I.2 q).2 (a, P, f) (List.mem_of_getElem? hi) hf
  · exact (I.2 q).2 x (List.mem_of_getElem? hLj) hf⟩⟩
theorem Iv.drop {x : Ent} (I : Iv wd Z EL vm h (x :: L)) : Iv wd Z EL vm h L := ⟨⟨I.1.1, fun y hy => I.1.2.1 y (List.mem_cons_of_mem _ hy), (List.pairwise_cons.mp I.1.2.2).2⟩, fun r => ⟨(I.2 r).1, fun y hy => (I.2 r).2 y (List.mem_cons_of_mem _ hy)⟩⟩
/-- the tables at hand, in a walk that has interned nothing since its last base -/
theorem Iv.now {T : State} {lc : List Loc} (I : Iv wd Z EL vm T.heap L) (X : Cx wd EL p Z (s.setVm vm) m meth c own nm code ml ret) (S : Stand p l e R (s.setVm vm) m args below meth c T lc k n) : Iv wd Z EL T.vm T.heap L := ⟨I.1, fun q => by
  obtain ⟨a0, w⟩ := X.2.2.2.2.2.2.2.2 q
  have r := CHv.at S X.2.1 w (I.2 q).1
  refine ⟨r.1, fun x hx hf => r.safe ?_ ((I.2 q).2 x hx hf)⟩
  obtain ⟨-, cc, h1, -⟩ := I.1.2.1 x hx
  exact (Array.getElem?_eq_some_iff.mp h1).1⟩
theorem Ct.intro {y : MethodName} {rm : Room} {as : Array Value} (hp : plainFor y = true) (hE : wd = true → ∃ a0, EW Z a0 EL)
    (B : ∀ (p : Program) e s m below meth c, Cx wd EL p Z s m meth c y.cls y.name code ml ret → Go wd EL p l e rm Z s m as below meth c Q L 0 0 (entryFrame m as ml)) : Ct wd EL l Z y code ml ret rm as L Q := by
  intro ws
  refine MetFree.of_bodySF hp hisR ?_
  intro p e s m args below meth c s₁ Bd hml hP hK
  obtain ⟨rfl, hZ, hh⟩ := hP
  have X0 : Stand p l e rm s m args below meth c s₁ [] 0 0 := Stand.of_body Bd
  have e0 : s₁.heap = s.heap := by rw [Bd.state]; rfl
  exact B p e s m below meth c ⟨Bd.exec, hZ, findClass_of_methodNamed Bd.named, Bd.bytes, hml, Bd.returns, Bd.notSynchronized, (name_of_methodNamed Bd.named Bd.method).1, hE⟩ s.vm s₁ [] (Fr.nil _) (Bse.start s _) (by rw [e0]; exact hh) X0
theorem Ct.mono {y : MethodName} {rm : Room} {as : Array Value} {Q' : Option Value → List Ent → Prop} (B : Ct wd EL l Z y code ml ret rm as L Q) (hq : ∀ v L', Q v L' → Q' v L') : Ct wd EL l Z y code ml ret rm as L Q' := fun ws =>
  (B ws).mono (fun _ _ q => q) (fun _ _ _ _ _ q => q) fun a U o U' _ ⟨v, L', lc, q1, q2, q3⟩ => ⟨v, L', lc, q1, hq v L' q2, q3⟩
/-- the contract, its cells in another order -/
theorem Ct.perm {y : MethodName} {rm : Room} {as : Array Value} {Q' : Option Value → List Ent → Prop} (B : Ct wd EL l Z y code ml ret rm as L Q) (q : L'.Perm L) (hq : ∀ v M, Q v M → ∃ M', Q' v M' ∧ M.Perm M') : Ct wd EL l Z y code ml ret rm as L' Q' := fun ws =>
  (B ws).mono (fun _ _ r => ⟨r.1, r.2.1, r.2.2.perm q⟩) (fun _ _ _ _ _ q => q) fun a U o U' _ ⟨v, M, lc, q1, q2, q3, q4⟩ => by
    obtain ⟨M', r1, r2⟩ := hq v M q2
    exact ⟨v, M', lc, q1, r1, q3.perm r2, q4⟩
theorem Go.to {g g' : JFrame} (K : Go wd EL p l e R Z s m args below meth c Q L k n g') (X : Cx wd EL p Z s m meth c own nm code ml ret) (f : ∀ s, Cx wd EL p Z s m meth c own nm code ml ret → ∀ T lc, Hp Z T.heap L → Stand p l e R s m args below meth c T lc k n → ∀ target, Steps p.tables e below (T.setTop g') target → Steps p.tables e below (T.setTop g) target) : Go wd EL p l e R Z s m args below meth c Q L k n g := by
  intro vm T lc F B I S
  obtain ⟨u, o, st, r⟩ := K vm T lc F B I S
  exact ⟨u, o, f _ (X.re B) T lc I.1 S u st, r⟩
theorem Go.cast {g g' : JFrame} (q : g = g') (K : Go wd EL p l e R Z s m args below meth c Q L k n g') : Go wd EL p l e R Z s m args below meth c Q L k n g := q ▸ K
theorem Go.perm {g : JFrame} (q : L.Perm L') (K : Go wd EL p l e R Z s m args below meth c Q L' k n g) : Go wd EL p l e R Z s m args below meth c Q L k n g := fun vm T lc F B I S => K vm T lc F B (I.perm q) S
theorem Go.weak {g : JFrame} {P P' : Cell → Prop} {f : Bool} (hi : L[i]? = some (a, P, f)) (hP : ∀ c, P c → P' c) (K : Go wd EL p l e R Z s m args below meth c Q (updL L i (a, P', f)) k n g) : Go wd EL p l e R Z s m args below meth c Q L k n g := fun vm T lc F B I S => K vm T lc F B (I.weak hi hP) S
theorem Go.drop {g : JFrame} {x : Ent} (K : Go wd EL p l e R Z s m args below meth c Q L k n g) : Go wd EL p l e R Z s m args below meth c Q (x :: L) k n g := fun vm T lc F B I S => K vm T lc F B I.drop S
/-- a fact of every heap that L describes -/
theorem Go.fact {g : JFrame} {A : Prop} (f : ∀ h, Hp Z h L → A) (K : A → Go wd EL p l e R Z s m args below meth c Q L k n g) : Go wd EL p l e R Z s m args below meth c Q L k n g := fun vm T lc F B I S => K (f _ I.1) vm T lc F B I S
theorem Go.book {g : JFrame} {k' n' : Nat} (hk : k ≤ k') (hn : n ≤ n') (K : Go wd EL p l e R Z s m args below meth c Q L k' n' g) : Go wd EL p l e R Z s m args below meth c Q L k n g := fun vm T lc F B I S => K vm T lc F B I (S.mono hk hn)
/-! ### plain steps -/
theorem Go.iloadN (X : Cx wd EL p Z s m meth c own nm code ml ret) {i : Fin 4} {v : Int32} (D : D1 code pc (.iload_n i) 1 pc') (hl : Ls[i.val]? = some (.val (.int v))) (K : Go wd EL p l e R Z s m args below meth c Q L k n (mkF m pc' Ls (.int v :: st))) : Go wd EL p l e R Z s m args below meth c Q L k n (mkF m pc Ls st) := by
  obtain ⟨d, rfl⟩ := D
  exact K.to X fun s X T lc H S t r => XS.iloadN S.here X.1 rfl (hb X.2.2.2.1 d) hl r
theorem Go.iload (X : Cx wd EL p Z s m meth c own nm code ml ret) {i : Nat} {v : Int32} (D : D1 code pc (.iload i) 2 pc') (hl : Ls[i]? = some (.val (.int v))) (K : Go wd EL p l e R Z s m args below meth c Q L k n (mkF m pc' Ls (.int v :: st))) : Go wd EL p l e R Z s m args below meth c Q L k n (mkF m pc Ls st) := by
  obtain ⟨d, rfl⟩ := D
  exact K.to X fun s X T lc H S t r => XS.iload S.here X.1 rfl (hb X.2.2.2.1 d) hl r
theorem Go.aloadN (X : Cx wd EL p Z s m meth c own nm code ml ret) {i : Fin 4} {v : Value} (D : D1 code pc (.aload_n i) 1 pc') (hl : Ls[i.val]? = some (.val v)) (hv : v.isRef = true) (K : Go wd EL p l e R Z s m args below meth c Q L k n (mkF m pc' Ls (v :: st))) : Go wd EL p l e R Z s m args below meth c Q L k n (mkF m pc Ls st) := by
  obtain ⟨d, rfl⟩ := D
  exact K.to X fun s X T lc H S t r => XS.aloadN S.here X.1 rfl (hb X.2.2.2.1 d) hl hv r
theorem Go.aload (X : Cx wd EL p Z s m meth c own nm code ml ret) {i : Nat} {v : Value} (D : D1 code pc (.aload i) 2 pc') (hl : Ls[i]? = some (.val v)) (hv : v.isRef = true) (K : Go wd EL p l e R Z s m args below meth c Q L k n (mkF m pc' Ls (v :: st))) : Go wd EL p l e R Z s m args below meth c Q L k n (mkF m pc Ls st) := by
  obtain ⟨d, rfl⟩ := D
  exact K.to X fun s X T lc H S t r => XS.aload S.here X.1 rfl (hb X.2.2.2.1 d) hl hv r
theorem Go.floadN (X : Cx wd EL p Z s m meth c own nm code ml ret) {i : Fin 4} {v : UInt32} (D : D1 code pc (.fload_n i) 1 pc') (hl : Ls[i.val]? = some (.val (.float v))) (K : Go wd EL p l e R Z s m args below meth c Q L k n (mkF m pc' Ls (.float v :: st))) : Go wd EL p l e R Z s m args below meth c Q L k n (mkF m pc Ls st) := by
  obtain ⟨d, rfl⟩ := D
  exact K.to X fun s X T lc H S t r => XS.floadN S.here X.1 rfl (hb X.2.2.2.1 d) hl r
theorem Go.iconst (X : Cx wd EL p Z s m meth c own nm code ml ret) {i : Int} {v : Int32} (D : D1 code pc (.iconst i) 1 pc') (hv : Int32.ofInt i = v) (K : Go wd EL p l e R Z s m args below meth c Q L k n (mkF m pc' Ls (.int v :: st))) : Go wd EL p l e R Z s m args below meth c Q L k n (mkF m pc Ls st) := by
  obtain ⟨d, rfl⟩ := D; subst hv
  exact K.to X fun s X T lc H S t r => XS.iconst S.here X.1 rfl (hb X.2.2.2.1 d) r
theorem Go.bipush (X : Cx wd EL p Z s m meth c own nm code ml ret) {i : Int} {v : Int32} (D : D1 code pc (.bipush i) 2 pc') (hv : (Int8.ofInt i).toInt32 = v) (K : Go wd EL p l e R Z s m args below meth c Q L k n (mkF m pc' Ls (.int v :: st))) : Go wd EL p l e R Z s m args below meth c Q L k n (mkF m pc Ls st) := by
  obtain ⟨d, rfl⟩ := D; subst hv
  exact K.to X fun s X T lc H S t r => XS.bipush S.here X.1 rfl (hb X.2.2.2.1 d) r
theorem Go.sipush (X : Cx wd EL p Z s m meth c own nm code ml ret) {i : Int} {v : Int32} (D : D1 code pc (.sipush i) 3 pc') (hv : (Int16.ofInt i).toInt32 = v) (K : Go wd EL p l e R Z s m args below meth c Q L k n (mkF m pc' Ls (.int v :: st))) : Go wd EL p l e R Z s m args below meth c Q L k n (mkF m pc Ls st) := by
  obtain ⟨d, rfl⟩ := D; subst hv
  exact K.to X fun s X T lc H S t r => XS.sipush S.here X.1 rfl (hb X.2.2.2.1 d) r
theorem Go.ldcI (X : Cx wd EL p Z s m meth c own nm code ml ret) {i : Nat} {v : Int32} (w : (Cond.constant own i v).before a0 Z = true) (D : D1 code pc (.ldc i) 2 pc')  (K : Go wd EL p l e R Z s m args below meth c Q L k n (mkF m pc' Ls (.int v :: st))) : Go wd EL p l e R Z s m args below meth c Q L k n (mkF m pc Ls st) := by
  obtain ⟨d, rfl⟩ := D
  exact K.to X fun s X T lc H S t r => S.ldcI X.1 X.2.2.1 (mv X.2.1 w) rfl (hb X.2.2.2.1 d) r
theorem Go.aconstNull (X : Cx wd EL p Z s m meth c own nm code ml ret)  (D : D1 code pc (.aconst_null) 1 pc')  (K : Go wd EL p l e R Z s m args below meth c Q L k n (mkF m pc' Ls (.null :: st))) : Go wd EL p l e R Z s m args below meth c Q L k n (mkF m pc Ls st) := by
  obtain ⟨d, rfl⟩ := D
  exact K.to X fun s X T lc H S t r => XS.aconstNull S.here X.1 rfl (hb X.2.2.2.1 d) r
theorem Go.istoreN (X : Cx wd EL p Z s m meth c own nm code ml ret) {i : Fin 4} {x : Int32} {L2 : Array Slot} (D : D1 code pc (.istore_n i) 1 pc') (hl : storeLocals Ls i.val (.int x) = some L2) (K : Go wd EL p l e R Z s m args below meth c Q L k n (mkF m pc' L2 st)) : Go wd EL p l e R Z s m args below meth c Q L k n (mkF m pc Ls (.int x :: st)) := by
  obtain ⟨d, rfl⟩ := D
  exact K.to X fun s X T lc H S t r => XS.istoreN S.here X.1 rfl (hb X.2.2.2.1 d) rfl hl r
theorem Go.istore (X : Cx wd EL p Z s m meth c own nm code ml ret) {i : Nat} {x : Int32} {L2 : Array Slot} (D : D1 code pc (.istore i) 2 pc') (hl : storeLocals Ls i (.int x) = some L2) (K : Go wd EL p l e R Z s m args below meth c Q L k n (mkF m pc' L2 st)) : Go wd EL p l e R Z s m args below meth c Q L k n (mkF m pc Ls (.int x :: st)) := by
  obtain ⟨d, rfl⟩ := D
  exact K.to X fun s X T lc H S t r => XS.istore S.here X.1 rfl (hb X.2.2.2.1 d) rfl hl r
theorem Go.astoreN (X : Cx wd EL p Z s m meth c own nm code ml ret) {i : Fin 4} {x : Value} {L2 : Array Slot} (D : D1 code pc (.astore_n i) 1 pc') (hv : x.isRef = true) (hl : storeLocals Ls i.val x = some L2) (K : Go wd EL p l e R Z s m args below meth c Q L k n (mkF m pc' L2 st)) : Go wd EL p l e R Z s m args below meth c Q L k n (mkF m pc Ls (x :: st)) := by
  obtain ⟨d, rfl⟩ := D
  exact K.to X fun s X T lc H S t r => XS.astoreN S.here X.1 rfl (hb X.2.2.2.1 d) rfl hv hl r
theorem Go.astore (X : Cx wd EL p Z s m meth c own nm code ml ret) {i : Nat} {x : Value} {L2 : Array Slot} (D : D1 code pc (.astore i) 2 pc') (hv : x.isRef = true) (hl : storeLocals Ls i x = some L2) (K : Go wd EL p l e R Z s m args below meth c Q L k n (mkF m pc' L2 st)) : Go wd EL p l e R Z s m args below meth c Q L k n (mkF m pc Ls (x :: st)) := by
  obtain ⟨d, rfl⟩ := D
  exact K.to X fun s X T lc H S t r => XS.astore S.here X.1 rfl (hb X.2.2.2.1 d) rfl hv hl r
theorem Go.fstore (X : Cx wd EL p Z s m meth c own nm code ml ret) {i : Nat} {x : UInt32} {L2 : Array Slot} (D : D1 code pc (.fstore i) 2 pc') (hl : storeLocals Ls i (.float x) = some L2) (K : Go wd EL p l e R Z s m args below meth c Q L k n (mkF m pc' L2 st)) : Go wd EL p l e R Z s m args below meth c Q L k n (mkF m pc Ls (.float x :: st)) := by
  obtain ⟨d, rfl⟩ := D
  exact K.to X fun s X T lc H S t r => XS.fstore S.here X.1 rfl (hb X.2.2.2.1 d) rfl hl r
theorem Go.fload (X : Cx wd EL p Z s m meth c own nm code ml ret) {i : Nat} {v : UInt32} (D : D1 code pc (.fload i) 2 pc') (hl : Ls[i]? = some (.val (.float v))) (K : Go wd EL p l e R Z s m args below meth c Q L k n (mkF m pc' Ls (.float v :: st))) : Go wd EL p l e R Z s m args below meth c Q L k n (mkF m pc Ls st) := by
  obtain ⟨d, rfl⟩ := D
  exact K.to X fun s X T lc H S t r => XS.fload S.here X.1 rfl (hb X.2.2.2.1 d) hl r
theorem Go.iinc (X : Cx wd EL p Z s m meth c own nm code ml ret) {i : Nat} {cst : Int} {x : Int32} {L2 : Array Slot} (D : D1 code pc (.iinc i cst) 3 pc') (hl : Ls[i]? = some (.val (.int x))) (hl' : storeLocals Ls i (.int (x + Int32.ofInt cst)) = some L2) (K : Go wd EL p l e R Z s m args below meth c Q L k n (mkF m pc' L2 st)) : Go wd EL p l e R Z s m args below meth c Q L k n (mkF m pc Ls st) := by
  obtain ⟨d, rfl⟩ := D
  exact K.to X fun s X T lc H S t r => XS.iinc S.here X.1 rfl (hb X.2.2.2.1 d) hl hl' r
theorem Go.dup (X : Cx wd EL p Z s m meth c own nm code ml ret) {x : Value} (D : D1 code pc (.dup) 1 pc') (hc : x.category = 1) (K : Go wd EL p l e R Z s m args below meth c Q L k n (mkF m pc' Ls (x :: x :: st))) : Go wd EL p l e R Z s m args below meth c Q L k n (mkF m pc Ls (x :: st)) := by
  obtain ⟨d, rfl⟩ := D
  exact K.to X fun s X T lc H S t r => XS.dup S.here X.1 rfl (hb X.2.2.2.1 d) rfl hc r
theorem Go.dupX1 (X : Cx wd EL p Z s m meth c own nm code ml ret) {x y : Value} (D : D1 code pc (.dup_x1) 1 pc') (hc : x.category = 1) (hc' : y.category = 1) (K : Go wd EL p l e R Z s m args below meth c Q L k n (mkF m pc' Ls (x :: y :: x :: st))) : Go wd EL p l e R Z s m args below meth c Q L k n (mkF m pc Ls (x :: y :: st)) := by
  obtain ⟨d, rfl⟩ := D
  exact K.to X fun s X T lc H S t r => XT.dupX1 S.here X.1 rfl (hb X.2.2.2.1 d) rfl hc hc' r
theorem Go.dup2 (X : Cx wd EL p Z s m meth c own nm code ml ret) {x y : Value} (D : D1 code pc (.dup2) 1 pc') (hc : x.category = 1) (hc' : y.category = 1) (K : Go wd EL p l e R Z s m args below meth c Q L k n (mkF m pc' Ls (x :: y :: x :: y :: st))) : Go wd EL p l e R Z s m args below meth c Q L k n (mkF m pc Ls (x :: y :: st)) := by
  obtain ⟨d, rfl⟩ := D
  exact K.to X fun s X T lc H S t r => XT.dup2 S.here X.1 rfl (hb X.2.2.2.1 d) rfl hc hc' r
theorem Go.pop (X : Cx wd EL p Z s m meth c own nm code ml ret) {x : Value} (D : D1 code pc (.pop) 1 pc') (hc : x.category = 1) (K : Go wd EL p l e R Z s m args below meth c Q L k n (mkF m pc' Ls st)) : Go wd EL p l e R Z s m args below meth c Q L k n (mkF m pc Ls (x :: st)) := by
  obtain ⟨d, rfl⟩ := D
  exact K.to X fun s X T lc H S t r => XT.pop S.here X.1 rfl (hb X.2.2.2.1 d) rfl hc r
theorem Go.iadd (X : Cx wd EL p Z s m meth c own nm code ml ret) {x y : Int32} (D : D1 code pc (.iadd) 1 pc')  (K : Go wd EL p l e R Z s m args below meth c Q L k n (mkF m pc' Ls (.int (x + y) :: st))) : Go wd EL p l e R Z s m args below meth c Q L k n (mkF m pc Ls (.int y :: .int x :: st)) := by
  obtain ⟨d, rfl⟩ := D
  exact K.to X fun s X T lc H S t r => XS.iadd S.here X.1 rfl (hb X.2.2.2.1 d) rfl r
theorem Go.isub (X : Cx wd EL p Z s m meth c own nm code ml ret) {x y : Int32} (D : D1 code pc (.isub) 1 pc')  (K : Go wd EL p l e R Z s m args below meth c Q L k n (mkF m pc' Ls (.int (x - y) :: st))) : Go wd EL p l e R Z s m args below meth c Q L k n (mkF m pc Ls (.int y :: .int x :: st)) := by
  obtain ⟨d, rfl⟩ := D
  exact K.to X fun s X T lc H S t r => XS.isub S.here X.1 rfl (hb X.2.2.2.1 d) rfl r
theorem Go.imul (X : Cx wd EL p Z s m meth c own nm code ml ret) {x y : Int32} (D : D1 code pc (.imul) 1 pc')  (K : Go wd EL p l e R Z s m args below meth c Q L k n (mkF m pc' Ls (.int (x * y) :: st))) : Go wd EL p l e R Z s m args below meth c Q L k n (mkF m pc Ls (.int y :: .int x :: st)) := by
  obtain ⟨d, rfl⟩ := D
  exact K.to X fun s X T lc H S t r => XS.imul S.here X.1 rfl (hb X.2.2.2.1 d) rfl r
theorem Go.iand (X : Cx wd EL p Z s m meth c own nm code ml ret) {x y : Int32} (D : D1 code pc (.iand) 1 pc')  (K : Go wd EL p l e R Z s m args below meth c Q L k n (mkF m pc' Ls (.int (x &&& y) :: st))) : Go wd EL p l e R Z s m args below meth c Q L k n (mkF m pc Ls (.int y :: .int x :: st)) := by
  obtain ⟨d, rfl⟩ := D
  exact K.to X fun s X T lc H S t r => XS.iand S.here X.1 rfl (hb X.2.2.2.1 d) rfl r
theorem Go.ior (X : Cx wd EL p Z s m meth c own nm code ml ret) {x y : Int32} (D : D1 code pc (.ior) 1 pc')  (K : Go wd EL p l e R Z s m args below meth c Q L k n (mkF m pc' Ls (.int (x ||| y) :: st))) : Go wd EL p l e R Z s m args below meth c Q L k n (mkF m pc Ls (.int y :: .int x :: st)) := by
  obtain ⟨d, rfl⟩ := D
  exact K.to X fun s X T lc H S t r => XT.ior S.here X.1 rfl (hb X.2.2.2.1 d) rfl r
theorem Go.ixor (X : Cx wd EL p Z s m meth c own nm code ml ret) {x y : Int32} (D : D1 code pc (.ixor) 1 pc')  (K : Go wd EL p l e R Z s m args below meth c Q L k n (mkF m pc' Ls (.int (x ^^^ y) :: st))) : Go wd EL p l e R Z s m args below meth c Q L k n (mkF m pc Ls (.int y :: .int x :: st)) := by
  obtain ⟨d, rfl⟩ := D
  exact K.to X fun s X T lc H S t r => XT.ixor S.here X.1 rfl (hb X.2.2.2.1 d) rfl r
theorem Go.ishl (X : Cx wd EL p Z s m meth c own nm code ml ret) {x y : Int32} (D : D1 code pc (.ishl) 1 pc')  (K : Go wd EL p l e R Z s m args below meth c Q L k n (mkF m pc' Ls (.int (x <<< (y &&& 31)) :: st))) : Go wd EL p l e R Z s m args below meth c Q L k n (mkF m pc Ls (.int y :: .int x :: st)) := by
  obtain ⟨d, rfl⟩ := D
  exact K.to X fun s X T lc H S t r => XT.ishl S.here X.1 rfl (hb X.2.2.2.1 d) rfl r
theorem Go.ishr (X : Cx wd EL p Z s m meth c own nm code ml ret) {x y : Int32} (D : D1 code pc (.ishr) 1 pc')  (K : Go wd EL p l e R Z s m args below meth c Q L k n (mkF m pc' Ls (.int (x >>> (y &&& 31)) :: st))) : Go wd EL p l e R Z s m args below meth c Q L k n (mkF m pc Ls (.int y :: .int x :: st)) := by
  obtain ⟨d, rfl⟩ := D
  exact K.to X fun s X T lc H S t r => XT.ishr S.here X.1 rfl (hb X.2.2.2.1 d) rfl r
theorem Go.iushr (X : Cx wd EL p Z s m meth c own nm code ml ret) {x y : Int32} (D : D1 code pc (.iushr) 1 pc')  (K : Go wd EL p l e R Z s m args below meth c Q L k n (mkF m pc' Ls (.int (XT.ushr x y) :: st))) : Go wd EL p l e R Z s m args below meth c Q L k n (mkF m pc Ls (.int y :: .int x :: st)) := by
  obtain ⟨d, rfl⟩ := D
  exact K.to X fun s X T lc H S t r => XT.iushr S.here X.1 rfl (hb X.2.2.2.1 d) rfl r
theorem Go.irem (X : Cx wd EL p Z s m meth c own nm code ml ret) {x y : Int32} (D : D1 code pc (.irem) 1 pc') (hy : y ≠ 0) (K : Go wd EL p l e R Z s m args below meth c Q L k n (mkF m pc' Ls (.int (x % y) :: st))) : Go wd EL p l e R Z s m args below meth c Q L k n (mkF m pc Ls (.int y :: .int x :: st)) := by
  obtain ⟨d, rfl⟩ := D
  exact K.to X fun s X T lc H S t r => iremM S X.1 rfl (hb X.2.2.2.1 d) rfl hy r
theorem Go.ineg (X : Cx wd EL p Z s m meth c own nm code ml ret) {x : Int32} (D : D1 code pc (.ineg) 1 pc')  (K : Go wd EL p l e R Z s m args below meth c Q L k n (mkF m pc' Ls (.int (-x) :: st))) : Go wd EL p l e R Z s m args below meth c Q L k n (mkF m pc Ls (.int x :: st)) := by
  obtain ⟨d, rfl⟩ := D
  exact K.to X fun s X T lc H S t r => XS.ineg S.here X.1 rfl (hb X.2.2.2.1 d) rfl r
theorem Go.i2c (X : Cx wd EL p Z s m meth c own nm code ml ret) {x : Int32} (D : D1 code pc (.i2c) 1 pc')  (K : Go wd EL p l e R Z s m args below meth c Q L k n (mkF m pc' Ls (.int (x.toUInt32.toUInt16.toUInt32.toInt32) :: st))) : Go wd EL p l e R Z s m args below meth c Q L k n (mkF m pc Ls (.int x :: st)) := by
  obtain ⟨d, rfl⟩ := D
  exact K.to X fun s X T lc H S t r => XT.i2c S.here X.1 rfl (hb X.2.2.2.1 d) rfl r
theorem Go.i2b (X : Cx wd EL p Z s m meth c own nm code ml ret) {x : Int32} (D : D1 code pc (.i2b) 1 pc')  (K : Go wd EL p l e R Z s m args below meth c Q L k n (mkF m pc' Ls (.int (x.toInt8.toInt32) :: st))) : Go wd EL p l e R Z s m args below meth c Q L k n (mkF m pc Ls (.int x :: st)) := by
  obtain ⟨d, rfl⟩ := D
  exact K.to X fun s X T lc H S t r => XT.i2b S.here X.1 rfl (hb X.2.2.2.1 d) rfl r
theorem Go.goto (X : Cx wd EL p Z s m meth c own nm code ml ret) {o : Int} {pt : Nat} (D : D1 code pc (.goto o) 3 pc') (ho : 0 ≤ (pc : Int) + o ∧ ((pc : Int) + o).toNat = pt) (K : Go wd EL p l e R Z s m args below meth c Q L k n (mkF m pt Ls st)) : Go wd EL p l e R Z s m args below meth c Q L k n (mkF m pc Ls st) := by
  obtain ⟨d, rfl⟩ := D
  exact K.to X fun s X T lc H S t r => XS.goto S.here X.1 rfl rfl (hb X.2.2.2.1 d) ho.1 ho.2 r
theorem Go.ifnullY (X : Cx wd EL p Z s m meth c own nm code ml ret) {o : Int} {pt : Nat} (D : D1 code pc (.ifnull o) 3 pc') (ho : 0 ≤ (pc : Int) + o ∧ ((pc : Int) + o).toNat = pt) (K : Go wd EL p l e R Z s m args below meth c Q L k n (mkF m pt Ls st)) : Go wd EL p l e R Z s m args below meth c Q L k n (mkF m pc Ls (.null :: st)) := by
  obtain ⟨d, rfl⟩ := D
  exact K.to X fun s X T lc H S t r => XS.ifnullYes S.here X.1 rfl rfl (hb X.2.2.2.1 d) rfl ho.1 ho.2 r
theorem Go.ifnullN (X : Cx wd EL p Z s m meth c own nm code ml ret) {o : Int} {b : Addr} (D : D1 code pc (.ifnull o) 3 pc')  (K : Go wd EL p l e R Z s m args below meth c Q L k n (mkF m pc' Ls st)) : Go wd EL p l e R Z s m args below meth c Q L k n (mkF m pc Ls (.ref b :: st)) := by
  obtain ⟨d, rfl⟩ := D
  exact K.to X fun s X T lc H S t r => XS.ifnullNo S.here X.1 rfl (hb X.2.2.2.1 d) rfl r
theorem Go.ifnonnullY (X : Cx wd EL p Z s m meth c own nm code ml ret) {o : Int} {pt : Nat} {b : Addr} (D : D1 code pc (.ifnonnull o) 3 pc') (ho : 0 ≤ (pc : Int) + o ∧ ((pc : Int) + o).toNat = pt) (K : Go wd EL p l e R Z s m args below meth c Q L k n (mkF m pt Ls st)) : Go wd EL p l e R Z s m args below meth c Q L k n (mkF m pc Ls (.ref b :: st)) := by
  obtain ⟨d, rfl⟩ := D
  exact K.to X fun s X T lc H S t r => XT.ifnonnullYes S.here X.1 rfl rfl (hb X.2.2.2.1 d) rfl ho.1 ho.2 r
theorem Go.ifnonnullN (X : Cx wd EL p Z s m meth c own nm code ml ret) {o : Int} (D : D1 code pc (.ifnonnull o) 3 pc')  (K : Go wd EL p l e R Z s m args below meth c Q L k n (mkF m pc' Ls st)) : Go wd EL p l e R Z s m args below meth c Q L k n (mkF m pc Ls (.null :: st)) := by
  obtain ⟨d, rfl⟩ := D
  exact K.to X fun s X T lc H S t r => XT.ifnonnullNo S.here X.1 rfl (hb X.2.2.2.1 d) rfl r
/-! ### branches -/
def ccP (cd : ClassFile.Cond) (x y : Int32) : Prop := match cd with
  | .eq => x = y | .ne => x ≠ y | .lt => x < y | .ge => y ≤ x | .gt => y < x | .le => x ≤ y
theorem cc_icmp (cd : ClassFile.Cond) (x y : Int32) : if_icmp.holds cd x y = true ↔ ccP cd x y := by cases cd <;> simp [if_icmp.holds, ccP]
theorem cc_if (cd : ClassFile.Cond) (x : Int32) : ifCond.holds cd x = true ↔ ccP cd x 0 := by cases cd <;> simp [ifCond.holds, ccP]
def ccI (cd : ClassFile.Cond) (x y : Int) : Prop := match cd with
  | .eq => x = y | .ne => x ≠ y | .lt => x < y | .ge => y ≤ x | .gt => y < x | .le => x ≤ y
theorem cc_int (cd : ClassFile.Cond) (x y : Int32) : ccP cd x y ↔ ccI cd x.toInt y.toInt := by cases cd <;> simp only [ccP, ccI, Int32.lt_iff_toInt_lt, Int32.le_iff_toInt_le, ne_eq, Int32.toInt_inj]
theorem ccL {cd : ClassFile.Cond} {x y : Int32} {a b : Int} (q : ccP cd x y) (hx : x.toInt = a) (hy : y.toInt = b) : ccI cd a b := by subst hx hy; exact (cc_int cd x y).mp q
theorem ccN {cd : ClassFile.Cond} {x y : Int32} {a b : Int} (q : ¬ ccP cd x y) (hx : x.toInt = a) (hy : y.toInt = b) : ¬ ccI cd a b := by subst hx hy; exact fun r => q ((cc_int cd x y).mpr r)
theorem ite_0 {P : Prop} [Decidable P] (q : ccP .eq (if P then 1 else 0 : Int32) 0) : ¬ P := fun r => by rw [if_pos r] at q; exact absurd q (by show ¬ (1 : Int32) = 0; decide)
theorem ite_n0 {P : Prop} [Decidable P] (q : ¬ ccP .eq (if P then 1 else 0 : Int32) 0) : P := Decidable.byContradiction fun r => q (by rw [if_neg r]; rfl)
theorem ite_1 {P : Prop} [Decidable P] (q : ccP .ne (if P then 1 else 0 : Int32) 0) : P := Decidable.byContradiction fun r => q (by rw [if_neg r])
theorem ite_n1 {P : Prop} [Decidable P] (q : ¬ ccP .ne (if P then 1 else 0 : Int32) 0) : ¬ P := fun r => q (by rw [if_pos r]; show (1 : Int32) ≠ 0; decide)
theorem ite_01 {P : Prop} [Decidable P] : (if P then 1 else 0 : Int32) = 0 ∨ (if P then 1 else 0 : Int32) = 1 := by by_cases q : P <;> simp [q]
theorem ite_c {P Q : Prop} [Decidable P] [Decidable Q] (h : P ↔ Q) : (if P then 1 else 0 : Int32) = if Q then 1 else 0 := by by_cases q : P <;> simp [q, h.symm] <;> simp_all
theorem nat32 {i : Nat} (q : i < 2 ^ 31) : (Int32.ofNat i).toInt = i ∧ ¬ Int32.ofNat i < 0 ∧ (Int32.ofNat i).toNatClampNeg = i := by
  have e : (Int32.ofNat i).toInt = i := Int32.toInt_ofNat_small q
  refine ⟨e, ?_, ?_⟩
  · rw [Int32.lt_iff_toInt_lt, e, show (0 : Int32).toInt = 0 from rfl]; omega
  · simp only [Int32.toNatClampNeg, e]; rfl
theorem Go.icmp (X : Cx wd EL p Z s m meth c own nm code ml ret) {cd : ClassFile.Cond} {o : Int} {pt : Nat} {x y : Int32} (D : D1 code pc (.if_icmp cd o) 3 pc') (ho : 0 ≤ (pc : Int) + o ∧ ((pc : Int) + o).toNat = pt) (K1 : ccP cd x y → Go wd EL p l e R Z s m args below meth c Q L k n (mkF m pt Ls st)) (K2 : ¬ ccP cd x y → Go wd EL p l e R Z s m args below meth c Q L k n (mkF m pc' Ls st)) : Go wd EL p l e R Z s m args below meth c Q L k n (mkF m pc Ls (.int y :: .int x :: st)) := by
  obtain ⟨d, rfl⟩ := D
  cases hq : if_icmp.holds cd x y
  · exact (K2 fun q => by rw [(cc_icmp cd x y).mpr q] at hq; cases hq).to X fun s X T lc H S t r => XS.icmpNo S.here X.1 rfl (hb X.2.2.2.1 d) rfl hq r
  · exact (K1 ((cc_icmp cd x y).mp hq)).to X fun s X T lc H S t r => XS.icmpYes S.here X.1 rfl rfl (hb X.2.2.2.1 d) rfl hq ho.1 ho.2 r
theorem Go.ifc (X : Cx wd EL p Z s m meth c own nm code ml ret) {cd : ClassFile.Cond} {o : Int} {pt : Nat} {x : Int32} (D : D1 code pc (.ifCond cd o) 3 pc') (ho : 0 ≤ (pc : Int) + o ∧ ((pc : Int) + o).toNat = pt) (K1 : ccP cd x 0 → Go wd EL p l e R Z s m args below meth c Q L k n (mkF m pt Ls st)) (K2 : ¬ ccP cd x 0 → Go wd EL p l e R Z s m args below meth c Q L k n (mkF m pc' Ls st)) : Go wd EL p l e R Z s m args below meth c Q L k n (mkF m pc Ls (.int x :: st)) := by
  obtain ⟨d, rfl⟩ := D
  cases hq : ifCond.holds cd x
  · exact (K2 fun q => by rw [(cc_if cd x).mpr q] at hq; cases hq).to X fun s X T lc H S t r => XS.ifNo S.here X.1 rfl (hb X.2.2.2.1 d) rfl hq r
  · exact (K1 ((cc_if cd x).mp hq)).to X fun s X T lc H S t r => XS.ifYes S.here X.1 rfl rfl (hb X.2.2.2.1 d) rfl hq ho.1 ho.2 r
def acP (cd : ACond) (x y : Value) : Prop := match cd with | .eq => x = y | .ne => x ≠ y
theorem ac_iff (cd : ACond) (x y : Value) : acV cd (decide (x = y)) = true ↔ acP cd x y := by cases cd <;> simp [acV, acP]
theorem Go.acmp (X : Cx wd EL p Z s m meth c own nm code ml ret) {cd : ACond} {o : Int} {pt : Nat} {x y : Value} (D : D1 code pc (.if_acmp cd o) 3 pc') (ho : 0 ≤ (pc : Int) + o ∧ ((pc : Int) + o).toNat = pt) (hx : x.isRef = true) (hy : y.isRef = true) (K1 : acP cd x y → Go wd EL p l e R Z s m args below meth c Q L k n (mkF m pt Ls st)) (K2 : ¬ acP cd x y → Go wd EL p l e R Z s m args below meth c Q L k n (mkF m pc' Ls st)) : Go wd EL p l e R Z s m args below meth c Q L k n (mkF m pc Ls (y :: x :: st)) := by
  obtain ⟨d, rfl⟩ := D
  cases hq : acV cd (decide (x = y))
  · exact (K2 fun q => by rw [(ac_iff cd x y).mpr q] at hq; cases hq).to X fun s X T lc H S t r => RoadKit.acmp S X.1 rfl hx hy rfl (hb X.2.2.2.1 d) rfl rfl ho.1 (by rw [hq]; rfl) r
  · exact (K1 ((ac_iff cd x y).mp hq)).to X fun s X T lc H S t r => RoadKit.acmp S X.1 rfl hx hy rfl (hb X.2.2.2.1 d) rfl rfl ho.1 (by rw [hq]; exact ho.2.symm) r
theorem Go.lswY (X : Cx wd EL p Z s m meth c own nm code ml ret) {dflt : Int} {pairs : Array (Int × Int)} {len : Nat} {x : Int32} {a off : Int} {pt : Nat} (D : D1 code pc (.lookupswitch dflt pairs) len pc') (hs : (pairs.toList.zip (pairs.toList.drop 1)).all (fun (a, next) => a.1 < next.1) = true) (hf : pairs.find? (·.1 == x.toInt) = some (a, off)) (ho : 0 ≤ (pc : Int) + off ∧ ((pc : Int) + off).toNat = pt) (K : Go wd EL p l e R Z s m args below meth c Q L k n (mkF m pt Ls st)) : Go wd EL p l e R Z s m args below meth c Q L k n (mkF m pc Ls (.int x :: st)) := by
  obtain ⟨d, rfl⟩ := D
  exact K.to X fun s X T lc H S t r => S.lookupswitchHit X.1 (g := mkF m pc Ls (.int x :: st)) rfl rfl (hb X.2.2.2.1 d) hs hf ho.1 t (by show Steps _ _ _ (T.setTop (mkF m ((pc : Int) + off).toNat Ls st)) _; rw [ho.2]; exact r)
theorem Go.lswN (X : Cx wd EL p Z s m meth c own nm code ml ret) {dflt : Int} {pairs : Array (Int × Int)} {len : Nat} {x : Int32} {pt : Nat} (D : D1 code pc (.lookupswitch dflt pairs) len pc') (hs : (pairs.toList.zip (pairs.toList.drop 1)).all (fun (a, next) => a.1 < next.1) = true) (hf : pairs.find? (·.1 == x.toInt) = none) (ho : 0 ≤ (pc : Int) + dflt ∧ ((pc : Int) + dflt).toNat = pt) (K : Go wd EL p l e R Z s m args below meth c Q L k n (mkF m pt Ls st)) : Go wd EL p l e R Z s m args below meth c Q L k n (mkF m pc Ls (.int x :: st)) := by
  obtain ⟨d, rfl⟩ := D
  exact K.to X fun s X T lc H S t r => S.lookupswitchMiss X.1 (g := mkF m pc Ls (.int x :: st)) rfl rfl (hb X.2.2.2.1 d) hs hf ho.1 t (by show Steps _ _ _ (T.setTop (mkF m ((pc : Int) + dflt).toNat Ls st)) _; rw [ho.2]; exact r)
theorem Go.tswY (X : Cx wd EL p Z s m meth c own nm code ml ret) {dflt low high : Int} {offs : Array Int} {len : Nat} {x : Int32} {off : Int} {pt : Nat} (D : D1 code pc (.tableswitch dflt low high offs) len pc') (hin : ¬ (x.toInt < low ∨ x.toInt > high)) (hf : offs[(x.toInt - low).toNat]? = some off) (ho : 0 ≤ (pc : Int) + off ∧ ((pc : Int) + off).toNat = pt) (K : Go wd EL p l e R Z s m args below meth c Q L k n (mkF m pt Ls st)) : Go wd EL p l e R Z s m args below meth c Q L k n (mkF m pc Ls (.int x :: st)) := by
  obtain ⟨d, rfl⟩ := D
  exact K.to X fun s X T lc H S t r => S.tableswitchIn X.1 (g := mkF m pc Ls (.int x :: st)) rfl rfl (hb X.2.2.2.1 d) hin hf ho.1 t (by show Steps _ _ _ (T.setTop (mkF m ((pc : Int) + off).toNat Ls st)) _; rw [ho.2]; exact r)
/-! ### returns -/
theorem Go.retw {t : FieldType} (X : Cx wd EL p Z s m meth c own nm code ml (some t)) {i : Instr} {w : Value} {Qv : Value → List Ent → Prop} (hn : narrow t w = w)
    (hi : (i = .ireturn ∧ (t = .int ∨ t = .boolean ∨ t = .byte ∨ t = .char ∨ t = .short) ∧ ∃ z, w = .int z) ∨ (i = .lreturn ∧ t = .long ∧ ∃ z, w = .long z) ∨ (i = .dreturn ∧ t = .double ∧ ∃ z, w = .double z) ∨ (i = .freturn ∧ t = .float ∧ ∃ z, w = .float z) ∨ (i = .areturn ∧ t.isReference = true ∧ w.isRef = true))
    (D : D1 code pc i 1 pc') (hk : k ≤ R.cells) (hs : n ≤ R.slots) (q : Qv w L) : Go wd EL p l e R Z s m args below meth c (rvQ Qv) L k n (mkF m pc Ls (w :: st)) := by
  intro vm T lc F B I S
  replace X := X.re B
  have hlk : meth.locks = false := X.2.2.2.2.2.2.1
  obtain ⟨fs, hr, hrun, hended, hW, hsame⟩ := S.leave (v := some w) (fun z => by rw [X.2.2.2.2.2.1] at z; cases z) hlk
  exact ⟨_, _, retOut S X.1 X.2.2.2.2.2.1 hn hi (hb X.2.2.2.1 D.1) hr, hrun, hended, some w, L, lc, rfl, ⟨w, rfl, q⟩, I.now X S, F, B.ended ⟨_, rfl⟩ hW (Nat.le_refl _) hsame hk hs⟩
theorem Go.iret (X : Cx wd EL p Z s m meth c own nm code ml (some .int)) {z : Int32} {Qv : Value → List Ent → Prop} (D : D1 code pc .ireturn 1 pc') (hk : k ≤ R.cells) (hs : n ≤ R.slots) (q : Qv (.int z) L) : Go wd EL p l e R Z s m args below meth c (rvQ Qv) L k n (mkF m pc Ls (.int z :: st)) :=
  Go.retw X rfl (Or.inl ⟨rfl, Or.inl rfl, z, rfl⟩) D hk hs q
theorem Go.zret (X : Cx wd EL p Z s m meth c own nm code ml (some .boolean)) {z : Int32} {Qv : Value → List Ent → Prop} (D : D1 code pc .ireturn 1 pc') (hz : z = 0 ∨ z = 1) (hk : k ≤ R.cells) (hs : n ≤ R.slots) (q : Qv (.int z) L) : Go wd EL p l e R Z s m args below meth c (rvQ Qv) L k n (mkF m pc Ls (.int z :: st)) :=
  Go.retw X (by rcases hz with rfl | rfl <;> rfl) (Or.inl ⟨rfl, Or.inr (Or.inl rfl), z, rfl⟩) D hk hs q
theorem Go.cret (X : Cx wd EL p Z s m meth c own nm code ml (some .char)) {z : Int32} {Qv : Value → List Ent → Prop} (D : D1 code pc .ireturn 1 pc') (hz : z.toUInt32.toUInt16.toUInt32.toInt32 = z) (hk : k ≤ R.cells) (hs : n ≤ R.slots) (q : Qv (.int z) L) : Go wd EL p l e R Z s m args below meth c (rvQ Qv) L k n (mkF m pc Ls (.int z :: st)) :=
  Go.retw X (by show Value.int (z.toUInt32.toUInt16.toUInt32.toInt32) = .int z; rw [hz]) (Or.inl ⟨rfl, Or.inr (Or.inr (Or.inr (Or.inl rfl))), z, rfl⟩) D hk hs q
theorem Go.bret (X : Cx wd EL p Z s m meth c own nm code ml (some .byte)) {z : Int32} {Qv : Value → List Ent → Prop} (D : D1 code pc .ireturn 1 pc') (hz : z.toInt8.toInt32 = z) (hk : k ≤ R.cells) (hs : n ≤ R.slots) (q : Qv (.int z) L) : Go wd EL p l e R Z s m args below meth c (rvQ Qv) L k n (mkF m pc Ls (.int z :: st)) :=
  Go.retw X (by show Value.int (z.toInt8.toInt32) = .int z; rw [hz]) (Or.inl ⟨rfl, Or.inr (Or.inr (Or.inl rfl)), z, rfl⟩) D hk hs q
theorem Go.aret {t : FieldType} (X : Cx wd EL p Z s m meth c own nm code ml (some t)) {w : Value} {Qv : Value → List Ent → Prop} (D : D1 code pc .areturn 1 pc') (ht : t.isReference = true) (hw : w.isRef = true) (hn : narrow t w = w) (hk : k ≤ R.cells) (hs : n ≤ R.slots) (q : Qv w L) : Go wd EL p l e R Z s m args below meth c (rvQ Qv) L k n (mkF m pc Ls (w :: st)) :=
  Go.retw X hn (Or.inr (Or.inr (Or.inr (Or.inr ⟨rfl, ht, hw⟩)))) D hk hs q
theorem Go.ret0 (X : Cx wd EL p Z s m meth c own nm code ml none) {Q0 : List Ent → Prop} (D : D1 code pc .return_ 1 pc') (hk : k ≤ R.cells) (hs : n ≤ R.slots) (q : Q0 L) : Go wd EL p l e R Z s m args below meth c (r0Q Q0) L k n (mkF m pc Ls []) := by
  intro vm T lc F B I S
  replace X := X.re B
  have hlk : meth.locks = false := X.2.2.2.2.2.2.1
  obtain ⟨fs, hr, hrun, hended, hW, hsame⟩ := S.leave (v := none) (fun _ => rfl) hlk
  exact ⟨_, _, S.returnOut X.1 X.2.2.2.2.2.1 (hb X.2.2.2.1 D.1) hr, hrun, hended, none, L, lc, rfl, ⟨rfl, q⟩, I.now X S, F, B.ended ⟨_, rfl⟩ hW (Nat.le_refl _) hsame hk hs⟩
end Steps
end Jvm.OwnKit
namespace Jvm.OwnKit
open Sem ClassFile Op Lib Jvm.Stand Jvm.Free Jvm.LawKit Jvm.RoadKit
section Steps
variable {wd : Bool} {EL : List (String × Nat)} {p : Program} {l : Launch} {e : Env} {R : Room} {Z s : State} {m : MethodId} {args : Array Value} {below : List Frame} {meth : Method} {c : Code} {Q : Option Value → List Ent → Prop} {L L' : List Ent} {k n : Nat} {own nm : String} {code : ByteArray} {ml : Nat} {ret : Option FieldType} {a0 : Array Value}
variable {pc pc' : Nat} {Ls : Array Slot} {st : List Value} {i j : Nat} {a b : Addr} {C : String} {ns : List Nm} {vs : List Value} {v : Value} {h h' : Heap} {vm : Vm}
def dfl (ns : List Nm) : List (Option Value) := ns.map fun q => (parseFieldDescriptor q.2.2).map defaultValue
theorem Go.new (X : Cx wd EL p Z s m meth c own nm code ml ret) {idx kk : Nat} (w : (Cond.classLink own idx C).before a0 Z = true) (wi : (Cond.instantiable C kk).before a0 Z = true) (wz : (Cond.initialized C).before a0 Z = true) (Y : LayC Z a0 C ns) (hv : dfl ns = vs.map some) (D : D1 code pc (.new idx) 3 pc') (hc : k + 1 ≤ R.cells) (hl : n + kk ≤ R.slots)
    (K : ∀ a, Go wd EL p l e R Z s m args below meth c Q (ow a (Ob Z C ns vs) :: L) (k + 1) (n + kk) (mkF m pc' Ls (.ref a :: st))) : Go wd EL p l e R Z s m args below meth c Q L k n (mkF m pc Ls st) := by
  obtain ⟨d, rfl⟩ := D
  intro vm T lc F B I S
  replace X := X.re B
  obtain ⟨T', h', S', e', E', A', D', -, stp⟩ := newO S X.1 X.2.1 X.2.2.1 w wi wz rfl (g := mkF m pc Ls st) rfl (hb X.2.2.2.1 d) hc hl
  have I' : Iv wd Z EL vm h' (ow T.heap.size (Ob Z C ns vs) :: L) := by
    obtain ⟨cell, kC, a1, a2, a3, a4, a5⟩ := A'
    refine I.push E' (Nat.le_refl _) ⟨cell, a1, ⟨kC, a2, a3, a4, a5⟩, ?_, fun j q v hj hv' => ?_⟩
    · have := congrArg List.length hv; simpa [dfl] using this.symm
    · have e1 : (dfl ns)[j]? = some ((parseFieldDescriptor q.2.2).map defaultValue) := by simp [dfl, hj]
      rw [hv] at e1
      simp only [List.getElem?_map, hv', Option.map_some, Option.some.injEq] at e1
      cases ht : parseFieldDescriptor q.2.2 with
      | none => rw [ht] at e1; cases e1
      | some ty =>
        rw [ht] at e1
        cases e1
        obtain ⟨c', cf, k', i', f, f0, r⟩ := D' (Y.1 q (List.mem_of_getElem? hj)) ht
        cases a1.symm.trans f0
        exact ⟨cf, k', i', f, r⟩
  subst e'
  obtain ⟨u, o, st', r⟩ := K _ vm T' lc F (B.mono E'.1) I' S'
  exact ⟨u, o, stp _ st', r⟩
theorem Go.getFld (X : Cx wd EL p Z s m meth c own nm code ml ret) {R0 O f d : String} {idx : Nat} (w : (Cond.fieldLink own idx R0 f d).before a0 Z = true) (via : Via Z R0 O f d) (F : ∀ h, Hp Z h L → Fld Z h a O f d v) (D : D1 code pc (.getfield idx) 3 pc') (K : Go wd EL p l e R Z s m args below meth c Q L k n (mkF m pc' Ls (v :: st))) : Go wd EL p l e R Z s m args below meth c Q L k n (mkF m pc Ls (.ref a :: st)) := by
  obtain ⟨dd, rfl⟩ := D
  intro vm T lc Fr' B I S
  replace X := X.re B
  obtain ⟨T', S', e', stp⟩ := getF S X.1 X.2.1 X.2.2.1 (host := "") (Or.inl w) via rfl (F _ I.1) (g := mkF m pc Ls (.ref a :: st)) rfl rfl (hb X.2.2.2.1 dd)
  rw [← e'] at I B
  obtain ⟨u, o, st', r⟩ := K vm T' lc Fr' B I S'
  exact ⟨u, o, stp _ st', r⟩
theorem Go.putFld (X : Cx wd EL p Z s m meth c own nm code ml ret) {R0 O f d : String} {idx kk : Nat} {ty : FieldType} (hi : L[i]? = some (ow a (Ob Z C ns vs))) (hj : ns[j]? = some (O, f, d)) (Y : LayC Z a0 C ns) (w : (Cond.fieldLink own idx R0 f d).before a0 Z = true) (via : Via Z R0 O f d) (hL : (Cond.lays C O f d).before a0 Z = true ∨ ((Cond.laysFinal C O f d).before a0 Z = true ∧ own = O ∧ nm = "<init>")) (wi : (Cond.instantiable C kk).before a0 Z = true)
    (ht : parseFieldDescriptor d = some ty) (D : D1 code pc (.putfield idx) 3 pc') (hn : narrow ty v = v) (hf : fits ty v = true) (K : Go wd EL p l e R Z s m args below meth c Q (updL L i (ow a (Ob Z C ns (updL vs j v)))) k n (mkF m pc' Ls st)) : Go wd EL p l e R Z s m args below meth c Q L k n (mkF m pc Ls (v :: .ref a :: st)) := by
  obtain ⟨dd, rfl⟩ := D
  intro vm T lc F' B I S
  replace X := X.re B
  have lj : j < vs.length := by obtain ⟨c, hc, -, hl, -⟩ := I.1.at hi; rw [hl]; exact (List.getElem?_eq_some_iff.mp hj).1
  have F := I.1.fld hi hj (List.getElem?_eq_getElem lj)
  have E := I.1.exa hi
  obtain ⟨T', h', S', e', W, stp⟩ := putF S X.1 X.2.1 X.2.2.1 (host := "") (Or.inl w) via rfl F E (hL.imp id fun q => ⟨q.1, q.2.1, X.2.2.2.2.2.2.2.1.trans q.2.2⟩) wi ht hn hf (g := mkF m pc Ls (v :: .ref a :: st)) rfl rfl (hb X.2.2.2.1 dd)
  have I' := I.wr (P' := Ob Z C ns (updL vs j v)) hi W fun c O hs lt => Ob.put Y hj O hs lt
  subst e'
  obtain ⟨u, o, st', r⟩ := K vm T' _ (F'.app fun y hy => by cases List.mem_singleton.mp hy; exact I.1.ge hi) (B.mono (Nat.le_of_eq W.size.symm)) I' S'
  exact ⟨u, o, stp _ st', r⟩
theorem Go.getSta (X : Cx wd EL p Z s m meth c own nm code ml ret) {R0 O f d : String} {idx : Nat} (w : (Cond.fieldLink own idx R0 f d).before a0 Z = true) (via : Via Z R0 O f d) (F : Sta Z Z.heap O f d v) (D : D1 code pc (.getstatic idx) 3 pc') (K : Go wd EL p l e R Z s m args below meth c Q L k n (mkF m pc' Ls (v :: st))) : Go wd EL p l e R Z s m args below meth c Q L k n (mkF m pc Ls st) := by
  obtain ⟨dd, rfl⟩ := D
  intro vm T lc F' B I S
  replace X := X.re B
  obtain ⟨T', S', e', stp⟩ := getS2 S X.1 X.2.1 X.2.2.1 (host := "") (Or.inl w) via rfl (F.ext I.1.1) (g := mkF m pc Ls st) rfl (hb X.2.2.2.1 dd)
  rw [← e'] at I B
  obtain ⟨u, o, st', r⟩ := K vm T' lc F' B I S'
  exact ⟨u, o, stp _ st', r⟩
theorem Go.getFldN (X : Cx wd EL p Z s m meth c own nm code ml ret) {R0 O f d : String} {host : String} {idx : Nat} (w : (Cond.fieldLinkNest own idx R0 f d host).before a0 Z = true) (via : Via Z R0 O f d) (F : ∀ h, Hp Z h L → Fld Z h a O f d v) (D : D1 code pc (.getfield idx) 3 pc') (K : Go wd EL p l e R Z s m args below meth c Q L k n (mkF m pc' Ls (v :: st))) : Go wd EL p l e R Z s m args below meth c Q L k n (mkF m pc Ls (.ref a :: st)) := by
  obtain ⟨dd, rfl⟩ := D
  intro vm T lc Fr' B I S
  replace X := X.re B
  obtain ⟨T', S', e', stp⟩ := getF S X.1 X.2.1 X.2.2.1 (host := host) (Or.inr w) via rfl (F _ I.1) (g := mkF m pc Ls (.ref a :: st)) rfl rfl (hb X.2.2.2.1 dd)
  rw [← e'] at I B
  obtain ⟨u, o, st', r⟩ := K vm T' lc Fr' B I S'
  exact ⟨u, o, stp _ st', r⟩
theorem Go.putFldN (X : Cx wd EL p Z s m meth c own nm code ml ret) {R0 O f d : String} {host : String} {idx kk : Nat} {ty : FieldType} (hi : L[i]? = some (ow a (Ob Z C ns vs))) (hj : ns[j]? = some (O, f, d)) (Y : LayC Z a0 C ns) (w : (Cond.fieldLinkNest own idx R0 f d host).before a0 Z = true) (via : Via Z R0 O f d) (hL : (Cond.lays C O f d).before a0 Z = true ∨ ((Cond.laysFinal C O f d).before a0 Z = true ∧ own = O ∧ nm = "<init>")) (wi : (Cond.instantiable C kk).before a0 Z = true)
    (ht : parseFieldDescriptor d = some ty) (D : D1 code pc (.putfield idx) 3 pc') (hn : narrow ty v = v) (hf : fits ty v = true) (K : Go wd EL p l e R Z s m args below meth c Q (updL L i (ow a (Ob Z C ns (updL vs j v)))) k n (mkF m pc' Ls st)) : Go wd EL p l e R Z s m args below meth c Q L k n (mkF m pc Ls (v :: .ref a :: st)) := by
  obtain ⟨dd, rfl⟩ := D
  intro vm T lc F' B I S
  replace X := X.re B
  have lj : j < vs.length := by obtain ⟨c, hc, -, hl, -⟩ := I.1.at hi; rw [hl]; exact (List.getElem?_eq_some_iff.mp hj).1
  have F := I.1.fld hi hj (List.getElem?_eq_getElem lj)
  have E := I.1.exa hi
  obtain ⟨T', h', S', e', W, stp⟩ := putF S X.1 X.2.1 X.2.2.1 (host := host) (Or.inr w) via rfl F E (hL.imp id fun q => ⟨q.1, q.2.1, X.2.2.2.2.2.2.2.1.trans q.2.2⟩) wi ht hn hf (g := mkF m pc Ls (v :: .ref a :: st)) rfl rfl (hb X.2.2.2.1 dd)
  have I' := I.wr (P' := Ob Z C ns (updL vs j v)) hi W fun c O hs lt => Ob.put Y hj O hs lt
  subst e'
  obtain ⟨u, o, st', r⟩ := K vm T' _ (F'.app fun y hy => by cases List.mem_singleton.mp hy; exact I.1.ge hi) (B.mono (Nat.le_of_eq W.size.symm)) I' S'
  exact ⟨u, o, stp _ st', r⟩
theorem Go.getStaN (X : Cx wd EL p Z s m meth c own nm code ml ret) {R0 O f d : String} {host : String} {idx : Nat} (w : (Cond.fieldLinkNest own idx R0 f d host).before a0 Z = true) (via : Via Z R0 O f d) (F : Sta Z Z.heap O f d v) (D : D1 code pc (.getstatic idx) 3 pc') (K : Go wd EL p l e R Z s m args below meth c Q L k n (mkF m pc' Ls (v :: st))) : Go wd EL p l e R Z s m args below meth c Q L k n (mkF m pc Ls st) := by
  obtain ⟨dd, rfl⟩ := D
  intro vm T lc F' B I S
  replace X := X.re B
  obtain ⟨T', S', e', stp⟩ := getS2 S X.1 X.2.1 X.2.2.1 (host := host) (Or.inr w) via rfl (F.ext I.1.1) (g := mkF m pc Ls st) rfl (hb X.2.2.2.1 dd)
  rw [← e'] at I B
  obtain ⟨u, o, st', r⟩ := K vm T' lc F' B I S'
  exact ⟨u, o, stp _ st', r⟩
theorem Go.putInv (X : Cx wd EL p Z s m meth c own nm code ml ret) {R0 O f d : String} {idx kk : Nat} {ty : FieldType} {P : Cell → Prop} (hi : ow a P ∈ L) (w : (Cond.fieldLink own idx R0 f d).before a0 Z = true) (via : Via Z R0 O f d) (hL : (Cond.lays C O f d).before a0 Z = true ∨ ((Cond.laysFinal C O f d).before a0 Z = true ∧ own = O ∧ nm = "<init>")) (wi : (Cond.instantiable C kk).before a0 Z = true)
    (hF : ∀ h, Hp Z h L → (∃ v0, Fld Z h a O f d v0) ∧ Exa Z h a C) (hP : ∀ c : Cell, P c → c.vm.isStatics = false → slo Z (O, f, d) < c.slots.size → P (c.setSlot (slo Z (O, f, d)) v))
    (ht : parseFieldDescriptor d = some ty) (D : D1 code pc (.putfield idx) 3 pc') (hn : narrow ty v = v) (hf : fits ty v = true) (K : Go wd EL p l e R Z s m args below meth c Q L k n (mkF m pc' Ls st)) : Go wd EL p l e R Z s m args below meth c Q L k n (mkF m pc Ls (v :: .ref a :: st)) := by
  obtain ⟨dd, rfl⟩ := D
  intro vm T lc F' B I S
  replace X := X.re B
  obtain ⟨⟨v0, F⟩, E⟩ := hF _ I.1
  obtain ⟨T', h', S', e', W, stp⟩ := putF S X.1 X.2.1 X.2.2.1 (host := "") (Or.inl w) via rfl F E (hL.imp id fun q => ⟨q.1, q.2.1, X.2.2.2.2.2.2.2.1.trans q.2.2⟩) wi ht hn hf (g := mkF m pc Ls (v :: .ref a :: st)) rfl rfl (hb X.2.2.2.1 dd)
  obtain ⟨ix, hix⟩ := List.getElem?_of_mem hi
  have I' := I.wr (P' := P) hix W fun c O hs lt => hP c O hs lt
  have eL : updL L ix (ow a P) = L := upd_self L ix _ hix
  rw [eL] at I'
  subst e'
  obtain ⟨u, o, st', r⟩ := K vm T' _ (F'.app fun y hy => by cases List.mem_singleton.mp hy; exact I.1.ge hix) (B.mono (Nat.le_of_eq W.size.symm)) I' S'
  exact ⟨u, o, stp _ st', r⟩
theorem Go.getAny (X : Cx wd EL p Z s m meth c own nm code ml ret) {R0 O f d : String} {idx : Nat} {φ : Value → Prop} (w : (Cond.fieldLink own idx R0 f d).before a0 Z = true) (via : Via Z R0 O f d) (F : ∀ h, Hp Z h L → ∃ v, φ v ∧ Fld Z h a O f d v) (D : D1 code pc (.getfield idx) 3 pc') (K : ∀ v, φ v → Go wd EL p l e R Z s m args below meth c Q L k n (mkF m pc' Ls (v :: st))) : Go wd EL p l e R Z s m args below meth c Q L k n (mkF m pc Ls (.ref a :: st)) := by
  obtain ⟨dd, rfl⟩ := D
  intro vm T lc Fr' B I S
  replace X := X.re B
  obtain ⟨v, hv, F⟩ := F _ I.1
  obtain ⟨T', S', e', stp⟩ := getF S X.1 X.2.1 X.2.2.1 (host := "") (Or.inl w) via rfl F (g := mkF m pc Ls (.ref a :: st)) rfl rfl (hb X.2.2.2.1 dd)
  rw [← e'] at I B
  obtain ⟨u, o, st', r⟩ := K v hv vm T' lc Fr' B I S'
  exact ⟨u, o, stp _ st', r⟩
/-! ### arrays -/
theorem Go.newarrF (X : Cx wd EL p Z s m meth c own nm code ml ret) {aty : ArrayType} {z : Int32} {N cap : Nat} (w : (Cond.arrayClass (newarray.typeOf aty)).before a0 Z = true) (hz : ¬ z < 0) (hN : z.toNatClampNeg = N) (hcap : N ≤ cap) (hb8 : cap * 8 ≤ 536870912) (D : D1 code pc (.newarray aty) 2 pc') (hc : k + 1 ≤ R.cells) (hl : n + cap ≤ R.slots)
    (K : ∀ a K', Z.vm.findClass ("[" ++ (newarray.typeOf aty).toString) = some K' → Go wd EL p l e R Z s m args below meth c Q (ow a (Ar Z (newarray.typeOf aty) K' (List.replicate N (defaultValue (newarray.typeOf aty)))) :: L) (k + 1) (n + cap) (mkF m pc' Ls (.ref a :: st))) : Go wd EL p l e R Z s m args below meth c Q L k n (mkF m pc Ls (.int z :: st)) := by
  obtain ⟨d, rfl⟩ := D
  intro vm T lc F B I S
  replace X := X.re B
  have hcb : componentBytes (newarray.typeOf aty) ≤ 8 := by cases aty <;> decide
  obtain ⟨cA, kA, comp, h1, h2, h3, S', stp⟩ := S.newarrayPrim X.1 (mvA X.2.1 w) (g := mkF m pc Ls (.int z :: st)) rfl (hb X.2.2.2.1 d) rfl hz (Nat.le_trans (Nat.mul_le_mul (by omega) hcb) hb8) hc (by omega)
  rw [X.2.1.alike.findClass] at h1
  obtain ⟨kZ, z1, -⟩ := Vm.findClass_spec h1
  obtain ⟨k', z2, z3⟩ := X.2.1.alike.2.2 _ _ z1
  cases h2.symm.trans z2
  have E' : Ext T.heap (T.heap.push { cls := cA, slots := Array.replicate z.toNatClampNeg (defaultValue (newarray.typeOf aty)), vm := .none }) := ext_of fun a q => Array.getElem?_push_lt q |>.trans (Array.getElem?_eq_getElem q).symm
  have I' := I.push (a := T.heap.size) (P := Ar Z (newarray.typeOf aty) cA (List.replicate N (defaultValue (newarray.typeOf aty)))) E' (Nat.le_refl _) ⟨{ cls := cA, slots := Array.replicate z.toNatClampNeg (defaultValue (newarray.typeOf aty)), vm := .none }, by simp, ⟨by simp, kZ, z1, comp, by rw [← h3, z3]⟩, by simp, rfl, by simp [hN], by simp; omega, fun u hu => by rw [List.eq_of_mem_replicate hu]; cases aty <;> rfl⟩
  obtain ⟨u, o, st', r⟩ := K _ cA h1 vm _ lc F (B.mono E'.1) I' (S'.mono (Nat.le_refl _) (by omega))
  exact ⟨u, o, stp _ st', r⟩
theorem Go.newarr (X : Cx wd EL p Z s m meth c own nm code ml ret) {aty : ArrayType} {z : Int32} {N cap : Nat} (w : (Cond.arrayClass (newarray.typeOf aty)).before a0 Z = true) (hz : ¬ z < 0) (hN : z.toNatClampNeg = N) (hcap : N ≤ cap) (hb8 : cap * 8 ≤ 536870912) (D : D1 code pc (.newarray aty) 2 pc') (hc : k + 1 ≤ R.cells) (hl : n + cap ≤ R.slots)
    (K : ∀ a K', Go wd EL p l e R Z s m args below meth c Q (ow a (Ar Z (newarray.typeOf aty) K' (List.replicate N (defaultValue (newarray.typeOf aty)))) :: L) (k + 1) (n + cap) (mkF m pc' Ls (.ref a :: st))) : Go wd EL p l e R Z s m args below meth c Q L k n (mkF m pc Ls (.int z :: st)) := by
  obtain ⟨d, rfl⟩ := D
  intro vm T lc F B I S
  replace X := X.re B
  obtain ⟨T', h', cA, S', e', E', A', stp⟩ := newP S X.1 X.2.1 w rfl (g := mkF m pc Ls (.int z :: st)) rfl (hb X.2.2.2.1 d) rfl hz (cap := cap) (by omega) hb8 hc hl
  have I' := I.push (P := Ar Z (newarray.typeOf aty) cA (List.replicate N (defaultValue (newarray.typeOf aty)))) E' (Nat.le_refl _) ⟨_, A'.1, A'.2.1, A'.2.2, rfl, by simp [newA, hN], by simp; omega, fun u hu => by rw [List.eq_of_mem_replicate hu]; cases aty <;> rfl⟩
  subst e'
  obtain ⟨u, o, st', r⟩ := K _ cA vm T' lc F (B.mono E'.1) I' S'
  exact ⟨u, o, stp _ st', r⟩
theorem Go.anew (X : Cx wd EL p Z s m meth c own nm code ml ret) {idx : Nat} {z : Int32} {N cap : Nat} (w : (Cond.classLink own idx C).before a0 Z = true) (w2 : (Cond.arrayOver (.object C)).before a0 Z = true) (hz : ¬ z < 0) (hN : z.toNatClampNeg = N) (hcap : N ≤ cap) (hb8 : cap * 8 ≤ 536870912) (D : D1 code pc (.anewarray idx) 3 pc') (hc : k + 1 ≤ R.cells) (hl : n + cap ≤ R.slots)
    (K : ∀ a K', Ovr Z K' C → Go wd EL p l e R Z s m args below meth c Q (ow a (Ar Z (.object C) K' (List.replicate N .null)) :: L) (k + 1) (n + cap) (mkF m pc' Ls (.ref a :: st))) : Go wd EL p l e R Z s m args below meth c Q L k n (mkF m pc Ls (.int z :: st)) := by
  obtain ⟨d, rfl⟩ := D
  intro vm T lc F B I S
  replace X := X.re B
  obtain ⟨T', h', cA, S', e', E', A', O', stp⟩ := newR S X.1 X.2.1 X.2.2.1 w w2 rfl (g := mkF m pc Ls (.int z :: st)) rfl (hb X.2.2.2.1 d) rfl hz (cap := cap) (by omega) hb8 hc hl
  have I' := I.push (P := Ar Z (.object C) cA (List.replicate N .null)) E' (Nat.le_refl _) ⟨_, A'.1, A'.2.1, A'.2.2, rfl, by simp [newA, hN, defaultValue], by simp; omega, fun u hu => by rw [List.eq_of_mem_replicate hu]; rfl⟩
  subst e'
  obtain ⟨u, o, st', r⟩ := K _ cA O' vm T' lc F (B.mono E'.1) I' S'
  exact ⟨u, o, stp _ st', r⟩
theorem inb {cl : Cell} {vs : List Value} {z : Int32} (q : cl.slots = vs.toArray) (hz : ¬ z < 0) (hN : z.toNatClampNeg < vs.length) : ¬ (z < 0 ∨ cl.slots.size ≤ z.toNatClampNeg) := by rw [q]; simp; exact ⟨Int32.not_lt.mp hz, hN⟩
theorem Go.alenA (X : Cx wd EL p Z s m meth c own nm code ml ret) {ty : FieldType} {N : Nat} (hA : ∀ h, Hp Z h L → ∃ cl, Arr Z h a cl ty ∧ cl.slots.size = N) (D : D1 code pc .arraylength 1 pc') (K : Go wd EL p l e R Z s m args below meth c Q L k n (mkF m pc' Ls (.int N.toInt32 :: st))) : Go wd EL p l e R Z s m args below meth c Q L k n (mkF m pc Ls (.ref a :: st)) := by
  obtain ⟨d, rfl⟩ := D
  refine K.to X fun s X T lc H S t r => ?_
  obtain ⟨cl, A, q⟩ := hA _ H
  refine S.arraylength X.1 A.1 (State.isArrayOf_alike X.2.1.alike A.2.1) (g := mkF m pc Ls (.ref a :: st)) rfl rfl (hb X.2.2.2.1 d) _ ?_
  rw [q]; exact r
theorem Hp.len {f : Bool} (H : Hp Z h L) {ty : FieldType} {K : ClassId} (hi : L[i]? = some (a, Ar Z ty K vs, f)) : ∃ cl, Arr Z h a cl ty ∧ cl.slots.size = vs.length := by
  obtain ⟨cl, A, -, q, -⟩ := H.arr hi; exact ⟨cl, A, by rw [q]; simp⟩
theorem Hp.lenM {f : Bool} (H : Hp Z h L) {ty : FieldType} {K : ClassId} (hi : (a, Ar Z ty K vs, f) ∈ L) : ∃ cl, Arr Z h a cl ty ∧ cl.slots.size = vs.length := by
  obtain ⟨cl, A, -, q, -⟩ := H.arrM hi; exact ⟨cl, A, by rw [q]; simp⟩
theorem Hp.el {f : Bool} (H : Hp Z h L) {ty : FieldType} {K : ClassId} (hi : L[i]? = some (a, Ar Z ty K vs, f)) {N : Nat} (hv : vs[N]? = some v) : ∃ cl, Arr Z h a cl ty ∧ cl.slots[N]? = some v := by
  obtain ⟨cl, A, -, q, -⟩ := H.arr hi; exact ⟨cl, A, by rw [q]; simpa using hv⟩
theorem Hp.elM {f : Bool} (H : Hp Z h L) {ty : FieldType} {K : ClassId} (hi : (a, Ar Z ty K vs, f) ∈ L) {N : Nat} (hv : vs[N]? = some v) : ∃ cl, Arr Z h a cl ty ∧ cl.slots[N]? = some v := by
  obtain ⟨cl, A, -, q, -⟩ := H.arrM hi; exact ⟨cl, A, by rw [q]; simpa using hv⟩
theorem inb2 {cl : Cell} {z : Int32} (hz : ¬ z < 0) {v : Value} (hv : cl.slots[z.toNatClampNeg]? = some v) : ¬ (z < 0 ∨ cl.slots.size ≤ z.toNatClampNeg) := fun q => q.elim hz fun q => absurd (Array.getElem?_eq_some_iff.mp hv).1 (Nat.not_lt.mpr q)
theorem Go.iald (X : Cx wd EL p Z s m meth c own nm code ml ret) {z x : Int32} (hz : ¬ z < 0) (hA : ∀ h, Hp Z h L → ∃ cl, Arr Z h a cl .int ∧ cl.slots[z.toNatClampNeg]? = some (.int x)) (D : D1 code pc .iaload 1 pc') (K : Go wd EL p l e R Z s m args below meth c Q L k n (mkF m pc' Ls (.int x :: st))) : Go wd EL p l e R Z s m args below meth c Q L k n (mkF m pc Ls (.int z :: .ref a :: st)) := by
  obtain ⟨d, rfl⟩ := D
  refine K.to X fun s X T lc H S t r => ?_
  obtain ⟨cl, A, hv⟩ := hA _ H
  exact S.iaload X.1 A.1 (State.isArrayOf_alike X.2.1.alike A.2.1) A.2.2 (inb2 hz hv) hv (g := mkF m pc Ls (.int z :: .ref a :: st)) rfl rfl (hb X.2.2.2.1 d) _ r
theorem Go.cald (X : Cx wd EL p Z s m meth c own nm code ml ret) {z x : Int32} (hz : ¬ z < 0) (hA : ∀ h, Hp Z h L → ∃ cl, Arr Z h a cl .char ∧ cl.slots[z.toNatClampNeg]? = some (.int x)) (D : D1 code pc .caload 1 pc') (K : Go wd EL p l e R Z s m args below meth c Q L k n (mkF m pc' Ls (.int x :: st))) : Go wd EL p l e R Z s m args below meth c Q L k n (mkF m pc Ls (.int z :: .ref a :: st)) := by
  obtain ⟨d, rfl⟩ := D
  refine K.to X fun s X T lc H S t r => ?_
  obtain ⟨cl, A, hv⟩ := hA _ H
  exact S.caload X.1 A.1 (State.isArrayOf_alike X.2.1.alike A.2.1) A.2.2 (inb2 hz hv) hv (g := mkF m pc Ls (.int z :: .ref a :: st)) rfl rfl (hb X.2.2.2.1 d) _ r
theorem Go.bald (X : Cx wd EL p Z s m meth c own nm code ml ret) {z x : Int32} (hz : ¬ z < 0) (hA : ∀ h, Hp Z h L → ∃ cl, Arr Z h a cl .byte ∧ cl.slots[z.toNatClampNeg]? = some (.int x)) (D : D1 code pc .baload 1 pc') (K : Go wd EL p l e R Z s m args below meth c Q L k n (mkF m pc' Ls (.int x :: st))) : Go wd EL p l e R Z s m args below meth c Q L k n (mkF m pc Ls (.int z :: .ref a :: st)) := by
  obtain ⟨d, rfl⟩ := D
  refine K.to X fun s X T lc H S t r => ?_
  obtain ⟨cl, A, hv⟩ := hA _ H
  exact S.baloadBytes X.1 A.1 (State.isArrayOf_alike X.2.1.alike A.2.1) A.2.2 (inb2 hz hv) hv (g := mkF m pc Ls (.int z :: .ref a :: st)) rfl rfl (hb X.2.2.2.1 d) _ r
theorem Go.aald (X : Cx wd EL p Z s m meth c own nm code ml ret) {ty : FieldType} {z : Int32} (ht : ty.isReference = true) (hz : ¬ z < 0) (hA : ∀ h, Hp Z h L → ∃ cl, Arr Z h a cl ty ∧ cl.slots[z.toNatClampNeg]? = some v) (D : D1 code pc .aaload 1 pc') (K : Go wd EL p l e R Z s m args below meth c Q L k n (mkF m pc' Ls (v :: st))) : Go wd EL p l e R Z s m args below meth c Q L k n (mkF m pc Ls (.int z :: .ref a :: st)) := by
  obtain ⟨d, rfl⟩ := D
  refine K.to X fun s X T lc H S t r => ?_
  obtain ⟨cl, A, hv⟩ := hA _ H
  exact S.aaload X.1 A.1 (State.isArrayOf_alike X.2.1.alike A.2.1) ht A.2.2 (inb2 hz hv) hv (g := mkF m pc Ls (.int z :: .ref a :: st)) rfl rfl (hb X.2.2.2.1 d) _ r
theorem Go.iast (X : Cx wd EL p Z s m meth c own nm code ml ret) {K' : ClassId} {z x : Int32} (hi : L[i]? = some (ow a (Ar Z .int K' vs))) (hz : ¬ z < 0) (hN : z.toNatClampNeg < vs.length) (D : D1 code pc .iastore 1 pc') (K : Go wd EL p l e R Z s m args below meth c Q (updL L i (ow a (Ar Z .int K' (updL vs z.toNatClampNeg (.int x))))) k n (mkF m pc' Ls st)) : Go wd EL p l e R Z s m args below meth c Q L k n (mkF m pc Ls (.int x :: .int z :: .ref a :: st)) := by
  obtain ⟨d, rfl⟩ := D
  intro vm T lc F B I S
  replace X := X.re B
  obtain ⟨cl, A, -, q, -, -⟩ := I.1.arr hi
  obtain ⟨T', h', S', e', W, stp⟩ := stI S X.1 X.2.1 rfl A (inb q hz hN) (g := mkF m pc Ls (.int x :: .int z :: .ref a :: st)) rfl rfl (hb X.2.2.2.1 d)
  have I' := I.wr hi W fun c A _ _ => Ar.put A rfl
  subst e'
  obtain ⟨u, o, st', r⟩ := K vm T' _ (F.app fun y hy => by cases List.mem_singleton.mp hy; exact I.1.ge hi) (B.mono (Nat.le_of_eq W.size.symm)) I' S'
  exact ⟨u, o, stp _ st', r⟩
theorem Go.cast' (X : Cx wd EL p Z s m meth c own nm code ml ret) {K' : ClassId} {z x y : Int32} (hi : L[i]? = some (ow a (Ar Z .char K' vs))) (hz : ¬ z < 0) (hN : z.toNatClampNeg < vs.length) (hx : x.toUInt32.toUInt16.toUInt32.toInt32 = y) (D : D1 code pc .castore 1 pc') (K : Go wd EL p l e R Z s m args below meth c Q (updL L i (ow a (Ar Z .char K' (updL vs z.toNatClampNeg (.int y))))) k n (mkF m pc' Ls st)) : Go wd EL p l e R Z s m args below meth c Q L k n (mkF m pc Ls (.int x :: .int z :: .ref a :: st)) := by
  obtain ⟨d, rfl⟩ := D; subst hx
  intro vm T lc F B I S
  replace X := X.re B
  obtain ⟨cl, A, -, q, -, -⟩ := I.1.arr hi
  obtain ⟨T', h', S', e', W, stp⟩ := stC S X.1 X.2.1 rfl A (inb q hz hN) (g := mkF m pc Ls (.int x :: .int z :: .ref a :: st)) rfl rfl (hb X.2.2.2.1 d)
  have I' := I.wr hi W fun c A _ _ => Ar.put A (fits_nar_char x)
  subst e'
  obtain ⟨u, o, st', r⟩ := K vm T' _ (F.app fun y hy => by cases List.mem_singleton.mp hy; exact I.1.ge hi) (B.mono (Nat.le_of_eq W.size.symm)) I' S'
  exact ⟨u, o, stp _ st', r⟩
theorem Go.bast (X : Cx wd EL p Z s m meth c own nm code ml ret) {K' : ClassId} {z x y : Int32} (hi : L[i]? = some (ow a (Ar Z .byte K' vs))) (hz : ¬ z < 0) (hN : z.toNatClampNeg < vs.length) (hx : x.toInt8.toInt32 = y) (D : D1 code pc .bastore 1 pc') (K : Go wd EL p l e R Z s m args below meth c Q (updL L i (ow a (Ar Z .byte K' (updL vs z.toNatClampNeg (.int y))))) k n (mkF m pc' Ls st)) : Go wd EL p l e R Z s m args below meth c Q L k n (mkF m pc Ls (.int x :: .int z :: .ref a :: st)) := by
  obtain ⟨d, rfl⟩ := D; subst hx
  intro vm T lc F B I S
  replace X := X.re B
  obtain ⟨cl, A, -, q, -, -⟩ := I.1.arr hi
  obtain ⟨T', h', S', e', W, stp⟩ := stB S X.1 X.2.1 rfl A (inb q hz hN) (g := mkF m pc Ls (.int x :: .int z :: .ref a :: st)) rfl rfl (hb X.2.2.2.1 d)
  have I' := I.wr hi W fun c A _ _ => Ar.put A (fits_nar_byte x)
  subst e'
  obtain ⟨u, o, st', r⟩ := K vm T' _ (F.app fun y hy => by cases List.mem_singleton.mp hy; exact I.1.ge hi) (B.mono (Nat.le_of_eq W.size.symm)) I' S'
  exact ⟨u, o, stp _ st', r⟩
theorem Go.aast (X : Cx wd EL p Z s m meth c own nm code ml ret) {K' : ClassId} {t : String} {z : Int32} (hi : L[i]? = some (ow a (Ar Z (.object t) K' vs))) (hz : ¬ z < 0) (hN : z.toNatClampNeg < vs.length) (hs : ∀ h, Hp Z h L → Sto Z h a v) (hf : fits (.object t) v = true) (D : D1 code pc .aastore 1 pc') (K : Go wd EL p l e R Z s m args below meth c Q (updL L i (ow a (Ar Z (.object t) K' (updL vs z.toNatClampNeg v)))) k n (mkF m pc' Ls st)) : Go wd EL p l e R Z s m args below meth c Q L k n (mkF m pc Ls (v :: .int z :: .ref a :: st)) := by
  obtain ⟨d, rfl⟩ := D
  intro vm T lc F B I S
  replace X := X.re B
  obtain ⟨cl, A, -, q, -, -⟩ := I.1.arr hi
  obtain ⟨T', h', S', e', W, stp⟩ := stR S X.1 X.2.1 rfl A (inb q hz hN) rfl (hs _ I.1) (g := mkF m pc Ls (v :: .int z :: .ref a :: st)) rfl rfl (hb X.2.2.2.1 d)
  have I' := I.wr (P' := Ar Z (.object t) K' (updL vs z.toNatClampNeg v)) hi W fun c A _ _ => Ar.put A hf
  subst e'
  obtain ⟨u, o, st', r⟩ := K vm T' _ (F.app fun y hy => by cases List.mem_singleton.mp hy; exact I.1.ge hi) (B.mono (Nat.le_of_eq W.size.symm)) I' S'
  exact ⟨u, o, stp _ st', r⟩
theorem Hp.sto {f : Bool} (H : Hp Z h L) {K' : ClassId} {ty : FieldType} (hi : L[i]? = some (a, Ar Z ty K' vs, f)) (O : Ovr Z K' C) (I : Ins Z h b C true) : Sto Z h a (.ref b) := by
  obtain ⟨cl, A, q, -⟩ := H.arr hi
  exact Sto.of A (q ▸ O) I
theorem Go.ccast (X : Cx wd EL p Z s m meth c own nm code ml ret) {idx : Nat} (w : (Cond.classLink own idx C).before a0 Z = true) (hI : ∀ h, Hp Z h L → Ins Z h a C true) (D : D1 code pc (.checkcast idx) 3 pc') (K : Go wd EL p l e R Z s m args below meth c Q L k n (mkF m pc' Ls (.ref a :: st))) : Go wd EL p l e R Z s m args below meth c Q L k n (mkF m pc Ls (.ref a :: st)) := by
  obtain ⟨d, rfl⟩ := D
  intro vm T lc F B I S
  replace X := X.re B
  obtain ⟨T', S', e', stp⟩ := castY S X.1 X.2.1 X.2.2.1 w rfl (hI _ I.1) (g := mkF m pc Ls (.ref a :: st)) rfl rfl (hb X.2.2.2.1 d)
  rw [← e'] at I B
  obtain ⟨u, o, st', r⟩ := K vm T' lc F B I S'
  exact ⟨u, o, stp _ st', r⟩
theorem Go.inst1 (X : Cx wd EL p Z s m meth c own nm code ml ret) {idx : Nat} (w : (Cond.classLink own idx C).before a0 Z = true) (hI : ∀ h, Hp Z h L → Ins Z h a C true) (D : D1 code pc (.instanceof idx) 3 pc') (K : Go wd EL p l e R Z s m args below meth c Q L k n (mkF m pc' Ls (.int 1 :: st))) : Go wd EL p l e R Z s m args below meth c Q L k n (mkF m pc Ls (.ref a :: st)) := by
  obtain ⟨d, rfl⟩ := D
  intro vm T lc F B I S
  replace X := X.re B
  obtain ⟨T', S', e', stp⟩ := instY S X.1 X.2.1 X.2.2.1 w rfl (hI _ I.1) (g := mkF m pc Ls (.ref a :: st)) rfl rfl (hb X.2.2.2.1 d)
  rw [← e'] at I B
  obtain ⟨u, o, st', r⟩ := K vm T' lc F B I S'
  exact ⟨u, o, stp _ st', r⟩
/-! ### calls -/
theorem mroom (m : MethodId) (pc : Nat) (Ls : Array Slot) (st : List Value) : (mkF m pc Ls st).monitorRoom = 0 := rfl
theorem Kv {rest : List Value} {k' n' : Nat} {Qv : Value → List Ent → Prop} (K : ∀ v L, Qv v L → Go wd EL p l e R Z s m args below meth c Q L k' n' (mkF m pc' Ls (v :: rest))) : ∀ o L, rvQ Qv o L → Go wd EL p l e R Z s m args below meth c Q L k' n' (mkF m pc' Ls (o.toList ++ rest)) := by
  rintro _ L ⟨v, rfl, q⟩; exact K v L q
theorem K0 {rest : List Value} {k' n' : Nat} {Q0 : List Ent → Prop} (K : ∀ L, Q0 L → Go wd EL p l e R Z s m args below meth c Q L k' n' (mkF m pc' Ls rest)) : ∀ o L, r0Q Q0 o L → Go wd EL p l e R Z s m args below meth c Q L k' n' (mkF m pc' Ls (o.toList ++ rest)) := by
  rintro _ L ⟨rfl, q⟩; exact K L q
variable {y : MethodName} {code' : ByteArray} {ml' : Nat} {ret' : Option FieldType} {rm : Room} {argsL rest : List Value} {Q' : Option Value → List Ent → Prop}
/-- a contract as the library's call laws ask it: no interning since the walk's last base -/
theorem backN {as : Array Value} {len W : Nat} {sargs : Array Value} (hM : Ct false EL l Z y code' ml' ret' rm as L Q') (hZ : Z.Warmed39 s.vm) (wc : (Cond.code y code' ml' ret').before a0 Z = true) (wz : (Cond.initialized y.cls).before a0 Z = true) (hf : rm.frames + 1 ≤ R.frames) (hl : W + (ml' + 11) + rm.locals ≤ R.locals) :
    Back l R p e below s sargs y len W (fun A a => a = as ∧ Hp Z A.U.heap L ∧ A.cells + rm.cells ≤ R.cells ∧ A.slots + rm.slots ≤ R.slots)
      (fun A _ v B => ∃ L' lc, Q' v L' ∧ Iv false Z EL B.U.vm B.U.heap L' ∧ Fr Z.heap.size lc ∧ B.locs = A.locs ++ lc ∧ B.cells = A.cells + rm.cells ∧ B.slots = A.slots + rm.slots) :=
  Back.of_free (bytes := code') (maxL := ml') (ret := ret') (E := fun _ _ o t lc k n => k = rm.cells ∧ n = rm.slots ∧ ∃ v L', o = .returned v ∧ Q' v L' ∧ Iv false Z EL t.vm t.heap L' ∧ Fr Z.heap.size lc) (hM []) hf hl
    (fun m meth c A a Y hp => have hU : Z.Warmed39 A.U.vm := wtrans hZ Y.warmed
      ⟨by show (Cond.and _ .tt).before a A.U = true; rw [Cond.before_and, mv hU wc]; rfl, mv hU wc, mv hU wz, hp.2.2.1, hp.2.2.2⟩)
    (fun m meth c A a g mk Y hp => ⟨hp.1, wtrans hZ Y.warmed, hp.2.1, fun q => nomatch q⟩) (fun _ _ _ _ _ _ _ _ _ => trivial)
    (fun _ _ _ _ ⟨v, L', lc, h1, h2, h3, h4, h5⟩ => ⟨lc, _, _, h5, rfl, rfl, v, L', h1, h2, h3, h4⟩)
    (fun m meth c A a g mk v t lc k n Y hp _ _ ⟨e1, e2, v', L', e3, e4, e5, e6⟩ => by cases e3; subst e1 e2; exact ⟨L', lc, e4, e5, e6, rfl, rfl, rfl⟩)
/-- .. and where it may intern -/
theorem backW {as : Array Value} {len W : Nat} {sargs : Array Value} (hM : Ct true EL l Z y code' ml' ret' rm as L Q') (hZ : Z.Warmed39 vm) (wc : (Cond.code y code' ml' ret').before a0 Z = true) (wz : (Cond.initialized y.cls).before a0 Z = true) (hf : rm.frames + 1 ≤ R.frames) (hl : W + (ml' + 11) + rm.locals ≤ R.locals) {a1 : Array Value} (hEL : EW Z a1 EL) (H : Iv true Z EL vm h L) :
    BackS l R p e below (s.setVm vm) sargs y len W (fun A a => a = as ∧ A.U.heap = h ∧ A.cells + rm.cells ≤ R.cells ∧ A.slots + rm.slots ≤ R.slots)
      (fun A _ v B => ∃ L' lc, Q' v L' ∧ Iv true Z EL B.U.vm B.U.heap L' ∧ Fr Z.heap.size lc ∧ B.locs = A.locs ++ lc ∧ B.cells = A.cells + rm.cells ∧ B.slots = A.slots + rm.slots) :=
  BackS.of_freeW (bytes := code') (maxL := ml') (ret := ret') (E := fun _ _ o t lc k n => k = rm.cells ∧ n = rm.slots ∧ ∃ v L', o = .returned v ∧ Q' v L' ∧ Iv true Z EL t.vm t.heap L' ∧ Fr Z.heap.size lc) (hM []) hf hl
    (fun m meth c A a Y hp => have hU : Z.Warmed39 A.U.vm := wtrans (s := s.setVm vm) hZ Y.warmed
      ⟨by show (Cond.and _ .tt).before a A.U = true; rw [Cond.before_and, mv hU wc]; rfl, mv hU wc, mv hU wz, hp.2.2.1, hp.2.2.2⟩)
    (fun m meth c A a g mk Y hp => ⟨hp.1, wtrans (s := s.setVm vm) hZ Y.warmed, by
      have r := CHv.at Y hZ hEL (H.2 rfl).1
      have q : A.U.heap = h := hp.2.1
      show Iv true Z EL A.U.vm A.U.heap L
      rw [q]
      refine ⟨H.1, fun _ => ⟨r.1, fun x hx hf => r.safe ?_ ((H.2 rfl).2 x hx hf)⟩⟩
      obtain ⟨-, cc, h1, -⟩ := H.1.2.1 x hx
      exact (Array.getElem?_eq_some_iff.mp h1).1⟩) (fun _ _ _ _ _ _ _ _ _ => trivial)
    (fun _ _ _ _ ⟨v, L', lc, h1, h2, h3, h4, h5⟩ => ⟨lc, _, _, h5, rfl, rfl, v, L', h1, h2, h3, h4⟩)
    (fun m meth c A a g mk v t lc k n Y hp _ _ ⟨e1, e2, v', L', e3, e4, e5, e6⟩ => by cases e3; subst e1 e2; exact ⟨L', lc, e4, e5, e6, rfl, rfl, rfl⟩)
theorem Go.byN {g : JFrame} (X : Cx false EL p Z s m meth c own nm code ml ret)
    (f : ∀ s, Cx false EL p Z s m meth c own nm code ml ret → ∀ T lc, Hp Z T.heap L → Stand p l e R s m args below meth c T lc k n → ∃ (v : Option Value) (vm : Vm) (B : Pt), s.WarmedH vm ∧ Stand p l e R s m args below meth c B.U B.locs B.cells B.slots ∧ (∃ L' lc', Q' v L' ∧ Iv false Z EL B.U.vm B.U.heap L' ∧ Fr Z.heap.size lc' ∧ B.locs = lc ++ lc' ∧ B.cells = k + rm.cells ∧ B.slots = n + rm.slots) ∧ Steps p.tables e below (T.setTop g) (B.U.setTop (mkF m pc' Ls (v.toList ++ rest))))
    (hgrow : ∀ T : State, True) (K : ∀ o L, Q' o L → Go false EL p l e R Z s m args below meth c Q L (k + rm.cells) (n + rm.slots) (mkF m pc' Ls (o.toList ++ rest))) : Go false EL p l e R Z s m args below meth c Q L k n g := by
  intro vm T lc F B I S
  obtain ⟨v, vm', ⟨T', L2, k2, n2⟩, -, S', ⟨L3, lc3, hQ, I3, F3, e1, e2, e3⟩, stp⟩ := f _ (X.re B) T lc I.1 S
  dsimp only [Pt.U, Pt.locs, Pt.cells, Pt.slots] at S' e1 e2 e3 stp I3
  subst e1 e2 e3
  obtain ⟨u, o, st', r⟩ := K v L3 hQ vm T' _ (F.app F3) B ⟨I3.1, fun q => nomatch q⟩ S'
  exact ⟨u, o, stp.trans st', r⟩
theorem Go.byW {g : JFrame} (X : Cx true EL p Z s m meth c own nm code ml ret)
    (f : ∀ vm, Cx true EL p Z (s.setVm vm) m meth c own nm code ml ret → ∀ T lc, Iv true Z EL vm T.heap L → Stand p l e R (s.setVm vm) m args below meth c T lc k n → ∃ (v : Option Value) (vm1 : Vm) (B : Pt), (s.setVm vm).WarmedH vm1 ∧ Stand p l e R ((s.setVm vm).setVm B.U.vm) m args below meth c B.U B.locs B.cells B.slots ∧ (s.setVm vm).Since B.U.vm B.U.heap.size ∧ T.heap.size ≤ B.U.heap.size ∧ (∃ L' lc', Q' v L' ∧ Iv true Z EL B.U.vm B.U.heap L' ∧ Fr Z.heap.size lc' ∧ B.locs = lc ++ lc' ∧ B.cells = k + rm.cells ∧ B.slots = n + rm.slots) ∧ Steps p.tables e below (T.setTop g) (B.U.setTop (mkF m pc' Ls (v.toList ++ rest))))
    (K : ∀ o L, Q' o L → Go true EL p l e R Z s m args below meth c Q L (k + rm.cells) (n + rm.slots) (mkF m pc' Ls (o.toList ++ rest))) : Go true EL p l e R Z s m args below meth c Q L k n g := by
  intro vm T lc F B I S
  obtain ⟨v, vm', ⟨T', L2, k2, n2⟩, -, S', hS, hsz, ⟨L3, lc3, hQ, I3, F3, e1, e2, e3⟩, stp⟩ := f _ (X.re B) T lc I S
  dsimp only [Pt.U, Pt.locs, Pt.cells, Pt.slots] at S' e1 e2 e3 stp hS hsz I3
  subst e1 e2 e3
  have B' : s.Since vm T.heap.size := B
  obtain ⟨u, o, st', r⟩ := K v L3 hQ T'.vm T' _ (F.app F3) (B'.trans hS hsz) I3 S'
  exact ⟨u, o, stp.trans st', r⟩
theorem Go.callS (X : Cx wd EL p Z s m meth c own nm code ml ret) (B : Ct wd EL l Z y code' ml' ret' rm argsL.toArray L Q')
    {idx : Nat} (w1 : (Cond.methodLink own idx y).before a0 Z = true) (w2 : (Cond.static y).before a0 Z = true) (w3 : (Cond.initialized y.cls).before a0 Z = true) (w4 : (Cond.code y code' ml' ret').before a0 Z = true) (hy : y.cls ≠ "java/lang/invoke/MethodHandle" ∧ y.cls ≠ "java/lang/invoke/VarHandle")
    {ps : List FieldType} {rt : Option FieldType} (pd : parseMethodDescriptor y.desc = some ⟨ps, rt⟩) (hl : argsL.length = ps.length) (hs : st = argsL.reverse ++ rest) (D : D1 code pc (.invokestatic idx) 3 pc') (hm : Ls.size = ml)
    (hf : rm.frames + 1 ≤ R.frames) (hlo : (rest.map fun v => v.category).sum + (ml' + 11) + rm.locals ≤ R.locals) (hk : k + rm.cells ≤ R.cells) (hn : n + rm.slots ≤ R.slots)
    (K : ∀ o L, Q' o L → Go wd EL p l e R Z s m args below meth c Q L (k + rm.cells) (n + rm.slots) (mkF m pc' Ls (o.toList ++ rest))) : Go wd EL p l e R Z s m args below meth c Q L k n (mkF m pc Ls st) := by
  obtain ⟨d, rfl⟩ := D
  subst hs
  cases wd
  · refine Go.byN X (fun s X T lc H S => ?_) (fun _ => trivial) K
    obtain ⟨v, vm, B, b1, b2, b3, b4⟩ := Jvm.LawKit.callS S X.1 X.2.2.1 (mvT X.2.1 w1) (mvT X.2.1 w2) (mvT X.2.1 w3) (mvT X.2.1 w4) hy (backN (W := (rest.map fun v => v.category).sum) B X.2.1 w4 w3 hf hlo) (g := mkF m pc Ls (argsL.reverse ++ rest)) rfl (by rw [X.2.2.2.2.1]; exact hm) (argsL := argsL) (rest := rest) (lenOf pd hl) rfl (by rw [mroom]; omega) (hb X.2.2.2.1 d) (fun _ _ => ⟨rfl, H, hk, hn⟩)
    exact ⟨v, vm, B, b1, b2, b3, b4 _ (Steps.refl _)⟩
  · refine Go.byW X (fun vm X T lc I S => ?_) K
    obtain ⟨a1, hE⟩ := X.2.2.2.2.2.2.2.2 rfl
    have H := I.1
    exact callSS S X.1 X.2.2.1 (mvT X.2.1 w1) (mvT X.2.1 w2) (mvT X.2.1 w3) (mvT X.2.1 w4) hy (backW (W := (rest.map fun v => v.category).sum) B X.2.1 w4 w3 hf hlo hE I) (g := mkF m pc Ls (argsL.reverse ++ rest)) rfl (by rw [X.2.2.2.2.1]; exact hm) (argsL := argsL) (rest := rest) (lenOf pd hl) rfl (by rw [mroom]; omega) (hb X.2.2.2.1 d) (fun _ _ => ⟨rfl, rfl, hk, hn⟩)
theorem Go.callI (X : Cx wd EL p Z s m meth c own nm code ml ret) (B : Ct wd EL l Z y code' ml' none rm (Value.ref a :: argsL).toArray L Q') (hy1 : y.name = "<init>")
    {idx : Nat} (w1 : (Cond.methodLink own idx y).before a0 Z = true) (w2 : (Cond.instanceMethod y).before a0 Z = true) (w3 : (Cond.initialized y.cls).before a0 Z = true) (w4 : (Cond.code y code' ml' none).before a0 Z = true) (hy : y.cls ≠ "java/lang/invoke/MethodHandle" ∧ y.cls ≠ "java/lang/invoke/VarHandle")
    {ps : List FieldType} {rt : Option FieldType} (pd : parseMethodDescriptor y.desc = some ⟨ps, rt⟩) (hl : argsL.length = ps.length) (hs : st = argsL.reverse ++ .ref a :: rest) (D : D1 code pc (.invokespecial idx) 3 pc') (hm : Ls.size = ml)
    (hf : rm.frames + 1 ≤ R.frames) (hlo : (rest.map fun v => v.category).sum + (ml' + 11) + rm.locals ≤ R.locals) (hk : k + rm.cells ≤ R.cells) (hn : n + rm.slots ≤ R.slots)
    (K : ∀ o L, Q' o L → Go wd EL p l e R Z s m args below meth c Q L (k + rm.cells) (n + rm.slots) (mkF m pc' Ls (o.toList ++ rest))) : Go wd EL p l e R Z s m args below meth c Q L k n (mkF m pc Ls st) := by
  obtain ⟨d, rfl⟩ := D
  subst hs
  cases wd
  · refine Go.byN X (fun s X T lc H S => ?_) (fun _ => trivial) K
    exact S.specialBack X.1 hy1 X.2.2.1 (mvT X.2.1 w1) (mvT X.2.1 w2) (mvT X.2.1 w4) hy (backN (W := (rest.map fun v => v.category).sum) B X.2.1 w4 w3 hf hlo) (g := mkF m pc Ls (argsL.reverse ++ .ref a :: rest)) rfl (by rw [X.2.2.2.2.1]; exact hm) (Steps.refl _) (a := a) (argsL := argsL) (rest := rest) (lenOf pd hl) rfl (by rw [mroom]; omega) (hb X.2.2.2.1 d) (fun _ _ => ⟨rfl, H, hk, hn⟩)
  · refine Go.byW X (fun vm X T lc I S => ?_) K
    obtain ⟨a1, hE⟩ := X.2.2.2.2.2.2.2.2 rfl
    have H := I.1
    exact S.specialBackS X.1 hy1 X.2.2.1 (mvT X.2.1 w1) (mvT X.2.1 w2) (mvT X.2.1 w4) hy (backW (W := (rest.map fun v => v.category).sum) B X.2.1 w4 w3 hf hlo hE I) (g := mkF m pc Ls (argsL.reverse ++ .ref a :: rest)) rfl (by rw [X.2.2.2.2.1]; exact hm) (Steps.refl _) (a := a) (argsL := argsL) (rest := rest) (lenOf pd hl) rfl (by rw [mroom]; omega) (hb X.2.2.2.1 d) (fun _ _ => ⟨rfl, rfl, hk, hn⟩)
theorem Go.callV (X : Cx wd EL p Z s m meth c own nm code ml ret) {z : MethodName} (E : ∀ h, Hp Z h L → Exa Z h a C) (B : Ct wd EL l Z z code' ml' ret' rm (Value.ref a :: argsL).toArray L Q')
    {idx : Nat} (w1 : (Cond.methodLink own idx y).before a0 Z = true) (wdc : (Cond.declares y).before a0 Z = true) (hnf : ∀ s : State, Z.Warmed39 s.vm → NotFace s y) (ws : (Cond.selects C y z).before a0 Z = true) (w2 : (Cond.instanceMethod z).before a0 Z = true) (w3 : (Cond.initialized z.cls).before a0 Z = true) (w4 : (Cond.code z code' ml' ret').before a0 Z = true) (hy : y.cls ≠ "java/lang/invoke/MethodHandle" ∧ y.cls ≠ "java/lang/invoke/VarHandle")
    {ps : List FieldType} {rt : Option FieldType} (pd : parseMethodDescriptor y.desc = some ⟨ps, rt⟩) (hl : argsL.length = ps.length) (hs : st = argsL.reverse ++ .ref a :: rest) (D : D1 code pc (.invokevirtual idx) 3 pc') (hm : Ls.size = ml)
    (hf : rm.frames + 1 ≤ R.frames) (hlo : (rest.map fun v => v.category).sum + (ml' + 11) + rm.locals ≤ R.locals) (hk : k + rm.cells ≤ R.cells) (hn : n + rm.slots ≤ R.slots)
    (K : ∀ o L, Q' o L → Go wd EL p l e R Z s m args below meth c Q L (k + rm.cells) (n + rm.slots) (mkF m pc' Ls (o.toList ++ rest))) : Go wd EL p l e R Z s m args below meth c Q L k n (mkF m pc Ls st) := by
  obtain ⟨d, rfl⟩ := D
  subst hs
  cases wd
  · refine Go.byN X (fun s X T lc H S => ?_) (fun _ => trivial) K
    obtain ⟨cq, kq, qa, qb, qc⟩ := isOf (T := T) X.2.1 rfl (E _ H)
    exact S.virtualBack X.1 X.2.2.1 (mvT X.2.1 w1) (mvT X.2.1 wdc) (hnf _ X.2.1) (mvT X.2.1 ws) (mvT X.2.1 w2) hy (backN (W := (rest.map fun v => v.category).sum) B X.2.1 w4 w3 hf hlo) qa qc (g := mkF m pc Ls (argsL.reverse ++ .ref a :: rest)) rfl (by rw [X.2.2.2.2.1]; exact hm) (Steps.refl _) (argsL := argsL) (rest := rest) (lenOf pd hl) rfl (by rw [mroom]; omega) (hb X.2.2.2.1 d) (fun _ _ => ⟨rfl, H, hk, hn⟩)
  · refine Go.byW X (fun vm X T lc I S => ?_) K
    obtain ⟨a1, hE⟩ := X.2.2.2.2.2.2.2.2 rfl
    have H := I.1
    obtain ⟨cq, kq, qa, qb, qc⟩ := isOf (T := T) X.2.1 rfl (E _ H)
    exact S.virtualBackS X.1 X.2.2.1 (mvT X.2.1 w1) (mvT X.2.1 wdc) (hnf _ X.2.1) (mvT X.2.1 ws) (mvT X.2.1 w2) hy (backW (W := (rest.map fun v => v.category).sum) B X.2.1 w4 w3 hf hlo hE I) qa qc (g := mkF m pc Ls (argsL.reverse ++ .ref a :: rest)) rfl (by rw [X.2.2.2.2.1]; exact hm) (Steps.refl _) (argsL := argsL) (rest := rest) (lenOf pd hl) rfl (by rw [mroom]; omega) (hb X.2.2.2.1 d) (fun _ _ => ⟨rfl, rfl, hk, hn⟩)
theorem nfS (ws : (Cond.selects C y y).before a0 Z = true) : ∀ s : State, Z.Warmed39 s.vm → NotFace s y := fun s q => notFace_of_selects (args := #[]) (mvT q ws)
theorem nfT (ws : (Cond.noSuperclass y.cls).before a0 Z = true) : ∀ s : State, Z.Warmed39 s.vm → NotFace s y := fun s q => nf_top (args := #[]) (mvT q ws)
theorem nfU {S : String} (ws : (Cond.superclass y.cls S).before a0 Z = true) : ∀ s : State, Z.Warmed39 s.vm → NotFace s y := fun s q => nf_super (args := #[]) (mvT q ws)
theorem Go.callP (X : Cx wd EL p Z s m meth c own nm code ml ret) (E : ∀ h, Hp Z h L → Exa Z h a C) (B : Ct wd EL l Z y code' ml' ret' rm (Value.ref a :: argsL).toArray L Q')
    {idx : Nat} (w1 : (Cond.methodLink own idx y).before a0 Z = true) (w2 : (Cond.instanceMethod y).before a0 Z = true) (ws : (Cond.selects y.cls y y).before a0 Z = true) (wp : (Cond.privateMethod y).before a0 Z = true) (w3 : (Cond.initialized y.cls).before a0 Z = true) (w4 : (Cond.code y code' ml' ret').before a0 Z = true) (hy : y.cls ≠ "java/lang/invoke/MethodHandle" ∧ y.cls ≠ "java/lang/invoke/VarHandle")
    {ps : List FieldType} {rt : Option FieldType} (pd : parseMethodDescriptor y.desc = some ⟨ps, rt⟩) (hl : argsL.length = ps.length) (hs : st = argsL.reverse ++ .ref a :: rest) (D : D1 code pc (.invokevirtual idx) 3 pc') (hm : Ls.size = ml)
    (hf : rm.frames + 1 ≤ R.frames) (hlo : (rest.map fun v => v.category).sum + (ml' + 11) + rm.locals ≤ R.locals) (hk : k + rm.cells ≤ R.cells) (hn : n + rm.slots ≤ R.slots)
    (K : ∀ o L, Q' o L → Go wd EL p l e R Z s m args below meth c Q L (k + rm.cells) (n + rm.slots) (mkF m pc' Ls (o.toList ++ rest))) : Go wd EL p l e R Z s m args below meth c Q L k n (mkF m pc Ls st) := by
  obtain ⟨d, rfl⟩ := D
  subst hs
  cases wd
  · refine Go.byN X (fun s X T lc H S => ?_) (fun _ => trivial) K
    obtain ⟨cq, q1, q2⟩ := (E _ H).cell
    exact S.privateBack X.1 X.2.2.1 (mvT X.2.1 w1) (mvT X.2.1 w2) (mvT X.2.1 ws) (Cond.privateMethod_at (mvP X.2.1 wp (args := #[]))) (mvT X.2.1 w4) hy (backN (W := (rest.map fun v => v.category).sum) B X.2.1 w4 w3 hf hlo) (g := mkF m pc Ls (argsL.reverse ++ .ref a :: rest)) rfl (by rw [X.2.2.2.2.1]; exact hm) (Steps.refl _) (a := a) q1 q2 (argsL := argsL) (rest := rest) (lenOf pd hl) rfl (by rw [mroom]; omega) (hb X.2.2.2.1 d) (fun _ _ => ⟨rfl, H, hk, hn⟩)
  · refine Go.byW X (fun vm X T lc I S => ?_) K
    obtain ⟨a1, hE⟩ := X.2.2.2.2.2.2.2.2 rfl
    have H := I.1
    obtain ⟨cq, q1, q2⟩ := (E _ H).cell
    exact S.privateBackS X.1 X.2.2.1 (mvT X.2.1 w1) (mvT X.2.1 w2) (mvT X.2.1 ws) (Cond.privateMethod_at (mvP X.2.1 wp (args := #[]))) (mvT X.2.1 w4) hy (backW (W := (rest.map fun v => v.category).sum) B X.2.1 w4 w3 hf hlo hE I) (g := mkF m pc Ls (argsL.reverse ++ .ref a :: rest)) rfl (by rw [X.2.2.2.2.1]; exact hm) (Steps.refl _) (a := a) q1 q2 (argsL := argsL) (rest := rest) (lenOf pd hl) rfl (by rw [mroom]; omega) (hb X.2.2.2.1 d) (fun _ _ => ⟨rfl, rfl, hk, hn⟩)
theorem Go.callN (X : Cx wd EL p Z s m meth c own nm code ml ret) {xi : MethodName} (E : ∀ h, Hp Z h L → Exa Z h a C) (B : Ct wd EL l Z y code' ml' ret' rm (Value.ref a :: argsL).toArray L Q')
    {idx cnt : Nat} (w1 : (Cond.methodLink own idx xi).before a0 Z = true) (wdc : (Cond.declares xi).before a0 Z = true) (hfa : (Cond.interfaceMethod xi.cls xi.cls xi.name xi.desc).faceAtom = true) (wf : (Cond.interfaceMethod xi.cls xi.cls xi.name xi.desc).before a0 Z = true) (ws : (Cond.selects C xi y).before a0 Z = true) (w2 : (Cond.instanceMethod y).before a0 Z = true) (wp : (Cond.publicMethod y).before a0 Z = true) (wu : (Cond.unhidden C xi.name xi.desc).before a0 Z = true) (wc : (Cond.castable C xi.cls).before a0 Z = true) (w3 : (Cond.initialized y.cls).before a0 Z = true) (w4 : (Cond.code y code' ml' ret').before a0 Z = true) (hy : xi.cls ≠ "java/lang/invoke/MethodHandle" ∧ xi.cls ≠ "java/lang/invoke/VarHandle")
    {ps : List FieldType} {rt : Option FieldType} (pd : parseMethodDescriptor xi.desc = some ⟨ps, rt⟩) (hl : argsL.length = ps.length) (hs : st = argsL.reverse ++ .ref a :: rest) (D : D1 code pc (.invokeinterface idx cnt) 5 pc') (hm : Ls.size = ml)
    (hf : rm.frames + 1 ≤ R.frames) (hlo : (rest.map fun v => v.category).sum + (ml' + 11) + rm.locals ≤ R.locals) (hk : k + rm.cells ≤ R.cells) (hn : n + rm.slots ≤ R.slots)
    (K : ∀ o L, Q' o L → Go wd EL p l e R Z s m args below meth c Q L (k + rm.cells) (n + rm.slots) (mkF m pc' Ls (o.toList ++ rest))) : Go wd EL p l e R Z s m args below meth c Q L k n (mkF m pc Ls st) := by
  obtain ⟨d, rfl⟩ := D
  subst hs
  cases wd
  · refine Go.byN X (fun s X T lc H S => ?_) (fun _ => trivial) K
    obtain ⟨cq, kq, qa, qb, qc⟩ := isOf (T := T) X.2.1 rfl (E _ H)
    exact S.interfaceBack X.1 X.2.2.1 (mvT X.2.1 w1) (mvT X.2.1 wdc) (mvT X.2.1 wf (by simp [Cond.onTables, Cond.keepsFace, Cond.keeps, Cond.steady, hfa])) (mvT X.2.1 ws) (mvT X.2.1 w2) (mvT X.2.1 wp) (mvT X.2.1 wu) (mvT X.2.1 wc) hy (backN (W := (rest.map fun v => v.category).sum) B X.2.1 w4 w3 hf hlo) qa qb qc (g := mkF m pc Ls (argsL.reverse ++ .ref a :: rest)) rfl (by rw [X.2.2.2.2.1]; exact hm) (Steps.refl _) (argsL := argsL) (rest := rest) (lenOf pd hl) rfl (by rw [mroom]; omega) (hb X.2.2.2.1 d) (fun _ _ => ⟨rfl, H, hk, hn⟩)
  · refine Go.byW X (fun vm X T lc I S => ?_) K
    obtain ⟨a1, hE⟩ := X.2.2.2.2.2.2.2.2 rfl
    have H := I.1
    obtain ⟨cq, kq, qa, qb, qc⟩ := isOf (T := T) X.2.1 rfl (E _ H)
    exact S.interfaceBackS X.1 X.2.2.1 (mvT X.2.1 w1) (mvT X.2.1 wdc) (mvT X.2.1 wf (by simp [Cond.onTables, Cond.keepsFace, Cond.keeps, Cond.steady, hfa])) (mvT X.2.1 ws) (mvT X.2.1 w2) (mvT X.2.1 wp) (mvT X.2.1 wu) (mvT X.2.1 wc) hy (backW (W := (rest.map fun v => v.category).sum) B X.2.1 w4 w3 hf hlo hE I) qa qb qc (g := mkF m pc Ls (argsL.reverse ++ .ref a :: rest)) rfl (by rw [X.2.2.2.2.1]; exact hm) (Steps.refl _) (argsL := argsL) (rest := rest) (lenOf pd hl) rfl (by rw [mroom]; omega) (hb X.2.2.2.1 d) (fun _ _ => ⟨rfl, rfl, hk, hn⟩)
theorem Go.initObj (X : Cx wd EL p Z s m meth c own nm code ml ret) {idx : Nat} (w1 : (Cond.methodLink own idx Lib.objectInit).before a0 Z = true) (w2 : (Cond.instanceMethod Lib.objectInit).before a0 Z = true) (w3 : (Cond.code Lib.objectInit ⟨#[0xb1]⟩ 1 none).before a0 Z = true) (D : D1 code pc (.invokespecial idx) 3 pc') (hm : Ls.size = ml) (hf : 1 ≤ R.frames) (hlo : (st.map fun v => v.category).sum + 12 ≤ R.locals)
    (K : Go wd EL p l e R Z s m args below meth c Q L k n (mkF m pc' Ls st)) : Go wd EL p l e R Z s m args below meth c Q L k n (mkF m pc Ls (.ref a :: st)) := by
  obtain ⟨d, rfl⟩ := D
  intro vm T lc F B I S
  replace X := X.re B
  obtain ⟨T', S', e', stp⟩ := initO S X.1 X.2.1 X.2.2.1 w1 w2 w3 rfl (g := mkF m pc Ls (.ref a :: st)) rfl (by rw [X.2.2.2.2.1]; exact hm) rfl (hb X.2.2.2.1 d) hf (W := (st.map fun v => v.category).sum) (by rw [mroom]; omega) hlo
  rw [← e'] at I B
  obtain ⟨u, o, st', r⟩ := K vm T' lc F B I S'
  exact ⟨u, o, stp _ st', r⟩
end Steps
/-- a String constant's cell: its bytes are the array b's, its coder 0 -/
def Lt (Z : State) (b : Addr) (c : Cell) : Prop := (∃ k, Z.vm.findClass "java/lang/String" = some c.cls ∧ Z.vm.classes[c.cls]? = some k ∧ c.vm.isStatics = false ∧ (k.kind = .ordinary → c.slots.size = k.instanceTypes.size)) ∧
  (∃ cf k i f, Z.fieldFound? "java/lang/String" "coder" "B" = some (cf, k, i, f) ∧ f.isStatic = false ∧ c.vm ≠ .unknown ∧ c.vm.isStatics = false ∧ Z.vm.assignable c.cls cf = true ∧ c.slots[f.slot]? = some (.int 0)) ∧
  (∃ cf k i f, Z.fieldFound? "java/lang/String" "value" "[B" = some (cf, k, i, f) ∧ f.isStatic = false ∧ c.vm ≠ .unknown ∧ c.vm.isStatics = false ∧ Z.vm.assignable c.cls cf = true ∧ c.slots[f.slot]? = some (.ref b))
theorem Hp.ltC {Z : State} {h : Heap} {L : List Ent} {i : Nat} {a b : Addr} {f : Bool} (H : Hp Z h L) (hi : L[i]? = some (a, Lt Z b, f)) : Exa Z h a "java/lang/String" ∧ Fld Z h a "java/lang/String" "coder" "B" (.int 0) ∧ Fld Z h a "java/lang/String" "value" "[B" (.ref b) := by
  obtain ⟨c, hc, ⟨k, r1⟩, ⟨cf, k2, i2, f2, r2⟩, ⟨cf3, k3, i3, f3, r3⟩⟩ := H.at hi
  exact ⟨⟨c, k, hc, r1⟩, ⟨c, cf, k2, i2, f2, hc, r2⟩, ⟨c, cf3, k3, i3, f3, hc, r3⟩⟩
/-- ldc of a String constant of EL: the object spells its text (Latin-1); it is none of L's -/
theorem Go.ldcS {EL : List (String × Nat)} {p : Program} {l : Launch} {e : Env} {R : Room} {Z s : State} {m : MethodId} {args : Array Value} {below : List Frame} {meth : Method} {c : Code} {Q : Option Value → List Ent → Prop} {L : List Ent} {k n : Nat} {own nm : String} {code : ByteArray} {ml : Nat} {ret : Option FieldType} {a0 : Array Value} {pc pc' : Nat} {Ls : Array Slot} {st : List Value}
    (X : Cx true EL p Z s m meth c own nm code ml ret) {idx : Nat} {text : String} (w : (Cond.stringLink own idx text).before a0 Z = true) (wS : ∀ a ∈ Bundle.stringAtoms, a.before a0 Z = true) (hmem : (own, idx) ∈ EL) {vs : List Value} {z : Int32} (ht : (∀ c ∈ text.toList, c.toNat < 256) ∧ text.toList.map (fun c => Value.int (Jvm.Lit.byteI c.toNat.toUInt16)) = vs) (hz : ¬ z < 0) (hl : z.toNatClampNeg = vs.length)
    (D : D1 code pc (.ldc idx) 2 pc') {N : Nat} (hN : 4 * text.toList.length ≤ N) (hbig : N ≤ 536870912) (hc : k + 2 ≤ R.cells) (hl' : n + (N + 4) ≤ R.slots)
    (K : ∀ (a b : Addr) (K' : ClassId), Go true EL p l e R Z s m args below meth c Q (ro a (Lt Z b) :: ro b (Ar Z .byte K' vs) :: L) (k + 2) (n + (N + 4)) (mkF m pc' Ls (.ref a :: st))) : Go true EL p l e R Z s m args below meth c Q L k n (mkF m pc Ls st) := by
  obtain ⟨d, rfl⟩ := D
  intro vm T lc F B I S
  obtain ⟨a1, hE⟩ := X.2.2.2.2.2.2.2.2 rfl
  have B' : s.Since vm T.heap.size := B
  replace X := X.re B
  obtain ⟨hv1, hv2⟩ := I.2 rfl
  obtain ⟨a, T', h', k1, b, kk, S', e', E', q1, q2, q3, q4, q5, q6, q7, q8, q9, q10, q11, q12, q13, stp⟩ := ldcCH S X.1 X.2.1 X.2.2.1 w wS rfl B' (Nat.le_refl _) hE hmem hv1 ht hz hl (g := mkF m pc Ls st) rfl (hb X.2.2.2.1 d) hN hbig hc hl'
  subst e'
  have I' : Iv true Z EL T'.vm T'.heap L := ⟨I.1.mono E', fun _ => ⟨q11.1, fun x hx hf => q11.safe (by obtain ⟨-, cc, h1, -⟩ := I.1.2.1 x hx; exact (Array.getElem?_eq_some_iff.mp h1).1) (hv2 x hx hf)⟩⟩
  have I2 := I'.know (a := b) (P := Ar Z .byte kk vs) (by
    obtain ⟨cl, A, r1, r2, r3, r4, r5⟩ := q8
    have rs : cl.slots = vs.toArray := by
      apply Array.ext
      · rw [r2, hl]; simp
      · intro i h1 h2
        have := r4 i h1
        rw [Array.getElem?_eq_getElem h1] at this
        have h3 : i < vs.length := by simpa using h2
        rw [List.getD_eq_getElem?_getD, List.getElem?_eq_getElem h3] at this
        simpa using this
    refine ⟨cl, A.1, A.2.1, A.2.2, r1, rs, by rw [← hl]; exact (back32 hz).2, fun v hv => ?_⟩
    obtain ⟨i, hi, rfl⟩ := List.getElem_of_mem hv
    have := r5 i (by rw [r2, hl]; exact hi)
    rw [List.getD_eq_getElem?_getD, List.getElem?_eq_getElem hi] at this
    exact this) (fun x hx hf => (q13 x.1 (I'.2 rfl |>.2 x hx hf)).2)
  have I3 := I2.know (a := a) (P := Lt Z b) (by
    obtain ⟨cell, kc, a1, a2, a3, a4, a5⟩ := q5
    obtain ⟨c1, cf1, k1', i1, f1, b1, b2⟩ := q6
    obtain ⟨c2, cf2, k2', i2, f2, b3, b4⟩ := q7
    cases a1.symm.trans b1
    cases a1.symm.trans b3
    exact ⟨_, a1, ⟨kc, a2, a3, a4, a5⟩, ⟨_, _, _, _, b2⟩, ⟨_, _, _, _, b4⟩⟩) (fun x hx hf => by
      rcases List.mem_cons.mp hx with rfl | u
      · cases hf
      · exact (q13 x.1 (I'.2 rfl |>.2 x u hf)).1)
  obtain ⟨u, o, st', r⟩ := K a b kk T'.vm T' lc F (show s.Since T'.vm T'.heap.size from ⟨q1.1, fun j p hj hp => by obtain ⟨x, y⟩ := q1.2 j p hj hp; exact ⟨x, Nat.lt_of_lt_of_le y q2⟩⟩) I3 S'
  exact ⟨u, o, stp _ st', r⟩
end Jvm.OwnKit
namespace Jvm.OwnKit
open Sem ClassFile Op Lib Jvm.Stand Jvm.Free Jvm.LawKit Jvm.RoadKit
section More
variable {wd : Bool} {EL : List (String × Nat)} {p : Program} {l : Launch} {e : Env} {R : Room} {Z s : State} {m : MethodId} {args : Array Value} {below : List Frame} {meth : Method} {c : Code} {Q : Option Value → List Ent → Prop} {L L' : List Ent} {k n : Nat} {own nm : String} {code : ByteArray} {ml : Nat} {ret : Option FieldType} {a0 : Array Value}
variable {pc pc' : Nat} {Ls : Array Slot} {st : List Value} {i j : Nat} {a b : Addr} {C : String} {ns : List Nm} {vs vd : List Value} {v : Value} {h h' : Heap} {vm : Vm} {P P' : Cell → Prop} {f : Bool} {ty : FieldType} {K K' : ClassId}
theorem Hp.kp (H : Hp Z h L) (hi : L[i]? = some (ow b P)) (Kp : Keep h h' [b]) (hc : ∃ c, h'[b]? = some c ∧ P' c) : Hp Z h' (updL L i (ow b P')) := by
  refine ⟨⟨Nat.le_trans H.1.1 Kp.1, fun x c q => Kp.2.1 x c (H.1.2 x c q) fun r => ?_⟩, fun x hx => ?_, upd_apart L i (ow b P') (ow b P) hi rfl rfl H.2.2⟩
  · cases List.mem_singleton.mp r
    exact absurd (Array.getElem?_eq_some_iff.mp q).1 (Nat.not_lt.mpr (H.ge hi))
  · rcases upd_mem _ _ _ _ hx with rfl | ⟨j, hj, hLj⟩
    · exact ⟨fun _ => H.ge hi, hc⟩
    · obtain ⟨xa, xP, xf⟩ := x
      obtain ⟨q1, c, q2, q3⟩ := H.2.1 _ (List.mem_of_getElem? hLj)
      exact ⟨q1, c, Kp.2.1 _ _ q2 fun r => H.ne hi hLj (Ne.symm hj) (by simp) (List.mem_singleton.mp r).symm, q3⟩
theorem Iv.kp (I : Iv wd Z EL vm h L) (hi : L[i]? = some (ow b P)) (Kp : Keep h h' [b]) (hc : ∃ c, h'[b]? = some c ∧ P' c) : Iv wd Z EL vm h' (updL L i (ow b P')) := ⟨I.1.kp hi Kp hc, fun q => by
  have S := (I.2 q).2 _ (List.mem_of_getElem? hi) rfl
  have hs : ∀ x ∈ [b], Safe Z EL vm h x := fun x hx => by cases List.mem_singleton.mp hx; exact S
  refine ⟨(I.2 q).1.keep Kp hs, fun x hx hf => ?_⟩
  rcases upd_mem _ _ _ _ hx with rfl | ⟨j, hj, hLj⟩
  · exact Safe.keep Kp hs (I.2 q).1 S
  · exact Safe.keep Kp hs (I.2 q).1 ((I.2 q).2 x (List.mem_of_getElem? hLj) hf)⟩
theorem i32_of_clamp {z : Int32} {N : Nat} (hz : ¬ z < 0) (hN : z.toNatClampNeg = N) : z.toInt = N := by
  rw [Int32.lt_iff_toInt_lt] at hz; have : (0 : Int32).toInt = 0 := rfl
  simp only [Int32.toNatClampNeg] at hN; omega
theorem Ar.arv (hc : ∃ c, h[a]? = some c ∧ Ar Z ty K vs c) (dv : Value) : ∃ z : Int32, z.toNatClampNeg = vs.length ∧ ¬ z < 0 ∧ Arv Z h a K ty z vs dv := by
  obtain ⟨c, q1, q2, q3, q4, q5, q6, q7⟩ := hc
  obtain ⟨n1, n2, n3⟩ := nat32 q6
  refine ⟨Int32.ofNat vs.length, n3, n2, c, ⟨q1, q2, q3⟩, q4, by rw [q5, n3]; simp, n2, fun i hi => ?_, fun i hi => ?_⟩
  · rw [q5] at hi ⊢
    have : i < vs.length := by simpa using hi
    simp [this]
  · rw [q5] at hi
    have hi' : i < vs.length := by simpa using hi
    rw [List.getD_eq_getElem?_getD, List.getElem?_eq_getElem hi']
    exact q7 _ (List.getElem_mem hi')
theorem arv_ar {z : Int32} {dv : Value} (A : Arv Z h a K ty z vs dv) (hl : z.toNatClampNeg = vs.length) : ∃ c, h[a]? = some c ∧ Ar Z ty K vs c := by
  obtain ⟨cl, A, r1, r2, r3, r4, r5⟩ := A
  have rs : cl.slots = vs.toArray := by
    apply Array.ext
    · rw [r2, hl]; simp
    · intro i h1 h2
      have := r4 i h1
      rw [Array.getElem?_eq_getElem h1] at this
      have h3 : i < vs.length := by simpa using h2
      rw [List.getD_eq_getElem?_getD, List.getElem?_eq_getElem h3] at this
      simpa using this
  refine ⟨cl, A.1, A.2.1, A.2.2, r1, rs, by rw [← hl]; exact (back32 r3).2, fun v hv => ?_⟩
  obtain ⟨i, hi, rfl⟩ := List.getElem_of_mem hv
  have := r5 i (by rw [r2, hl]; exact hi)
  rw [List.getD_eq_getElem?_getD, List.getElem?_eq_getElem hi] at this
  exact this
/-- System.arraycopy between two arrays of one primitive kind -/
theorem Go.acopy (X : Cx wd EL p Z s m meth c own nm code ml ret) {idx : Nat} (w1 : (Cond.methodLink own idx Jvm.Stand.acN).before a0 Z = true) (w2 : (Cond.native Jvm.Stand.acN).before a0 Z = true) (w3 : (Cond.static Jvm.Stand.acN).before a0 Z = true) (w4 : (Cond.initialized "java/lang/System").before a0 Z = true)
    {sp dp nn : Int32} {sN dN nN : Nat} {r : List Value} (hj : L[j]? = some (ow b (Ar Z ty K' vd))) (hs : (a, Ar Z ty K vs, f) ∈ L) (ht : refKind ty = false) (q1 : ¬ sp < 0) (q2 : ¬ dp < 0) (q3 : ¬ nn < 0) (e1 : sp.toNatClampNeg = sN) (e2 : dp.toNatClampNeg = dN) (e3 : nn.toNatClampNeg = nN) (l1 : sN + nN ≤ vs.length) (l2 : dN + nN ≤ vd.length)
    (hr : vd.take dN ++ ((List.range nN).map fun i => vs.getD (sN + i) .null) ++ vd.drop (dN + nN) = r) (D : D1 code pc (.invokestatic idx) 3 pc') (hm : Ls.size = ml) (hf : 1 ≤ R.frames) (hlo : (st.map fun v => v.category).sum + (nativeFrameWords "java/lang/System" "arraycopy" 5 + 11) ≤ R.locals)
    (K1 : Go wd EL p l e R Z s m args below meth c Q (updL L j (ow b (Ar Z ty K' r))) k n (mkF m pc' Ls st)) : Go wd EL p l e R Z s m args below meth c Q L k n (mkF m pc Ls (.int nn :: .int dp :: .ref b :: .int sp :: .ref a :: st)) := by
  obtain ⟨d, rfl⟩ := D
  intro vm T lc F B I S
  replace X := X.re B
  obtain ⟨z1, t1, t2, A⟩ := Ar.arv (I.1.atM hs) .null
  obtain ⟨z2, t3, t4, A2⟩ := Ar.arv (I.1.at hj) .null
  obtain ⟨T', h', lc', S', e', F', Kp, A3, stp⟩ := cpA S X.1 X.2.1 X.2.2.1 w1 w2 w3 w4 rfl A A2 (Or.inl ⟨rfl, ht⟩) q1 q2 q3 (by rw [e1, e3, t1]; exact l1) (by rw [e2, e3, t3]; exact l2) rfl (by rw [e2, e3]; exact l2) F (I.1.ge hj) (g := mkF m pc Ls (.int nn :: .int dp :: .ref b :: .int sp :: .ref a :: st)) rfl (by rw [X.2.2.2.2.1]; exact hm) rfl (hb X.2.2.2.1 d) hf (W := (st.map fun v => v.category).sum) (by rw [mroom]; omega) hlo
  rw [e1, e2, e3, hr] at A3
  subst e'
  have hlen : r.length = vd.length := by rw [← hr]; simp; omega
  have I' := I.kp (P' := Ar Z ty K' r) hj Kp (arv_ar A3 (by rw [hlen]; exact t3))
  obtain ⟨u, o, st', rr⟩ := K1 vm T' _ F' (B.mono Kp.1) I' S'
  exact ⟨u, o, stp _ st', rr⟩
end More
/-- a private method of a class that can be made: a call of it goes to itself -/
theorem selP {Z : State} {a0 : Array Value} {y : MethodName} {n : Nat} (wi : (Cond.instantiable y.cls n).before a0 Z = true) (wp : (Cond.privateMethod y).before a0 Z = true) (w2 : (Cond.instanceMethod y).before a0 Z = true) (hy : y.cls ≠ "java/lang/invoke/MethodHandle" ∧ y.cls ≠ "java/lang/invoke/VarHandle") : (Cond.selects y.cls y y).before a0 Z = true := by
  obtain ⟨c, k, h1, h2, -, h4, -⟩ := Cond.instantiable_spec wi
  rw [Bool.or_eq_false_iff] at h4
  exact Jvm.Stand.selects_self_of_private h1 h2 h4.1 (Cond.privateMethod_at wp) w2 hy
/-! ### small numbers -/
theorem and255 (x : Int32) : ∃ c : Nat, c < 256 ∧ x &&& 255 = Int32.ofNat c := by
  refine ⟨(x.toBitVec &&& 255#32).toNat, ?_, ?_⟩
  · have : (x.toBitVec &&& 255#32).toNat = x.toBitVec.toNat % 256 := by rw [BitVec.toNat_and]; exact Nat.and_two_pow_sub_one_eq_mod _ 8
    omega
  · apply Int32.toBitVec_inj.mp
    rw [Int32.toBitVec_and]
    apply BitVec.eq_of_toNat_eq
    rw [Int32.toBitVec_ofNat]
    simp
/-! ### stores into big frames: the locals stay a literal list -/
def okSlot : Option Slot → Bool
  | some .unset => true
  | some (.val w) => w.category == 1
  | _ => false
theorem stL {ls ls' : List Slot} {i : Nat} {v : Value} (hv : v.category = 1) (h : okSlot ls[i]? = true) (e : updL ls i (.val v) = ls') : storeLocals ls.toArray i v = some ls'.toArray := by
  subst e
  rw [upd_set]
  have hs : storeSelf ls.toArray i v = some (ls.set i (.val v)).toArray := by
    have hi : i < ls.length := by
      rcases Nat.lt_or_ge i ls.length with q | q
      · exact q
      · rw [List.getElem?_eq_none q] at h; cases h
    simp [storeSelf, setAt, hv, hi]
  unfold storeLocals
  rw [List.getElem?_toArray]
  cases q : ls[i]? with
  | none => rw [q] at h; cases h
  | some o =>
    rw [q] at h
    cases o with
    | second => cases h
    | unset => simpa using hs
    | val w =>
      have : w.category ≠ 2 := by simp [okSlot] at h; omega
      simpa [this] using hs
end Jvm.OwnKit
namespace Jvm.OwnKit
open Sem ClassFile Op Lib Jvm.Stand Jvm.Free Jvm.LawKit Jvm.RoadKit
section More2
variable {wd : Bool} {EL : List (String × Nat)} {p : Program} {l : Launch} {e : Env} {R : Room} {Z s : State} {m : MethodId} {args : Array Value} {below : List Frame} {meth : Method} {c : Code} {Q : Option Value → List Ent → Prop} {L L' : List Ent} {k n : Nat} {own nm : String} {code : ByteArray} {ml : Nat} {ret : Option FieldType} {a0 : Array Value}
variable {pc pc' : Nat} {Ls : Array Slot} {st : List Value} {i j : Nat} {a b : Addr} {C : String} {ns : List Nm} {vs vd : List Value} {v : Value} {h h' : Heap} {vm : Vm} {P P' : Cell → Prop} {f : Bool} {ty ty' : FieldType} {K K' : ClassId}
theorem Hp.tail {x : Ent} (H : Hp Z h (x :: L)) : Hp Z h L := ⟨H.1, fun y hy => H.2.1 y (List.mem_cons_of_mem _ hy), (List.pairwise_cons.mp H.2.2).2⟩
theorem Hp.sub (q : L'.Sublist L) (H : Hp Z h L) : Hp Z h L' := ⟨H.1, fun x hx => H.2.1 x (q.subset hx), H.2.2.sublist q⟩
/-- a cell that stood at the start -/
theorem Go.know {g : JFrame} (hlt : a < Z.heap.size) (hc : ∀ h, Hp Z h L → ∃ c, h[a]? = some c ∧ P c) (K : Go wd EL p l e R Z s m args below meth c Q (ro a P :: L) k n g) : Go wd EL p l e R Z s m args below meth c Q L k n g := fun vm T lc F B I S => K vm T lc F B (I.know (hc _ I.1) fun x hx hf q => by
  have r := (I.1.2.1 x hx).1 hf
  rw [q] at r
  exact absurd hlt (Nat.not_lt.mpr r)) S
/-- the cell may be taken for a C -/
def InC (Z : State) (C : String) (c : Cell) : Prop := ∃ cT, Z.vm.findClass C = some cT ∧ (!c.vm.isStatics && Z.vm.assignable c.cls cT) = true
def Cst (Z : State) (L : List Ent) (x : Addr) (C : String) : Prop := ∀ h, Hp Z h L → Ins Z h x C true
theorem Cst.of (q1 : (a, P, f) ∈ L) (q2 : ∀ c, P c → InC Z C c) : Cst Z L a C := fun h H => by
  obtain ⟨c, h1, h2⟩ := H.atM q1
  obtain ⟨cT, r1, r2⟩ := q2 c h2
  exact ⟨c, cT, h1, r1, r2⟩
theorem Cst.up {y : Ent} (q : Cst Z L a C) : Cst Z (y :: L) a C := fun h H => q h H.tail
theorem Cst.ins (q : Cst Z L a C) (H : Hp Z h L) : Ins Z h a C true := q h H
theorem Ob.inC {D : String} {c : Cell} (w : (Cond.castable C D).before a0 Z = true) (O : Ob Z C ns vs c) : InC Z D c := by
  obtain ⟨⟨k, h2, -, h4, -⟩, -⟩ := O
  obtain ⟨c1, c2, g1, g2, g3⟩ := Cond.castable_spec w
  cases h2.symm.trans g1
  exact ⟨c2, g2, by simp [h4, g3]⟩
theorem Ob.inS {c : Cell} (O : Ob Z C ns vs c) : InC Z C c := by
  obtain ⟨⟨k, h2, -, h4, -⟩, -⟩ := O
  exact ⟨_, h2, by simp [h4, Vm.assignable_self]⟩
theorem Hp.arC (H : Hp Z h L) (hi : (a, Ar Z ty K vs, f) ∈ L) : ∃ cl, h[a]? = some cl ∧ cl.cls = K ∧ cl.vm.isStatics = false := by
  obtain ⟨c, q, q1, q2, q3, -⟩ := H.atM hi
  refine ⟨c, q, q3, ?_⟩
  have := q1.1
  cases hv : c.vm <;> first | rfl | exact absurd hv (this _)
theorem Go.anewF (X : Cx wd EL p Z s m meth c own nm code ml ret) {idx : Nat} {z : Int32} {N cap : Nat} (w : (Cond.classLink own idx C).before a0 Z = true) (w2 : (Cond.arrayOver (.object C)).before a0 Z = true) (hz : ¬ z < 0) (hN : z.toNatClampNeg = N) (hcap : N ≤ cap) (hb8 : cap * 8 ≤ 536870912) (D : D1 code pc (.anewarray idx) 3 pc') (hc : k + 1 ≤ R.cells) (hl : n + cap ≤ R.slots)
    (K1 : ∀ a K', Ovr Z K' C → Z.vm.findClass ("[" ++ (FieldType.object C).toString) = some K' → Go wd EL p l e R Z s m args below meth c Q (ow a (Ar Z (.object C) K' (List.replicate N .null)) :: L) (k + 1) (n + cap) (mkF m pc' Ls (.ref a :: st))) : Go wd EL p l e R Z s m args below meth c Q L k n (mkF m pc Ls (.int z :: st)) := by
  obtain ⟨d, rfl⟩ := D
  intro vm T lc F B I S
  replace X := X.re B
  obtain ⟨vm₁, cA, kA, comp, -, h1, h2, h3, h4, S', stp⟩ := S.anewarrayRefK X.1 X.2.2.1 (mv X.2.1 w) (Cond.arrayOver_alike X.2.1.alike w2) (g := mkF m pc Ls (.int z :: st)) rfl (hb X.2.2.2.1 d) rfl hz (by omega) hc (by omega)
  rw [X.2.1.alike.findClass] at h1
  obtain ⟨kZ, z1, -⟩ := Vm.findClass_spec h1
  obtain ⟨k', z2, z3⟩ := X.2.1.alike.2.2 _ _ z1
  cases h2.symm.trans z2
  have E' : Ext T.heap (T.heap.push { cls := cA, slots := Array.replicate z.toNatClampNeg .null, vm := .none }) := ext_of fun a q => Array.getElem?_push_lt q |>.trans (Array.getElem?_eq_getElem q).symm
  have I' := I.push (a := T.heap.size) (P := Ar Z (.object C) cA (List.replicate N .null)) E' (Nat.le_refl _) ⟨{ cls := cA, slots := Array.replicate z.toNatClampNeg .null, vm := .none }, by simp, ⟨by simp, kZ, z1, comp, by rw [← h3, z3]⟩, by simp, rfl, by simp [hN], by simp; omega, fun u hu => by rw [List.eq_of_mem_replicate hu]; rfl⟩
  obtain ⟨u, o, st', r⟩ := K1 _ cA ⟨kZ, comp, z1, by rw [← h3, z3], by rw [← X.2.1.alike.findClass]; exact h4⟩ h1 vm _ lc F (B.mono E'.1) I' (S'.mono (Nat.le_refl _) (by omega))
  exact ⟨u, o, stp _ st', r⟩
/-- the class C has its mirror -/
def MirC (Z : State) (C : String) (K : ClassId) (mir : Addr) : Prop := Z.vm.findClass C = some K ∧ ∃ kc, Z.vm.classes[K]? = some kc ∧ kc.mirror = some mir
theorem Go.getcls (X : Cx wd EL p Z s m meth c own nm code ml ret) {idx : Nat} {mir : Addr} (w1 : (Cond.methodLink own idx Jvm.Stand.gcN).before a0 Z = true) (wdc : (Cond.declares Jvm.Stand.gcN).before a0 Z = true) (hnf : ∀ s : State, Z.Warmed39 s.vm → NotFace s Jvm.Stand.gcN) (ws : (Cond.selects C Jvm.Stand.gcN Jvm.Stand.gcN).before a0 Z = true) (w2 : (Cond.instanceMethod Jvm.Stand.gcN).before a0 Z = true) (w3 : (Cond.native Jvm.Stand.gcN).before a0 Z = true) (hM : MirC Z C K mir)
    (hA : ∀ h, Hp Z h L → ∃ cl : Cell, h[a]? = some cl ∧ cl.cls = K ∧ cl.vm.isStatics = false) (D : D1 code pc (.invokevirtual idx) 3 pc') (hm : Ls.size = ml) (hf : 1 ≤ R.frames) (hlo : (st.map fun v => v.category).sum + (nativeFrameWords "java/lang/Object" "getClass" 1 + 11) ≤ R.locals)
    (K1 : Go wd EL p l e R Z s m args below meth c Q L k n (mkF m pc' Ls (.ref mir :: st))) : Go wd EL p l e R Z s m args below meth c Q L k n (mkF m pc Ls (.ref a :: st)) := by
  obtain ⟨d, rfl⟩ := D
  intro vm T lc F B I S
  replace X := X.re B
  obtain ⟨cl, c1, c2, c3⟩ := hA _ I.1
  obtain ⟨hK, kc, hkc, hmi⟩ := hM
  obtain ⟨k', k1, k2⟩ := X.2.1.alike.2.2 _ _ hkc
  obtain ⟨vm', S', stp⟩ := S.getClassOf X.1 X.2.2.1 (mvT X.2.1 w1) (mvT X.2.1 wdc) (hnf _ X.2.1) (mvT X.2.1 ws) (mvT X.2.1 w2) (mvT X.2.1 w3) (cB := K) (by rw [X.2.1.alike.findClass]; exact hK) ⟨cl, c1, c2, c3⟩ k1 (mir := mir) (by rw [k2]; exact hmi) (g := mkF m pc Ls (.ref a :: st)) rfl (by rw [X.2.2.2.2.1]; exact hm) rfl (hb X.2.2.2.1 d) hf (by rw [mroom]; omega)
  obtain ⟨u, o, st', r⟩ := K1 vm (T.setVm vm') lc F B I S'
  exact ⟨u, o, stp _ st', r⟩
theorem Go.ldcM (X : Cx wd EL p Z s m meth c own nm code ml ret) {idx : Nat} {mir : Addr} (w : (Cond.classLink own idx C).before a0 Z = true) (hM : MirC Z C K mir) (D : D1 code pc (.ldc idx) 2 pc') (K1 : Go wd EL p l e R Z s m args below meth c Q L k n (mkF m pc' Ls (.ref mir :: st))) : Go wd EL p l e R Z s m args below meth c Q L k n (mkF m pc Ls st) := by
  obtain ⟨d, rfl⟩ := D
  intro vm T lc F B I S
  replace X := X.re B
  obtain ⟨hK, kc, hkc, hmi⟩ := hM
  obtain ⟨k', k1, k2⟩ := X.2.1.alike.2.2 _ _ hkc
  have q1 : (s.setVm vm).vm.findClass C = some K := by rw [X.2.1.alike.findClass]; exact hK
  have q2 : k'.mirror = some mir := by rw [k2]; exact hmi
  have ev : (Term.mirror C).eval args (s.setVm vm) none [] (s.setVm vm) = some (.ref mir) := by
    simp only [Term.eval, q1, k1, q2, Option.bind_eq_bind, Option.bind_some, Option.pure_def]
  obtain ⟨vm', S', stp⟩ := S.ldcMirror X.1 X.2.2.1 (mv X.2.1 w) ev (g := mkF m pc Ls st) rfl (hb X.2.2.2.1 d)
  obtain ⟨u, o, st', r⟩ := K1 vm (T.setVm vm') lc F B I S'
  exact ⟨u, o, stp _ st', r⟩
theorem stoL_of : ∀ {us : List Value}, (∀ v ∈ us, Sto Z h b v) → StoL Z h b us
  | [], _ => trivial
  | v :: r, q => ⟨q v List.mem_cons_self, stoL_of fun w hw => q w (List.mem_cons_of_mem _ hw)⟩
/-- System.arraycopy between two arrays of references -/
theorem Go.acopyR (X : Cx wd EL p Z s m meth c own nm code ml ret) {idx : Nat} (w1 : (Cond.methodLink own idx Jvm.Stand.acN).before a0 Z = true) (w2 : (Cond.native Jvm.Stand.acN).before a0 Z = true) (w3 : (Cond.static Jvm.Stand.acN).before a0 Z = true) (w4 : (Cond.initialized "java/lang/System").before a0 Z = true)
    {sp dp nn : Int32} {sN dN nN : Nat} {r : List Value} (hj : L[j]? = some (ow b (Ar Z ty' K' vd))) (hs : (a, Ar Z ty K vs, f) ∈ L) (ht : refKind ty = true) (ht' : refKind ty' = true) (hst : ∀ h, Hp Z h L → ∀ v ∈ (List.range nN).map (fun i => vs.getD (sN + i) .null), Sto Z h b v) (q1 : ¬ sp < 0) (q2 : ¬ dp < 0) (q3 : ¬ nn < 0) (e1 : sp.toNatClampNeg = sN) (e2 : dp.toNatClampNeg = dN) (e3 : nn.toNatClampNeg = nN) (l1 : sN + nN ≤ vs.length) (l2 : dN + nN ≤ vd.length)
    (hr : vd.take dN ++ ((List.range nN).map fun i => vs.getD (sN + i) .null) ++ vd.drop (dN + nN) = r) (D : D1 code pc (.invokestatic idx) 3 pc') (hm : Ls.size = ml) (hf : 1 ≤ R.frames) (hlo : (st.map fun v => v.category).sum + (nativeFrameWords "java/lang/System" "arraycopy" 5 + 11) ≤ R.locals)
    (K1 : Go wd EL p l e R Z s m args below meth c Q (updL L j (ow b (Ar Z ty' K' r))) k n (mkF m pc' Ls st)) : Go wd EL p l e R Z s m args below meth c Q L k n (mkF m pc Ls (.int nn :: .int dp :: .ref b :: .int sp :: .ref a :: st)) := by
  obtain ⟨d, rfl⟩ := D
  intro vm T lc F B I S
  replace X := X.re B
  subst e1 e2 e3
  obtain ⟨z1, t1, t2, A⟩ := Ar.arv (I.1.atM hs) .null
  obtain ⟨z2, t3, t4, A2⟩ := Ar.arv (I.1.at hj) .null
  obtain ⟨T', h', lc', S', e', F', Kp, A3, stp⟩ := cpA S X.1 X.2.1 X.2.2.1 w1 w2 w3 w4 rfl A A2 (us := (List.range nn.toNatClampNeg).map fun i => vs.getD (sp.toNatClampNeg + i) .null) (Or.inr ⟨ht, ht', stoL_of (hst _ I.1)⟩) q1 q2 q3 (by rw [t1]; exact l1) (by rw [t3]; exact l2) rfl l2 F (I.1.ge hj) (g := mkF m pc Ls (.int nn :: .int dp :: .ref b :: .int sp :: .ref a :: st)) rfl (by rw [X.2.2.2.2.1]; exact hm) rfl (hb X.2.2.2.1 d) hf (W := (st.map fun v => v.category).sum) (by rw [mroom]; omega) hlo
  rw [hr] at A3
  subst e'
  have hlen : r.length = vd.length := by rw [← hr]; simp; omega
  have I' := I.kp (P' := Ar Z ty' K' r) hj Kp (arv_ar A3 (by rw [hlen]; exact t3))
  obtain ⟨u, o, st', rr⟩ := K1 vm T' _ F' (B.mono Kp.1) I' S'
  exact ⟨u, o, stp _ st', rr⟩
/-- a call of the superclass's own method (invokespecial, no <init>) -/
theorem Go.callU (X : Cx wd EL p Z s m meth c own nm code ml ret) {y : MethodName} {code' : ByteArray} {ml' : Nat} {ret' : Option FieldType} {rm : Room} {argsL rest : List Value} {Q' : Option Value → List Ent → Prop} {K0 : String} (E : ∀ h, Hp Z h L → Ins Z h a K0 true) (B : Ct wd EL l Z y code' ml' ret' rm (Value.ref a :: argsL).toArray L Q')
    {idx : Nat} (w1 : (Cond.methodLink own idx y).before a0 Z = true) (w5 : (Cond.sameMethod y.cls y.cls y.name y.desc).before a0 Z = true) (w2 : (Cond.instanceMethod y).before a0 Z = true) (w6 : (Cond.superclass own y.cls).before a0 Z = true) (hy1 : y.name ≠ "<init>") (w3 : (Cond.initialized y.cls).before a0 Z = true) (w4 : (Cond.code y code' ml' ret').before a0 Z = true)
    {ps : List FieldType} {rt : Option FieldType} (pd : parseMethodDescriptor y.desc = some ⟨ps, rt⟩) (hl : argsL.length = ps.length) (hs : st = argsL.reverse ++ .ref a :: rest) (D : D1 code pc (.invokespecial idx) 3 pc') (hm : Ls.size = ml)
    (hf : rm.frames + 1 ≤ R.frames) (hlo : (rest.map fun v => v.category).sum + (ml' + 11) + rm.locals ≤ R.locals) (hk : k + rm.cells ≤ R.cells) (hn : n + rm.slots ≤ R.slots)
    (K : ∀ o L, Q' o L → Go wd EL p l e R Z s m args below meth c Q L (k + rm.cells) (n + rm.slots) (mkF m pc' Ls (o.toList ++ rest))) : Go wd EL p l e R Z s m args below meth c Q L k n (mkF m pc Ls st) := by
  obtain ⟨d, rfl⟩ := D
  subst hs
  cases wd
  · refine Go.byN X (fun s X T lc H S => ?_) (fun _ => trivial) K
    exact superBack S X.1 X.2.1 X.2.2.1 w1 w5 w2 w6 hy1 (backN (W := (rest.map fun v => v.category).sum) B X.2.1 w4 w3 hf hlo) rfl (E _ H) (g := mkF m pc Ls (argsL.reverse ++ .ref a :: rest)) rfl (by rw [X.2.2.2.2.1]; exact hm) w4 (argsL := argsL) (rest := rest) (lenOf pd hl) rfl (by rw [mroom]; omega) (hb X.2.2.2.1 d) (fun _ _ => ⟨rfl, H, hk, hn⟩)
  · refine Go.byW X (fun vm X T lc I S => ?_) K
    obtain ⟨a1, hE⟩ := X.2.2.2.2.2.2.2.2 rfl
    exact superBackS S X.1 X.2.1 X.2.2.1 w1 w5 w2 w6 hy1 (backW (W := (rest.map fun v => v.category).sum) B X.2.1 w4 w3 hf hlo hE I) rfl (E _ I.1) (g := mkF m pc Ls (argsL.reverse ++ .ref a :: rest)) rfl (by rw [X.2.2.2.2.1]; exact hm) w4 (argsL := argsL) (rest := rest) (lenOf pd hl) rfl (by rw [mroom]; omega) (hb X.2.2.2.1 d) (fun _ _ => ⟨rfl, rfl, hk, hn⟩)
/-- a method of a class that is no interface: the lookup from its own class finds it -/
theorem sameSelf {y x y2 : MethodName} (w2 : (Cond.instanceMethod y).before a0 Z = true) (ws : (Cond.selects C x y2).before a0 Z = true) (hc : y2.cls = y.cls) (hy : y.cls ≠ "java/lang/invoke/MethodHandle" ∧ y.cls ≠ "java/lang/invoke/VarHandle") : (Cond.sameMethod y.cls y.cls y.name y.desc).before a0 Z = true := by
  obtain ⟨mk, methM, hnamed, -⟩ := Cond.instanceMethod_spec w2
  obtain ⟨c2, r2, m2, q1, q2, q3, q4, kP, hkP, hkPi⟩ := Cond.selects_spec ws
  have c1 := findClass_of_methodNamed hnamed
  have c3 := findClass_of_methodNamed q3
  rw [hc, c1] at c3
  have ec : mk.cls = m2.cls := Option.some.inj c3
  have hf := State.methodFound?_of_named hnamed hy
  have e : (⟨y.cls, y.name, y.desc⟩ : MethodName) = y := rfl
  rw [← ec] at hkP
  simp [Cond.before, Cond.holds, Cond.value, c1, hf, e, hnamed, hkP, hkPi]
theorem selP2 {x y : MethodName} (ws : (Cond.selects C x y).before a0 Z = true) (wp : (Cond.privateMethod y).before a0 Z = true) (w2 : (Cond.instanceMethod y).before a0 Z = true) (hy : y.cls ≠ "java/lang/invoke/MethodHandle" ∧ y.cls ≠ "java/lang/invoke/VarHandle") : (Cond.selects y.cls y y).before a0 Z = true := by
  obtain ⟨c2, r2, m2, q1, q2, q3, q4, kP, hkP, hkPi⟩ := Cond.selects_spec ws
  exact Jvm.Stand.selects_self_of_private (findClass_of_methodNamed q3) hkP hkPi (Cond.privateMethod_at wp) w2 hy
theorem nfX {x z y : MethodName} (ws : (Cond.selects C x z).before a0 Z = true) (hc : z.cls = y.cls) : ∀ s : State, Z.Warmed39 s.vm → NotFace s y := fun s q r0 hr => by
  obtain ⟨c2, r2, m2, q1, q2, q3, q4, kP, hkP, hkPi⟩ := Cond.selects_spec (mvT (args := #[]) q ws)
  have c1 := findClass_of_methodNamed hr
  have c3 := findClass_of_methodNamed q3
  rw [hc, c1] at c3
  rw [Option.some.inj c3]
  exact ⟨kP, hkP, hkPi⟩
/-! ### statics that hold an array -/
theorem lenLt {args : Array Value} {t : Term} {cl : Cell} {v : Value} (ea : t.eval args Z none [] Z = some (.ref a)) (hA : Z.arrayAt? a = some cl) (L : (Term.length t).eval args Z none [] Z = some v) : cl.slots.size < 2 ^ 31 := by
  rcases Nat.lt_or_ge cl.slots.size (2 ^ 31) with q | q
  · exact q
  · exfalso
    have q' : ¬ cl.slots.size < 2147483648 := Nat.not_lt.mpr q
    simp [Term.eval, ea, hA, q'] at L
theorem staArr {args : Array Value} {C n d A : String} {z : Int32} (hi : (Cond.initializedFor C n d).before args Z = true ∨ ((Cond.initialized C).before args Z = true ∧ (Cond.laysStatic C n d).before args Z = true)) (wa : (Cond.arrayOf (Term.static C n d) ty).before args Z = true) (wx : (Cond.exactly (Term.static C n d) A).before args Z = true) (wl : (Cond.eq (Term.length (Term.static C n d)) (Term.int z)).before args Z = true) :
    ∃ a cl, Sta Z Z.heap C n d (.ref a) ∧ Arr Z Z.heap a cl ty ∧ Z.vm.findClass A = some cl.cls ∧ cl.slots.size < 2 ^ 31 ∧ cl.slots.size.toInt32 = z ∧ ∀ idx, (Term.static C n d).eval args Z none idx Z = some (.ref a) := by
  have wx' := Cond.before_iff.mp wx
  obtain ⟨a, ea⟩ := exa_v wx'
  obtain ⟨cl, A'⟩ := Arr.start ea (Cond.before_iff.mp wa)
  obtain ⟨cell, k, x1, x2, -⟩ := Exa.start ea wx'
  cases A'.1.symm.trans x1
  have L := eqv_i (Term.int_eval z) (Cond.before_iff.mp wl)
  have hA := A'.fin (U := Z) (Vm.Alike.refl _)
  have hl : cl.slots.size < 2 ^ 31 := lenLt ea hA L
  rw [len_f ea hA hl] at L
  simp only [Option.some.injEq, Value.int.injEq] at L
  exact ⟨a, cl, Sta.start ea hi, A', x2, hl, L, fun idx => ea⟩
theorem staInt {args : Array Value} {C n d : String} {z : Int32} (hi : (Cond.initializedFor C n d).before args Z = true ∨ ((Cond.initialized C).before args Z = true ∧ (Cond.laysStatic C n d).before args Z = true)) (wl : (Cond.eq (Term.static C n d) (Term.int z)).before args Z = true) : Sta Z Z.heap C n d (.int z) :=
  Sta.start (eqv_i (Term.int_eval z) (Cond.before_iff.mp wl)) hi
/-- an empty array that stood at the start -/
theorem emptyAr {cl : Cell} (A : Arr Z Z.heap a cl ty) (h0 : cl.slots.size.toInt32 = 0) (hl : cl.slots.size < 2 ^ 31) : Ar Z ty cl.cls [] cl := by
  have e : cl.slots.size = 0 := by
    have := len_toInt hl
    rw [h0] at this
    have q : (0 : Int32).toInt = 0 := rfl
    omega
  refine ⟨A.2.1, A.2.2, rfl, ?_, by simp, fun v hv => nomatch hv⟩
  exact Array.eq_empty_of_size_eq_zero e
/-- .. a known object that stood at the start -/
theorem oldOb (E : Exa Z Z.heap a C) (hl : vs.length = ns.length) (F : ∀ (j : Nat) (q : Nm) (v : Value), ns[j]? = some q → vs[j]? = some v → Fld Z Z.heap a q.1 q.2.1 q.2.2 v) : a < Z.heap.size ∧ ∀ h, Hp Z h L → ∃ c, h[a]? = some c ∧ Ob Z C ns vs c := by
  obtain ⟨cell, k, h1, r⟩ := E
  refine ⟨(Array.getElem?_eq_some_iff.mp h1).1, fun h H => ⟨cell, H.1.2 _ _ h1, ⟨k, r⟩, hl, fun j q v hj hv => ?_⟩⟩
  obtain ⟨c2, cf, k2, i2, f2, g1, g2⟩ := F j q v hj hv
  cases h1.symm.trans g1
  exact ⟨cf, k2, i2, f2, g2⟩
end More2
end Jvm.OwnKit
namespace Jvm.Pilot.@@N@@
open Jvm Jvm.ClassFile Sem Op Lib Jvm.Free Jvm.Stand Jvm.LawKit Jvm.RoadKit Jvm.OwnKit Bundle Jvm.Pilot.@@N@@.Jvm.D
abbrev WD : Bool := true
abbrev EL0 : List (String × Nat) := consts_1
/-- what is known throughout -/
def Gl (a0 : Array Value) (Z : State) : Prop := (∀ d ∈ tables_1, d.before a0 Z = true) ∧ (WD = true → ∃ a0, EW Z a0 EL0) ∧ (∃ cs : Int32, cs ≠ 0 ∧ Sta Z Z.heap "java/lang/String" "COMPACT_STRINGS" "Z" (.int cs)) ∧ (∃ de, Sta Z Z.heap "java/util/ArrayList" "DEFAULTCAPACITY_EMPTY_ELEMENTDATA" "[Ljava/lang/Object;" (.ref de) ∧ ∃ cl, Arr Z Z.heap de cl (.object "java/lang/Object") ∧ cl.slots.size = 0) ∧ (Sta Z Z.heap "java/lang/Integer$IntegerCache" "high" "I" (.int 127) ∧ ∃ ca cc, Sta Z Z.heap "java/lang/Integer$IntegerCache" "cache" "[Ljava/lang/Integer;" (.ref ca) ∧ Bxs Z ca cc "java/lang/Integer" "I" 256 (fun j => .int (j - 128))) ∧ (∃ KM mir, MirC Z "[Ljava/lang/Object;" KM mir)
theorem g_cs {a0 : Array Value} {Z : State} (G : Gl a0 Z) : ∃ cs : Int32, cs ≠ 0 ∧ Sta Z Z.heap "java/lang/String" "COMPACT_STRINGS" "Z" (.int cs) := G.2.2.1
theorem g_de {a0 : Array Value} {Z : State} (G : Gl a0 Z) : ∃ de, Sta Z Z.heap "java/util/ArrayList" "DEFAULTCAPACITY_EMPTY_ELEMENTDATA" "[Ljava/lang/Object;" (.ref de) ∧ ∃ cl, Arr Z Z.heap de cl (.object "java/lang/Object") ∧ cl.slots.size = 0 := G.2.2.2.1
theorem g_ic {a0 : Array Value} {Z : State} (G : Gl a0 Z) : Sta Z Z.heap "java/lang/Integer$IntegerCache" "high" "I" (.int 127) ∧ ∃ ca cc, Sta Z Z.heap "java/lang/Integer$IntegerCache" "cache" "[Ljava/lang/Integer;" (.ref ca) ∧ Bxs Z ca cc "java/lang/Integer" "I" 256 (fun j => .int (j - 128)) := G.2.2.2.2.1
theorem g_mi {a0 : Array Value} {Z : State} (G : Gl a0 Z) : ∃ KM mir, MirC Z "[Ljava/lang/Object;" KM mir := G.2.2.2.2.2
-- %%% strings
theorem w5 {a0 : Array Value} {Z : State} (G : Gl a0 Z) : (Jvm.Cond.instantiable "java/lang/String" (4 : Nat)).before a0 Z = true := G.1 _ (List.mem_of_getElem? (i := 5) rfl)
theorem w6 {a0 : Array Value} {Z : State} (G : Gl a0 Z) : (Jvm.Cond.initialized "java/lang/String").before a0 Z = true := G.1 _ (List.mem_of_getElem? (i := 6) rfl)
theorem w11 {a0 : Array Value} {Z : State} (G : Gl a0 Z) : (Jvm.Cond.methodLink "java/lang/String" (27 : Nat) ({ cls := "java/lang/String", name := "<init>", desc := "([CIILjava/lang/Void;)V" } : Jvm.MethodName)).before a0 Z = true := G.1 _ (List.mem_of_getElem? (i := 11) rfl)
theorem w12 {a0 : Array Value} {Z : State} (G : Gl a0 Z) : (Jvm.Cond.instanceMethod ({ cls := "java/lang/String", name := "<init>", desc := "([CIILjava/lang/Void;)V" } : Jvm.MethodName)).before a0 Z = true := G.1 _ (List.mem_of_getElem? (i := 12) rfl)
theorem w14 {a0 : Array Value} {Z : State} (G : Gl a0 Z) : (Jvm.Cond.code ({ cls := "java/lang/String", name := "<init>", desc := "([CIILjava/lang/Void;)V" } : Jvm.MethodName) jdk_42_method_149_code (6 : Nat) (Option.none : Option Jvm.ClassFile.FieldType)).before a0 Z = true := G.1 _ (List.mem_of_getElem? (i := 14) rfl)
theorem w15 {a0 : Array Value} {Z : State} (G : Gl a0 Z) : (Jvm.Cond.methodLink "java/lang/String" (1 : Nat) ({ cls := "java/lang/Object", name := "<init>", desc := "()V" } : Jvm.MethodName)).before a0 Z = true := G.1 _ (List.mem_of_getElem? (i := 15) rfl)
theorem w16 {a0 : Array Value} {Z : State} (G : Gl a0 Z) : (Jvm.Cond.instanceMethod ({ cls := "java/lang/Object", name := "<init>", desc := "()V" } : Jvm.MethodName)).before a0 Z = true := G.1 _ (List.mem_of_getElem? (i := 16) rfl)
theorem w17 {a0 : Array Value} {Z : State} (G : Gl a0 Z) : (Jvm.Cond.code ({ cls := "java/lang/Object", name := "<init>", desc := "()V" } : Jvm.MethodName) object_method_1_code (1 : Nat) (Option.none : Option Jvm.ClassFile.FieldType)).before a0 Z = true := G.1 _ (List.mem_of_getElem? (i := 17) rfl)
theorem w18 {a0 : Array Value} {Z : State} (G : Gl a0 Z) : (Jvm.Cond.fieldLink "java/lang/String" (38 : Nat) "java/lang/String" "COMPACT_STRINGS" "Z").before a0 Z = true := G.1 _ (List.mem_of_getElem? (i := 18) rfl)
theorem w19 {a0 : Array Value} {Z : State} (G : Gl a0 Z) : (Jvm.Cond.methodLink "java/lang/String" (177 : Nat) ({ cls := "java/lang/StringUTF16", name := "compress", desc := "([CII)[B" } : Jvm.MethodName)).before a0 Z = true := G.1 _ (List.mem_of_getElem? (i := 19) rfl)
theorem w20 {a0 : Array Value} {Z : State} (G : Gl a0 Z) : (Jvm.Cond.static ({ cls := "java/lang/StringUTF16", name := "compress", desc := "([CII)[B" } : Jvm.MethodName)).before a0 Z = true := G.1 _ (List.mem_of_getElem? (i := 20) rfl)
theorem w21 {a0 : Array Value} {Z : State} (G : Gl a0 Z) : (Jvm.Cond.initialized "java/lang/StringUTF16").before a0 Z = true := G.1 _ (List.mem_of_getElem? (i := 21) rfl)
theorem w22 {a0 : Array Value} {Z : State} (G : Gl a0 Z) : (Jvm.Cond.code ({ cls := "java/lang/StringUTF16", name := "compress", desc := "([CII)[B" } : Jvm.MethodName) jdk_52_method_16_code (6 : Nat) (Option.some (Jvm.ClassFile.FieldType.array Jvm.ClassFile.FieldType.byte))).before a0 Z = true := G.1 _ (List.mem_of_getElem? (i := 22) rfl)
theorem w23 {a0 : Array Value} {Z : State} (G : Gl a0 Z) : (Jvm.Cond.arrayClass Jvm.ClassFile.FieldType.byte).before a0 Z = true := G.1 _ (List.mem_of_getElem? (i := 23) rfl)
theorem w24 {a0 : Array Value} {Z : State} (G : Gl a0 Z) : (Jvm.Cond.methodLink "java/lang/StringUTF16" (115 : Nat) ({ cls := "java/lang/StringUTF16", name := "compress", desc := "([CI[BII)I" } : Jvm.MethodName)).before a0 Z = true := G.1 _ (List.mem_of_getElem? (i := 24) rfl)
theorem w25 {a0 : Array Value} {Z : State} (G : Gl a0 Z) : (Jvm.Cond.static ({ cls := "java/lang/StringUTF16", name := "compress", desc := "([CI[BII)I" } : Jvm.MethodName)).before a0 Z = true := G.1 _ (List.mem_of_getElem? (i := 25) rfl)
theorem w26 {a0 : Array Value} {Z : State} (G : Gl a0 Z) : (Jvm.Cond.code ({ cls := "java/lang/StringUTF16", name := "compress", desc := "([CI[BII)I" } : Jvm.MethodName) jdk_52_method_21_code (7 : Nat) (Option.some Jvm.ClassFile.FieldType.int)).before a0 Z = true := G.1 _ (List.mem_of_getElem? (i := 26) rfl)
theorem w27 {a0 : Array Value} {Z : State} (G : Gl a0 Z) : (Jvm.Cond.methodLink "java/lang/String" (47 : Nat) ({ cls := "java/lang/StringUTF16", name := "coderFromArrayLen", desc := "([BI)B" } : Jvm.MethodName)).before a0 Z = true := G.1 _ (List.mem_of_getElem? (i := 27) rfl)
theorem w28 {a0 : Array Value} {Z : State} (G : Gl a0 Z) : (Jvm.Cond.static ({ cls := "java/lang/StringUTF16", name := "coderFromArrayLen", desc := "([BI)B" } : Jvm.MethodName)).before a0 Z = true := G.1 _ (List.mem_of_getElem? (i := 28) rfl)
theorem w29 {a0 : Array Value} {Z : State} (G : Gl a0 Z) : (Jvm.Cond.code ({ cls := "java/lang/StringUTF16", name := "coderFromArrayLen", desc := "([BI)B" } : Jvm.MethodName) jdk_52_method_15_code (2 : Nat) (Option.some Jvm.ClassFile.FieldType.byte)).before a0 Z = true := G.1 _ (List.mem_of_getElem? (i := 29) rfl)
theorem w30 {a0 : Array Value} {Z : State} (G : Gl a0 Z) : (Jvm.Cond.fieldLink "java/lang/String" (15 : Nat) "java/lang/String" "coder" "B").before a0 Z = true := G.1 _ (List.mem_of_getElem? (i := 30) rfl)
theorem w31 {a0 : Array Value} {Z : State} (G : Gl a0 Z) : (Jvm.Cond.laysFinal "java/lang/String" "java/lang/String" "coder" "B").before a0 Z = true := G.1 _ (List.mem_of_getElem? (i := 31) rfl)
theorem w32 {a0 : Array Value} {Z : State} (G : Gl a0 Z) : (Jvm.Cond.fieldLink "java/lang/String" (9 : Nat) "java/lang/String" "value" "[B").before a0 Z = true := G.1 _ (List.mem_of_getElem? (i := 32) rfl)
theorem w33 {a0 : Array Value} {Z : State} (G : Gl a0 Z) : (Jvm.Cond.laysFinal "java/lang/String" "java/lang/String" "value" "[B").before a0 Z = true := G.1 _ (List.mem_of_getElem? (i := 33) rfl)
theorem w34 {a0 : Array Value} {Z : State} (G : Gl a0 Z) : (Jvm.Cond.stringLink "java/lang/String" (7 : Nat) "").before a0 Z = true := G.1 _ (List.mem_of_getElem? (i := 34) rfl)
theorem w35 {a0 : Array Value} {Z : State} (G : Gl a0 Z) : (Jvm.Cond.soleField "java/lang/String" "value").before a0 Z = true := G.1 _ (List.mem_of_getElem? (i := 35) rfl)
theorem w36 {a0 : Array Value} {Z : State} (G : Gl a0 Z) : (Jvm.Cond.soleField "java/lang/String" "coder").before a0 Z = true := G.1 _ (List.mem_of_getElem? (i := 36) rfl)
theorem d2_0 : D1 jdk_42_method_3_code 0 (.aload_n 0) 1 1 := ⟨by decide +kernel, rfl⟩
theorem d2_1 : D1 jdk_42_method_3_code 1 (.aload_n 1) 1 2 := ⟨by decide +kernel, rfl⟩
theorem d2_2 : D1 jdk_42_method_3_code 2 (.iconst 0) 1 3 := ⟨by decide +kernel, rfl⟩
theorem d2_3 : D1 jdk_42_method_3_code 3 (.aload_n 1) 1 4 := ⟨by decide +kernel, rfl⟩
theorem d2_4 : D1 jdk_42_method_3_code 4 (.arraylength) 1 5 := ⟨by decide +kernel, rfl⟩
theorem d2_5 : D1 jdk_42_method_3_code 5 (.aconst_null) 1 6 := ⟨by decide +kernel, rfl⟩
theorem d2_6 : D1 jdk_42_method_3_code 6 (.invokespecial 27) 3 9 := ⟨by decide +kernel, rfl⟩
theorem d2_9 : D1 jdk_42_method_3_code 9 (.return_) 1 10 := ⟨by decide +kernel, rfl⟩
theorem d3_0 : D1 jdk_42_method_149_code 0 (.aload_n 0) 1 1 := ⟨by decide +kernel, rfl⟩
theorem d3_1 : D1 jdk_42_method_149_code 1 (.invokespecial 1) 3 4 := ⟨by decide +kernel, rfl⟩
theorem d3_4 : D1 jdk_42_method_149_code 4 (.iload_n 3) 1 5 := ⟨by decide +kernel, rfl⟩
theorem d3_5 : D1 jdk_42_method_149_code 5 (.ifCond .ne 22) 3 8 := ⟨by decide +kernel, rfl⟩
theorem d3_8 : D1 jdk_42_method_149_code 8 (.aload_n 0) 1 9 := ⟨by decide +kernel, rfl⟩
theorem d3_9 : D1 jdk_42_method_149_code 9 (.ldc 7) 2 11 := ⟨by decide +kernel, rfl⟩
theorem d3_11 : D1 jdk_42_method_149_code 11 (.getfield 9) 3 14 := ⟨by decide +kernel, rfl⟩
theorem d3_14 : D1 jdk_42_method_149_code 14 (.putfield 9) 3 17 := ⟨by decide +kernel, rfl⟩
theorem d3_17 : D1 jdk_42_method_149_code 17 (.aload_n 0) 1 18 := ⟨by decide +kernel, rfl⟩
theorem d3_18 : D1 jdk_42_method_149_code 18 (.ldc 7) 2 20 := ⟨by decide +kernel, rfl⟩
theorem d3_20 : D1 jdk_42_method_149_code 20 (.getfield 15) 3 23 := ⟨by decide +kernel, rfl⟩
theorem d3_23 : D1 jdk_42_method_149_code 23 (.putfield 15) 3 26 := ⟨by decide +kernel, rfl⟩
theorem d3_26 : D1 jdk_42_method_149_code 26 (.return_) 1 27 := ⟨by decide +kernel, rfl⟩
theorem d3_27 : D1 jdk_42_method_149_code 27 (.getstatic 38) 3 30 := ⟨by decide +kernel, rfl⟩
theorem d3_30 : D1 jdk_42_method_149_code 30 (.ifCond .eq 28) 3 33 := ⟨by decide +kernel, rfl⟩
theorem d3_33 : D1 jdk_42_method_149_code 33 (.aload_n 1) 1 34 := ⟨by decide +kernel, rfl⟩
theorem d3_34 : D1 jdk_42_method_149_code 34 (.iload_n 2) 1 35 := ⟨by decide +kernel, rfl⟩
theorem d3_35 : D1 jdk_42_method_149_code 35 (.iload_n 3) 1 36 := ⟨by decide +kernel, rfl⟩
theorem d3_36 : D1 jdk_42_method_149_code 36 (.invokestatic 177) 3 39 := ⟨by decide +kernel, rfl⟩
theorem d3_39 : D1 jdk_42_method_149_code 39 (.astore 5) 2 41 := ⟨by decide +kernel, rfl⟩
theorem d3_41 : D1 jdk_42_method_149_code 41 (.aload_n 0) 1 42 := ⟨by decide +kernel, rfl⟩
theorem d3_42 : D1 jdk_42_method_149_code 42 (.aload 5) 2 44 := ⟨by decide +kernel, rfl⟩
theorem d3_44 : D1 jdk_42_method_149_code 44 (.iload_n 3) 1 45 := ⟨by decide +kernel, rfl⟩
theorem d3_45 : D1 jdk_42_method_149_code 45 (.invokestatic 47) 3 48 := ⟨by decide +kernel, rfl⟩
theorem d3_48 : D1 jdk_42_method_149_code 48 (.putfield 15) 3 51 := ⟨by decide +kernel, rfl⟩
theorem d3_51 : D1 jdk_42_method_149_code 51 (.aload_n 0) 1 52 := ⟨by decide +kernel, rfl⟩
theorem d3_52 : D1 jdk_42_method_149_code 52 (.aload 5) 2 54 := ⟨by decide +kernel, rfl⟩
theorem d3_54 : D1 jdk_42_method_149_code 54 (.putfield 9) 3 57 := ⟨by decide +kernel, rfl⟩
theorem d3_57 : D1 jdk_42_method_149_code 57 (.return_) 1 58 := ⟨by decide +kernel, rfl⟩
theorem d5_0 : D1 jdk_52_method_16_code 0 (.iload_n 2) 1 1 := ⟨by decide +kernel, rfl⟩
theorem d5_1 : D1 jdk_52_method_16_code 1 (.newarray .byte) 2 3 := ⟨by decide +kernel, rfl⟩
theorem d5_3 : D1 jdk_52_method_16_code 3 (.astore_n 3) 1 4 := ⟨by decide +kernel, rfl⟩
theorem d5_4 : D1 jdk_52_method_16_code 4 (.aload_n 0) 1 5 := ⟨by decide +kernel, rfl⟩
theorem d5_5 : D1 jdk_52_method_16_code 5 (.iload_n 1) 1 6 := ⟨by decide +kernel, rfl⟩
theorem d5_6 : D1 jdk_52_method_16_code 6 (.aload_n 3) 1 7 := ⟨by decide +kernel, rfl⟩
theorem d5_7 : D1 jdk_52_method_16_code 7 (.iconst 0) 1 8 := ⟨by decide +kernel, rfl⟩
theorem d5_8 : D1 jdk_52_method_16_code 8 (.iload_n 2) 1 9 := ⟨by decide +kernel, rfl⟩
theorem d5_9 : D1 jdk_52_method_16_code 9 (.invokestatic 115) 3 12 := ⟨by decide +kernel, rfl⟩
theorem d5_12 : D1 jdk_52_method_16_code 12 (.istore 4) 2 14 := ⟨by decide +kernel, rfl⟩
theorem d5_14 : D1 jdk_52_method_16_code 14 (.iload 4) 2 16 := ⟨by decide +kernel, rfl⟩
theorem d5_16 : D1 jdk_52_method_16_code 16 (.iload_n 2) 1 17 := ⟨by decide +kernel, rfl⟩
theorem d5_17 : D1 jdk_52_method_16_code 17 (.if_icmp .eq 40) 3 20 := ⟨by decide +kernel, rfl⟩
theorem d5_57 : D1 jdk_52_method_16_code 57 (.aload_n 3) 1 58 := ⟨by decide +kernel, rfl⟩
theorem d5_58 : D1 jdk_52_method_16_code 58 (.areturn) 1 59 := ⟨by decide +kernel, rfl⟩
theorem d6_0 : D1 jdk_52_method_21_code 0 (.iconst 0) 1 1 := ⟨by decide +kernel, rfl⟩
theorem d6_1 : D1 jdk_52_method_21_code 1 (.istore 5) 2 3 := ⟨by decide +kernel, rfl⟩
theorem d6_3 : D1 jdk_52_method_21_code 3 (.iload 5) 2 5 := ⟨by decide +kernel, rfl⟩
theorem d6_5 : D1 jdk_52_method_21_code 5 (.iload 4) 2 7 := ⟨by decide +kernel, rfl⟩
theorem d6_7 : D1 jdk_52_method_21_code 7 (.if_icmp .ge 37) 3 10 := ⟨by decide +kernel, rfl⟩
theorem d6_10 : D1 jdk_52_method_21_code 10 (.aload_n 0) 1 11 := ⟨by decide +kernel, rfl⟩
theorem d6_11 : D1 jdk_52_method_21_code 11 (.iload_n 1) 1 12 := ⟨by decide +kernel, rfl⟩
theorem d6_12 : D1 jdk_52_method_21_code 12 (.caload) 1 13 := ⟨by decide +kernel, rfl⟩
theorem d6_13 : D1 jdk_52_method_21_code 13 (.istore 6) 2 15 := ⟨by decide +kernel, rfl⟩
theorem d6_15 : D1 jdk_52_method_21_code 15 (.iload 6) 2 17 := ⟨by decide +kernel, rfl⟩
theorem d6_17 : D1 jdk_52_method_21_code 17 (.sipush 255) 3 20 := ⟨by decide +kernel, rfl⟩
theorem d6_20 : D1 jdk_52_method_21_code 20 (.if_icmp .le 6) 3 23 := ⟨by decide +kernel, rfl⟩
theorem d6_26 : D1 jdk_52_method_21_code 26 (.aload_n 2) 1 27 := ⟨by decide +kernel, rfl⟩
theorem d6_27 : D1 jdk_52_method_21_code 27 (.iload_n 3) 1 28 := ⟨by decide +kernel, rfl⟩
theorem d6_28 : D1 jdk_52_method_21_code 28 (.iload 6) 2 30 := ⟨by decide +kernel, rfl⟩
theorem d6_30 : D1 jdk_52_method_21_code 30 (.i2b) 1 31 := ⟨by decide +kernel, rfl⟩
theorem d6_31 : D1 jdk_52_method_21_code 31 (.bastore) 1 32 := ⟨by decide +kernel, rfl⟩
theorem d6_32 : D1 jdk_52_method_21_code 32 (.iinc 1 1) 3 35 := ⟨by decide +kernel, rfl⟩
theorem d6_35 : D1 jdk_52_method_21_code 35 (.iinc 3 1) 3 38 := ⟨by decide +kernel, rfl⟩
theorem d6_38 : D1 jdk_52_method_21_code 38 (.iinc 5 1) 3 41 := ⟨by decide +kernel, rfl⟩
theorem d6_41 : D1 jdk_52_method_21_code 41 (.goto (-38)) 3 44 := ⟨by decide +kernel, rfl⟩
theorem d6_44 : D1 jdk_52_method_21_code 44 (.iload 4) 2 46 := ⟨by decide +kernel, rfl⟩
theorem d6_46 : D1 jdk_52_method_21_code 46 (.ireturn) 1 47 := ⟨by decide +kernel, rfl⟩
theorem d7_0 : D1 jdk_52_method_15_code 0 (.iload_n 1) 1 1 := ⟨by decide +kernel, rfl⟩
theorem d7_1 : D1 jdk_52_method_15_code 1 (.aload_n 0) 1 2 := ⟨by decide +kernel, rfl⟩
theorem d7_2 : D1 jdk_52_method_15_code 2 (.arraylength) 1 3 := ⟨by decide +kernel, rfl⟩
theorem d7_3 : D1 jdk_52_method_15_code 3 (.isub) 1 4 := ⟨by decide +kernel, rfl⟩
theorem d7_4 : D1 jdk_52_method_15_code 4 (.bipush 31) 2 6 := ⟨by decide +kernel, rfl⟩
theorem d7_6 : D1 jdk_52_method_15_code 6 (.iushr) 1 7 := ⟨by decide +kernel, rfl⟩
theorem d7_7 : D1 jdk_52_method_15_code 7 (.i2b) 1 8 := ⟨by decide +kernel, rfl⟩
theorem d7_8 : D1 jdk_52_method_15_code 8 (.ireturn) 1 9 := ⟨by decide +kernel, rfl⟩
def ns0 : List Nm := [("java/lang/String", "coder", "B"), ("java/lang/String", "value", "[B")]
theorem lay0 {a0 : Array Value} {Z : State} (G : Gl a0 Z) : LayC Z a0 "java/lang/String" ns0 := LayC.of (fun q hq => by
  simp only [ns0, List.mem_cons, List.not_mem_nil, or_false] at hq
  rcases hq with rfl | rfl
  · exact Or.inr (G.1 _ (List.mem_of_getElem? (i := 31) rfl))
  · exact Or.inr (G.1 _ (List.mem_of_getElem? (i := 33) rfl))) (by decide +kernel) (fun q hq => by
  simp only [ns0, List.mem_cons, List.not_mem_nil, or_false] at hq
  rcases hq with rfl | rfl
  · exact ⟨.byte, by decide +kernel⟩
  · exact ⟨(.array .byte), by decide +kernel⟩)
theorem df0 : dfl ns0 = ([.int 0, .null] : List Value).map some := by decide +kernel
theorem pd0 : parseMethodDescriptor "([CI[BII)I" = some ⟨[(.array .char), .int, (.array .byte), .int, .int], some .int⟩ := by decide +kernel
theorem pd1 : parseMethodDescriptor "([CII)[B" = some ⟨[(.array .char), .int, .int], some (.array .byte)⟩ := by decide +kernel
theorem pd2 : parseMethodDescriptor "([BI)B" = some ⟨[(.array .byte), .int], some .byte⟩ := by decide +kernel
theorem pd3 : parseMethodDescriptor "([CIILjava/lang/Void;)V" = some ⟨[(.array .char), .int, .int, (.object "java/lang/Void")], none⟩ := by decide +kernel
theorem pf0 : parseFieldDescriptor "[B" = some (.array .byte) := by decide +kernel
theorem pf1 : parseFieldDescriptor "B" = some .byte := by decide +kernel

/-- the bytes and the chars of a text whose signs are below 256 -/
def bsOf (cl : List Nat) : List Value := cl.map fun c => .int (Int32.ofNat c).toInt8.toInt32
def csOf (cl : List Nat) : List Value := cl.map fun c => .int (Int32.ofNat c)
/-- the class number of a text's byte array is byte[]'s (where the text isn't empty) -/
def FcB (Z : State) (cl : List Nat) (K : ClassId) : Prop := cl = [] ∨ Z.vm.findClass "[B" = some K
/-- the String at a is known: its bytes are the array b's and spell cl; its coder is 0 -/
def Sx (Z : State) (L : List Ent) (a b : Addr) (cl : List Nat) : Prop := (∃ K f, (b, Ar Z .byte K (bsOf cl), f) ∈ L) ∧ ∀ h, Hp Z h L → Exa Z h a "java/lang/String" ∧ Fld Z h a "java/lang/String" "value" "[B" (.ref b) ∧ Fld Z h a "java/lang/String" "coder" "B" (.int 0)
theorem bs_len (cl : List Nat) : (bsOf cl).length = cl.length := by simp [bsOf]
theorem bs_at {cl : List Nat} {i c : Nat} (q : cl[i]? = some c) : (bsOf cl)[i]? = some (.int (Int32.ofNat c).toInt8.toInt32) := by simp [bsOf, q]
theorem upd_mid {α : Type} (A B : List α) (x y : α) : updL (A ++ x :: B) A.length y = A ++ y :: B := by
  induction A with
  | nil => rfl
  | cons z r ih => simp [updL, ih]
theorem rep_at {α : Type} {x : α} {M i : Nat} (h : i < M) : (List.replicate M x)[i]? = some x := by simp [h]
theorem len_small {L : List Ent} {Z : State} {h : Heap} {b : Addr} {ty : FieldType} {K : ClassId} {vs : List Value} {f : Bool} (H : Hp Z h L) (q : (b, Ar Z ty K vs, f) ∈ L) : vs.length < 2 ^ 31 := by
  obtain ⟨cl, -, -, -, r, -⟩ := H.arrM q; exact r

theorem sAtoms {a0 : Array Value} {Z : State} (G : Gl a0 Z) : ∀ d ∈ Bundle.stringAtoms, d.before a0 Z = true := by
  intro d hd
  simp only [Bundle.stringAtoms, Bundle.sN, List.mem_cons, List.not_mem_nil, or_false] at hd
  rcases hd with rfl | rfl | rfl | rfl | rfl | rfl | rfl
  · exact (w6 G)
  · exact (w5 G)
  · exact (w23 G)
  · exact (w33 G)
  · exact (w31 G)
  · exact (w35 G)
  · exact (w36 G)
set_option maxRecDepth 65536 in
set_option maxHeartbeats 4000000 in
theorem s_cmp_loop {p : Program} {l : Launch} {e : Env} {R : Room} {Z s : State} {m : MethodId} {args : Array Value} {below : List Frame} {meth : Method} {c : Code} {L : List Ent} {ca b : Addr} {K Kc : ClassId} {cs : List Value} {f : Bool} {o N : Nat} (hc : (ca, Ar Z .char Kc cs, f) ∈ L)
    (X : Cx WD EL0 p Z s m meth c "java/lang/StringUTF16" "compress" jdk_52_method_21_code 7 (some .int)) : ∀ (suf pre : List Nat) (u : Slot), (u = .unset ∨ ∃ w, u = .val (.int w)) → pre.length + suf.length = N → (∀ c ∈ suf, c < 256) → (∀ (i c : Nat), suf[i]? = some c → cs[o + pre.length + i]? = some (Value.int (Int32.ofNat c))) → o + N < 2 ^ 31 →
    Go WD EL0 p l e R Z s m args below meth c (rvQ fun v M => v = .int (Int32.ofNat N) ∧ M = ow b (Ar Z .byte K (bsOf (pre ++ suf))) :: L) (ow b (Ar Z .byte K (bsOf pre ++ List.replicate suf.length (.int 0))) :: L) 0 0 (mkF m 3 #[.val (.ref ca), .val (.int (Int32.ofNat (o + pre.length))), .val (.ref b), .val (.int (Int32.ofNat pre.length)), .val (.int (Int32.ofNat N)), .val (.int (Int32.ofNat pre.length)), u] []) := by
  intro suf
  induction suf with
  | nil =>
    intro pre u hu hN hlt hcs ho
    have hN : pre.length = N := by simpa using hN
    refine Go.iload X d6_3 rfl ?_
    refine Go.iload X d6_5 rfl ?_
    refine Go.icmp X d6_7 (pt := 44) ⟨by decide, by decide⟩ ?_ ?_
    · intro _
      refine Go.iload X d6_44 rfl ?_
      exact Go.iret X d6_46 (Nat.zero_le _) (Nat.zero_le _) ⟨rfl, by simp⟩
    intro q
    exact absurd (show Int32.ofNat N ≤ Int32.ofNat pre.length by rw [hN]; exact Int32.le_refl _) q
  | cons x suf ih =>
    intro pre u hu hN hlt hcs ho
    have hN' : pre.length + 1 + suf.length = N := by simp at hN; omega
    have hx := hlt x List.mem_cons_self
    have hst : ∀ w, storeLocals #[.val (.ref ca), .val (.int (Int32.ofNat (o + pre.length))), .val (.ref b), .val (.int (Int32.ofNat pre.length)), .val (.int (Int32.ofNat N)), .val (.int (Int32.ofNat pre.length)), u] 6 (.int w) = some #[.val (.ref ca), .val (.int (Int32.ofNat (o + pre.length))), .val (.ref b), .val (.int (Int32.ofNat pre.length)), .val (.int (Int32.ofNat N)), .val (.int (Int32.ofNat pre.length)), .val (.int w)] := by intro w; rcases hu with rfl | ⟨w', rfl⟩ <;> rfl
    obtain ⟨n1, n2, n3⟩ := nat32 (i := pre.length) (by omega)
    obtain ⟨m1, m2, m3⟩ := nat32 (i := o + pre.length) (by omega)
    obtain ⟨k1, k2, k3⟩ := nat32 (i := N) (by omega)
    obtain ⟨x1, x2, x3⟩ := nat32 (i := x) (by omega)
    refine Go.iload X d6_3 rfl ?_
    refine Go.iload X d6_5 rfl ?_
    refine Go.icmp X d6_7 (pt := 44) ⟨by decide, by decide⟩ ?_ ?_
    · intro q
      have q : (N : Int) ≤ pre.length := ccL q n1 k1
      omega
    intro _
    refine Go.aloadN X d6_10 rfl rfl ?_
    refine Go.iloadN X d6_11 rfl ?_
    refine Go.cald X m2 (x := Int32.ofNat x) (fun h H => H.elM (List.mem_cons_of_mem _ hc) (by rw [m3]; simpa using hcs 0 x rfl)) d6_12 ?_
    refine Go.istore X d6_13 (hst _) ?_
    refine Go.iload X d6_15 rfl ?_
    refine Go.sipush X (v := 255) d6_17 (by decide) ?_
    refine Go.icmp X d6_20 (pt := 26) ⟨by decide, by decide⟩ ?_ ?_
    rotate_left
    · intro q
      have q : ¬ (x : Int) ≤ 255 := ccN (b := 255) q x1 rfl
      omega
    intro _
    refine Go.aloadN X d6_26 rfl rfl ?_
    refine Go.iloadN X d6_27 rfl ?_
    refine Go.iload X d6_28 rfl ?_
    refine Go.i2b X d6_30 ?_
    refine Go.bast X (i := 0) rfl n2 (by rw [n3]; simp [bsOf]) (y := (Int32.ofNat x).toInt8.toInt32) (by simp) d6_31 ?_
    have e1 : updL (bsOf pre ++ List.replicate (x :: suf).length (.int 0)) (Int32.ofNat pre.length).toNatClampNeg (.int (Int32.ofNat x).toInt8.toInt32) = bsOf (pre ++ [x]) ++ List.replicate suf.length (.int 0) := by
      rw [n3]
      have := upd_mid (bsOf pre) (List.replicate suf.length (Value.int 0)) (.int 0) (.int (Int32.ofNat x).toInt8.toInt32)
      rw [bs_len] at this
      rw [show (x :: suf).length = suf.length + 1 from rfl, List.replicate_succ, this]
      simp [bsOf]
    rw [upd_zero, e1]
    refine Go.iinc X d6_32 rfl rfl ?_
    refine Go.iinc X d6_35 rfl rfl ?_
    refine Go.iinc X d6_38 rfl rfl ?_
    refine Go.goto X d6_41 (pt := 3) ⟨by decide, by decide⟩ ?_
    have a1 : Int32.ofNat (o + pre.length) + Int32.ofInt 1 = Int32.ofNat (o + (pre ++ [x]).length) := by
      rw [show o + (pre ++ [x]).length = o + pre.length + 1 by simp; omega]; exact (inc_ofNat _).symm
    have a2 : Int32.ofNat pre.length + Int32.ofInt 1 = Int32.ofNat (pre ++ [x]).length := by
      rw [show (pre ++ [x]).length = pre.length + 1 by simp]; exact (inc_ofNat _).symm
    rw [a1, a2]
    have r := ih (pre ++ [x]) (.val (.int (Int32.ofNat x))) (Or.inr ⟨_, rfl⟩) (by simp; omega) (fun c hc => hlt c (List.mem_cons_of_mem _ hc)) (fun i c hi => by
      have := hcs (i + 1) c (by simpa using hi)
      rw [show o + (pre ++ [x]).length + i = o + pre.length + (i + 1) by simp; omega]; exact this) ho
    simpa using r
set_option maxRecDepth 65536 in
set_option maxHeartbeats 4000000 in
theorem s_cmp5 (l : Launch) {Z : State} {a0 : Array Value} (G : Gl a0 Z) {L : List Ent} {ca b : Addr} {K Kc : ClassId} {cs : List Value} {f : Bool} {o : Nat} {cl : List Nat} (hc : (ca, Ar Z .char Kc cs, f) ∈ L) (hlt : ∀ c ∈ cl, c < 256) (hcs : ∀ (i c : Nat), cl[i]? = some c → cs[o + i]? = some (Value.int (Int32.ofNat c))) (ho : o + cl.length < 2 ^ 31) : Ct WD EL0 l Z (⟨"java/lang/StringUTF16", "compress", "([CI[BII)I"⟩ : MethodName) jdk_52_method_21_code 7 (some .int) ({ frames := 0, cells := 0, slots := 0, locals := 0 } : Room) #[.ref ca, .int (Int32.ofNat o), .ref b, .int 0, .int (Int32.ofNat cl.length)] (ow b (Ar Z .byte K (List.replicate cl.length (.int 0))) :: L) (rvQ (fun v M => v = .int (Int32.ofNat cl.length) ∧ M = ow b (Ar Z .byte K (bsOf cl)) :: L)) := by
  refine Ct.intro (by decide +kernel) G.2.1 ?_
  intro p e s m below meth c X
  replace X : Cx WD EL0 p Z s m meth c "java/lang/StringUTF16" "compress" jdk_52_method_21_code 7 (some .int) := X
  refine Go.cast (g' := mkF m 0 #[.val (.ref ca), .val (.int (Int32.ofNat o)), .val (.ref b), .val (.int 0), .val (.int (Int32.ofNat cl.length)), .unset, .unset] []) (by first | rfl | (simp [entryFrame, mkF, argsToLocals, Value.category, maxLocals]; done)) ?_
  refine Go.iconst X (v := 0) d6_0 (by decide) ?_
  refine Go.istore X d6_1 rfl ?_
  have r := s_cmp_loop (p := p) (l := l) (e := e) (R := ({ frames := 0, cells := 0, slots := 0, locals := 0 } : Room)) (args := #[.ref ca, .int (Int32.ofNat o), .ref b, .int 0, .int (Int32.ofNat cl.length)]) (below := below) (b := b) (K := K) (o := o) (N := cl.length) hc X cl [] .unset (Or.inl rfl) (by simp) hlt (by simpa using hcs) ho
  exact r
set_option maxRecDepth 65536 in
set_option maxHeartbeats 4000000 in
theorem s_cmp3 (l : Launch) {Z : State} {a0 : Array Value} (G : Gl a0 Z) {L : List Ent} {ca : Addr} {Kc : ClassId} {cs : List Value} {f : Bool} {o cap : Nat} {cl : List Nat} (hc : (ca, Ar Z .char Kc cs, f) ∈ L) (hlt : ∀ c ∈ cl, c < 256) (hcs : ∀ (i c : Nat), cl[i]? = some c → cs[o + i]? = some (Value.int (Int32.ofNat c))) (ho : o + cl.length < 2 ^ 31) (hcap : cl.length ≤ cap) (hcap2 : cap ≤ 4096) : Ct WD EL0 l Z (⟨"java/lang/StringUTF16", "compress", "([CII)[B"⟩ : MethodName) jdk_52_method_16_code 6 (some (.array .byte)) ({ frames := 1, cells := 1, slots := cap, locals := 18 } : Room) #[.ref ca, .int (Int32.ofNat o), .int (Int32.ofNat cl.length)] L (rvQ (fun v M => ∃ b K, v = .ref b ∧ FcB Z cl K ∧ M = ow b (Ar Z .byte K (bsOf cl)) :: L)) := by
  refine Ct.intro (by decide +kernel) G.2.1 ?_
  intro p e s m below meth c X
  replace X : Cx WD EL0 p Z s m meth c "java/lang/StringUTF16" "compress" jdk_52_method_16_code 6 (some (.array .byte)) := X
  refine Go.cast (g' := mkF m 0 #[.val (.ref ca), .val (.int (Int32.ofNat o)), .val (.int (Int32.ofNat cl.length)), .unset, .unset, .unset] []) (by first | rfl | (simp [entryFrame, mkF, argsToLocals, Value.category, maxLocals]; done)) ?_
  refine Go.iloadN X d5_0 rfl ?_
  obtain ⟨n1, n2, n3⟩ := nat32 (i := cl.length) (by omega)
  refine Go.newarrF X (aty := .byte) (N := cl.length) (cap := cap) (w23 G) n2 n3 hcap (by omega) d5_1 (by first | exact Nat.le_of_ble_eq_true rfl | (simp; done) | (simp; omega)) (by first | exact Nat.le_of_ble_eq_true rfl | (simp; done) | (simp; omega)) ?_
  intro b K hK
  refine Go.astoreN X d5_3 rfl rfl ?_
  refine Go.aloadN X d5_4 rfl rfl ?_
  refine Go.iloadN X d5_5 rfl ?_
  refine Go.aloadN X d5_6 rfl rfl ?_
  refine Go.iconst X (v := 0) d5_7 (by decide) ?_
  refine Go.iloadN X d5_8 rfl ?_
  refine Go.callS X (s_cmp5 l G (L := L) (b := b) (K := K) (o := o) (cl := cl) hc hlt hcs ho) (rest := []) (w24 G) (w25 G) (w21 G) (w26 G) (by decide) pd0 rfl rfl d5_9 rfl (Nat.le_of_ble_eq_true rfl) (Nat.le_of_ble_eq_true rfl) (by first | exact Nat.le_of_ble_eq_true rfl | (simp; done) | (simp; omega)) (by first | exact Nat.le_of_ble_eq_true rfl | (simp; done) | (simp; omega)) (Kv ?_)
  rintro v M ⟨rfl, rfl⟩
  refine Go.istore X d5_12 rfl ?_
  refine Go.iload X d5_14 rfl ?_
  refine Go.iloadN X d5_16 rfl ?_
  refine Go.icmp X d5_17 (pt := 57) ⟨by decide, by decide⟩ ?_ ?_
  · intro _
    refine Go.aloadN X d5_57 rfl rfl ?_
    exact Go.aret X d5_58 (by rfl) (by rfl) (by rfl) (by first | exact Nat.le_of_ble_eq_true rfl | (simp; done) | (simp; omega)) (by first | exact Nat.le_of_ble_eq_true rfl | (simp; done) | (simp; omega)) ⟨b, K, rfl, Or.inr hK, rfl⟩
  intro q
  exact absurd rfl q
set_option maxRecDepth 65536 in
set_option maxHeartbeats 4000000 in
theorem s_coderlen (l : Launch) {Z : State} {a0 : Array Value} (G : Gl a0 Z) {L : List Ent} {b : Addr} {K : ClassId} {vs : List Value} {f : Bool} (hb' : (b, Ar Z .byte K vs, f) ∈ L) : Ct WD EL0 l Z (⟨"java/lang/StringUTF16", "coderFromArrayLen", "([BI)B"⟩ : MethodName) jdk_52_method_15_code 2 (some .byte) ({ frames := 0, cells := 0, slots := 0, locals := 0 } : Room) #[.ref b, .int (Int32.ofNat vs.length)] L (rvQ (fun v M => v = .int 0 ∧ M = L)) := by
  refine Ct.intro (by decide +kernel) G.2.1 ?_
  intro p e s m below meth c X
  replace X : Cx WD EL0 p Z s m meth c "java/lang/StringUTF16" "coderFromArrayLen" jdk_52_method_15_code 2 (some .byte) := X
  refine Go.cast (g' := mkF m 0 #[.val (.ref b), .val (.int (Int32.ofNat vs.length))] []) (by first | rfl | (simp [entryFrame, mkF, argsToLocals, Value.category, maxLocals]; done)) ?_
  refine Go.iloadN X d7_0 rfl ?_
  refine Go.aloadN X d7_1 rfl rfl ?_
  refine Go.alenA X (fun h H => H.lenM hb') d7_2 ?_
  refine Go.isub X d7_3 ?_
  refine Go.bipush X (v := 31) d7_4 (by decide) ?_
  refine Go.iushr X d7_6 ?_
  refine Go.i2b X d7_7 ?_
  refine Go.bret X d7_8 ?_ (Nat.zero_le _) (Nat.zero_le _) ⟨?_, rfl⟩
  · rw [show Int32.ofNat vs.length - vs.length.toInt32 = 0 from Int32.sub_self _]; decide
  · rw [show Int32.ofNat vs.length - vs.length.toInt32 = 0 from Int32.sub_self _]; congr 1
set_option maxRecDepth 65536 in
set_option maxHeartbeats 4000000 in
theorem s_initV (l : Launch) {Z : State} {a0 : Array Value} (G : Gl a0 Z) {L : List Ent} {a ca : Addr} {Kc : ClassId} {cs : List Value} {f : Bool} {o cap : Nat} {cl : List Nat} (hc : (ca, Ar Z .char Kc cs, f) ∈ L) (hlt : ∀ c ∈ cl, c < 256) (hcs : ∀ (i c : Nat), cl[i]? = some c → cs[o + i]? = some (Value.int (Int32.ofNat c))) (ho : o + cl.length < 2 ^ 31) (hcap : cl.length ≤ cap) (hcap2 : cap ≤ 4096) : Ct WD EL0 l Z (⟨"java/lang/String", "<init>", "([CIILjava/lang/Void;)V"⟩ : MethodName) jdk_42_method_149_code 6 none ({ frames := 2, cells := 4, slots := cap + 8, locals := 35 } : Room) #[.ref a, .ref ca, .int (Int32.ofNat o), .int (Int32.ofNat cl.length), .null] (ow a (Ob Z "java/lang/String" ns0 [.int 0, .null]) :: L) (r0Q (fun M => ∃ b K f, FcB Z cl K ∧ M = (b, Ar Z .byte K (bsOf cl), f) :: ow a (Ob Z "java/lang/String" ns0 [.int 0, .ref b]) :: L)) := by
  refine Ct.intro (by decide +kernel) G.2.1 ?_
  intro p e s m below meth c X
  replace X : Cx WD EL0 p Z s m meth c "java/lang/String" "<init>" jdk_42_method_149_code 6 none := X
  refine Go.cast (g' := mkF m 0 #[.val (.ref a), .val (.ref ca), .val (.int (Int32.ofNat o)), .val (.int (Int32.ofNat cl.length)), .val .null, .unset] []) (by first | rfl | (simp [entryFrame, mkF, argsToLocals, Value.category, maxLocals]; done)) ?_
  refine Go.aloadN X d3_0 rfl rfl ?_
  refine Go.initObj X (w15 G) (w16 G) (w17 G) d3_1 rfl (Nat.le_of_ble_eq_true rfl) (Nat.le_of_ble_eq_true rfl) ?_
  refine Go.iloadN X d3_4 rfl ?_
  obtain ⟨n1, n2, n3⟩ := nat32 (i := cl.length) (by omega)
  refine Go.ifc X d3_5 (pt := 27) ⟨by decide, by decide⟩ ?_ ?_
  rotate_left
  · intro q
    have q : cl.length = 0 := by have := Decidable.of_not_not (ccN (a := cl.length) (b := 0) q n1 rfl); omega
    obtain rfl : cl = [] := List.eq_nil_of_length_eq_zero q
    refine Go.aloadN X d3_8 rfl rfl ?_
    refine Go.ldcS X (text := "") (vs := []) (z := 0) (N := 0) (w34 G) (sAtoms G) (by decide) ⟨by decide, by decide⟩ (by decide) (by decide) d3_9 (by decide) (by decide) (by first | exact Nat.le_of_ble_eq_true rfl | (simp; done) | (simp; omega)) (by first | exact Nat.le_of_ble_eq_true rfl | (simp; done) | (simp; omega)) ?_
    intro a1 b1 K1
    refine Go.getFld X (w32 G) Via.refl (fun h H => (H.ltC (i := 0) rfl).2.2) d3_11 ?_
    refine Go.putFld X (i := 2) rfl (j := 1) rfl (lay0 G) (w32 G) Via.refl (Or.inr ⟨(w33 G), rfl, rfl⟩) (w5 G) pf0 d3_14 (by rfl) (by rfl) ?_
    refine Go.aloadN X d3_17 rfl rfl ?_
    refine Go.ldcS X (text := "") (vs := []) (z := 0) (N := 0) (w34 G) (sAtoms G) (by decide) ⟨by decide, by decide⟩ (by decide) (by decide) d3_18 (by decide) (by decide) (by first | exact Nat.le_of_ble_eq_true rfl | (simp; done) | (simp; omega)) (by first | exact Nat.le_of_ble_eq_true rfl | (simp; done) | (simp; omega)) ?_
    intro a2 b2 K2
    refine Go.getFld X (w30 G) Via.refl (fun h H => (H.ltC (i := 0) rfl).2.1) d3_20 ?_
    refine Go.putFld X (i := 4) rfl (j := 0) rfl (lay0 G) (w30 G) Via.refl (Or.inr ⟨(w31 G), rfl, rfl⟩) (w5 G) pf1 d3_23 (by rfl) (by rfl) ?_
    refine Go.drop (Go.drop (Go.drop ?_))
    exact Go.ret0 X d3_26 (by first | exact Nat.le_of_ble_eq_true rfl | (simp; done) | (simp; omega)) (by first | exact Nat.le_of_ble_eq_true rfl | (simp; done) | (simp; omega)) ⟨b1, K1, false, Or.inl rfl, rfl⟩
  intro q
  have q : cl.length ≠ 0 := by have := ccL (a := cl.length) (b := 0) q n1 rfl; intro z; exact this (by rw [z]; rfl)
  obtain ⟨cst, hcst, Fcst⟩ := g_cs G
  refine Go.getSta X (w18 G) Via.refl Fcst d3_27 ?_
  refine Go.ifc X d3_30 (pt := 58) ⟨by decide, by decide⟩ ?_ ?_
  · intro q; exact absurd q hcst
  intro _
  refine Go.aloadN X d3_33 rfl rfl ?_
  refine Go.iloadN X d3_34 rfl ?_
  refine Go.iloadN X d3_35 rfl ?_
  refine Go.callS X (s_cmp3 l G (o := o) (cap := cap) (cl := cl) (List.mem_cons_of_mem _ hc) hlt hcs ho hcap hcap2) (rest := []) (w19 G) (w20 G) (w21 G) (w22 G) (by decide) pd1 rfl rfl d3_36 rfl (Nat.le_of_ble_eq_true rfl) (Nat.le_of_ble_eq_true rfl) (by first | exact Nat.le_of_ble_eq_true rfl | (simp; done) | (simp; omega)) (by first | exact Nat.le_of_ble_eq_true rfl | (simp; done) | (simp; omega)) (Kv ?_)
  rintro v M ⟨b, K, rfl, hK, rfl⟩
  refine Go.astore X d3_39 rfl rfl ?_
  refine Go.aloadN X d3_41 rfl rfl ?_
  refine Go.aload X d3_42 rfl rfl ?_
  refine Go.iloadN X d3_44 rfl ?_
  refine Go.callS X ((bs_len cl) ▸ s_coderlen l G (L := ow b (Ar Z .byte K (bsOf cl)) :: ow a (Ob Z "java/lang/String" ns0 [.int 0, .null]) :: L) (vs := bsOf cl) (List.mem_cons_self)) (rest := [.ref a]) (w27 G) (w28 G) (w21 G) (w29 G) (by decide) pd2 rfl rfl d3_45 rfl (Nat.le_of_ble_eq_true rfl) (Nat.le_of_ble_eq_true rfl) (by first | exact Nat.le_of_ble_eq_true rfl | (simp; done) | (simp; omega)) (by first | exact Nat.le_of_ble_eq_true rfl | (simp; done) | (simp; omega)) (Kv ?_)
  rintro v M ⟨rfl, rfl⟩
  refine Go.putFld X (i := 1) rfl (j := 0) rfl (lay0 G) (w30 G) Via.refl (Or.inr ⟨(w31 G), rfl, rfl⟩) (w5 G) pf1 d3_48 (by rfl) (by rfl) ?_
  refine Go.aloadN X d3_51 rfl rfl ?_
  refine Go.aload X d3_52 rfl rfl ?_
  refine Go.putFld X (i := 1) rfl (j := 1) rfl (lay0 G) (w32 G) Via.refl (Or.inr ⟨(w33 G), rfl, rfl⟩) (w5 G) pf0 d3_54 (by rfl) (by rfl) ?_
  exact Go.ret0 X d3_57 (by first | exact Nat.le_of_ble_eq_true rfl | (simp; done) | (simp; omega)) (by first | exact Nat.le_of_ble_eq_true rfl | (simp; done) | (simp; omega)) ⟨b, K, true, hK, rfl⟩
set_option maxRecDepth 65536 in
set_option maxHeartbeats 4000000 in
theorem s_initC (l : Launch) {Z : State} {a0 : Array Value} (G : Gl a0 Z) {L : List Ent} {a ca : Addr} {Kc : ClassId} {f : Bool} {cap : Nat} {cl : List Nat} (hc : (ca, Ar Z .char Kc (csOf cl), f) ∈ L) (hlt : ∀ c ∈ cl, c < 256) (hcap : cl.length ≤ cap) (hcap2 : cap ≤ 4096) : Ct WD EL0 l Z (⟨"java/lang/String", "<init>", "([C)V"⟩ : MethodName) jdk_42_method_3_code 2 none ({ frames := 3, cells := 4, slots := cap + 8, locals := 53 } : Room) #[.ref a, .ref ca] (ow a (Ob Z "java/lang/String" ns0 [.int 0, .null]) :: L) (r0Q (fun M => ∃ b K f, FcB Z cl K ∧ M = (b, Ar Z .byte K (bsOf cl), f) :: ow a (Ob Z "java/lang/String" ns0 [.int 0, .ref b]) :: L)) := by
  refine Ct.intro (by decide +kernel) G.2.1 ?_
  intro p e s m below meth c X
  replace X : Cx WD EL0 p Z s m meth c "java/lang/String" "<init>" jdk_42_method_3_code 2 none := X
  refine Go.cast (g' := mkF m 0 #[.val (.ref a), .val (.ref ca)] []) (by first | rfl | (simp [entryFrame, mkF, argsToLocals, Value.category, maxLocals]; done)) ?_
  refine Go.aloadN X d2_0 rfl rfl ?_
  refine Go.aloadN X d2_1 rfl rfl ?_
  refine Go.iconst X (v := 0) d2_2 (by decide) ?_
  refine Go.aloadN X d2_3 rfl rfl ?_
  refine Go.alenA X (fun h H => H.lenM (List.mem_cons_of_mem _ hc)) d2_4 ?_
  rw [show (csOf cl).length.toInt32 = Int32.ofNat cl.length by simp [csOf]]
  refine Go.aconstNull X d2_5 ?_
  refine Go.fact (fun h H => len_small H (List.mem_cons_of_mem _ hc)) fun hM => ?_
  have hM : cl.length < 2 ^ 31 := by simpa [csOf] using hM
  refine Go.callI X (s_initV l G (o := 0) (cap := cap) (cl := cl) hc hlt (fun i c h => by simp [csOf, h]) (by omega) hcap hcap2) rfl (rest := []) (w11 G) (w12 G) (w6 G) (w14 G) (by decide) pd3 rfl rfl d2_6 rfl (by first | exact Nat.le_of_ble_eq_true rfl | (simp; done) | (simp; omega)) (by first | exact Nat.le_of_ble_eq_true rfl | (simp; done) | (simp; omega)) (by first | exact Nat.le_of_ble_eq_true rfl | (simp; done) | (simp; omega)) (by first | exact Nat.le_of_ble_eq_true rfl | (simp; done) | (simp; omega)) (K0 ?_)
  rintro M ⟨b, K, f, hK, rfl⟩
  exact Go.ret0 X d2_9 (by first | exact Nat.le_of_ble_eq_true rfl | (simp; done) | (simp; omega)) (by first | exact Nat.le_of_ble_eq_true rfl | (simp; done) | (simp; omega)) ⟨b, K, f, hK, rfl⟩
-- %%% strings 2
theorem w128 {a0 : Array Value} {Z : State} (G : Gl a0 Z) : (Jvm.Cond.classLink "java/lang/String" (10 : Nat) "java/lang/String").before a0 Z = true := G.1 _ (List.mem_of_getElem? (i := 128) rfl)
theorem w129 {a0 : Array Value} {Z : State} (G : Gl a0 Z) : (Jvm.Cond.methodLink "java/lang/String" (541 : Nat) ({ cls := "java/lang/StringLatin1", name := "equals", desc := "([B[B)Z" } : Jvm.MethodName)).before a0 Z = true := G.1 _ (List.mem_of_getElem? (i := 129) rfl)
theorem w130 {a0 : Array Value} {Z : State} (G : Gl a0 Z) : (Jvm.Cond.static ({ cls := "java/lang/StringLatin1", name := "equals", desc := "([B[B)Z" } : Jvm.MethodName)).before a0 Z = true := G.1 _ (List.mem_of_getElem? (i := 130) rfl)
theorem w131 {a0 : Array Value} {Z : State} (G : Gl a0 Z) : (Jvm.Cond.initialized "java/lang/StringLatin1").before a0 Z = true := G.1 _ (List.mem_of_getElem? (i := 131) rfl)
theorem w132 {a0 : Array Value} {Z : State} (G : Gl a0 Z) : (Jvm.Cond.code ({ cls := "java/lang/StringLatin1", name := "equals", desc := "([B[B)Z" } : Jvm.MethodName) jdk_43_method_13_code (3 : Nat) (Option.some Jvm.ClassFile.FieldType.boolean)).before a0 Z = true := G.1 _ (List.mem_of_getElem? (i := 132) rfl)
theorem d20_0 : D1 jdk_42_method_66_code 0 (.aload_n 0) 1 1 := ⟨by decide +kernel, rfl⟩
theorem d20_1 : D1 jdk_42_method_66_code 1 (.aload_n 1) 1 2 := ⟨by decide +kernel, rfl⟩
theorem d20_2 : D1 jdk_42_method_66_code 2 (.if_acmp .ne 5) 3 5 := ⟨by decide +kernel, rfl⟩
theorem d20_5 : D1 jdk_42_method_66_code 5 (.iconst 1) 1 6 := ⟨by decide +kernel, rfl⟩
theorem d20_6 : D1 jdk_42_method_66_code 6 (.ireturn) 1 7 := ⟨by decide +kernel, rfl⟩
theorem d20_7 : D1 jdk_42_method_66_code 7 (.aload_n 1) 1 8 := ⟨by decide +kernel, rfl⟩
theorem d20_8 : D1 jdk_42_method_66_code 8 (.instanceof 10) 3 11 := ⟨by decide +kernel, rfl⟩
theorem d20_11 : D1 jdk_42_method_66_code 11 (.ifCond .eq 43) 3 14 := ⟨by decide +kernel, rfl⟩
theorem d20_14 : D1 jdk_42_method_66_code 14 (.aload_n 1) 1 15 := ⟨by decide +kernel, rfl⟩
theorem d20_15 : D1 jdk_42_method_66_code 15 (.checkcast 10) 3 18 := ⟨by decide +kernel, rfl⟩
theorem d20_18 : D1 jdk_42_method_66_code 18 (.astore_n 2) 1 19 := ⟨by decide +kernel, rfl⟩
theorem d20_19 : D1 jdk_42_method_66_code 19 (.getstatic 38) 3 22 := ⟨by decide +kernel, rfl⟩
theorem d20_22 : D1 jdk_42_method_66_code 22 (.ifCond .eq 14) 3 25 := ⟨by decide +kernel, rfl⟩
theorem d20_25 : D1 jdk_42_method_66_code 25 (.aload_n 0) 1 26 := ⟨by decide +kernel, rfl⟩
theorem d20_26 : D1 jdk_42_method_66_code 26 (.getfield 15) 3 29 := ⟨by decide +kernel, rfl⟩
theorem d20_29 : D1 jdk_42_method_66_code 29 (.aload_n 2) 1 30 := ⟨by decide +kernel, rfl⟩
theorem d20_30 : D1 jdk_42_method_66_code 30 (.getfield 15) 3 33 := ⟨by decide +kernel, rfl⟩
theorem d20_33 : D1 jdk_42_method_66_code 33 (.if_icmp .ne 21) 3 36 := ⟨by decide +kernel, rfl⟩
theorem d20_36 : D1 jdk_42_method_66_code 36 (.aload_n 0) 1 37 := ⟨by decide +kernel, rfl⟩
theorem d20_37 : D1 jdk_42_method_66_code 37 (.getfield 9) 3 40 := ⟨by decide +kernel, rfl⟩
theorem d20_40 : D1 jdk_42_method_66_code 40 (.aload_n 2) 1 41 := ⟨by decide +kernel, rfl⟩
theorem d20_41 : D1 jdk_42_method_66_code 41 (.getfield 9) 3 44 := ⟨by decide +kernel, rfl⟩
theorem d20_44 : D1 jdk_42_method_66_code 44 (.invokestatic 541) 3 47 := ⟨by decide +kernel, rfl⟩
theorem d20_47 : D1 jdk_42_method_66_code 47 (.ifCond .eq 7) 3 50 := ⟨by decide +kernel, rfl⟩
theorem d20_50 : D1 jdk_42_method_66_code 50 (.iconst 1) 1 51 := ⟨by decide +kernel, rfl⟩
theorem d20_51 : D1 jdk_42_method_66_code 51 (.goto 4) 3 54 := ⟨by decide +kernel, rfl⟩
theorem d20_54 : D1 jdk_42_method_66_code 54 (.iconst 0) 1 55 := ⟨by decide +kernel, rfl⟩
theorem d20_55 : D1 jdk_42_method_66_code 55 (.ireturn) 1 56 := ⟨by decide +kernel, rfl⟩
theorem d21_0 : D1 jdk_43_method_13_code 0 (.aload_n 0) 1 1 := ⟨by decide +kernel, rfl⟩
theorem d21_1 : D1 jdk_43_method_13_code 1 (.arraylength) 1 2 := ⟨by decide +kernel, rfl⟩
theorem d21_2 : D1 jdk_43_method_13_code 2 (.aload_n 1) 1 3 := ⟨by decide +kernel, rfl⟩
theorem d21_3 : D1 jdk_43_method_13_code 3 (.arraylength) 1 4 := ⟨by decide +kernel, rfl⟩
theorem d21_4 : D1 jdk_43_method_13_code 4 (.if_icmp .ne 30) 3 7 := ⟨by decide +kernel, rfl⟩
theorem d21_7 : D1 jdk_43_method_13_code 7 (.iconst 0) 1 8 := ⟨by decide +kernel, rfl⟩
theorem d21_8 : D1 jdk_43_method_13_code 8 (.istore_n 2) 1 9 := ⟨by decide +kernel, rfl⟩
theorem d21_9 : D1 jdk_43_method_13_code 9 (.iload_n 2) 1 10 := ⟨by decide +kernel, rfl⟩
theorem d21_10 : D1 jdk_43_method_13_code 10 (.aload_n 0) 1 11 := ⟨by decide +kernel, rfl⟩
theorem d21_11 : D1 jdk_43_method_13_code 11 (.arraylength) 1 12 := ⟨by decide +kernel, rfl⟩
theorem d21_12 : D1 jdk_43_method_13_code 12 (.if_icmp .ge 20) 3 15 := ⟨by decide +kernel, rfl⟩
theorem d21_15 : D1 jdk_43_method_13_code 15 (.aload_n 0) 1 16 := ⟨by decide +kernel, rfl⟩
theorem d21_16 : D1 jdk_43_method_13_code 16 (.iload_n 2) 1 17 := ⟨by decide +kernel, rfl⟩
theorem d21_17 : D1 jdk_43_method_13_code 17 (.baload) 1 18 := ⟨by decide +kernel, rfl⟩
theorem d21_18 : D1 jdk_43_method_13_code 18 (.aload_n 1) 1 19 := ⟨by decide +kernel, rfl⟩
theorem d21_19 : D1 jdk_43_method_13_code 19 (.iload_n 2) 1 20 := ⟨by decide +kernel, rfl⟩
theorem d21_20 : D1 jdk_43_method_13_code 20 (.baload) 1 21 := ⟨by decide +kernel, rfl⟩
theorem d21_21 : D1 jdk_43_method_13_code 21 (.if_icmp .eq 5) 3 24 := ⟨by decide +kernel, rfl⟩
theorem d21_24 : D1 jdk_43_method_13_code 24 (.iconst 0) 1 25 := ⟨by decide +kernel, rfl⟩
theorem d21_25 : D1 jdk_43_method_13_code 25 (.ireturn) 1 26 := ⟨by decide +kernel, rfl⟩
theorem d21_26 : D1 jdk_43_method_13_code 26 (.iinc 2 1) 3 29 := ⟨by decide +kernel, rfl⟩
theorem d21_29 : D1 jdk_43_method_13_code 29 (.goto (-20)) 3 32 := ⟨by decide +kernel, rfl⟩
theorem d21_32 : D1 jdk_43_method_13_code 32 (.iconst 1) 1 33 := ⟨by decide +kernel, rfl⟩
theorem d21_33 : D1 jdk_43_method_13_code 33 (.ireturn) 1 34 := ⟨by decide +kernel, rfl⟩
theorem d21_34 : D1 jdk_43_method_13_code 34 (.iconst 0) 1 35 := ⟨by decide +kernel, rfl⟩
theorem d21_35 : D1 jdk_43_method_13_code 35 (.ireturn) 1 36 := ⟨by decide +kernel, rfl⟩
theorem pd4 : parseMethodDescriptor "([B[B)Z" = some ⟨[(.array .byte), (.array .byte)], some .boolean⟩ := by decide +kernel

/-- String.hashCode's value -/
def hashOf (cl : List Nat) : Int32 := cl.foldl (fun h c => 31 * h + Int32.ofNat c) 0
theorem byte_back : ∀ c : Nat, c < 256 → (Int32.ofNat c).toInt8.toInt32 &&& 255 = Int32.ofNat c := by decide +kernel
theorem byte_inj {c d : Nat} (hc : c < 256) (hd : d < 256) (q : (Int32.ofNat c).toInt8.toInt32 = (Int32.ofNat d).toInt8.toInt32) : c = d := by
  have := byte_back c hc
  rw [q, byte_back d hd] at this
  have e := congrArg Int32.toInt this
  rw [(nat32 (i := c) (by omega)).1, (nat32 (i := d) (by omega)).1] at e
  omega

def StrP (Z : State) (b : Addr) (cl : List Nat) (c : Cell) : Prop := ∃ hv hz : Int32, (hv = 0 ∨ hv = hashOf cl) ∧ (hz = 0 ∨ (hz = 1 ∧ hashOf cl = 0)) ∧ (Ob Z "java/lang/String" ns0 [.int 0, .ref b]) c
def Sk (Z : State) (L : List Ent) (a b : Addr) (cl : List Nat) : Prop := ow a (StrP Z b cl) ∈ L ∧ (∃ K f, (b, Ar Z .byte K (bsOf cl), f) ∈ L ∧ FcB Z cl K) ∧ ∀ c ∈ cl, c < 256
theorem Sk.cell {Z : State} {L : List Ent} {a b : Addr} {cl : List Nat} (S : Sk Z L a b cl) {h : Heap} (H : Hp Z h L) : ∃ hv hz : Int32, (hv = 0 ∨ hv = hashOf cl) ∧ (hz = 0 ∨ (hz = 1 ∧ hashOf cl = 0)) ∧ Exa Z h a "java/lang/String" ∧ Fld Z h a "java/lang/String" "value" "[B" (.ref b) ∧ Fld Z h a "java/lang/String" "coder" "B" (.int 0) ∧ True := by
  obtain ⟨c, hc, hv, hz, q1, q2, ⟨k, r⟩, hl, F⟩ := H.atM S.1
  have fl : ∀ (j : Nat) (q : Nm) (v : Value), ns0[j]? = some q → ([.int 0, .ref b] : List Value)[j]? = some v → Fld Z h a q.1 q.2.1 q.2.2 v := fun j q v h1 h2 => by
    obtain ⟨cf, k, i, f, r⟩ := F j q v h1 h2
    exact ⟨c, cf, k, i, f, hc, r⟩
  exact ⟨hv, hz, q1, q2, ⟨c, k, hc, r⟩, fl 1 _ _ rfl rfl, fl 0 _ _ rfl rfl, trivial⟩
theorem Sk.sx {Z : State} {L : List Ent} {a b : Addr} {cl : List Nat} (S : Sk Z L a b cl) : Sx Z L a b cl := ⟨by obtain ⟨K, f, q, -⟩ := S.2.1; exact ⟨K, f, q⟩, fun h H => by obtain ⟨hv, hz, -, -, r1, r2, r3, -⟩ := S.cell H; exact ⟨r1, r2, r3⟩⟩
theorem Sk.up {Z : State} {L : List Ent} {a b : Addr} {cl : List Nat} {x : Ent} (S : Sk Z L a b cl) : Sk Z (x :: L) a b cl := ⟨List.mem_cons_of_mem _ S.1, by obtain ⟨K, f, q, r⟩ := S.2.1; exact ⟨K, f, List.mem_cons_of_mem _ q, r⟩, S.2.2⟩

set_option maxRecDepth 65536 in
set_option maxHeartbeats 4000000 in
theorem s_eq_loop {p : Program} {l : Launch} {e : Env} {R : Room} {Z s : State} {m : MethodId} {args : Array Value} {below : List Frame} {meth : Method} {c : Code} {L : List Ent} {b1 b2 : Addr} {K1 K2 : ClassId} {f1 f2 : Bool} {c1 c2 : List Nat} (h1 : (b1, Ar Z .byte K1 (bsOf c1), f1) ∈ L) (h2 : (b2, Ar Z .byte K2 (bsOf c2), f2) ∈ L) (hl : c1.length = c2.length) (hs : c1.length < 2 ^ 31) (l1 : ∀ c ∈ c1, c < 256) (l2 : ∀ c ∈ c2, c < 256)
    (X : Cx WD EL0 p Z s m meth c "java/lang/StringLatin1" "equals" jdk_43_method_13_code 3 (some .boolean)) : ∀ (s1 s2 pre : List Nat), pre ++ s1 = c1 → pre ++ s2 = c2 →
    Go WD EL0 p l e R Z s m args below meth c (rvQ fun v M => v = .int (if c1 = c2 then 1 else 0) ∧ M = L) L 0 0 (mkF m 9 #[.val (.ref b1), .val (.ref b2), .val (.int (Int32.ofNat pre.length))] []) := by
  intro s1
  induction s1 with
  | nil =>
    intro s2 pre hp hq
    have hp : pre = c1 := by simpa using hp
    have e2 : s2 = [] := by apply List.eq_nil_of_length_eq_zero; have := congrArg List.length hq; rw [hp] at this; simp at this; omega
    subst e2
    have e3 : c1 = c2 := by rw [← hp, ← hq]; simp
    refine Go.iloadN X d21_9 rfl ?_
    refine Go.aloadN X d21_10 rfl rfl ?_
    refine Go.alenA X (fun h H => H.lenM h1) d21_11 ?_
    rw [bs_len]
    refine Go.icmp X d21_12 (pt := 32) ⟨by decide, by decide⟩ ?_ ?_
    · intro _
      refine Go.iconst X (v := 1) d21_32 (by decide) ?_
      exact Go.zret X d21_33 (Or.inr rfl) (Nat.zero_le _) (Nat.zero_le _) ⟨by rw [if_pos e3], rfl⟩
    intro q
    exact absurd (show c1.length.toInt32 ≤ Int32.ofNat pre.length by rw [hp]; exact Int32.le_refl _) q
  | cons x s1 ih =>
    intro s2 pre hp hq
    obtain ⟨y, s2, rfl⟩ : ∃ y t, s2 = y :: t := by
      cases s2 with
      | nil => exfalso; have a1 := congrArg List.length hp; have a2 := congrArg List.length hq; simp at a1 a2; omega
      | cons y t => exact ⟨y, t, rfl⟩
    have hx : x < 256 := l1 x (by rw [← hp]; simp)
    have hy : y < 256 := l2 y (by rw [← hq]; simp)
    have ax : c1[pre.length]? = some x := by rw [← hp]; simp
    have ay : c2[pre.length]? = some y := by rw [← hq]; simp
    have hlen : pre.length < c1.length := (List.getElem?_eq_some_iff.mp ax).1
    obtain ⟨n1, n2, n3⟩ := nat32 (i := pre.length) (by omega)
    obtain ⟨k1, k2, k3⟩ := nat32 (i := c1.length) hs
    refine Go.iloadN X d21_9 rfl ?_
    refine Go.aloadN X d21_10 rfl rfl ?_
    refine Go.alenA X (fun h H => H.lenM h1) d21_11 ?_
    rw [bs_len]
    refine Go.icmp X d21_12 (pt := 32) ⟨by decide, by decide⟩ ?_ ?_
    · intro q
      have q : (c1.length : Int) ≤ pre.length := ccL q n1 k1
      omega
    intro _
    refine Go.aloadN X d21_15 rfl rfl ?_
    refine Go.iloadN X d21_16 rfl ?_
    refine Go.bald X n2 (x := (Int32.ofNat x).toInt8.toInt32) (fun h H => H.elM h1 (by rw [n3]; exact bs_at ax)) d21_17 ?_
    refine Go.aloadN X d21_18 rfl rfl ?_
    refine Go.iloadN X d21_19 rfl ?_
    refine Go.bald X n2 (x := (Int32.ofNat y).toInt8.toInt32) (fun h H => H.elM h2 (by rw [n3]; exact bs_at ay)) d21_20 ?_
    refine Go.icmp X d21_21 (pt := 26) ⟨by decide, by decide⟩ ?_ ?_
    · intro q
      have q : x = y := byte_inj hx hy q
      subst q
      refine Go.iinc X d21_26 rfl rfl ?_
      refine Go.goto X d21_29 (pt := 9) ⟨by decide, by decide⟩ ?_
      have a2 : Int32.ofNat pre.length + Int32.ofInt 1 = Int32.ofNat (pre ++ [x]).length := by
        rw [show (pre ++ [x]).length = pre.length + 1 by simp]; exact (inc_ofNat _).symm
      rw [a2]
      exact ih s2 (pre ++ [x]) (by rw [← hp]; simp) (by rw [← hq]; simp)
    intro q
    have ne : c1 ≠ c2 := fun z => by rw [z, ay] at ax; cases ax; exact q rfl
    refine Go.iconst X (v := 0) d21_24 (by decide) ?_
    exact Go.zret X d21_25 (Or.inl rfl) (Nat.zero_le _) (Nat.zero_le _) ⟨by rw [if_neg ne], rfl⟩
set_option maxRecDepth 65536 in
set_option maxHeartbeats 4000000 in
theorem s_l1eq (l : Launch) {Z : State} {a0 : Array Value} (G : Gl a0 Z) {L : List Ent} {b1 b2 : Addr} {K1 K2 : ClassId} {f1 f2 : Bool} {c1 c2 : List Nat} (h1 : (b1, Ar Z .byte K1 (bsOf c1), f1) ∈ L) (h2 : (b2, Ar Z .byte K2 (bsOf c2), f2) ∈ L) (l1 : ∀ c ∈ c1, c < 256) (l2 : ∀ c ∈ c2, c < 256) : Ct WD EL0 l Z (⟨"java/lang/StringLatin1", "equals", "([B[B)Z"⟩ : MethodName) jdk_43_method_13_code 3 (some .boolean) ({ frames := 0, cells := 0, slots := 0, locals := 0 } : Room) #[.ref b1, .ref b2] L (rvQ (fun v M => v = .int (if c1 = c2 then 1 else 0) ∧ M = L)) := by
  refine Ct.intro (by decide +kernel) G.2.1 ?_
  intro p e s m below meth c X
  replace X : Cx WD EL0 p Z s m meth c "java/lang/StringLatin1" "equals" jdk_43_method_13_code 3 (some .boolean) := X
  refine Go.cast (g' := mkF m 0 #[.val (.ref b1), .val (.ref b2), .unset] []) (by first | rfl | (simp [entryFrame, mkF, argsToLocals, Value.category, maxLocals]; done)) ?_
  refine Go.fact (fun h H => And.intro (len_small H h1) (len_small H h2)) fun hM => ?_
  rw [bs_len, bs_len] at hM
  obtain ⟨n1, n2, n3⟩ := nat32 (i := c1.length) hM.1
  obtain ⟨m1, m2, m3⟩ := nat32 (i := c2.length) hM.2
  refine Go.aloadN X d21_0 rfl rfl ?_
  refine Go.alenA X (fun h H => H.lenM h1) d21_1 ?_
  rw [bs_len]
  refine Go.aloadN X d21_2 rfl rfl ?_
  refine Go.alenA X (fun h H => H.lenM h2) d21_3 ?_
  rw [bs_len]
  refine Go.icmp X d21_4 (pt := 34) ⟨by decide, by decide⟩ ?_ ?_
  · intro q
    have q : ¬ (c1.length : Int) = c2.length := ccL q n1 m1
    have ne : c1 ≠ c2 := fun z => q (by rw [z])
    refine Go.iconst X (v := 0) d21_34 (by decide) ?_
    exact Go.zret X d21_35 (Or.inl rfl) (Nat.zero_le _) (Nat.zero_le _) ⟨by rw [if_neg ne], rfl⟩
  intro q
  have q : (c1.length : Int) = c2.length := Decidable.of_not_not (ccN q n1 m1)
  refine Go.iconst X (v := 0) d21_7 (by decide) ?_
  refine Go.istoreN X d21_8 rfl ?_
  exact s_eq_loop h1 h2 (by omega) hM.1 l1 l2 X c1 c2 [] rfl rfl
set_option maxRecDepth 65536 in
set_option maxHeartbeats 4000000 in
theorem s_equals (l : Launch) {Z : State} {a0 : Array Value} (G : Gl a0 Z) {L : List Ent} {a1 a2 b1 b2 : Addr} {c1 c2 : List Nat} (hA : Sk Z L a1 b1 c1) (hB : Sk Z L a2 b2 c2) (hE : a1 = a2 → c1 = c2) : Ct WD EL0 l Z (⟨"java/lang/String", "equals", "(Ljava/lang/Object;)Z"⟩ : MethodName) jdk_42_method_66_code 3 (some .boolean) ({ frames := 1, cells := 0, slots := 0, locals := 14 } : Room) #[.ref a1, .ref a2] L (rvQ (fun v M => v = .int (if c1 = c2 then 1 else 0) ∧ M = L)) := by
  refine Ct.intro (by decide +kernel) G.2.1 ?_
  intro p e s m below meth c X
  replace X : Cx WD EL0 p Z s m meth c "java/lang/String" "equals" jdk_42_method_66_code 3 (some .boolean) := X
  refine Go.cast (g' := mkF m 0 #[.val (.ref a1), .val (.ref a2), .unset] []) (by first | rfl | (simp [entryFrame, mkF, argsToLocals, Value.category, maxLocals]; done)) ?_
  obtain ⟨K1, f1, h1, -⟩ := hA.2.1
  obtain ⟨K2, f2, h2, -⟩ := hB.2.1
  refine Go.aloadN X d20_0 rfl rfl ?_
  refine Go.aloadN X d20_1 rfl rfl ?_
  refine Go.acmp X d20_2 (pt := 7) ⟨by decide, by decide⟩ (by rfl) (by rfl) ?_ ?_
  rotate_left
  · intro q
    have q : c1 = c2 := hE (Value.ref.inj (Decidable.of_not_not q))
    refine Go.iconst X (v := 1) d20_5 (by decide) ?_
    exact Go.zret X d20_6 (Or.inr rfl) (Nat.zero_le _) (Nat.zero_le _) ⟨by rw [if_pos q], rfl⟩
  intro _
  refine Go.aloadN X d20_7 rfl rfl ?_
  refine Go.inst1 X (w128 G) (fun h H => Ins.self (hB.sx.2 h H).1) d20_8 ?_
  refine Go.ifc X d20_11 (pt := 54) ⟨by decide, by decide⟩ ?_ ?_
  · intro q; exact absurd (show (1 : Int32) = 0 from q) (by decide)
  intro _
  refine Go.aloadN X d20_14 rfl rfl ?_
  refine Go.ccast X (w128 G) (fun h H => Ins.self (hB.sx.2 h H).1) d20_15 ?_
  refine Go.astoreN X d20_18 rfl rfl ?_
  obtain ⟨cst, hcst, Fcst⟩ := g_cs G
  refine Go.getSta X (w18 G) Via.refl Fcst d20_19 ?_
  refine Go.ifc X d20_22 (pt := 36) ⟨by decide, by decide⟩ ?_ ?_
  · intro q; exact absurd q hcst
  intro _
  refine Go.aloadN X d20_25 rfl rfl ?_
  refine Go.getFld X (w30 G) Via.refl (fun h H => (hA.sx.2 h H).2.2) d20_26 ?_
  refine Go.aloadN X d20_29 rfl rfl ?_
  refine Go.getFld X (w30 G) Via.refl (fun h H => (hB.sx.2 h H).2.2) d20_30 ?_
  refine Go.icmp X d20_33 (pt := 54) ⟨by decide, by decide⟩ ?_ ?_
  · intro q; exact absurd rfl q
  intro _
  refine Go.aloadN X d20_36 rfl rfl ?_
  refine Go.getFld X (w32 G) Via.refl (fun h H => (hA.sx.2 h H).2.1) d20_37 ?_
  refine Go.aloadN X d20_40 rfl rfl ?_
  refine Go.getFld X (w32 G) Via.refl (fun h H => (hB.sx.2 h H).2.1) d20_41 ?_
  refine Go.callS X (s_l1eq l G h1 h2 hA.2.2 hB.2.2) (rest := []) (w129 G) (w130 G) (w131 G) (w132 G) (by decide) pd4 rfl rfl d20_44 rfl (Nat.le_of_ble_eq_true rfl) (Nat.le_of_ble_eq_true rfl) (Nat.le_of_ble_eq_true rfl) (Nat.le_of_ble_eq_true rfl) (Kv ?_)
  rintro v M ⟨rfl, rfl⟩
  refine Go.ifc X d20_47 (pt := 54) ⟨by decide, by decide⟩ ?_ ?_
  · intro q
    have q := ite_0 q
    refine Go.iconst X (v := 0) d20_54 (by decide) ?_
    exact Go.zret X d20_55 (Or.inl rfl) (Nat.zero_le _) (Nat.zero_le _) ⟨by rw [if_neg q], rfl⟩
  intro q
  have q := ite_n0 q
  refine Go.iconst X (v := 1) d20_50 (by decide) ?_
  refine Go.goto X d20_51 (pt := 55) ⟨by decide, by decide⟩ ?_
  exact Go.zret X d20_55 (Or.inr rfl) (Nat.zero_le _) (Nat.zero_le _) ⟨by rw [if_pos q], rfl⟩
-- %%% lists
theorem w39 {a0 : Array Value} {Z : State} (G : Gl a0 Z) : (Jvm.Cond.initialized "java/lang/Integer").before a0 Z = true := G.1 _ (List.mem_of_getElem? (i := 39) rfl)
theorem w41 {a0 : Array Value} {Z : State} (G : Gl a0 Z) : (Jvm.Cond.fieldLink "java/lang/Integer" (191 : Nat) "java/lang/Integer$IntegerCache" "high" "I").before a0 Z = true := G.1 _ (List.mem_of_getElem? (i := 41) rfl)
theorem w43 {a0 : Array Value} {Z : State} (G : Gl a0 Z) : (Jvm.Cond.fieldLink "java/lang/Integer" (195 : Nat) "java/lang/Integer$IntegerCache" "cache" "[Ljava/lang/Integer;").before a0 Z = true := G.1 _ (List.mem_of_getElem? (i := 43) rfl)
theorem w45 {a0 : Array Value} {Z : State} (G : Gl a0 Z) : (Jvm.Cond.instantiable "java/util/ArrayList" (3 : Nat)).before a0 Z = true := G.1 _ (List.mem_of_getElem? (i := 45) rfl)
theorem w50 {a0 : Array Value} {Z : State} (G : Gl a0 Z) : (Jvm.Cond.methodLink "java/util/ArrayList" (1 : Nat) ({ cls := "java/util/AbstractList", name := "<init>", desc := "()V" } : Jvm.MethodName)).before a0 Z = true := G.1 _ (List.mem_of_getElem? (i := 50) rfl)
theorem w51 {a0 : Array Value} {Z : State} (G : Gl a0 Z) : (Jvm.Cond.instanceMethod ({ cls := "java/util/AbstractList", name := "<init>", desc := "()V" } : Jvm.MethodName)).before a0 Z = true := G.1 _ (List.mem_of_getElem? (i := 51) rfl)
theorem w54 {a0 : Array Value} {Z : State} (G : Gl a0 Z) : (Jvm.Cond.initialized "java/util/AbstractList").before a0 Z = true := G.1 _ (List.mem_of_getElem? (i := 54) rfl)
theorem w55 {a0 : Array Value} {Z : State} (G : Gl a0 Z) : (Jvm.Cond.code ({ cls := "java/util/AbstractList", name := "<init>", desc := "()V" } : Jvm.MethodName) jdk_39_method_1_code (1 : Nat) (Option.none : Option Jvm.ClassFile.FieldType)).before a0 Z = true := G.1 _ (List.mem_of_getElem? (i := 55) rfl)
theorem w56 {a0 : Array Value} {Z : State} (G : Gl a0 Z) : (Jvm.Cond.methodLink "java/util/AbstractList" (1 : Nat) ({ cls := "java/util/AbstractCollection", name := "<init>", desc := "()V" } : Jvm.MethodName)).before a0 Z = true := G.1 _ (List.mem_of_getElem? (i := 56) rfl)
theorem w57 {a0 : Array Value} {Z : State} (G : Gl a0 Z) : (Jvm.Cond.instanceMethod ({ cls := "java/util/AbstractCollection", name := "<init>", desc := "()V" } : Jvm.MethodName)).before a0 Z = true := G.1 _ (List.mem_of_getElem? (i := 57) rfl)
theorem w60 {a0 : Array Value} {Z : State} (G : Gl a0 Z) : (Jvm.Cond.initialized "java/util/AbstractCollection").before a0 Z = true := G.1 _ (List.mem_of_getElem? (i := 60) rfl)
theorem w61 {a0 : Array Value} {Z : State} (G : Gl a0 Z) : (Jvm.Cond.code ({ cls := "java/util/AbstractCollection", name := "<init>", desc := "()V" } : Jvm.MethodName) jdk_22_method_1_code (1 : Nat) (Option.none : Option Jvm.ClassFile.FieldType)).before a0 Z = true := G.1 _ (List.mem_of_getElem? (i := 61) rfl)
theorem w62 {a0 : Array Value} {Z : State} (G : Gl a0 Z) : (Jvm.Cond.methodLink "java/util/AbstractCollection" (1 : Nat) ({ cls := "java/lang/Object", name := "<init>", desc := "()V" } : Jvm.MethodName)).before a0 Z = true := G.1 _ (List.mem_of_getElem? (i := 62) rfl)
theorem w63 {a0 : Array Value} {Z : State} (G : Gl a0 Z) : (Jvm.Cond.fieldLink "java/util/AbstractList" (7 : Nat) "java/util/AbstractList" "modCount" "I").before a0 Z = true := G.1 _ (List.mem_of_getElem? (i := 63) rfl)
theorem w64 {a0 : Array Value} {Z : State} (G : Gl a0 Z) : (Jvm.Cond.lays "java/util/ArrayList" "java/util/AbstractList" "modCount" "I").before a0 Z = true := G.1 _ (List.mem_of_getElem? (i := 64) rfl)
theorem w65 {a0 : Array Value} {Z : State} (G : Gl a0 Z) : (Jvm.Cond.fieldLink "java/util/ArrayList" (39 : Nat) "java/util/ArrayList" "DEFAULTCAPACITY_EMPTY_ELEMENTDATA" "[Ljava/lang/Object;").before a0 Z = true := G.1 _ (List.mem_of_getElem? (i := 65) rfl)
theorem w66 {a0 : Array Value} {Z : State} (G : Gl a0 Z) : (Jvm.Cond.fieldLink "java/util/ArrayList" (9 : Nat) "java/util/ArrayList" "elementData" "[Ljava/lang/Object;").before a0 Z = true := G.1 _ (List.mem_of_getElem? (i := 66) rfl)
theorem w67 {a0 : Array Value} {Z : State} (G : Gl a0 Z) : (Jvm.Cond.lays "java/util/ArrayList" "java/util/ArrayList" "elementData" "[Ljava/lang/Object;").before a0 Z = true := G.1 _ (List.mem_of_getElem? (i := 67) rfl)
theorem w197 {a0 : Array Value} {Z : State} (G : Gl a0 Z) : (Jvm.Cond.classLink "java/lang/Integer" (1 : Nat) "java/lang/Integer").before a0 Z = true := G.1 _ (List.mem_of_getElem? (i := 197) rfl)
theorem w198 {a0 : Array Value} {Z : State} (G : Gl a0 Z) : (Jvm.Cond.instantiable "java/lang/Integer" (1 : Nat)).before a0 Z = true := G.1 _ (List.mem_of_getElem? (i := 198) rfl)
theorem w199 {a0 : Array Value} {Z : State} (G : Gl a0 Z) : (Jvm.Cond.methodLink "java/lang/Integer" (199 : Nat) ({ cls := "java/lang/Integer", name := "<init>", desc := "(I)V" } : Jvm.MethodName)).before a0 Z = true := G.1 _ (List.mem_of_getElem? (i := 199) rfl)
theorem w200 {a0 : Array Value} {Z : State} (G : Gl a0 Z) : (Jvm.Cond.instanceMethod ({ cls := "java/lang/Integer", name := "<init>", desc := "(I)V" } : Jvm.MethodName)).before a0 Z = true := G.1 _ (List.mem_of_getElem? (i := 200) rfl)
theorem w202 {a0 : Array Value} {Z : State} (G : Gl a0 Z) : (Jvm.Cond.code ({ cls := "java/lang/Integer", name := "<init>", desc := "(I)V" } : Jvm.MethodName) jdk_33_method_23_code (2 : Nat) (Option.none : Option Jvm.ClassFile.FieldType)).before a0 Z = true := G.1 _ (List.mem_of_getElem? (i := 202) rfl)
theorem w203 {a0 : Array Value} {Z : State} (G : Gl a0 Z) : (Jvm.Cond.methodLink "java/lang/Integer" (202 : Nat) ({ cls := "java/lang/Number", name := "<init>", desc := "()V" } : Jvm.MethodName)).before a0 Z = true := G.1 _ (List.mem_of_getElem? (i := 203) rfl)
theorem w204 {a0 : Array Value} {Z : State} (G : Gl a0 Z) : (Jvm.Cond.instanceMethod ({ cls := "java/lang/Number", name := "<init>", desc := "()V" } : Jvm.MethodName)).before a0 Z = true := G.1 _ (List.mem_of_getElem? (i := 204) rfl)
theorem w207 {a0 : Array Value} {Z : State} (G : Gl a0 Z) : (Jvm.Cond.initialized "java/lang/Number").before a0 Z = true := G.1 _ (List.mem_of_getElem? (i := 207) rfl)
theorem w208 {a0 : Array Value} {Z : State} (G : Gl a0 Z) : (Jvm.Cond.code ({ cls := "java/lang/Number", name := "<init>", desc := "()V" } : Jvm.MethodName) jdk_18_method_1_code (1 : Nat) (Option.none : Option Jvm.ClassFile.FieldType)).before a0 Z = true := G.1 _ (List.mem_of_getElem? (i := 208) rfl)
theorem w209 {a0 : Array Value} {Z : State} (G : Gl a0 Z) : (Jvm.Cond.methodLink "java/lang/Number" (1 : Nat) ({ cls := "java/lang/Object", name := "<init>", desc := "()V" } : Jvm.MethodName)).before a0 Z = true := G.1 _ (List.mem_of_getElem? (i := 209) rfl)
theorem w210 {a0 : Array Value} {Z : State} (G : Gl a0 Z) : (Jvm.Cond.fieldLink "java/lang/Integer" (205 : Nat) "java/lang/Integer" "value" "I").before a0 Z = true := G.1 _ (List.mem_of_getElem? (i := 210) rfl)
theorem w211 {a0 : Array Value} {Z : State} (G : Gl a0 Z) : (Jvm.Cond.laysFinal "java/lang/Integer" "java/lang/Integer" "value" "I").before a0 Z = true := G.1 _ (List.mem_of_getElem? (i := 211) rfl)
theorem d8_0 : D1 jdk_33_method_22_code 0 (.iload_n 0) 1 1 := ⟨by decide +kernel, rfl⟩
theorem d8_1 : D1 jdk_33_method_22_code 1 (.bipush (-128)) 2 3 := ⟨by decide +kernel, rfl⟩
theorem d8_3 : D1 jdk_33_method_22_code 3 (.if_icmp .lt 20) 3 6 := ⟨by decide +kernel, rfl⟩
theorem d8_6 : D1 jdk_33_method_22_code 6 (.iload_n 0) 1 7 := ⟨by decide +kernel, rfl⟩
theorem d8_7 : D1 jdk_33_method_22_code 7 (.getstatic 191) 3 10 := ⟨by decide +kernel, rfl⟩
theorem d8_10 : D1 jdk_33_method_22_code 10 (.if_icmp .gt 13) 3 13 := ⟨by decide +kernel, rfl⟩
theorem d8_13 : D1 jdk_33_method_22_code 13 (.getstatic 195) 3 16 := ⟨by decide +kernel, rfl⟩
theorem d8_16 : D1 jdk_33_method_22_code 16 (.iload_n 0) 1 17 := ⟨by decide +kernel, rfl⟩
theorem d8_17 : D1 jdk_33_method_22_code 17 (.sipush 128) 3 20 := ⟨by decide +kernel, rfl⟩
theorem d8_20 : D1 jdk_33_method_22_code 20 (.iadd) 1 21 := ⟨by decide +kernel, rfl⟩
theorem d8_21 : D1 jdk_33_method_22_code 21 (.aaload) 1 22 := ⟨by decide +kernel, rfl⟩
theorem d8_22 : D1 jdk_33_method_22_code 22 (.areturn) 1 23 := ⟨by decide +kernel, rfl⟩
theorem d8_23 : D1 jdk_33_method_22_code 23 (.new 1) 3 26 := ⟨by decide +kernel, rfl⟩
theorem d8_26 : D1 jdk_33_method_22_code 26 (.dup) 1 27 := ⟨by decide +kernel, rfl⟩
theorem d8_27 : D1 jdk_33_method_22_code 27 (.iload_n 0) 1 28 := ⟨by decide +kernel, rfl⟩
theorem d8_28 : D1 jdk_33_method_22_code 28 (.invokespecial 199) 3 31 := ⟨by decide +kernel, rfl⟩
theorem d8_31 : D1 jdk_33_method_22_code 31 (.areturn) 1 32 := ⟨by decide +kernel, rfl⟩
theorem d9_0 : D1 jdk_38_method_2_code 0 (.aload_n 0) 1 1 := ⟨by decide +kernel, rfl⟩
theorem d9_1 : D1 jdk_38_method_2_code 1 (.invokespecial 1) 3 4 := ⟨by decide +kernel, rfl⟩
theorem d9_4 : D1 jdk_38_method_2_code 4 (.aload_n 0) 1 5 := ⟨by decide +kernel, rfl⟩
theorem d9_5 : D1 jdk_38_method_2_code 5 (.getstatic 39) 3 8 := ⟨by decide +kernel, rfl⟩
theorem d9_8 : D1 jdk_38_method_2_code 8 (.putfield 9) 3 11 := ⟨by decide +kernel, rfl⟩
theorem d9_11 : D1 jdk_38_method_2_code 11 (.return_) 1 12 := ⟨by decide +kernel, rfl⟩
theorem d10_0 : D1 jdk_39_method_1_code 0 (.aload_n 0) 1 1 := ⟨by decide +kernel, rfl⟩
theorem d10_1 : D1 jdk_39_method_1_code 1 (.invokespecial 1) 3 4 := ⟨by decide +kernel, rfl⟩
theorem d10_4 : D1 jdk_39_method_1_code 4 (.aload_n 0) 1 5 := ⟨by decide +kernel, rfl⟩
theorem d10_5 : D1 jdk_39_method_1_code 5 (.iconst 0) 1 6 := ⟨by decide +kernel, rfl⟩
theorem d10_6 : D1 jdk_39_method_1_code 6 (.putfield 7) 3 9 := ⟨by decide +kernel, rfl⟩
theorem d10_9 : D1 jdk_39_method_1_code 9 (.return_) 1 10 := ⟨by decide +kernel, rfl⟩
theorem d11_0 : D1 jdk_22_method_1_code 0 (.aload_n 0) 1 1 := ⟨by decide +kernel, rfl⟩
theorem d11_1 : D1 jdk_22_method_1_code 1 (.invokespecial 1) 3 4 := ⟨by decide +kernel, rfl⟩
theorem d11_4 : D1 jdk_22_method_1_code 4 (.return_) 1 5 := ⟨by decide +kernel, rfl⟩
theorem d31_0 : D1 jdk_33_method_23_code 0 (.aload_n 0) 1 1 := ⟨by decide +kernel, rfl⟩
theorem d31_1 : D1 jdk_33_method_23_code 1 (.invokespecial 202) 3 4 := ⟨by decide +kernel, rfl⟩
theorem d31_4 : D1 jdk_33_method_23_code 4 (.aload_n 0) 1 5 := ⟨by decide +kernel, rfl⟩
theorem d31_5 : D1 jdk_33_method_23_code 5 (.iload_n 1) 1 6 := ⟨by decide +kernel, rfl⟩
theorem d31_6 : D1 jdk_33_method_23_code 6 (.putfield 205) 3 9 := ⟨by decide +kernel, rfl⟩
theorem d31_9 : D1 jdk_33_method_23_code 9 (.return_) 1 10 := ⟨by decide +kernel, rfl⟩
theorem d32_0 : D1 jdk_18_method_1_code 0 (.aload_n 0) 1 1 := ⟨by decide +kernel, rfl⟩
theorem d32_1 : D1 jdk_18_method_1_code 1 (.invokespecial 1) 3 4 := ⟨by decide +kernel, rfl⟩
theorem d32_4 : D1 jdk_18_method_1_code 4 (.return_) 1 5 := ⟨by decide +kernel, rfl⟩
def ns1 : List Nm := [("java/lang/Integer", "value", "I")]
theorem lay1 {a0 : Array Value} {Z : State} (G : Gl a0 Z) : LayC Z a0 "java/lang/Integer" ns1 := LayC.of (fun q hq => by
  simp only [ns1, List.mem_cons, List.not_mem_nil, or_false] at hq
  rcases hq with rfl
  · exact Or.inr (G.1 _ (List.mem_of_getElem? (i := 211) rfl))) (by decide +kernel) (fun q hq => by
  simp only [ns1, List.mem_cons, List.not_mem_nil, or_false] at hq
  rcases hq with rfl
  · exact ⟨.int, by decide +kernel⟩)
theorem df1 : dfl ns1 = ([.int 0] : List Value).map some := by decide +kernel
def ns2 : List Nm := [("java/util/AbstractList", "modCount", "I"), ("java/util/ArrayList", "elementData", "[Ljava/lang/Object;"), ("java/util/ArrayList", "size", "I")]
theorem lay2 {a0 : Array Value} {Z : State} (G : Gl a0 Z) : LayC Z a0 "java/util/ArrayList" ns2 := LayC.of (fun q hq => by
  simp only [ns2, List.mem_cons, List.not_mem_nil, or_false] at hq
  rcases hq with rfl | rfl | rfl
  · exact Or.inl (G.1 _ (List.mem_of_getElem? (i := 64) rfl))
  · exact Or.inl (G.1 _ (List.mem_of_getElem? (i := 67) rfl))
  · exact Or.inl (G.1 _ (List.mem_of_getElem? (i := 80) rfl))) (by decide +kernel) (fun q hq => by
  simp only [ns2, List.mem_cons, List.not_mem_nil, or_false] at hq
  rcases hq with rfl | rfl | rfl
  · exact ⟨.int, by decide +kernel⟩
  · exact ⟨(.array (.object "java/lang/Object")), by decide +kernel⟩
  · exact ⟨.int, by decide +kernel⟩)
theorem df2 : dfl ns2 = ([.int 0, .null, .int 0] : List Value).map some := by decide +kernel
theorem pd5 : parseMethodDescriptor "()V" = some ⟨[], none⟩ := by decide +kernel
theorem pd6 : parseMethodDescriptor "(I)V" = some ⟨[.int], none⟩ := by decide +kernel
theorem pf2 : parseFieldDescriptor "I" = some .int := by decide +kernel
theorem pf3 : parseFieldDescriptor "[Ljava/lang/Object;" = some (.array (.object "java/lang/Object")) := by decide +kernel

/-- the shared empty array that a new ArrayList holds -/
def DeF (Z : State) (de : Addr) : Prop := Sta Z Z.heap "java/util/ArrayList" "DEFAULTCAPACITY_EMPTY_ELEMENTDATA" "[Ljava/lang/Object;" (.ref de) ∧ ∃ cl, Arr Z Z.heap de cl (.object "java/lang/Object") ∧ cl.slots.size = 0
theorem DeF.len {Z : State} {de : Addr} (D : DeF Z de) {h : Heap} {L : List Ent} (H : Hp Z h L) : ∃ cl, Arr Z h de cl (.object "java/lang/Object") ∧ cl.slots.size = 0 := by
  obtain ⟨cl, A, q⟩ := D.2; exact ⟨cl, A.ext H.1, q⟩
/-- Object[]: the class number -/
def OaC (Z : State) (K : ClassId) : Prop := Ovr Z K "java/lang/Object" ∧ Z.vm.findClass "[Ljava/lang/Object;" = some K
theorem take_range {vs : List Value} {N : Nat} (h : N ≤ vs.length) : (List.range N).map (fun i => vs.getD (0 + i) .null) = vs.take N := by
  apply List.ext_getElem
  · simp; omega
  · intro i h1 h2
    have : i < vs.length := by simp at h1; omega
    simp [List.getD_eq_getElem?_getD, this]

set_option maxRecDepth 65536 in
set_option maxHeartbeats 4000000 in
theorem i_num (l : Launch) {Z : State} {a0 : Array Value} (G : Gl a0 Z) {L : List Ent} {a : Addr} : Ct WD EL0 l Z (⟨"java/lang/Number", "<init>", "()V"⟩ : MethodName) jdk_18_method_1_code 1 none ({ frames := 1, cells := 0, slots := 0, locals := 12 } : Room) #[.ref a] L (r0Q (fun M => M = L)) := by
  refine Ct.intro (by decide +kernel) G.2.1 ?_
  intro p e s m below meth c X
  replace X : Cx WD EL0 p Z s m meth c "java/lang/Number" "<init>" jdk_18_method_1_code 1 none := X
  refine Go.cast (g' := mkF m 0 #[.val (.ref a)] []) (by first | rfl | (simp [entryFrame, mkF, argsToLocals, Value.category, maxLocals]; done)) ?_
  refine Go.aloadN X d32_0 rfl rfl ?_
  refine Go.initObj X (w209 G) (w16 G) (w17 G) d32_1 rfl (Nat.le_of_ble_eq_true rfl) (Nat.le_of_ble_eq_true rfl) ?_
  exact Go.ret0 X d32_4 (by first | exact Nat.le_of_ble_eq_true rfl | (simp; done) | (simp; omega)) (by first | exact Nat.le_of_ble_eq_true rfl | (simp; done) | (simp; omega)) rfl
set_option maxRecDepth 65536 in
set_option maxHeartbeats 4000000 in
theorem i_init (l : Launch) {Z : State} {a0 : Array Value} (G : Gl a0 Z) {L : List Ent} {a : Addr} {x : Int32} : Ct WD EL0 l Z (⟨"java/lang/Integer", "<init>", "(I)V"⟩ : MethodName) jdk_33_method_23_code 2 none ({ frames := 2, cells := 0, slots := 0, locals := 24 } : Room) #[.ref a, .int x] (ow a (Ob Z "java/lang/Integer" ns1 [.int 0]) :: L) (r0Q (fun M => M = ow a (Ob Z "java/lang/Integer" ns1 [.int x]) :: L)) := by
  refine Ct.intro (by decide +kernel) G.2.1 ?_
  intro p e s m below meth c X
  replace X : Cx WD EL0 p Z s m meth c "java/lang/Integer" "<init>" jdk_33_method_23_code 2 none := X
  refine Go.cast (g' := mkF m 0 #[.val (.ref a), .val (.int x)] []) (by first | rfl | (simp [entryFrame, mkF, argsToLocals, Value.category, maxLocals]; done)) ?_
  refine Go.aloadN X d31_0 rfl rfl ?_
  refine Go.callI X (i_num l G) rfl (rest := []) (w203 G) (w204 G) (w207 G) (w208 G) (by decide) pd5 rfl rfl d31_1 rfl (Nat.le_of_ble_eq_true rfl) (Nat.le_of_ble_eq_true rfl) (Nat.le_of_ble_eq_true rfl) (Nat.le_of_ble_eq_true rfl) (K0 ?_)
  rintro M rfl
  refine Go.aloadN X d31_4 rfl rfl ?_
  refine Go.iloadN X d31_5 rfl ?_
  refine Go.putFld X (i := 0) rfl (j := 0) rfl (lay1 G) (w210 G) Via.refl (Or.inr ⟨(w211 G), rfl, rfl⟩) (w198 G) pf2 d31_6 (by rfl) (by rfl) ?_
  exact Go.ret0 X d31_9 (by first | exact Nat.le_of_ble_eq_true rfl | (simp; done) | (simp; omega)) (by first | exact Nat.le_of_ble_eq_true rfl | (simp; done) | (simp; omega)) rfl
theorem cache_in {x : Int32} (q1 : ¬ ccP .lt x (-128)) (q2 : ¬ ccP .gt x 127) : ¬ (x + 128) < 0 ∧ (x + 128).toNatClampNeg < 256 := by
  have a1 : ¬ x.toInt < -128 := fun z => q1 ((cc_int .lt x (-128)).mpr z)
  have a2 : ¬ 127 < x.toInt := fun z => q2 ((cc_int .gt x 127).mpr z)
  have e : (x + 128).toInt = x.toInt + 128 := by
    rw [Int32.toInt_add, show (128 : Int32).toInt = 128 from rfl]
    exact Int.bmod_eq_of_le (by omega) (by omega)
  refine ⟨fun z => ?_, ?_⟩
  · rw [Int32.lt_iff_toInt_lt, e, show (0 : Int32).toInt = 0 from rfl] at z; omega
  · simp only [Int32.toNatClampNeg, e]; omega
set_option maxRecDepth 65536 in
set_option maxHeartbeats 4000000 in
theorem i_val (l : Launch) {Z : State} {a0 : Array Value} (G : Gl a0 Z) {L : List Ent} (x : Int32) : Ct WD EL0 l Z (⟨"java/lang/Integer", "valueOf", "(I)Ljava/lang/Integer;"⟩ : MethodName) jdk_33_method_22_code 1 (some (.object "java/lang/Integer")) ({ frames := 3, cells := 1, slots := 1, locals := 38 } : Room) #[.int x] L (rvQ (fun v M => ∃ b f, v = .ref b ∧ M = (b, (Ob Z "java/lang/Integer" ns1 [.int x]), f) :: L)) := by
  refine Ct.intro (by decide +kernel) G.2.1 ?_
  intro p e s m below meth c X
  replace X : Cx WD EL0 p Z s m meth c "java/lang/Integer" "valueOf" jdk_33_method_22_code 1 (some (.object "java/lang/Integer")) := X
  refine Go.cast (g' := mkF m 0 #[.val (.int x)] []) (by first | rfl | (simp [entryFrame, mkF, argsToLocals, Value.category, maxLocals]; done)) ?_
  obtain ⟨Fh, ca, cc, Fc, Bx⟩ := g_ic G
  have k23 : Go WD EL0 p l e ({ frames := 3, cells := 1, slots := 1, locals := 38 } : Room) Z s m #[.int x] below meth c (rvQ (fun v M => ∃ b f, v = .ref b ∧ M = (b, (Ob Z "java/lang/Integer" ns1 [.int x]), f) :: L)) L 0 0 (mkF m 23 #[.val (.int x)] []) := by
    refine Go.new X (w197 G) (w198 G) (w39 G) (lay1 G) df1 d8_23 (Nat.le_of_ble_eq_true rfl) (Nat.le_of_ble_eq_true rfl) ?_
    intro a
    refine Go.dup X d8_26 rfl ?_
    refine Go.iloadN X d8_27 rfl ?_
    refine Go.callI X (i_init l G (a := a) (x := x)) rfl (rest := [.ref a]) (w199 G) (w200 G) (w39 G) (w202 G) (by decide) pd6 rfl rfl d8_28 rfl (Nat.le_of_ble_eq_true rfl) (Nat.le_of_ble_eq_true rfl) (Nat.le_of_ble_eq_true rfl) (Nat.le_of_ble_eq_true rfl) (K0 ?_)
    rintro M rfl
    exact Go.aret X d8_31 (by rfl) (by rfl) (by rfl) (by first | exact Nat.le_of_ble_eq_true rfl | (simp; done) | (simp; omega)) (by first | exact Nat.le_of_ble_eq_true rfl | (simp; done) | (simp; omega)) ⟨a, true, rfl, rfl⟩
  refine Go.iloadN X d8_0 rfl ?_
  refine Go.bipush X (v := (-128)) d8_1 (by decide) ?_
  refine Go.icmp X d8_3 (pt := 23) ⟨by decide, by decide⟩ ?_ ?_
  · intro q; exact k23
  intro q1
  refine Go.iloadN X d8_6 rfl ?_
  refine Go.getSta X (w41 G) Via.refl Fh d8_7 ?_
  refine Go.icmp X d8_10 (pt := 23) ⟨by decide, by decide⟩ ?_ ?_
  · intro q; exact k23
  intro q2
  refine Go.getSta X (w43 G) Via.refl Fc d8_13 ?_
  refine Go.iloadN X d8_16 rfl ?_
  refine Go.sipush X (v := 128) d8_17 (by decide) ?_
  refine Go.iadd X d8_20 ?_
  obtain ⟨j1, j2⟩ : ¬ (x + 128) < 0 ∧ (x + 128).toNatClampNeg < 256 := cache_in q1 q2
  obtain ⟨bx, b1, b2, b3⟩ := Bx.2.2.2 (x + 128) (fun z => z.elim j1 (fun z => by rw [Bx.2.1, show (256 : Int32).toNatClampNeg = 256 from by decide] at z; exact absurd j2 (Nat.not_lt.mpr z)))
  refine Go.aald X (ty := .object "java/lang/Integer") rfl j1 (fun h H => ⟨cc, (Bx.ext H.1).1, b1⟩) d8_21 ?_
  have e1 : x + 128 - 128 = x := by apply Int32.toBitVec_inj.mp; rw [Int32.toBitVec_sub, Int32.toBitVec_add]; exact BitVec.add_sub_cancel _ _
  have b4 : Fld Z Z.heap bx "java/lang/Integer" "value" "I" (.int x) := by
    have b3' : Fld Z Z.heap bx "java/lang/Integer" "value" "I" (.int (x + 128 - 128)) := b3
    rwa [e1] at b3'
  have hO := oldOb (L := L) (ns := ns1) (vs := [.int x]) b2 rfl (fun j q v hj hv => by
    match j, hj, hv with
    | 0, hj, hv =>
      have e2 := Option.some.inj hj
      have e3 := Option.some.inj hv
      subst e2 e3
      exact b4
    | j + 1, hj, hv => simp at hv)
  refine Go.know hO.1 hO.2 ?_
  exact Go.aret X d8_22 (by rfl) (by rfl) (by rfl) (by first | exact Nat.le_of_ble_eq_true rfl | (simp; done) | (simp; omega)) (by first | exact Nat.le_of_ble_eq_true rfl | (simp; done) | (simp; omega)) ⟨bx, false, rfl, rfl⟩
set_option maxRecDepth 65536 in
set_option maxHeartbeats 4000000 in
theorem l_ac (l : Launch) {Z : State} {a0 : Array Value} (G : Gl a0 Z) {L : List Ent} {a : Addr} : Ct WD EL0 l Z (⟨"java/util/AbstractCollection", "<init>", "()V"⟩ : MethodName) jdk_22_method_1_code 1 none ({ frames := 1, cells := 0, slots := 0, locals := 12 } : Room) #[.ref a] L (r0Q (fun M => M = L)) := by
  refine Ct.intro (by decide +kernel) G.2.1 ?_
  intro p e s m below meth c X
  replace X : Cx WD EL0 p Z s m meth c "java/util/AbstractCollection" "<init>" jdk_22_method_1_code 1 none := X
  refine Go.cast (g' := mkF m 0 #[.val (.ref a)] []) (by first | rfl | (simp [entryFrame, mkF, argsToLocals, Value.category, maxLocals]; done)) ?_
  refine Go.aloadN X d11_0 rfl rfl ?_
  refine Go.initObj X (w62 G) (w16 G) (w17 G) d11_1 rfl (Nat.le_of_ble_eq_true rfl) (Nat.le_of_ble_eq_true rfl) ?_
  exact Go.ret0 X d11_4 (by first | exact Nat.le_of_ble_eq_true rfl | (simp; done) | (simp; omega)) (by first | exact Nat.le_of_ble_eq_true rfl | (simp; done) | (simp; omega)) rfl
set_option maxRecDepth 65536 in
set_option maxHeartbeats 4000000 in
theorem l_abs (l : Launch) {Z : State} {a0 : Array Value} (G : Gl a0 Z) {L : List Ent} {a : Addr} {x z : Int32} {ed : Value} : Ct WD EL0 l Z (⟨"java/util/AbstractList", "<init>", "()V"⟩ : MethodName) jdk_39_method_1_code 1 none ({ frames := 2, cells := 0, slots := 0, locals := 24 } : Room) #[.ref a] (ow a (Ob Z "java/util/ArrayList" ns2 [.int x, ed, .int z]) :: L) (r0Q (fun M => M = ow a (Ob Z "java/util/ArrayList" ns2 [.int 0, ed, .int z]) :: L)) := by
  refine Ct.intro (by decide +kernel) G.2.1 ?_
  intro p e s m below meth c X
  replace X : Cx WD EL0 p Z s m meth c "java/util/AbstractList" "<init>" jdk_39_method_1_code 1 none := X
  refine Go.cast (g' := mkF m 0 #[.val (.ref a)] []) (by first | rfl | (simp [entryFrame, mkF, argsToLocals, Value.category, maxLocals]; done)) ?_
  refine Go.aloadN X d10_0 rfl rfl ?_
  refine Go.callI X (l_ac l G) rfl (rest := []) (w56 G) (w57 G) (w60 G) (w61 G) (by decide) pd5 rfl rfl d10_1 rfl (Nat.le_of_ble_eq_true rfl) (Nat.le_of_ble_eq_true rfl) (Nat.le_of_ble_eq_true rfl) (Nat.le_of_ble_eq_true rfl) (K0 ?_)
  rintro M rfl
  refine Go.aloadN X d10_4 rfl rfl ?_
  refine Go.iconst X (v := 0) d10_5 (by decide) ?_
  refine Go.putFld X (i := 0) rfl (j := 0) rfl (lay2 G) (w63 G) Via.refl (Or.inl (w64 G)) (w45 G) pf2 d10_6 (by rfl) (by rfl) ?_
  exact Go.ret0 X d10_9 (by first | exact Nat.le_of_ble_eq_true rfl | (simp; done) | (simp; omega)) (by first | exact Nat.le_of_ble_eq_true rfl | (simp; done) | (simp; omega)) rfl
set_option maxRecDepth 65536 in
set_option maxHeartbeats 4000000 in
theorem l_init (l : Launch) {Z : State} {a0 : Array Value} (G : Gl a0 Z) {L : List Ent} {a de : Addr} (hD : DeF Z de) : Ct WD EL0 l Z (⟨"java/util/ArrayList", "<init>", "()V"⟩ : MethodName) jdk_38_method_2_code 1 none ({ frames := 3, cells := 0, slots := 0, locals := 36 } : Room) #[.ref a] (ow a (Ob Z "java/util/ArrayList" ns2 [.int 0, .null, .int 0]) :: L) (r0Q (fun M => M = ow a (Ob Z "java/util/ArrayList" ns2 [.int 0, .ref de, .int 0]) :: L)) := by
  refine Ct.intro (by decide +kernel) G.2.1 ?_
  intro p e s m below meth c X
  replace X : Cx WD EL0 p Z s m meth c "java/util/ArrayList" "<init>" jdk_38_method_2_code 1 none := X
  refine Go.cast (g' := mkF m 0 #[.val (.ref a)] []) (by first | rfl | (simp [entryFrame, mkF, argsToLocals, Value.category, maxLocals]; done)) ?_
  refine Go.aloadN X d9_0 rfl rfl ?_
  refine Go.callI X (l_abs l G (x := 0) (z := 0) (ed := .null)) rfl (rest := []) (w50 G) (w51 G) (w54 G) (w55 G) (by decide) pd5 rfl rfl d9_1 rfl (Nat.le_of_ble_eq_true rfl) (Nat.le_of_ble_eq_true rfl) (Nat.le_of_ble_eq_true rfl) (Nat.le_of_ble_eq_true rfl) (K0 ?_)
  rintro M rfl
  refine Go.aloadN X d9_4 rfl rfl ?_
  refine Go.getSta X (w65 G) Via.refl hD.1 d9_5 ?_
  refine Go.putFld X (i := 0) rfl (j := 1) rfl (lay2 G) (w66 G) Via.refl (Or.inl (w67 G)) (w45 G) pf3 d9_8 (by rfl) (by rfl) ?_
  exact Go.ret0 X d9_11 (by first | exact Nat.le_of_ble_eq_true rfl | (simp; done) | (simp; omega)) (by first | exact Nat.le_of_ble_eq_true rfl | (simp; done) | (simp; omega)) rfl
-- %%% lists 2
theorem w46 {a0 : Array Value} {Z : State} (G : Gl a0 Z) : (Jvm.Cond.initialized "java/util/ArrayList").before a0 Z = true := G.1 _ (List.mem_of_getElem? (i := 46) rfl)
theorem w77 {a0 : Array Value} {Z : State} (G : Gl a0 Z) : (Jvm.Cond.fieldLink "java/util/ArrayList" (63 : Nat) "java/util/ArrayList" "modCount" "I").before a0 Z = true := G.1 _ (List.mem_of_getElem? (i := 77) rfl)
theorem w78 {a0 : Array Value} {Z : State} (G : Gl a0 Z) : (Jvm.Cond.sameField "java/util/ArrayList" "java/util/AbstractList" "modCount" "I").before a0 Z = true := G.1 _ (List.mem_of_getElem? (i := 78) rfl)
theorem w79 {a0 : Array Value} {Z : State} (G : Gl a0 Z) : (Jvm.Cond.fieldLink "java/util/ArrayList" (48 : Nat) "java/util/ArrayList" "size" "I").before a0 Z = true := G.1 _ (List.mem_of_getElem? (i := 79) rfl)
theorem w80 {a0 : Array Value} {Z : State} (G : Gl a0 Z) : (Jvm.Cond.lays "java/util/ArrayList" "java/util/ArrayList" "size" "I").before a0 Z = true := G.1 _ (List.mem_of_getElem? (i := 80) rfl)
theorem w81 {a0 : Array Value} {Z : State} (G : Gl a0 Z) : (Jvm.Cond.methodLink "java/util/ArrayList" (131 : Nat) ({ cls := "java/util/ArrayList", name := "add", desc := "(Ljava/lang/Object;[Ljava/lang/Object;I)V" } : Jvm.MethodName)).before a0 Z = true := G.1 _ (List.mem_of_getElem? (i := 81) rfl)
theorem w82 {a0 : Array Value} {Z : State} (G : Gl a0 Z) : (Jvm.Cond.instanceMethod ({ cls := "java/util/ArrayList", name := "add", desc := "(Ljava/lang/Object;[Ljava/lang/Object;I)V" } : Jvm.MethodName)).before a0 Z = true := G.1 _ (List.mem_of_getElem? (i := 82) rfl)
theorem w83 {a0 : Array Value} {Z : State} (G : Gl a0 Z) : (Jvm.Cond.privateMethod ({ cls := "java/util/ArrayList", name := "add", desc := "(Ljava/lang/Object;[Ljava/lang/Object;I)V" } : Jvm.MethodName)).before a0 Z = true := G.1 _ (List.mem_of_getElem? (i := 83) rfl)
theorem w84 {a0 : Array Value} {Z : State} (G : Gl a0 Z) : (Jvm.Cond.selects "java/util/ArrayList" ({ cls := "java/util/ArrayList", name := "add", desc := "(Ljava/lang/Object;[Ljava/lang/Object;I)V" } : Jvm.MethodName) ({ cls := "java/util/ArrayList", name := "add", desc := "(Ljava/lang/Object;[Ljava/lang/Object;I)V" } : Jvm.MethodName)).before a0 Z = true := G.1 _ (List.mem_of_getElem? (i := 84) rfl)
theorem w85 {a0 : Array Value} {Z : State} (G : Gl a0 Z) : (Jvm.Cond.code ({ cls := "java/util/ArrayList", name := "add", desc := "(Ljava/lang/Object;[Ljava/lang/Object;I)V" } : Jvm.MethodName) jdk_38_method_24_code (4 : Nat) (Option.none : Option Jvm.ClassFile.FieldType)).before a0 Z = true := G.1 _ (List.mem_of_getElem? (i := 85) rfl)
theorem w86 {a0 : Array Value} {Z : State} (G : Gl a0 Z) : (Jvm.Cond.methodLink "java/util/ArrayList" (129 : Nat) ({ cls := "java/util/ArrayList", name := "grow", desc := "()[Ljava/lang/Object;" } : Jvm.MethodName)).before a0 Z = true := G.1 _ (List.mem_of_getElem? (i := 86) rfl)
theorem w87 {a0 : Array Value} {Z : State} (G : Gl a0 Z) : (Jvm.Cond.instanceMethod ({ cls := "java/util/ArrayList", name := "grow", desc := "()[Ljava/lang/Object;" } : Jvm.MethodName)).before a0 Z = true := G.1 _ (List.mem_of_getElem? (i := 87) rfl)
theorem w88 {a0 : Array Value} {Z : State} (G : Gl a0 Z) : (Jvm.Cond.privateMethod ({ cls := "java/util/ArrayList", name := "grow", desc := "()[Ljava/lang/Object;" } : Jvm.MethodName)).before a0 Z = true := G.1 _ (List.mem_of_getElem? (i := 88) rfl)
theorem w89 {a0 : Array Value} {Z : State} (G : Gl a0 Z) : (Jvm.Cond.selects "java/util/ArrayList" ({ cls := "java/util/ArrayList", name := "grow", desc := "()[Ljava/lang/Object;" } : Jvm.MethodName) ({ cls := "java/util/ArrayList", name := "grow", desc := "()[Ljava/lang/Object;" } : Jvm.MethodName)).before a0 Z = true := G.1 _ (List.mem_of_getElem? (i := 89) rfl)
theorem w90 {a0 : Array Value} {Z : State} (G : Gl a0 Z) : (Jvm.Cond.code ({ cls := "java/util/ArrayList", name := "grow", desc := "()[Ljava/lang/Object;" } : Jvm.MethodName) jdk_38_method_7_code (1 : Nat) (Option.some (Jvm.ClassFile.FieldType.array (Jvm.ClassFile.FieldType.object "java/lang/Object")))).before a0 Z = true := G.1 _ (List.mem_of_getElem? (i := 90) rfl)
theorem w91 {a0 : Array Value} {Z : State} (G : Gl a0 Z) : (Jvm.Cond.methodLink "java/util/ArrayList" (69 : Nat) ({ cls := "java/util/ArrayList", name := "grow", desc := "(I)[Ljava/lang/Object;" } : Jvm.MethodName)).before a0 Z = true := G.1 _ (List.mem_of_getElem? (i := 91) rfl)
theorem w92 {a0 : Array Value} {Z : State} (G : Gl a0 Z) : (Jvm.Cond.instanceMethod ({ cls := "java/util/ArrayList", name := "grow", desc := "(I)[Ljava/lang/Object;" } : Jvm.MethodName)).before a0 Z = true := G.1 _ (List.mem_of_getElem? (i := 92) rfl)
theorem w93 {a0 : Array Value} {Z : State} (G : Gl a0 Z) : (Jvm.Cond.privateMethod ({ cls := "java/util/ArrayList", name := "grow", desc := "(I)[Ljava/lang/Object;" } : Jvm.MethodName)).before a0 Z = true := G.1 _ (List.mem_of_getElem? (i := 93) rfl)
theorem w94 {a0 : Array Value} {Z : State} (G : Gl a0 Z) : (Jvm.Cond.selects "java/util/ArrayList" ({ cls := "java/util/ArrayList", name := "grow", desc := "(I)[Ljava/lang/Object;" } : Jvm.MethodName) ({ cls := "java/util/ArrayList", name := "grow", desc := "(I)[Ljava/lang/Object;" } : Jvm.MethodName)).before a0 Z = true := G.1 _ (List.mem_of_getElem? (i := 94) rfl)
theorem w95 {a0 : Array Value} {Z : State} (G : Gl a0 Z) : (Jvm.Cond.code ({ cls := "java/util/ArrayList", name := "grow", desc := "(I)[Ljava/lang/Object;" } : Jvm.MethodName) jdk_38_method_6_code (4 : Nat) (Option.some (Jvm.ClassFile.FieldType.array (Jvm.ClassFile.FieldType.object "java/lang/Object")))).before a0 Z = true := G.1 _ (List.mem_of_getElem? (i := 95) rfl)
theorem w96 {a0 : Array Value} {Z : State} (G : Gl a0 Z) : (Jvm.Cond.methodLink "java/util/ArrayList" (79 : Nat) ({ cls := "java/lang/Math", name := "max", desc := "(II)I" } : Jvm.MethodName)).before a0 Z = true := G.1 _ (List.mem_of_getElem? (i := 96) rfl)
theorem w97 {a0 : Array Value} {Z : State} (G : Gl a0 Z) : (Jvm.Cond.static ({ cls := "java/lang/Math", name := "max", desc := "(II)I" } : Jvm.MethodName)).before a0 Z = true := G.1 _ (List.mem_of_getElem? (i := 97) rfl)
theorem w98 {a0 : Array Value} {Z : State} (G : Gl a0 Z) : (Jvm.Cond.initialized "java/lang/Math").before a0 Z = true := G.1 _ (List.mem_of_getElem? (i := 98) rfl)
theorem w99 {a0 : Array Value} {Z : State} (G : Gl a0 Z) : (Jvm.Cond.code ({ cls := "java/lang/Math", name := "max", desc := "(II)I" } : Jvm.MethodName) jdk_29_method_65_code (2 : Nat) (Option.some Jvm.ClassFile.FieldType.int)).before a0 Z = true := G.1 _ (List.mem_of_getElem? (i := 99) rfl)
theorem w100 {a0 : Array Value} {Z : State} (G : Gl a0 Z) : (Jvm.Cond.classLink "java/util/ArrayList" (7 : Nat) "java/lang/Object").before a0 Z = true := G.1 _ (List.mem_of_getElem? (i := 100) rfl)
theorem w101 {a0 : Array Value} {Z : State} (G : Gl a0 Z) : (Jvm.Cond.arrayOver (Jvm.ClassFile.FieldType.object "java/lang/Object")).before a0 Z = true := G.1 _ (List.mem_of_getElem? (i := 101) rfl)
theorem d12_0 : D1 jdk_38_method_25_code 0 (.aload_n 0) 1 1 := ⟨by decide +kernel, rfl⟩
theorem d12_1 : D1 jdk_38_method_25_code 1 (.dup) 1 2 := ⟨by decide +kernel, rfl⟩
theorem d12_2 : D1 jdk_38_method_25_code 2 (.getfield 63) 3 5 := ⟨by decide +kernel, rfl⟩
theorem d12_5 : D1 jdk_38_method_25_code 5 (.iconst 1) 1 6 := ⟨by decide +kernel, rfl⟩
theorem d12_6 : D1 jdk_38_method_25_code 6 (.iadd) 1 7 := ⟨by decide +kernel, rfl⟩
theorem d12_7 : D1 jdk_38_method_25_code 7 (.putfield 63) 3 10 := ⟨by decide +kernel, rfl⟩
theorem d12_10 : D1 jdk_38_method_25_code 10 (.aload_n 0) 1 11 := ⟨by decide +kernel, rfl⟩
theorem d12_11 : D1 jdk_38_method_25_code 11 (.aload_n 1) 1 12 := ⟨by decide +kernel, rfl⟩
theorem d12_12 : D1 jdk_38_method_25_code 12 (.aload_n 0) 1 13 := ⟨by decide +kernel, rfl⟩
theorem d12_13 : D1 jdk_38_method_25_code 13 (.getfield 9) 3 16 := ⟨by decide +kernel, rfl⟩
theorem d12_16 : D1 jdk_38_method_25_code 16 (.aload_n 0) 1 17 := ⟨by decide +kernel, rfl⟩
theorem d12_17 : D1 jdk_38_method_25_code 17 (.getfield 48) 3 20 := ⟨by decide +kernel, rfl⟩
theorem d12_20 : D1 jdk_38_method_25_code 20 (.invokevirtual 131) 3 23 := ⟨by decide +kernel, rfl⟩
theorem d12_23 : D1 jdk_38_method_25_code 23 (.iconst 1) 1 24 := ⟨by decide +kernel, rfl⟩
theorem d12_24 : D1 jdk_38_method_25_code 24 (.ireturn) 1 25 := ⟨by decide +kernel, rfl⟩
theorem d13_0 : D1 jdk_38_method_24_code 0 (.iload_n 3) 1 1 := ⟨by decide +kernel, rfl⟩
theorem d13_1 : D1 jdk_38_method_24_code 1 (.aload_n 2) 1 2 := ⟨by decide +kernel, rfl⟩
theorem d13_2 : D1 jdk_38_method_24_code 2 (.arraylength) 1 3 := ⟨by decide +kernel, rfl⟩
theorem d13_3 : D1 jdk_38_method_24_code 3 (.if_icmp .ne 8) 3 6 := ⟨by decide +kernel, rfl⟩
theorem d13_6 : D1 jdk_38_method_24_code 6 (.aload_n 0) 1 7 := ⟨by decide +kernel, rfl⟩
theorem d13_7 : D1 jdk_38_method_24_code 7 (.invokevirtual 129) 3 10 := ⟨by decide +kernel, rfl⟩
theorem d13_10 : D1 jdk_38_method_24_code 10 (.astore_n 2) 1 11 := ⟨by decide +kernel, rfl⟩
theorem d13_11 : D1 jdk_38_method_24_code 11 (.aload_n 2) 1 12 := ⟨by decide +kernel, rfl⟩
theorem d13_12 : D1 jdk_38_method_24_code 12 (.iload_n 3) 1 13 := ⟨by decide +kernel, rfl⟩
theorem d13_13 : D1 jdk_38_method_24_code 13 (.aload_n 1) 1 14 := ⟨by decide +kernel, rfl⟩
theorem d13_14 : D1 jdk_38_method_24_code 14 (.aastore) 1 15 := ⟨by decide +kernel, rfl⟩
theorem d13_15 : D1 jdk_38_method_24_code 15 (.aload_n 0) 1 16 := ⟨by decide +kernel, rfl⟩
theorem d13_16 : D1 jdk_38_method_24_code 16 (.iload_n 3) 1 17 := ⟨by decide +kernel, rfl⟩
theorem d13_17 : D1 jdk_38_method_24_code 17 (.iconst 1) 1 18 := ⟨by decide +kernel, rfl⟩
theorem d13_18 : D1 jdk_38_method_24_code 18 (.iadd) 1 19 := ⟨by decide +kernel, rfl⟩
theorem d13_19 : D1 jdk_38_method_24_code 19 (.putfield 48) 3 22 := ⟨by decide +kernel, rfl⟩
theorem d13_22 : D1 jdk_38_method_24_code 22 (.return_) 1 23 := ⟨by decide +kernel, rfl⟩
theorem d14_0 : D1 jdk_38_method_7_code 0 (.aload_n 0) 1 1 := ⟨by decide +kernel, rfl⟩
theorem d14_1 : D1 jdk_38_method_7_code 1 (.aload_n 0) 1 2 := ⟨by decide +kernel, rfl⟩
theorem d14_2 : D1 jdk_38_method_7_code 2 (.getfield 48) 3 5 := ⟨by decide +kernel, rfl⟩
theorem d14_5 : D1 jdk_38_method_7_code 5 (.iconst 1) 1 6 := ⟨by decide +kernel, rfl⟩
theorem d14_6 : D1 jdk_38_method_7_code 6 (.iadd) 1 7 := ⟨by decide +kernel, rfl⟩
theorem d14_7 : D1 jdk_38_method_7_code 7 (.invokevirtual 69) 3 10 := ⟨by decide +kernel, rfl⟩
theorem d14_10 : D1 jdk_38_method_7_code 10 (.areturn) 1 11 := ⟨by decide +kernel, rfl⟩
theorem d15_0 : D1 jdk_38_method_6_code 0 (.aload_n 0) 1 1 := ⟨by decide +kernel, rfl⟩
theorem d15_1 : D1 jdk_38_method_6_code 1 (.getfield 9) 3 4 := ⟨by decide +kernel, rfl⟩
theorem d15_4 : D1 jdk_38_method_6_code 4 (.arraylength) 1 5 := ⟨by decide +kernel, rfl⟩
theorem d15_5 : D1 jdk_38_method_6_code 5 (.istore_n 2) 1 6 := ⟨by decide +kernel, rfl⟩
theorem d15_6 : D1 jdk_38_method_6_code 6 (.iload_n 2) 1 7 := ⟨by decide +kernel, rfl⟩
theorem d15_7 : D1 jdk_38_method_6_code 7 (.ifCond .gt 13) 3 10 := ⟨by decide +kernel, rfl⟩
theorem d15_10 : D1 jdk_38_method_6_code 10 (.aload_n 0) 1 11 := ⟨by decide +kernel, rfl⟩
theorem d15_11 : D1 jdk_38_method_6_code 11 (.getfield 9) 3 14 := ⟨by decide +kernel, rfl⟩
theorem d15_14 : D1 jdk_38_method_6_code 14 (.getstatic 39) 3 17 := ⟨by decide +kernel, rfl⟩
theorem d15_17 : D1 jdk_38_method_6_code 17 (.if_acmp .eq 28) 3 20 := ⟨by decide +kernel, rfl⟩
theorem d15_45 : D1 jdk_38_method_6_code 45 (.aload_n 0) 1 46 := ⟨by decide +kernel, rfl⟩
theorem d15_46 : D1 jdk_38_method_6_code 46 (.bipush 10) 2 48 := ⟨by decide +kernel, rfl⟩
theorem d15_48 : D1 jdk_38_method_6_code 48 (.iload_n 1) 1 49 := ⟨by decide +kernel, rfl⟩
theorem d15_49 : D1 jdk_38_method_6_code 49 (.invokestatic 79) 3 52 := ⟨by decide +kernel, rfl⟩
theorem d15_52 : D1 jdk_38_method_6_code 52 (.anewarray 7) 3 55 := ⟨by decide +kernel, rfl⟩
theorem d15_55 : D1 jdk_38_method_6_code 55 (.dup_x1) 1 56 := ⟨by decide +kernel, rfl⟩
theorem d15_56 : D1 jdk_38_method_6_code 56 (.putfield 9) 3 59 := ⟨by decide +kernel, rfl⟩
theorem d15_59 : D1 jdk_38_method_6_code 59 (.areturn) 1 60 := ⟨by decide +kernel, rfl⟩
theorem d16_0 : D1 jdk_29_method_65_code 0 (.iload_n 0) 1 1 := ⟨by decide +kernel, rfl⟩
theorem d16_1 : D1 jdk_29_method_65_code 1 (.iload_n 1) 1 2 := ⟨by decide +kernel, rfl⟩
theorem d16_2 : D1 jdk_29_method_65_code 2 (.if_icmp .lt 7) 3 5 := ⟨by decide +kernel, rfl⟩
theorem d16_5 : D1 jdk_29_method_65_code 5 (.iload_n 0) 1 6 := ⟨by decide +kernel, rfl⟩
theorem d16_6 : D1 jdk_29_method_65_code 6 (.goto 4) 3 9 := ⟨by decide +kernel, rfl⟩
theorem d16_9 : D1 jdk_29_method_65_code 9 (.iload_n 1) 1 10 := ⟨by decide +kernel, rfl⟩
theorem d16_10 : D1 jdk_29_method_65_code 10 (.ireturn) 1 11 := ⟨by decide +kernel, rfl⟩
theorem d23_0 : D1 jdk_38_method_8_code 0 (.aload_n 0) 1 1 := ⟨by decide +kernel, rfl⟩
theorem d23_1 : D1 jdk_38_method_8_code 1 (.getfield 48) 3 4 := ⟨by decide +kernel, rfl⟩
theorem d23_4 : D1 jdk_38_method_8_code 4 (.ireturn) 1 5 := ⟨by decide +kernel, rfl⟩
theorem d24_0 : D1 jdk_38_method_1_code 0 (.aload_n 0) 1 1 := ⟨by decide +kernel, rfl⟩
theorem d24_1 : D1 jdk_38_method_1_code 1 (.invokespecial 1) 3 4 := ⟨by decide +kernel, rfl⟩
theorem d24_4 : D1 jdk_38_method_1_code 4 (.iload_n 1) 1 5 := ⟨by decide +kernel, rfl⟩
theorem d24_5 : D1 jdk_38_method_1_code 5 (.ifCond .le 14) 3 8 := ⟨by decide +kernel, rfl⟩
theorem d24_8 : D1 jdk_38_method_1_code 8 (.aload_n 0) 1 9 := ⟨by decide +kernel, rfl⟩
theorem d24_9 : D1 jdk_38_method_1_code 9 (.iload_n 1) 1 10 := ⟨by decide +kernel, rfl⟩
theorem d24_10 : D1 jdk_38_method_1_code 10 (.anewarray 7) 3 13 := ⟨by decide +kernel, rfl⟩
theorem d24_13 : D1 jdk_38_method_1_code 13 (.putfield 9) 3 16 := ⟨by decide +kernel, rfl⟩
theorem d24_16 : D1 jdk_38_method_1_code 16 (.goto 44) 3 19 := ⟨by decide +kernel, rfl⟩
theorem d24_60 : D1 jdk_38_method_1_code 60 (.return_) 1 61 := ⟨by decide +kernel, rfl⟩
theorem pd7 : parseMethodDescriptor "(II)I" = some ⟨[.int, .int], some .int⟩ := by decide +kernel
theorem pd8 : parseMethodDescriptor "(I)[Ljava/lang/Object;" = some ⟨[.int], some (.array (.object "java/lang/Object"))⟩ := by decide +kernel
theorem pd9 : parseMethodDescriptor "()[Ljava/lang/Object;" = some ⟨[], some (.array (.object "java/lang/Object"))⟩ := by decide +kernel
theorem pd10 : parseMethodDescriptor "(Ljava/lang/Object;[Ljava/lang/Object;I)V" = some ⟨[(.object "java/lang/Object"), (.array (.object "java/lang/Object")), .int], none⟩ := by decide +kernel
set_option maxRecDepth 65536 in
set_option maxHeartbeats 4000000 in
theorem m_max (l : Launch) {Z : State} {a0 : Array Value} (G : Gl a0 Z) {L : List Ent} (x y : Int32) : Ct WD EL0 l Z (⟨"java/lang/Math", "max", "(II)I"⟩ : MethodName) jdk_29_method_65_code 2 (some .int) ({ frames := 0, cells := 0, slots := 0, locals := 0 } : Room) #[.int x, .int y] L (rvQ (fun v M => v = .int (if x < y then y else x) ∧ M = L)) := by
  refine Ct.intro (by decide +kernel) G.2.1 ?_
  intro p e s m below meth c X
  replace X : Cx WD EL0 p Z s m meth c "java/lang/Math" "max" jdk_29_method_65_code 2 (some .int) := X
  refine Go.cast (g' := mkF m 0 #[.val (.int x), .val (.int y)] []) (by first | rfl | (simp [entryFrame, mkF, argsToLocals, Value.category, maxLocals]; done)) ?_
  refine Go.iloadN X d16_0 rfl ?_
  refine Go.iloadN X d16_1 rfl ?_
  refine Go.icmp X d16_2 (pt := 9) ⟨by decide, by decide⟩ ?_ ?_
  · intro q
    refine Go.iloadN X d16_9 rfl ?_
    exact Go.iret X d16_10 (by first | exact Nat.le_of_ble_eq_true rfl | (simp; done) | (simp; omega)) (by first | exact Nat.le_of_ble_eq_true rfl | (simp; done) | (simp; omega)) ⟨by rw [if_pos (show x < y from q)], rfl⟩
  intro q
  refine Go.iloadN X d16_5 rfl ?_
  refine Go.goto X d16_6 (pt := 10) ⟨by decide, by decide⟩ ?_
  exact Go.iret X d16_10 (by first | exact Nat.le_of_ble_eq_true rfl | (simp; done) | (simp; omega)) (by first | exact Nat.le_of_ble_eq_true rfl | (simp; done) | (simp; omega)) ⟨by rw [if_neg (show ¬ x < y from q)], rfl⟩
set_option maxRecDepth 65536 in
set_option maxHeartbeats 4000000 in
theorem l_growI (l : Launch) {Z : State} {a0 : Array Value} (G : Gl a0 Z) {L : List Ent} {a de : Addr} {x : Int32} (hD : DeF Z de) : Ct WD EL0 l Z (⟨"java/util/ArrayList", "grow", "(I)[Ljava/lang/Object;"⟩ : MethodName) jdk_38_method_6_code 4 (some (.array (.object "java/lang/Object"))) ({ frames := 1, cells := 1, slots := 10, locals := 14 } : Room) #[.ref a, .int 1] (ow a (Ob Z "java/util/ArrayList" ns2 [.int x, .ref de, .int 0]) :: L) (rvQ (fun v M => ∃ b K, v = .ref b ∧ OaC Z K ∧ M = ow b (Ar Z (.object "java/lang/Object") K (List.replicate 10 Value.null)) :: ow a (Ob Z "java/util/ArrayList" ns2 [.int x, .ref b, .int 0]) :: L)) := by
  refine Ct.intro (by decide +kernel) G.2.1 ?_
  intro p e s m below meth c X
  replace X : Cx WD EL0 p Z s m meth c "java/util/ArrayList" "grow" jdk_38_method_6_code 4 (some (.array (.object "java/lang/Object"))) := X
  refine Go.cast (g' := mkF m 0 #[.val (.ref a), .val (.int 1), .unset, .unset] []) (by first | rfl | (simp [entryFrame, mkF, argsToLocals, Value.category, maxLocals]; done)) ?_
  refine Go.aloadN X d15_0 rfl rfl ?_
  refine Go.getFld X (w66 G) Via.refl (fun h H => H.fld (i := 0) rfl (j := 1) rfl rfl) d15_1 ?_
  refine Go.alenA X (fun h H => hD.len H) d15_4 ?_
  refine Go.istoreN X d15_5 rfl ?_
  refine Go.iloadN X d15_6 rfl ?_
  refine Go.ifc X d15_7 (pt := 20) ⟨by decide, by decide⟩ ?_ ?_
  · intro q; exact absurd q (by show ¬ (0 : Int32) < Nat.toInt32 0; decide)
  intro _
  refine Go.aloadN X d15_10 rfl rfl ?_
  refine Go.getFld X (w66 G) Via.refl (fun h H => H.fld (i := 0) rfl (j := 1) rfl rfl) d15_11 ?_
  refine Go.getSta X (w65 G) Via.refl hD.1 d15_14 ?_
  refine Go.acmp X d15_17 (pt := 45) ⟨by decide, by decide⟩ (by rfl) (by rfl) ?_ ?_
  rotate_left
  · intro q; exact absurd rfl q
  intro _
  refine Go.aloadN X d15_45 rfl rfl ?_
  refine Go.bipush X (v := 10) d15_46 (by decide) ?_
  refine Go.iloadN X d15_48 rfl ?_
  refine Go.callS X (m_max l G 10 1) (rest := [.ref a]) (w96 G) (w97 G) (w98 G) (w99 G) (by decide) pd7 rfl rfl d15_49 rfl (Nat.le_of_ble_eq_true rfl) (Nat.le_of_ble_eq_true rfl) (Nat.le_of_ble_eq_true rfl) (Nat.le_of_ble_eq_true rfl) (Kv ?_)
  rintro v M ⟨rfl, rfl⟩
  rw [show (if (10 : Int32) < 1 then (1 : Int32) else 10) = 10 from by decide]
  refine Go.anewF X (N := 10) (cap := 10) (w100 G) (w101 G) (by decide) (by decide) (by decide) (by decide) d15_52 (by first | exact Nat.le_of_ble_eq_true rfl | (simp; done) | (simp; omega)) (by first | exact Nat.le_of_ble_eq_true rfl | (simp; done) | (simp; omega)) ?_
  intro b K O1 O2
  refine Go.dupX1 X d15_55 rfl rfl ?_
  refine Go.putFld X (i := 1) rfl (j := 1) rfl (lay2 G) (w66 G) Via.refl (Or.inl (w67 G)) (w45 G) pf3 d15_56 (by rfl) (by rfl) ?_
  exact Go.aret X d15_59 (by rfl) (by rfl) (by rfl) (by first | exact Nat.le_of_ble_eq_true rfl | (simp; done) | (simp; omega)) (by first | exact Nat.le_of_ble_eq_true rfl | (simp; done) | (simp; omega)) ⟨b, K, rfl, ⟨O1, O2⟩, rfl⟩
set_option maxRecDepth 65536 in
set_option maxHeartbeats 4000000 in
theorem l_grow (l : Launch) {Z : State} {a0 : Array Value} (G : Gl a0 Z) {L : List Ent} {a de : Addr} {x : Int32} (hD : DeF Z de) : Ct WD EL0 l Z (⟨"java/util/ArrayList", "grow", "()[Ljava/lang/Object;"⟩ : MethodName) jdk_38_method_7_code 1 (some (.array (.object "java/lang/Object"))) ({ frames := 2, cells := 1, slots := 10, locals := 29 } : Room) #[.ref a] (ow a (Ob Z "java/util/ArrayList" ns2 [.int x, .ref de, .int 0]) :: L) (rvQ (fun v M => ∃ b K, v = .ref b ∧ OaC Z K ∧ M = ow b (Ar Z (.object "java/lang/Object") K (List.replicate 10 Value.null)) :: ow a (Ob Z "java/util/ArrayList" ns2 [.int x, .ref b, .int 0]) :: L)) := by
  refine Ct.intro (by decide +kernel) G.2.1 ?_
  intro p e s m below meth c X
  replace X : Cx WD EL0 p Z s m meth c "java/util/ArrayList" "grow" jdk_38_method_7_code 1 (some (.array (.object "java/lang/Object"))) := X
  refine Go.cast (g' := mkF m 0 #[.val (.ref a)] []) (by first | rfl | (simp [entryFrame, mkF, argsToLocals, Value.category, maxLocals]; done)) ?_
  refine Go.aloadN X d14_0 rfl rfl ?_
  refine Go.aloadN X d14_1 rfl rfl ?_
  refine Go.getFld X (w79 G) Via.refl (fun h H => H.fld (i := 0) rfl (j := 2) rfl rfl) d14_2 ?_
  refine Go.iconst X (v := 1) d14_5 (by decide) ?_
  refine Go.iadd X d14_6 ?_
  rw [show (0 : Int32) + 1 = 1 from by decide]
  refine Go.callP X (fun h H => H.exa (i := 0) rfl) (l_growI l G (x := x) hD) (rest := []) (w91 G) (w92 G) (w94 G) (w93 G) (w46 G) (w95 G) (by decide) pd8 rfl rfl d14_7 rfl (Nat.le_of_ble_eq_true rfl) (Nat.le_of_ble_eq_true rfl) (Nat.le_of_ble_eq_true rfl) (Nat.le_of_ble_eq_true rfl) (Kv ?_)
  rintro v M ⟨b, K, rfl, O, rfl⟩
  exact Go.aret X d14_10 (by rfl) (by rfl) (by rfl) (by first | exact Nat.le_of_ble_eq_true rfl | (simp; done) | (simp; omega)) (by first | exact Nat.le_of_ble_eq_true rfl | (simp; done) | (simp; omega)) ⟨b, K, rfl, O, rfl⟩
set_option maxRecDepth 65536 in
set_option maxHeartbeats 4000000 in
theorem l_add3f (l : Launch) {Z : State} {a0 : Array Value} (G : Gl a0 Z) {L : List Ent} {a de x : Addr} {y : Int32} (hD : DeF Z de) (hx : Cst Z L x "java/lang/Object") : Ct WD EL0 l Z (⟨"java/util/ArrayList", "add", "(Ljava/lang/Object;[Ljava/lang/Object;I)V"⟩ : MethodName) jdk_38_method_24_code 4 none ({ frames := 3, cells := 1, slots := 10, locals := 41 } : Room) #[.ref a, .ref x, .ref de, .int 0] (ow a (Ob Z "java/util/ArrayList" ns2 [.int y, .ref de, .int 0]) :: L) (r0Q (fun M => ∃ b K, OaC Z K ∧ M = ow b (Ar Z (.object "java/lang/Object") K (.ref x :: List.replicate 9 Value.null)) :: ow a (Ob Z "java/util/ArrayList" ns2 [.int y, .ref b, .int 1]) :: L)) := by
  refine Ct.intro (by decide +kernel) G.2.1 ?_
  intro p e s m below meth c X
  replace X : Cx WD EL0 p Z s m meth c "java/util/ArrayList" "add" jdk_38_method_24_code 4 none := X
  refine Go.cast (g' := mkF m 0 #[.val (.ref a), .val (.ref x), .val (.ref de), .val (.int 0)] []) (by first | rfl | (simp [entryFrame, mkF, argsToLocals, Value.category, maxLocals]; done)) ?_
  refine Go.iloadN X d13_0 rfl ?_
  refine Go.aloadN X d13_1 rfl rfl ?_
  refine Go.alenA X (fun h H => hD.len H) d13_2 ?_
  refine Go.icmp X d13_3 (pt := 11) ⟨by decide, by decide⟩ ?_ ?_
  · intro q; exact absurd rfl q
  intro _
  refine Go.aloadN X d13_6 rfl rfl ?_
  refine Go.callP X (fun h H => H.exa (i := 0) rfl) (l_grow l G (x := y) hD) (rest := []) (w86 G) (w87 G) (w89 G) (w88 G) (w46 G) (w90 G) (by decide) pd9 rfl rfl d13_7 rfl (Nat.le_of_ble_eq_true rfl) (Nat.le_of_ble_eq_true rfl) (Nat.le_of_ble_eq_true rfl) (Nat.le_of_ble_eq_true rfl) (Kv ?_)
  rintro v M ⟨b, K, rfl, O, rfl⟩
  refine Go.astoreN X d13_10 rfl rfl ?_
  refine Go.aloadN X d13_11 rfl rfl ?_
  refine Go.iloadN X d13_12 rfl ?_
  refine Go.aloadN X d13_13 rfl rfl ?_
  refine Go.aast X (i := 0) rfl (by decide) (by decide) (fun h H => H.sto (i := 0) rfl O.1 (hx.up.up.ins H)) rfl d13_14 ?_
  refine Go.aloadN X d13_15 rfl rfl ?_
  refine Go.iloadN X d13_16 rfl ?_
  refine Go.iconst X (v := 1) d13_17 (by decide) ?_
  refine Go.iadd X d13_18 ?_
  refine Go.putFld X (i := 1) rfl (j := 2) rfl (lay2 G) (w79 G) Via.refl (Or.inl (w80 G)) (w45 G) pf2 d13_19 (by rfl) (by rfl) ?_
  exact Go.ret0 X d13_22 (by first | exact Nat.le_of_ble_eq_true rfl | (simp; done) | (simp; omega)) (by first | exact Nat.le_of_ble_eq_true rfl | (simp; done) | (simp; omega)) ⟨b, K, O, rfl⟩
set_option maxRecDepth 65536 in
set_option maxHeartbeats 4000000 in
theorem l_add3r (l : Launch) {Z : State} {a0 : Array Value} (G : Gl a0 Z) {L : List Ent} {a b x : Addr} {K : ClassId} {y : Int32} {vs : List Value} {N : Nat} (O : Ovr Z K "java/lang/Object") (hN : N < vs.length) (hx : Cst Z L x "java/lang/Object") : Ct WD EL0 l Z (⟨"java/util/ArrayList", "add", "(Ljava/lang/Object;[Ljava/lang/Object;I)V"⟩ : MethodName) jdk_38_method_24_code 4 none ({ frames := 0, cells := 0, slots := 0, locals := 0 } : Room) #[.ref a, .ref x, .ref b, .int (Int32.ofNat N)] (ow a (Ob Z "java/util/ArrayList" ns2 [.int y, .ref b, .int (Int32.ofNat N)]) :: ow b (Ar Z (.object "java/lang/Object") K vs) :: L) (r0Q (fun M => M = (ow a (Ob Z "java/util/ArrayList" ns2 [.int y, .ref b, .int (Int32.ofNat (N + 1))]) :: ow b (Ar Z (.object "java/lang/Object") K (updL vs N (.ref x))) :: L))) := by
  refine Ct.intro (by decide +kernel) G.2.1 ?_
  intro p e s m below meth c X
  replace X : Cx WD EL0 p Z s m meth c "java/util/ArrayList" "add" jdk_38_method_24_code 4 none := X
  refine Go.cast (g' := mkF m 0 #[.val (.ref a), .val (.ref x), .val (.ref b), .val (.int (Int32.ofNat N))] []) (by first | rfl | (simp [entryFrame, mkF, argsToLocals, Value.category, maxLocals]; done)) ?_
  refine Go.fact (fun h H => len_small H (List.mem_of_getElem? (i := 1) rfl)) fun hM => ?_
  obtain ⟨n1, n2, n3⟩ := nat32 (i := N) (by omega)
  obtain ⟨m1, m2, m3⟩ := nat32 (i := vs.length) hM
  refine Go.iloadN X d13_0 rfl ?_
  refine Go.aloadN X d13_1 rfl rfl ?_
  refine Go.alenA X (fun h H => H.len (i := 1) rfl) d13_2 ?_
  refine Go.icmp X d13_3 (pt := 11) ⟨by decide, by decide⟩ ?_ ?_
  rotate_left
  · intro q
    have q : (N : Int) = vs.length := Decidable.of_not_not (ccN (a := (N : Int)) (b := (vs.length : Int)) q n1 m1)
    omega
  intro _
  refine Go.aloadN X d13_11 rfl rfl ?_
  refine Go.iloadN X d13_12 rfl ?_
  refine Go.aloadN X d13_13 rfl rfl ?_
  refine Go.aast X (i := 1) rfl n2 (by rw [n3]; exact hN) (fun h H => H.sto (i := 1) rfl O (hx.up.up.ins H)) rfl d13_14 ?_
  rw [n3]
  refine Go.aloadN X d13_15 rfl rfl ?_
  refine Go.iloadN X d13_16 rfl ?_
  refine Go.iconst X (v := 1) d13_17 (by decide) ?_
  refine Go.iadd X d13_18 ?_
  rw [show Int32.ofNat N + 1 = Int32.ofNat (N + 1) from (inc_ofNat N).symm]
  refine Go.putFld X (i := 0) rfl (j := 2) rfl (lay2 G) (w79 G) Via.refl (Or.inl (w80 G)) (w45 G) pf2 d13_19 (by rfl) (by rfl) ?_
  exact Go.ret0 X d13_22 (by first | exact Nat.le_of_ble_eq_true rfl | (simp; done) | (simp; omega)) (by first | exact Nat.le_of_ble_eq_true rfl | (simp; done) | (simp; omega)) rfl
set_option maxRecDepth 65536 in
set_option maxHeartbeats 4000000 in
theorem l_addf (l : Launch) {Z : State} {a0 : Array Value} (G : Gl a0 Z) {L : List Ent} {a de x : Addr} {y : Int32} (hD : DeF Z de) (hx : Cst Z L x "java/lang/Object") : Ct WD EL0 l Z (⟨"java/util/ArrayList", "add", "(Ljava/lang/Object;)Z"⟩ : MethodName) jdk_38_method_25_code 2 (some .boolean) ({ frames := 4, cells := 1, slots := 10, locals := 56 } : Room) #[.ref a, .ref x] (ow a (Ob Z "java/util/ArrayList" ns2 [.int y, .ref de, .int 0]) :: L) (rvQ (fun v M => v = .int 1 ∧ ∃ b K, OaC Z K ∧ M = ow b (Ar Z (.object "java/lang/Object") K (.ref x :: List.replicate 9 Value.null)) :: ow a (Ob Z "java/util/ArrayList" ns2 [.int (y + 1), .ref b, .int 1]) :: L)) := by
  refine Ct.intro (by decide +kernel) G.2.1 ?_
  intro p e s m below meth c X
  replace X : Cx WD EL0 p Z s m meth c "java/util/ArrayList" "add" jdk_38_method_25_code 2 (some .boolean) := X
  refine Go.cast (g' := mkF m 0 #[.val (.ref a), .val (.ref x)] []) (by first | rfl | (simp [entryFrame, mkF, argsToLocals, Value.category, maxLocals]; done)) ?_
  refine Go.aloadN X d12_0 rfl rfl ?_
  refine Go.dup X d12_1 rfl ?_
  refine Go.getFld X (w77 G) (Via.of (w78 G)) (fun h H => H.fld (i := 0) rfl (j := 0) rfl rfl) d12_2 ?_
  refine Go.iconst X (v := 1) d12_5 (by decide) ?_
  refine Go.iadd X d12_6 ?_
  refine Go.putFld X (i := 0) rfl (j := 0) rfl (lay2 G) (w77 G) (Via.of (w78 G)) (Or.inl (w64 G)) (w45 G) pf2 d12_7 (by rfl) (by rfl) ?_
  refine Go.aloadN X d12_10 rfl rfl ?_
  refine Go.aloadN X d12_11 rfl rfl ?_
  refine Go.aloadN X d12_12 rfl rfl ?_
  refine Go.getFld X (w66 G) Via.refl (fun h H => H.fld (i := 0) rfl (j := 1) rfl rfl) d12_13 ?_
  refine Go.aloadN X d12_16 rfl rfl ?_
  refine Go.getFld X (w79 G) Via.refl (fun h H => H.fld (i := 0) rfl (j := 2) rfl rfl) d12_17 ?_
  refine Go.callP X (fun h H => H.exa (i := 0) rfl) (l_add3f l G (y := y + 1) hD hx) (rest := []) (w81 G) (w82 G) (w84 G) (w83 G) (w46 G) (w85 G) (by decide) pd10 rfl rfl d12_20 rfl (Nat.le_of_ble_eq_true rfl) (Nat.le_of_ble_eq_true rfl) (Nat.le_of_ble_eq_true rfl) (Nat.le_of_ble_eq_true rfl) (K0 ?_)
  rintro M ⟨b, K, O, rfl⟩
  refine Go.iconst X (v := 1) d12_23 (by decide) ?_
  exact Go.zret X d12_24 (Or.inr rfl) (by first | exact Nat.le_of_ble_eq_true rfl | (simp; done) | (simp; omega)) (by first | exact Nat.le_of_ble_eq_true rfl | (simp; done) | (simp; omega)) ⟨rfl, b, K, O, rfl⟩
set_option maxRecDepth 65536 in
set_option maxHeartbeats 4000000 in
theorem l_addr (l : Launch) {Z : State} {a0 : Array Value} (G : Gl a0 Z) {L : List Ent} {a b x : Addr} {K : ClassId} {y : Int32} {vs : List Value} {N : Nat} (O : Ovr Z K "java/lang/Object") (hN : N < vs.length) (hx : Cst Z L x "java/lang/Object") : Ct WD EL0 l Z (⟨"java/util/ArrayList", "add", "(Ljava/lang/Object;)Z"⟩ : MethodName) jdk_38_method_25_code 2 (some .boolean) ({ frames := 1, cells := 0, slots := 0, locals := 15 } : Room) #[.ref a, .ref x] (ow a (Ob Z "java/util/ArrayList" ns2 [.int y, .ref b, .int (Int32.ofNat N)]) :: ow b (Ar Z (.object "java/lang/Object") K vs) :: L) (rvQ (fun v M => v = .int 1 ∧ M = (ow a (Ob Z "java/util/ArrayList" ns2 [.int (y + 1), .ref b, .int (Int32.ofNat (N + 1))]) :: ow b (Ar Z (.object "java/lang/Object") K (updL vs N (.ref x))) :: L))) := by
  refine Ct.intro (by decide +kernel) G.2.1 ?_
  intro p e s m below meth c X
  replace X : Cx WD EL0 p Z s m meth c "java/util/ArrayList" "add" jdk_38_method_25_code 2 (some .boolean) := X
  refine Go.cast (g' := mkF m 0 #[.val (.ref a), .val (.ref x)] []) (by first | rfl | (simp [entryFrame, mkF, argsToLocals, Value.category, maxLocals]; done)) ?_
  refine Go.aloadN X d12_0 rfl rfl ?_
  refine Go.dup X d12_1 rfl ?_
  refine Go.getFld X (w77 G) (Via.of (w78 G)) (fun h H => H.fld (i := 0) rfl (j := 0) rfl rfl) d12_2 ?_
  refine Go.iconst X (v := 1) d12_5 (by decide) ?_
  refine Go.iadd X d12_6 ?_
  refine Go.putFld X (i := 0) rfl (j := 0) rfl (lay2 G) (w77 G) (Via.of (w78 G)) (Or.inl (w64 G)) (w45 G) pf2 d12_7 (by rfl) (by rfl) ?_
  refine Go.aloadN X d12_10 rfl rfl ?_
  refine Go.aloadN X d12_11 rfl rfl ?_
  refine Go.aloadN X d12_12 rfl rfl ?_
  refine Go.getFld X (w66 G) Via.refl (fun h H => H.fld (i := 0) rfl (j := 1) rfl rfl) d12_13 ?_
  refine Go.aloadN X d12_16 rfl rfl ?_
  refine Go.getFld X (w79 G) Via.refl (fun h H => H.fld (i := 0) rfl (j := 2) rfl rfl) d12_17 ?_
  refine Go.callP X (fun h H => H.exa (i := 0) rfl) (l_add3r l G (y := y + 1) (vs := vs) O hN hx) (rest := []) (w81 G) (w82 G) (w84 G) (w83 G) (w46 G) (w85 G) (by decide) pd10 rfl rfl d12_20 rfl (Nat.le_of_ble_eq_true rfl) (Nat.le_of_ble_eq_true rfl) (Nat.le_of_ble_eq_true rfl) (Nat.le_of_ble_eq_true rfl) (K0 ?_)
  rintro M rfl
  refine Go.iconst X (v := 1) d12_23 (by decide) ?_
  exact Go.zret X d12_24 (Or.inr rfl) (by first | exact Nat.le_of_ble_eq_true rfl | (simp; done) | (simp; omega)) (by first | exact Nat.le_of_ble_eq_true rfl | (simp; done) | (simp; omega)) ⟨rfl, rfl⟩
set_option maxRecDepth 65536 in
set_option maxHeartbeats 4000000 in
theorem l_size (l : Launch) {Z : State} {a0 : Array Value} (G : Gl a0 Z) {L : List Ent} {a : Addr} {z : Int32} (hF : ∀ h, Hp Z h L → Fld Z h a "java/util/ArrayList" "size" "I" (.int z)) : Ct WD EL0 l Z (⟨"java/util/ArrayList", "size", "()I"⟩ : MethodName) jdk_38_method_8_code 1 (some .int) ({ frames := 0, cells := 0, slots := 0, locals := 0 } : Room) #[.ref a] L (rvQ (fun v M => v = .int z ∧ M = L)) := by
  refine Ct.intro (by decide +kernel) G.2.1 ?_
  intro p e s m below meth c X
  replace X : Cx WD EL0 p Z s m meth c "java/util/ArrayList" "size" jdk_38_method_8_code 1 (some .int) := X
  refine Go.cast (g' := mkF m 0 #[.val (.ref a)] []) (by first | rfl | (simp [entryFrame, mkF, argsToLocals, Value.category, maxLocals]; done)) ?_
  refine Go.aloadN X d23_0 rfl rfl ?_
  refine Go.getFld X (w79 G) Via.refl (hF) d23_1 ?_
  exact Go.iret X d23_4 (by first | exact Nat.le_of_ble_eq_true rfl | (simp; done) | (simp; omega)) (by first | exact Nat.le_of_ble_eq_true rfl | (simp; done) | (simp; omega)) ⟨rfl, rfl⟩
set_option maxRecDepth 65536 in
set_option maxHeartbeats 4000000 in
theorem l_initI (l : Launch) {Z : State} {a0 : Array Value} (G : Gl a0 Z) {L : List Ent} {a : Addr} {N cap : Nat} (hN : 0 < N) (hcap : N ≤ cap) (hc2 : cap ≤ 4096) : Ct WD EL0 l Z (⟨"java/util/ArrayList", "<init>", "(I)V"⟩ : MethodName) jdk_38_method_1_code 2 none ({ frames := 3, cells := 1, slots := cap, locals := 36 } : Room) #[.ref a, .int (Int32.ofNat N)] (ow a (Ob Z "java/util/ArrayList" ns2 [.int 0, .null, .int 0]) :: L) (r0Q (fun M => ∃ b K, OaC Z K ∧ M = ow b (Ar Z (.object "java/lang/Object") K (List.replicate N .null)) :: ow a (Ob Z "java/util/ArrayList" ns2 [.int 0, .ref b, .int 0]) :: L)) := by
  refine Ct.intro (by decide +kernel) G.2.1 ?_
  intro p e s m below meth c X
  replace X : Cx WD EL0 p Z s m meth c "java/util/ArrayList" "<init>" jdk_38_method_1_code 2 none := X
  refine Go.cast (g' := mkF m 0 #[.val (.ref a), .val (.int (Int32.ofNat N))] []) (by first | rfl | (simp [entryFrame, mkF, argsToLocals, Value.category, maxLocals]; done)) ?_
  obtain ⟨n1, n2, n3⟩ := nat32 (i := N) (by omega)
  refine Go.aloadN X d24_0 rfl rfl ?_
  refine Go.callI X (l_abs l G (x := 0) (z := 0) (ed := .null)) rfl (rest := []) (w50 G) (w51 G) (w54 G) (w55 G) (by decide) pd5 rfl rfl d24_1 rfl (by first | exact Nat.le_of_ble_eq_true rfl | (simp; done) | (simp; omega)) (by first | exact Nat.le_of_ble_eq_true rfl | (simp; done) | (simp; omega)) (by first | exact Nat.le_of_ble_eq_true rfl | (simp; done) | (simp; omega)) (by first | exact Nat.le_of_ble_eq_true rfl | (simp; done) | (simp; omega)) (K0 ?_)
  rintro M rfl
  refine Go.iloadN X d24_4 rfl ?_
  refine Go.ifc X d24_5 (pt := 19) ⟨by decide, by decide⟩ ?_ ?_
  · intro q
    have q : (N : Int) ≤ 0 := ccL (a := (N : Int)) (b := 0) q n1 rfl
    omega
  intro _
  refine Go.aloadN X d24_8 rfl rfl ?_
  refine Go.iloadN X d24_9 rfl ?_
  refine Go.anewF X (N := N) (cap := cap) (w100 G) (w101 G) n2 n3 hcap (by omega) d24_10 (by first | exact Nat.le_of_ble_eq_true rfl | (simp; done) | (simp; omega)) (by first | exact Nat.le_of_ble_eq_true rfl | (simp; done) | (simp; omega)) ?_
  intro b K O1 O2
  refine Go.putFld X (i := 1) rfl (j := 1) rfl (lay2 G) (w66 G) Via.refl (Or.inl (w67 G)) (w45 G) pf3 d24_13 (by rfl) (by rfl) ?_
  refine Go.goto X d24_16 (pt := 60) ⟨by decide, by decide⟩ ?_
  exact Go.ret0 X d24_60 (by first | exact Nat.le_of_ble_eq_true rfl | (simp; done) | (simp; omega)) (by first | exact Nat.le_of_ble_eq_true rfl | (simp; done) | (simp; omega)) ⟨b, K, ⟨O1, O2⟩, rfl⟩
-- %%% lists 3
theorem w158 {a0 : Array Value} {Z : State} (G : Gl a0 Z) : (Jvm.Cond.methodLink "java/util/ArrayList" (42 : Nat) ({ cls := "java/util/Collection", name := "toArray", desc := "()[Ljava/lang/Object;" } : Jvm.MethodName)).before a0 Z = true := G.1 _ (List.mem_of_getElem? (i := 158) rfl)
theorem w159 {a0 : Array Value} {Z : State} (G : Gl a0 Z) : (Jvm.Cond.declares ({ cls := "java/util/Collection", name := "toArray", desc := "()[Ljava/lang/Object;" } : Jvm.MethodName)).before a0 Z = true := G.1 _ (List.mem_of_getElem? (i := 159) rfl)
theorem w160 {a0 : Array Value} {Z : State} (G : Gl a0 Z) : (Jvm.Cond.interfaceMethod "java/util/Collection" "java/util/Collection" "toArray" "()[Ljava/lang/Object;").before a0 Z = true := G.1 _ (List.mem_of_getElem? (i := 160) rfl)
theorem w161 {a0 : Array Value} {Z : State} (G : Gl a0 Z) : (Jvm.Cond.selects "java/util/ArrayList" ({ cls := "java/util/Collection", name := "toArray", desc := "()[Ljava/lang/Object;" } : Jvm.MethodName) ({ cls := "java/util/ArrayList", name := "toArray", desc := "()[Ljava/lang/Object;" } : Jvm.MethodName)).before a0 Z = true := G.1 _ (List.mem_of_getElem? (i := 161) rfl)
theorem w162 {a0 : Array Value} {Z : State} (G : Gl a0 Z) : (Jvm.Cond.instanceMethod ({ cls := "java/util/ArrayList", name := "toArray", desc := "()[Ljava/lang/Object;" } : Jvm.MethodName)).before a0 Z = true := G.1 _ (List.mem_of_getElem? (i := 162) rfl)
theorem w163 {a0 : Array Value} {Z : State} (G : Gl a0 Z) : (Jvm.Cond.publicMethod ({ cls := "java/util/ArrayList", name := "toArray", desc := "()[Ljava/lang/Object;" } : Jvm.MethodName)).before a0 Z = true := G.1 _ (List.mem_of_getElem? (i := 163) rfl)
theorem w164 {a0 : Array Value} {Z : State} (G : Gl a0 Z) : (Jvm.Cond.unhidden "java/util/ArrayList" "toArray" "()[Ljava/lang/Object;").before a0 Z = true := G.1 _ (List.mem_of_getElem? (i := 164) rfl)
theorem w165 {a0 : Array Value} {Z : State} (G : Gl a0 Z) : (Jvm.Cond.castable "java/util/ArrayList" "java/util/Collection").before a0 Z = true := G.1 _ (List.mem_of_getElem? (i := 165) rfl)
theorem w166 {a0 : Array Value} {Z : State} (G : Gl a0 Z) : (Jvm.Cond.code ({ cls := "java/util/ArrayList", name := "toArray", desc := "()[Ljava/lang/Object;" } : Jvm.MethodName) jdk_38_method_16_code (1 : Nat) (Option.some (Jvm.ClassFile.FieldType.array (Jvm.ClassFile.FieldType.object "java/lang/Object")))).before a0 Z = true := G.1 _ (List.mem_of_getElem? (i := 166) rfl)
theorem w167 {a0 : Array Value} {Z : State} (G : Gl a0 Z) : (Jvm.Cond.methodLink "java/util/ArrayList" (66 : Nat) ({ cls := "java/util/Arrays", name := "copyOf", desc := "([Ljava/lang/Object;I)[Ljava/lang/Object;" } : Jvm.MethodName)).before a0 Z = true := G.1 _ (List.mem_of_getElem? (i := 167) rfl)
theorem w168 {a0 : Array Value} {Z : State} (G : Gl a0 Z) : (Jvm.Cond.static ({ cls := "java/util/Arrays", name := "copyOf", desc := "([Ljava/lang/Object;I)[Ljava/lang/Object;" } : Jvm.MethodName)).before a0 Z = true := G.1 _ (List.mem_of_getElem? (i := 168) rfl)
theorem w169 {a0 : Array Value} {Z : State} (G : Gl a0 Z) : (Jvm.Cond.initialized "java/util/Arrays").before a0 Z = true := G.1 _ (List.mem_of_getElem? (i := 169) rfl)
theorem w170 {a0 : Array Value} {Z : State} (G : Gl a0 Z) : (Jvm.Cond.code ({ cls := "java/util/Arrays", name := "copyOf", desc := "([Ljava/lang/Object;I)[Ljava/lang/Object;" } : Jvm.MethodName) jdk_65_method_119_code (2 : Nat) (Option.some (Jvm.ClassFile.FieldType.array (Jvm.ClassFile.FieldType.object "java/lang/Object")))).before a0 Z = true := G.1 _ (List.mem_of_getElem? (i := 170) rfl)
theorem w171 {a0 : Array Value} {Z : State} (G : Gl a0 Z) : (Jvm.Cond.methodLink "java/util/Arrays" (86 : Nat) ({ cls := "java/lang/Object", name := "getClass", desc := "()Ljava/lang/Class;" } : Jvm.MethodName)).before a0 Z = true := G.1 _ (List.mem_of_getElem? (i := 171) rfl)
theorem w172 {a0 : Array Value} {Z : State} (G : Gl a0 Z) : (Jvm.Cond.declares ({ cls := "java/lang/Object", name := "getClass", desc := "()Ljava/lang/Class;" } : Jvm.MethodName)).before a0 Z = true := G.1 _ (List.mem_of_getElem? (i := 172) rfl)
theorem w173 {a0 : Array Value} {Z : State} (G : Gl a0 Z) : (Jvm.Cond.instanceMethod ({ cls := "java/lang/Object", name := "getClass", desc := "()Ljava/lang/Class;" } : Jvm.MethodName)).before a0 Z = true := G.1 _ (List.mem_of_getElem? (i := 173) rfl)
theorem w174 {a0 : Array Value} {Z : State} (G : Gl a0 Z) : (Jvm.Cond.selects "[Ljava/lang/Object;" ({ cls := "java/lang/Object", name := "getClass", desc := "()Ljava/lang/Class;" } : Jvm.MethodName) ({ cls := "java/lang/Object", name := "getClass", desc := "()Ljava/lang/Class;" } : Jvm.MethodName)).before a0 Z = true := G.1 _ (List.mem_of_getElem? (i := 174) rfl)
theorem w175 {a0 : Array Value} {Z : State} (G : Gl a0 Z) : (Jvm.Cond.native ({ cls := "java/lang/Object", name := "getClass", desc := "()Ljava/lang/Class;" } : Jvm.MethodName)).before a0 Z = true := G.1 _ (List.mem_of_getElem? (i := 175) rfl)
theorem w177 {a0 : Array Value} {Z : State} (G : Gl a0 Z) : (Jvm.Cond.methodLink "java/util/Arrays" (300 : Nat) ({ cls := "java/util/Arrays", name := "copyOf", desc := "([Ljava/lang/Object;ILjava/lang/Class;)[Ljava/lang/Object;" } : Jvm.MethodName)).before a0 Z = true := G.1 _ (List.mem_of_getElem? (i := 177) rfl)
theorem w178 {a0 : Array Value} {Z : State} (G : Gl a0 Z) : (Jvm.Cond.static ({ cls := "java/util/Arrays", name := "copyOf", desc := "([Ljava/lang/Object;ILjava/lang/Class;)[Ljava/lang/Object;" } : Jvm.MethodName)).before a0 Z = true := G.1 _ (List.mem_of_getElem? (i := 178) rfl)
theorem w179 {a0 : Array Value} {Z : State} (G : Gl a0 Z) : (Jvm.Cond.code ({ cls := "java/util/Arrays", name := "copyOf", desc := "([Ljava/lang/Object;ILjava/lang/Class;)[Ljava/lang/Object;" } : Jvm.MethodName) jdk_65_method_120_code (4 : Nat) (Option.some (Jvm.ClassFile.FieldType.array (Jvm.ClassFile.FieldType.object "java/lang/Object")))).before a0 Z = true := G.1 _ (List.mem_of_getElem? (i := 179) rfl)
theorem w180 {a0 : Array Value} {Z : State} (G : Gl a0 Z) : (Jvm.Cond.classLink "java/util/Arrays" (110 : Nat) "[Ljava/lang/Object;").before a0 Z = true := G.1 _ (List.mem_of_getElem? (i := 180) rfl)
theorem w181 {a0 : Array Value} {Z : State} (G : Gl a0 Z) : (Jvm.Cond.classLink "java/util/Arrays" (2 : Nat) "java/lang/Object").before a0 Z = true := G.1 _ (List.mem_of_getElem? (i := 181) rfl)
theorem w182 {a0 : Array Value} {Z : State} (G : Gl a0 Z) : (Jvm.Cond.methodLink "java/util/Arrays" (304 : Nat) ({ cls := "java/lang/Math", name := "min", desc := "(II)I" } : Jvm.MethodName)).before a0 Z = true := G.1 _ (List.mem_of_getElem? (i := 182) rfl)
theorem w183 {a0 : Array Value} {Z : State} (G : Gl a0 Z) : (Jvm.Cond.static ({ cls := "java/lang/Math", name := "min", desc := "(II)I" } : Jvm.MethodName)).before a0 Z = true := G.1 _ (List.mem_of_getElem? (i := 183) rfl)
theorem w184 {a0 : Array Value} {Z : State} (G : Gl a0 Z) : (Jvm.Cond.code ({ cls := "java/lang/Math", name := "min", desc := "(II)I" } : Jvm.MethodName) jdk_29_method_69_code (2 : Nat) (Option.some Jvm.ClassFile.FieldType.int)).before a0 Z = true := G.1 _ (List.mem_of_getElem? (i := 184) rfl)
theorem w185 {a0 : Array Value} {Z : State} (G : Gl a0 Z) : (Jvm.Cond.methodLink "java/util/Arrays" (150 : Nat) ({ cls := "java/lang/System", name := "arraycopy", desc := "(Ljava/lang/Object;ILjava/lang/Object;II)V" } : Jvm.MethodName)).before a0 Z = true := G.1 _ (List.mem_of_getElem? (i := 185) rfl)
theorem w186 {a0 : Array Value} {Z : State} (G : Gl a0 Z) : (Jvm.Cond.static ({ cls := "java/lang/System", name := "arraycopy", desc := "(Ljava/lang/Object;ILjava/lang/Object;II)V" } : Jvm.MethodName)).before a0 Z = true := G.1 _ (List.mem_of_getElem? (i := 186) rfl)
theorem w187 {a0 : Array Value} {Z : State} (G : Gl a0 Z) : (Jvm.Cond.initialized "java/lang/System").before a0 Z = true := G.1 _ (List.mem_of_getElem? (i := 187) rfl)
theorem w188 {a0 : Array Value} {Z : State} (G : Gl a0 Z) : (Jvm.Cond.native ({ cls := "java/lang/System", name := "arraycopy", desc := "(Ljava/lang/Object;ILjava/lang/Object;II)V" } : Jvm.MethodName)).before a0 Z = true := G.1 _ (List.mem_of_getElem? (i := 188) rfl)
theorem w189 {a0 : Array Value} {Z : State} (G : Gl a0 Z) : (Jvm.Cond.methodLink "java/util/ArrayList" (112 : Nat) ({ cls := "java/lang/System", name := "arraycopy", desc := "(Ljava/lang/Object;ILjava/lang/Object;II)V" } : Jvm.MethodName)).before a0 Z = true := G.1 _ (List.mem_of_getElem? (i := 189) rfl)
theorem d25_0 : D1 jdk_38_method_41_code 0 (.aload_n 1) 1 1 := ⟨by decide +kernel, rfl⟩
theorem d25_1 : D1 jdk_38_method_41_code 1 (.invokeinterface 42 1) 5 6 := ⟨by decide +kernel, rfl⟩
theorem d25_6 : D1 jdk_38_method_41_code 6 (.astore_n 2) 1 7 := ⟨by decide +kernel, rfl⟩
theorem d25_7 : D1 jdk_38_method_41_code 7 (.aload_n 0) 1 8 := ⟨by decide +kernel, rfl⟩
theorem d25_8 : D1 jdk_38_method_41_code 8 (.dup) 1 9 := ⟨by decide +kernel, rfl⟩
theorem d25_9 : D1 jdk_38_method_41_code 9 (.getfield 63) 3 12 := ⟨by decide +kernel, rfl⟩
theorem d25_12 : D1 jdk_38_method_41_code 12 (.iconst 1) 1 13 := ⟨by decide +kernel, rfl⟩
theorem d25_13 : D1 jdk_38_method_41_code 13 (.iadd) 1 14 := ⟨by decide +kernel, rfl⟩
theorem d25_14 : D1 jdk_38_method_41_code 14 (.putfield 63) 3 17 := ⟨by decide +kernel, rfl⟩
theorem d25_17 : D1 jdk_38_method_41_code 17 (.aload_n 2) 1 18 := ⟨by decide +kernel, rfl⟩
theorem d25_18 : D1 jdk_38_method_41_code 18 (.arraylength) 1 19 := ⟨by decide +kernel, rfl⟩
theorem d25_19 : D1 jdk_38_method_41_code 19 (.istore_n 3) 1 20 := ⟨by decide +kernel, rfl⟩
theorem d25_20 : D1 jdk_38_method_41_code 20 (.iload_n 3) 1 21 := ⟨by decide +kernel, rfl⟩
theorem d25_21 : D1 jdk_38_method_41_code 21 (.ifCond .ne 5) 3 24 := ⟨by decide +kernel, rfl⟩
theorem d25_26 : D1 jdk_38_method_41_code 26 (.iload_n 3) 1 27 := ⟨by decide +kernel, rfl⟩
theorem d25_27 : D1 jdk_38_method_41_code 27 (.aload_n 0) 1 28 := ⟨by decide +kernel, rfl⟩
theorem d25_28 : D1 jdk_38_method_41_code 28 (.getfield 9) 3 31 := ⟨by decide +kernel, rfl⟩
theorem d25_31 : D1 jdk_38_method_41_code 31 (.dup) 1 32 := ⟨by decide +kernel, rfl⟩
theorem d25_32 : D1 jdk_38_method_41_code 32 (.astore 4) 2 34 := ⟨by decide +kernel, rfl⟩
theorem d25_34 : D1 jdk_38_method_41_code 34 (.arraylength) 1 35 := ⟨by decide +kernel, rfl⟩
theorem d25_35 : D1 jdk_38_method_41_code 35 (.aload_n 0) 1 36 := ⟨by decide +kernel, rfl⟩
theorem d25_36 : D1 jdk_38_method_41_code 36 (.getfield 48) 3 39 := ⟨by decide +kernel, rfl⟩
theorem d25_39 : D1 jdk_38_method_41_code 39 (.dup) 1 40 := ⟨by decide +kernel, rfl⟩
theorem d25_40 : D1 jdk_38_method_41_code 40 (.istore 5) 2 42 := ⟨by decide +kernel, rfl⟩
theorem d25_42 : D1 jdk_38_method_41_code 42 (.isub) 1 43 := ⟨by decide +kernel, rfl⟩
theorem d25_43 : D1 jdk_38_method_41_code 43 (.if_icmp .le 13) 3 46 := ⟨by decide +kernel, rfl⟩
theorem d25_56 : D1 jdk_38_method_41_code 56 (.aload_n 2) 1 57 := ⟨by decide +kernel, rfl⟩
theorem d25_57 : D1 jdk_38_method_41_code 57 (.iconst 0) 1 58 := ⟨by decide +kernel, rfl⟩
theorem d25_58 : D1 jdk_38_method_41_code 58 (.aload 4) 2 60 := ⟨by decide +kernel, rfl⟩
theorem d25_60 : D1 jdk_38_method_41_code 60 (.iload 5) 2 62 := ⟨by decide +kernel, rfl⟩
theorem d25_62 : D1 jdk_38_method_41_code 62 (.iload_n 3) 1 63 := ⟨by decide +kernel, rfl⟩
theorem d25_63 : D1 jdk_38_method_41_code 63 (.invokestatic 112) 3 66 := ⟨by decide +kernel, rfl⟩
theorem d25_66 : D1 jdk_38_method_41_code 66 (.aload_n 0) 1 67 := ⟨by decide +kernel, rfl⟩
theorem d25_67 : D1 jdk_38_method_41_code 67 (.iload 5) 2 69 := ⟨by decide +kernel, rfl⟩
theorem d25_69 : D1 jdk_38_method_41_code 69 (.iload_n 3) 1 70 := ⟨by decide +kernel, rfl⟩
theorem d25_70 : D1 jdk_38_method_41_code 70 (.iadd) 1 71 := ⟨by decide +kernel, rfl⟩
theorem d25_71 : D1 jdk_38_method_41_code 71 (.putfield 48) 3 74 := ⟨by decide +kernel, rfl⟩
theorem d25_74 : D1 jdk_38_method_41_code 74 (.iconst 1) 1 75 := ⟨by decide +kernel, rfl⟩
theorem d25_75 : D1 jdk_38_method_41_code 75 (.ireturn) 1 76 := ⟨by decide +kernel, rfl⟩
theorem d26_0 : D1 jdk_38_method_16_code 0 (.aload_n 0) 1 1 := ⟨by decide +kernel, rfl⟩
theorem d26_1 : D1 jdk_38_method_16_code 1 (.getfield 9) 3 4 := ⟨by decide +kernel, rfl⟩
theorem d26_4 : D1 jdk_38_method_16_code 4 (.aload_n 0) 1 5 := ⟨by decide +kernel, rfl⟩
theorem d26_5 : D1 jdk_38_method_16_code 5 (.getfield 48) 3 8 := ⟨by decide +kernel, rfl⟩
theorem d26_8 : D1 jdk_38_method_16_code 8 (.invokestatic 66) 3 11 := ⟨by decide +kernel, rfl⟩
theorem d26_11 : D1 jdk_38_method_16_code 11 (.areturn) 1 12 := ⟨by decide +kernel, rfl⟩
theorem d27_0 : D1 jdk_65_method_119_code 0 (.aload_n 0) 1 1 := ⟨by decide +kernel, rfl⟩
theorem d27_1 : D1 jdk_65_method_119_code 1 (.iload_n 1) 1 2 := ⟨by decide +kernel, rfl⟩
theorem d27_2 : D1 jdk_65_method_119_code 2 (.aload_n 0) 1 3 := ⟨by decide +kernel, rfl⟩
theorem d27_3 : D1 jdk_65_method_119_code 3 (.invokevirtual 86) 3 6 := ⟨by decide +kernel, rfl⟩
theorem d27_6 : D1 jdk_65_method_119_code 6 (.invokestatic 300) 3 9 := ⟨by decide +kernel, rfl⟩
theorem d27_9 : D1 jdk_65_method_119_code 9 (.areturn) 1 10 := ⟨by decide +kernel, rfl⟩
theorem d28_0 : D1 jdk_65_method_120_code 0 (.aload_n 2) 1 1 := ⟨by decide +kernel, rfl⟩
theorem d28_1 : D1 jdk_65_method_120_code 1 (.ldc 110) 2 3 := ⟨by decide +kernel, rfl⟩
theorem d28_3 : D1 jdk_65_method_120_code 3 (.if_acmp .ne 10) 3 6 := ⟨by decide +kernel, rfl⟩
theorem d28_6 : D1 jdk_65_method_120_code 6 (.iload_n 1) 1 7 := ⟨by decide +kernel, rfl⟩
theorem d28_7 : D1 jdk_65_method_120_code 7 (.anewarray 2) 3 10 := ⟨by decide +kernel, rfl⟩
theorem d28_10 : D1 jdk_65_method_120_code 10 (.goto 14) 3 13 := ⟨by decide +kernel, rfl⟩
theorem d28_24 : D1 jdk_65_method_120_code 24 (.astore_n 3) 1 25 := ⟨by decide +kernel, rfl⟩
theorem d28_25 : D1 jdk_65_method_120_code 25 (.aload_n 0) 1 26 := ⟨by decide +kernel, rfl⟩
theorem d28_26 : D1 jdk_65_method_120_code 26 (.iconst 0) 1 27 := ⟨by decide +kernel, rfl⟩
theorem d28_27 : D1 jdk_65_method_120_code 27 (.aload_n 3) 1 28 := ⟨by decide +kernel, rfl⟩
theorem d28_28 : D1 jdk_65_method_120_code 28 (.iconst 0) 1 29 := ⟨by decide +kernel, rfl⟩
theorem d28_29 : D1 jdk_65_method_120_code 29 (.aload_n 0) 1 30 := ⟨by decide +kernel, rfl⟩
theorem d28_30 : D1 jdk_65_method_120_code 30 (.arraylength) 1 31 := ⟨by decide +kernel, rfl⟩
theorem d28_31 : D1 jdk_65_method_120_code 31 (.iload_n 1) 1 32 := ⟨by decide +kernel, rfl⟩
theorem d28_32 : D1 jdk_65_method_120_code 32 (.invokestatic 304) 3 35 := ⟨by decide +kernel, rfl⟩
theorem d28_35 : D1 jdk_65_method_120_code 35 (.invokestatic 150) 3 38 := ⟨by decide +kernel, rfl⟩
theorem d28_38 : D1 jdk_65_method_120_code 38 (.aload_n 3) 1 39 := ⟨by decide +kernel, rfl⟩
theorem d28_39 : D1 jdk_65_method_120_code 39 (.areturn) 1 40 := ⟨by decide +kernel, rfl⟩
theorem d29_0 : D1 jdk_29_method_69_code 0 (.iload_n 0) 1 1 := ⟨by decide +kernel, rfl⟩
theorem d29_1 : D1 jdk_29_method_69_code 1 (.iload_n 1) 1 2 := ⟨by decide +kernel, rfl⟩
theorem d29_2 : D1 jdk_29_method_69_code 2 (.if_icmp .gt 7) 3 5 := ⟨by decide +kernel, rfl⟩
theorem d29_5 : D1 jdk_29_method_69_code 5 (.iload_n 0) 1 6 := ⟨by decide +kernel, rfl⟩
theorem d29_6 : D1 jdk_29_method_69_code 6 (.goto 4) 3 9 := ⟨by decide +kernel, rfl⟩
theorem d29_9 : D1 jdk_29_method_69_code 9 (.iload_n 1) 1 10 := ⟨by decide +kernel, rfl⟩
theorem d29_10 : D1 jdk_29_method_69_code 10 (.ireturn) 1 11 := ⟨by decide +kernel, rfl⟩
theorem pd11 : parseMethodDescriptor "([Ljava/lang/Object;ILjava/lang/Class;)[Ljava/lang/Object;" = some ⟨[(.array (.object "java/lang/Object")), .int, (.object "java/lang/Class")], some (.array (.object "java/lang/Object"))⟩ := by decide +kernel
theorem pd12 : parseMethodDescriptor "([Ljava/lang/Object;I)[Ljava/lang/Object;" = some ⟨[(.array (.object "java/lang/Object")), .int], some (.array (.object "java/lang/Object"))⟩ := by decide +kernel
set_option maxRecDepth 65536 in
set_option maxHeartbeats 4000000 in
theorem m_min (l : Launch) {Z : State} {a0 : Array Value} (G : Gl a0 Z) {L : List Ent} (x y : Int32) : Ct WD EL0 l Z (⟨"java/lang/Math", "min", "(II)I"⟩ : MethodName) jdk_29_method_69_code 2 (some .int) ({ frames := 0, cells := 0, slots := 0, locals := 0 } : Room) #[.int x, .int y] L (rvQ (fun v M => v = .int (if y < x then y else x) ∧ M = L)) := by
  refine Ct.intro (by decide +kernel) G.2.1 ?_
  intro p e s m below meth c X
  replace X : Cx WD EL0 p Z s m meth c "java/lang/Math" "min" jdk_29_method_69_code 2 (some .int) := X
  refine Go.cast (g' := mkF m 0 #[.val (.int x), .val (.int y)] []) (by first | rfl | (simp [entryFrame, mkF, argsToLocals, Value.category, maxLocals]; done)) ?_
  refine Go.iloadN X d29_0 rfl ?_
  refine Go.iloadN X d29_1 rfl ?_
  refine Go.icmp X d29_2 (pt := 9) ⟨by decide, by decide⟩ ?_ ?_
  · intro q
    refine Go.iloadN X d29_9 rfl ?_
    exact Go.iret X d29_10 (by first | exact Nat.le_of_ble_eq_true rfl | (simp; done) | (simp; omega)) (by first | exact Nat.le_of_ble_eq_true rfl | (simp; done) | (simp; omega)) ⟨by rw [if_pos (show y < x from q)], rfl⟩
  intro q
  refine Go.iloadN X d29_5 rfl ?_
  refine Go.goto X d29_6 (pt := 10) ⟨by decide, by decide⟩ ?_
  exact Go.iret X d29_10 (by first | exact Nat.le_of_ble_eq_true rfl | (simp; done) | (simp; omega)) (by first | exact Nat.le_of_ble_eq_true rfl | (simp; done) | (simp; omega)) ⟨by rw [if_neg (show ¬ y < x from q)], rfl⟩
set_option maxRecDepth 65536 in
set_option maxHeartbeats 4000000 in
theorem l_copy3 (l : Launch) {Z : State} {a0 : Array Value} (G : Gl a0 Z) {L : List Ent} {b : Addr} {K : ClassId} {vs : List Value} {f : Bool} {N cap : Nat} (hb' : (b, (Ar Z (.object "java/lang/Object") K vs), f) ∈ L) (hN : N ≤ vs.length) (hcap : N ≤ cap) (hc2 : cap ≤ 4096) (hX : ∀ v ∈ vs.take N, v = .null ∨ ∃ x, v = .ref x ∧ Cst Z L x "java/lang/Object") {KM : ClassId} {mir : Addr} (hMi : MirC Z "[Ljava/lang/Object;" KM mir) : Ct WD EL0 l Z (⟨"java/util/Arrays", "copyOf", "([Ljava/lang/Object;ILjava/lang/Class;)[Ljava/lang/Object;"⟩ : MethodName) jdk_65_method_120_code 4 (some (.array (.object "java/lang/Object"))) ({ frames := 1, cells := 1, slots := cap, locals := 18 } : Room) #[.ref b, .int (Int32.ofNat N), .ref mir] L (rvQ (fun v M => ∃ d K', v = .ref d ∧ OaC Z K' ∧ M = ow d (Ar Z (.object "java/lang/Object") K' (vs.take N)) :: L)) := by
  refine Ct.intro (by decide +kernel) G.2.1 ?_
  intro p e s m below meth c X
  replace X : Cx WD EL0 p Z s m meth c "java/util/Arrays" "copyOf" jdk_65_method_120_code 4 (some (.array (.object "java/lang/Object"))) := X
  refine Go.cast (g' := mkF m 0 #[.val (.ref b), .val (.int (Int32.ofNat N)), .val (.ref mir), .unset] []) (by first | rfl | (simp [entryFrame, mkF, argsToLocals, Value.category, maxLocals]; done)) ?_
  refine Go.fact (fun h H => len_small H hb') fun hM => ?_
  obtain ⟨n1, n2, n3⟩ := nat32 (i := N) (by omega)
  obtain ⟨m1, m2, m3⟩ := nat32 (i := vs.length) hM
  refine Go.aloadN X d28_0 rfl rfl ?_
  refine Go.ldcM X (w180 G) hMi d28_1 ?_
  refine Go.acmp X d28_3 (pt := 13) ⟨by decide, by decide⟩ (by rfl) (by rfl) ?_ ?_
  · intro q; exact absurd rfl q
  intro _
  refine Go.iloadN X d28_6 rfl ?_
  refine Go.anewF X (N := N) (cap := cap) (w181 G) (w101 G) n2 n3 hcap (by omega) d28_7 (by first | exact Nat.le_of_ble_eq_true rfl | (simp; done) | (simp; omega)) (by first | exact Nat.le_of_ble_eq_true rfl | (simp; done) | (simp; omega)) ?_
  intro d K' O1 O2
  refine Go.goto X d28_10 (pt := 24) ⟨by decide, by decide⟩ ?_
  refine Go.astoreN X d28_24 rfl rfl ?_
  refine Go.aloadN X d28_25 rfl rfl ?_
  refine Go.iconst X (v := 0) d28_26 (by decide) ?_
  refine Go.aloadN X d28_27 rfl rfl ?_
  refine Go.iconst X (v := 0) d28_28 (by decide) ?_
  refine Go.aloadN X d28_29 rfl rfl ?_
  refine Go.alenA X (fun h H => H.lenM (List.mem_cons_of_mem _ hb')) d28_30 ?_
  refine Go.iloadN X d28_31 rfl ?_
  refine Go.callS X (m_min l G vs.length.toInt32 (Int32.ofNat N)) (rest := [.int 0, .ref d, .int 0, .ref b]) (w182 G) (w183 G) (w98 G) (w184 G) (by decide) pd7 rfl rfl d28_32 rfl (by first | exact Nat.le_of_ble_eq_true rfl | (simp; done) | (simp; omega)) (by first | exact Nat.le_of_ble_eq_true rfl | (simp; done) | (simp; omega)) (by first | exact Nat.le_of_ble_eq_true rfl | (simp; done) | (simp; omega)) (by first | exact Nat.le_of_ble_eq_true rfl | (simp; done) | (simp; omega)) (Kv ?_)
  rintro v M ⟨rfl, rfl⟩
  rw [show (if Int32.ofNat N < vs.length.toInt32 then Int32.ofNat N else vs.length.toInt32) = Int32.ofNat N from by
    split
    · rfl
    · rename_i q
      have q : ¬ (Int32.ofNat N).toInt < (Int32.ofNat vs.length).toInt := fun z => q (Int32.lt_iff_toInt_lt.mpr z)
      rw [n1, m1] at q
      show Int32.ofNat vs.length = _
      rw [show vs.length = N by omega]]
  refine Go.acopyR X (w185 G) (w188 G) (w186 G) (w187 G) (j := 0) (sN := 0) (dN := 0) (nN := N) (r := vs.take N) rfl (List.mem_cons_of_mem _ hb') rfl rfl (fun h H v hv => by
    rw [take_range hN] at hv
    rcases hX v hv with rfl | ⟨x, rfl, hx⟩
    · exact Or.inl rfl
    · exact H.sto (i := 0) rfl O1 (hx.up.ins H)) (by decide) (by decide) n2 rfl rfl n3 (by omega) (by simp) (by rw [take_range hN]; simp) d28_35 rfl (by first | exact Nat.le_of_ble_eq_true rfl | (simp; done) | (simp; omega)) (by first | exact Nat.le_of_ble_eq_true rfl | (simp; done) | (simp; omega)) ?_
  refine Go.aloadN X d28_38 rfl rfl ?_
  exact Go.aret X d28_39 (by rfl) (by rfl) (by rfl) (by first | exact Nat.le_of_ble_eq_true rfl | (simp; done) | (simp; omega)) (by first | exact Nat.le_of_ble_eq_true rfl | (simp; done) | (simp; omega)) ⟨d, K', rfl, ⟨O1, O2⟩, rfl⟩
set_option maxRecDepth 65536 in
set_option maxHeartbeats 4000000 in
theorem l_copy2 (l : Launch) {Z : State} {a0 : Array Value} (G : Gl a0 Z) {L : List Ent} {b : Addr} {K : ClassId} {vs : List Value} {f : Bool} {N cap : Nat} (hb' : (b, (Ar Z (.object "java/lang/Object") K vs), f) ∈ L) (hN : N ≤ vs.length) (hcap : N ≤ cap) (hc2 : cap ≤ 4096) (hX : ∀ v ∈ vs.take N, v = .null ∨ ∃ x, v = .ref x ∧ Cst Z L x "java/lang/Object") (hK : Z.vm.findClass "[Ljava/lang/Object;" = some K) : Ct WD EL0 l Z (⟨"java/util/Arrays", "copyOf", "([Ljava/lang/Object;I)[Ljava/lang/Object;"⟩ : MethodName) jdk_65_method_119_code 2 (some (.array (.object "java/lang/Object"))) ({ frames := 2, cells := 1, slots := cap, locals := 33 } : Room) #[.ref b, .int (Int32.ofNat N)] L (rvQ (fun v M => ∃ d K', v = .ref d ∧ OaC Z K' ∧ M = ow d (Ar Z (.object "java/lang/Object") K' (vs.take N)) :: L)) := by
  refine Ct.intro (by decide +kernel) G.2.1 ?_
  intro p e s m below meth c X
  replace X : Cx WD EL0 p Z s m meth c "java/util/Arrays" "copyOf" jdk_65_method_119_code 2 (some (.array (.object "java/lang/Object"))) := X
  refine Go.cast (g' := mkF m 0 #[.val (.ref b), .val (.int (Int32.ofNat N))] []) (by first | rfl | (simp [entryFrame, mkF, argsToLocals, Value.category, maxLocals]; done)) ?_
  obtain ⟨KM, mir, hMi⟩ := g_mi G
  obtain rfl : K = KM := Option.some.inj (hK.symm.trans hMi.1)
  refine Go.aloadN X d27_0 rfl rfl ?_
  refine Go.iloadN X d27_1 rfl ?_
  refine Go.aloadN X d27_2 rfl rfl ?_
  refine Go.getcls X (w171 G) (w172 G) (nfS (w174 G)) (w174 G) (w173 G) (w175 G) hMi (fun h H => H.arC hb') d27_3 rfl (by first | exact Nat.le_of_ble_eq_true rfl | (simp; done) | (simp; omega)) (by first | exact Nat.le_of_ble_eq_true rfl | (simp; done) | (simp; omega)) ?_
  refine Go.callS X (l_copy3 l G hb' hN hcap hc2 hX hMi) (rest := []) (w177 G) (w178 G) (w169 G) (w179 G) (by decide) pd11 rfl rfl d27_6 rfl (by first | exact Nat.le_of_ble_eq_true rfl | (simp; done) | (simp; omega)) (by first | exact Nat.le_of_ble_eq_true rfl | (simp; done) | (simp; omega)) (by first | exact Nat.le_of_ble_eq_true rfl | (simp; done) | (simp; omega)) (by first | exact Nat.le_of_ble_eq_true rfl | (simp; done) | (simp; omega)) (Kv ?_)
  rintro v M ⟨d, K', rfl, O, rfl⟩
  exact Go.aret X d27_9 (by rfl) (by rfl) (by rfl) (by first | exact Nat.le_of_ble_eq_true rfl | (simp; done) | (simp; omega)) (by first | exact Nat.le_of_ble_eq_true rfl | (simp; done) | (simp; omega)) ⟨d, K', rfl, O, rfl⟩
set_option maxRecDepth 65536 in
set_option maxHeartbeats 4000000 in
theorem l_toarr (l : Launch) {Z : State} {a0 : Array Value} (G : Gl a0 Z) {L : List Ent} {b : Addr} {K : ClassId} {vs : List Value} {f : Bool} {N cap : Nat} (hb' : (b, (Ar Z (.object "java/lang/Object") K vs), f) ∈ L) (hN : N ≤ vs.length) (hcap : N ≤ cap) (hc2 : cap ≤ 4096) (hX : ∀ v ∈ vs.take N, v = .null ∨ ∃ x, v = .ref x ∧ Cst Z L x "java/lang/Object") (hK : Z.vm.findClass "[Ljava/lang/Object;" = some K) {a : Addr} {y : Int32} {fa : Bool} (ha : (a, (Ob Z "java/util/ArrayList" ns2 [.int y, .ref b, .int (Int32.ofNat N)]), fa) ∈ L) : Ct WD EL0 l Z (⟨"java/util/ArrayList", "toArray", "()[Ljava/lang/Object;"⟩ : MethodName) jdk_38_method_16_code 1 (some (.array (.object "java/lang/Object"))) ({ frames := 3, cells := 1, slots := cap, locals := 46 } : Room) #[.ref a] L (rvQ (fun v M => ∃ d K', v = .ref d ∧ OaC Z K' ∧ M = ow d (Ar Z (.object "java/lang/Object") K' (vs.take N)) :: L)) := by
  refine Ct.intro (by decide +kernel) G.2.1 ?_
  intro p e s m below meth c X
  replace X : Cx WD EL0 p Z s m meth c "java/util/ArrayList" "toArray" jdk_38_method_16_code 1 (some (.array (.object "java/lang/Object"))) := X
  refine Go.cast (g' := mkF m 0 #[.val (.ref a)] []) (by first | rfl | (simp [entryFrame, mkF, argsToLocals, Value.category, maxLocals]; done)) ?_
  obtain ⟨ia, hia⟩ := List.getElem?_of_mem ha
  refine Go.aloadN X d26_0 rfl rfl ?_
  refine Go.getFld X (w66 G) Via.refl (fun h H => H.fld (i := ia) hia (j := 1) rfl rfl) d26_1 ?_
  refine Go.aloadN X d26_4 rfl rfl ?_
  refine Go.getFld X (w79 G) Via.refl (fun h H => H.fld (i := ia) hia (j := 2) rfl rfl) d26_5 ?_
  refine Go.callS X (l_copy2 l G hb' hN hcap hc2 hX hK) (rest := []) (w167 G) (w168 G) (w169 G) (w170 G) (by decide) pd12 rfl rfl d26_8 rfl (by first | exact Nat.le_of_ble_eq_true rfl | (simp; done) | (simp; omega)) (by first | exact Nat.le_of_ble_eq_true rfl | (simp; done) | (simp; omega)) (by first | exact Nat.le_of_ble_eq_true rfl | (simp; done) | (simp; omega)) (by first | exact Nat.le_of_ble_eq_true rfl | (simp; done) | (simp; omega)) (Kv ?_)
  rintro v M ⟨d, K', rfl, O, rfl⟩
  exact Go.aret X d26_11 (by rfl) (by rfl) (by rfl) (by first | exact Nat.le_of_ble_eq_true rfl | (simp; done) | (simp; omega)) (by first | exact Nat.le_of_ble_eq_true rfl | (simp; done) | (simp; omega)) ⟨d, K', rfl, O, rfl⟩
set_option maxRecDepth 65536 in
set_option maxHeartbeats 4000000 in
theorem l_addAll (l : Launch) {Z : State} {a0 : Array Value} (G : Gl a0 Z) {L : List Ent} {b : Addr} {K : ClassId} {vs : List Value} {f : Bool} {N cap : Nat} (hb' : (b, (Ar Z (.object "java/lang/Object") K vs), f) ∈ L) (hN : N ≤ vs.length) (hN0 : 0 < N) (hcap : N ≤ cap) (hc2 : cap ≤ 4096) (hX : ∀ v ∈ vs.take N, v = .null ∨ ∃ x, v = .ref x ∧ Cst Z L x "java/lang/Object") (hK : Z.vm.findClass "[Ljava/lang/Object;" = some K) {a : Addr} {y : Int32} {fa : Bool} (ha : (a, (Ob Z "java/util/ArrayList" ns2 [.int y, .ref b, .int (Int32.ofNat N)]), fa) ∈ L) {t b2 : Addr} {K2 : ClassId} {vd : List Value} {w : Int32} {M0 : Nat} (hM0 : M0 + N ≤ vd.length) (O2 : OaC Z K2) : Ct WD EL0 l Z (⟨"java/util/ArrayList", "addAll", "(Ljava/util/Collection;)Z"⟩ : MethodName) jdk_38_method_41_code 6 (some .boolean) ({ frames := 4, cells := 1, slots := cap, locals := 58 } : Room) #[.ref t, .ref a] (ow t (Ob Z "java/util/ArrayList" ns2 [.int w, .ref b2, .int (Int32.ofNat M0)]) :: ow b2 (Ar Z (.object "java/lang/Object") K2 vd) :: L) (rvQ (fun v M => v = .int 1 ∧ ∃ d K', OaC Z K' ∧ M = ow d (Ar Z (.object "java/lang/Object") K' (vs.take N)) :: ow t (Ob Z "java/util/ArrayList" ns2 [.int (w + 1), .ref b2, .int (Int32.ofNat (M0 + N))]) :: ow b2 (Ar Z (.object "java/lang/Object") K2 (vd.take M0 ++ vs.take N ++ vd.drop (M0 + N))) :: L)) := by
  refine Ct.intro (by decide +kernel) G.2.1 ?_
  intro p e s m below meth c X
  replace X : Cx WD EL0 p Z s m meth c "java/util/ArrayList" "addAll" jdk_38_method_41_code 6 (some .boolean) := X
  refine Go.cast (g' := mkF m 0 #[.val (.ref t), .val (.ref a), .unset, .unset, .unset, .unset] []) (by first | rfl | (simp [entryFrame, mkF, argsToLocals, Value.category, maxLocals]; done)) ?_
  refine Go.fact (fun h H => len_small H (List.mem_of_getElem? (i := 1) rfl)) fun hM => ?_
  obtain ⟨n1, n2, n3⟩ := nat32 (i := N) (by omega)
  obtain ⟨m1, m2, m3⟩ := nat32 (i := M0) (by omega)
  obtain ⟨v1, v2, v3⟩ := nat32 (i := vd.length) hM
  obtain ⟨u1, u2, u3⟩ := nat32 (i := vd.length - M0) (by omega)
  refine Go.aloadN X d25_0 rfl rfl ?_
  refine Go.callN X (fun h H => H.exaM (List.mem_cons_of_mem _ (List.mem_cons_of_mem _ ha)) (fun c q => ⟨_, _, q⟩)) (l_toarr l G (L := ow t (Ob Z "java/util/ArrayList" ns2 [.int w, .ref b2, .int (Int32.ofNat M0)]) :: ow b2 (Ar Z (.object "java/lang/Object") K2 vd) :: L) (vs := vs) (List.mem_cons_of_mem _ (List.mem_cons_of_mem _ hb')) hN hcap hc2 (fun v hv => (hX v hv).imp id fun ⟨x, e, q⟩ => ⟨x, e, q.up.up⟩) hK (List.mem_cons_of_mem _ (List.mem_cons_of_mem _ ha))) (rest := []) (w158 G) (w159 G) (by decide +kernel) (w160 G) (w161 G) (w162 G) (w163 G) (w164 G) (w165 G) (w46 G) (w166 G) (by decide) pd9 rfl rfl d25_1 rfl (by first | exact Nat.le_of_ble_eq_true rfl | (simp; done) | (simp; omega)) (by first | exact Nat.le_of_ble_eq_true rfl | (simp; done) | (simp; omega)) (by first | exact Nat.le_of_ble_eq_true rfl | (simp; done) | (simp; omega)) (by first | exact Nat.le_of_ble_eq_true rfl | (simp; done) | (simp; omega)) (Kv ?_)
  rintro v M ⟨d, K', rfl, O, rfl⟩
  refine Go.astoreN X d25_6 rfl rfl ?_
  refine Go.aloadN X d25_7 rfl rfl ?_
  refine Go.dup X d25_8 rfl ?_
  refine Go.getFld X (w77 G) (Via.of (w78 G)) (fun h H => H.fld (i := 1) rfl (j := 0) rfl rfl) d25_9 ?_
  refine Go.iconst X (v := 1) d25_12 (by decide) ?_
  refine Go.iadd X d25_13 ?_
  refine Go.putFld X (i := 1) rfl (j := 0) rfl (lay2 G) (w77 G) (Via.of (w78 G)) (Or.inl (w64 G)) (w45 G) pf2 d25_14 (by rfl) (by rfl) ?_
  refine Go.aloadN X d25_17 rfl rfl ?_
  refine Go.alenA X (fun h H => H.len (i := 0) rfl) d25_18 ?_
  rw [show (vs.take N).length.toInt32 = Int32.ofNat N from by rw [List.length_take, Nat.min_eq_left hN]]
  refine Go.istoreN X d25_19 rfl ?_
  refine Go.iloadN X d25_20 rfl ?_
  refine Go.ifc X d25_21 (pt := 26) ⟨by decide, by decide⟩ ?_ ?_
  rotate_left
  · intro q
    have q : (N : Int) = 0 := Decidable.of_not_not (ccN (a := (N : Int)) (b := 0) q n1 rfl)
    omega
  intro _
  refine Go.iloadN X d25_26 rfl ?_
  refine Go.aloadN X d25_27 rfl rfl ?_
  refine Go.getFld X (w66 G) Via.refl (fun h H => H.fld (i := 1) rfl (j := 1) rfl rfl) d25_28 ?_
  refine Go.dup X d25_31 rfl ?_
  refine Go.astore X d25_32 rfl rfl ?_
  refine Go.alenA X (fun h H => H.len (i := 2) rfl) d25_34 ?_
  refine Go.aloadN X d25_35 rfl rfl ?_
  refine Go.getFld X (w79 G) Via.refl (fun h H => H.fld (i := 1) rfl (j := 2) rfl rfl) d25_36 ?_
  refine Go.dup X d25_39 rfl ?_
  refine Go.istore X d25_40 rfl ?_
  refine Go.isub X d25_42 ?_
  rw [show vd.length.toInt32 - Int32.ofNat M0 = Int32.ofNat (vd.length - M0) from by
    apply Int32.toInt_inj.mp
    rw [Int32.toInt_sub, u1, m1, show vd.length.toInt32.toInt = vd.length from v1]
    rw [Int.bmod_eq_of_le (by omega) (by omega)]; omega]
  refine Go.icmp X d25_43 (pt := 56) ⟨by decide, by decide⟩ ?_ ?_
  rotate_left
  · intro q
    have q : ¬ (N : Int) ≤ ((vd.length - M0 : Nat) : Int) := ccN (a := (N : Int)) q n1 u1
    omega
  intro _
  refine Go.aloadN X d25_56 rfl rfl ?_
  refine Go.iconst X (v := 0) d25_57 (by decide) ?_
  refine Go.aload X d25_58 rfl rfl ?_
  refine Go.iload X d25_60 rfl ?_
  refine Go.iloadN X d25_62 rfl ?_
  refine Go.acopyR X (w189 G) (w188 G) (w186 G) (w187 G) (j := 2) (sN := 0) (dN := M0) (nN := N) (r := (vd.take M0 ++ vs.take N ++ vd.drop (M0 + N))) rfl (List.mem_of_getElem? (i := 0) rfl) rfl rfl (fun h H v hv => by
    rw [take_range (by rw [List.length_take]; omega), List.take_take, Nat.min_self] at hv
    rcases hX v hv with rfl | ⟨x, rfl, hx⟩
    · exact Or.inl rfl
    · exact H.sto (i := 2) rfl O2.1 (hx.up.up.up.ins H)) (by decide) m2 n2 rfl m3 n3 (by rw [List.length_take]; omega) hM0 (by rw [take_range (by rw [List.length_take]; omega), List.take_take, Nat.min_self]) d25_63 rfl (by first | exact Nat.le_of_ble_eq_true rfl | (simp; done) | (simp; omega)) (by first | exact Nat.le_of_ble_eq_true rfl | (simp; done) | (simp; omega)) ?_
  refine Go.aloadN X d25_66 rfl rfl ?_
  refine Go.iload X d25_67 rfl ?_
  refine Go.iloadN X d25_69 rfl ?_
  refine Go.iadd X d25_70 ?_
  rw [show Int32.ofNat M0 + Int32.ofNat N = Int32.ofNat (M0 + N) from (Int32.ofNat_add M0 N).symm]
  refine Go.putFld X (i := 1) rfl (j := 2) rfl (lay2 G) (w79 G) Via.refl (Or.inl (w80 G)) (w45 G) pf2 d25_71 (by rfl) (by rfl) ?_
  refine Go.iconst X (v := 1) d25_74 (by decide) ?_
  exact Go.zret X d25_75 (Or.inr rfl) (by first | exact Nat.le_of_ble_eq_true rfl | (simp; done) | (simp; omega)) (by first | exact Nat.le_of_ble_eq_true rfl | (simp; done) | (simp; omega)) ⟨rfl, d, K', O, rfl⟩
-- %%% mk
theorem w4 {a0 : Array Value} {Z : State} (G : Gl a0 Z) : (Jvm.Cond.classLink "com/example/persist/persist/session/OperandBindingsPinLaw" (7 : Nat) "java/lang/String").before a0 Z = true := G.1 _ (List.mem_of_getElem? (i := 4) rfl)
theorem w7 {a0 : Array Value} {Z : State} (G : Gl a0 Z) : (Jvm.Cond.arrayClass Jvm.ClassFile.FieldType.char).before a0 Z = true := G.1 _ (List.mem_of_getElem? (i := 7) rfl)
theorem w8 {a0 : Array Value} {Z : State} (G : Gl a0 Z) : (Jvm.Cond.methodLink "com/example/persist/persist/session/OperandBindingsPinLaw" (9 : Nat) ({ cls := "java/lang/String", name := "<init>", desc := "([C)V" } : Jvm.MethodName)).before a0 Z = true := G.1 _ (List.mem_of_getElem? (i := 8) rfl)
theorem w9 {a0 : Array Value} {Z : State} (G : Gl a0 Z) : (Jvm.Cond.instanceMethod ({ cls := "java/lang/String", name := "<init>", desc := "([C)V" } : Jvm.MethodName)).before a0 Z = true := G.1 _ (List.mem_of_getElem? (i := 9) rfl)
theorem w10 {a0 : Array Value} {Z : State} (G : Gl a0 Z) : (Jvm.Cond.code ({ cls := "java/lang/String", name := "<init>", desc := "([C)V" } : Jvm.MethodName) jdk_42_method_3_code (2 : Nat) (Option.none : Option Jvm.ClassFile.FieldType)).before a0 Z = true := G.1 _ (List.mem_of_getElem? (i := 10) rfl)
theorem d1_0 : D1 method_2_code 0 (.iload_n 0) 1 1 := ⟨by decide +kernel, rfl⟩
theorem d1_1 : D1 method_2_code 1 (.ifCond .ne 14) 3 4 := ⟨by decide +kernel, rfl⟩
theorem d1_4 : D1 method_2_code 4 (.new 7) 3 7 := ⟨by decide +kernel, rfl⟩
theorem d1_7 : D1 method_2_code 7 (.dup) 1 8 := ⟨by decide +kernel, rfl⟩
theorem d1_8 : D1 method_2_code 8 (.iconst 0) 1 9 := ⟨by decide +kernel, rfl⟩
theorem d1_9 : D1 method_2_code 9 (.newarray .char) 2 11 := ⟨by decide +kernel, rfl⟩
theorem d1_11 : D1 method_2_code 11 (.invokespecial 9) 3 14 := ⟨by decide +kernel, rfl⟩
theorem d1_14 : D1 method_2_code 14 (.areturn) 1 15 := ⟨by decide +kernel, rfl⟩
theorem d1_15 : D1 method_2_code 15 (.iload_n 0) 1 16 := ⟨by decide +kernel, rfl⟩
theorem d1_16 : D1 method_2_code 16 (.iconst 1) 1 17 := ⟨by decide +kernel, rfl⟩
theorem d1_17 : D1 method_2_code 17 (.if_icmp .ne 18) 3 20 := ⟨by decide +kernel, rfl⟩
theorem d1_20 : D1 method_2_code 20 (.new 7) 3 23 := ⟨by decide +kernel, rfl⟩
theorem d1_23 : D1 method_2_code 23 (.dup) 1 24 := ⟨by decide +kernel, rfl⟩
theorem d1_24 : D1 method_2_code 24 (.iconst 1) 1 25 := ⟨by decide +kernel, rfl⟩
theorem d1_25 : D1 method_2_code 25 (.newarray .char) 2 27 := ⟨by decide +kernel, rfl⟩
theorem d1_27 : D1 method_2_code 27 (.dup) 1 28 := ⟨by decide +kernel, rfl⟩
theorem d1_28 : D1 method_2_code 28 (.iconst 0) 1 29 := ⟨by decide +kernel, rfl⟩
theorem d1_29 : D1 method_2_code 29 (.iload_n 1) 1 30 := ⟨by decide +kernel, rfl⟩
theorem d1_30 : D1 method_2_code 30 (.castore) 1 31 := ⟨by decide +kernel, rfl⟩
theorem d1_31 : D1 method_2_code 31 (.invokespecial 9) 3 34 := ⟨by decide +kernel, rfl⟩
theorem d1_34 : D1 method_2_code 34 (.areturn) 1 35 := ⟨by decide +kernel, rfl⟩
theorem d1_35 : D1 method_2_code 35 (.iload_n 0) 1 36 := ⟨by decide +kernel, rfl⟩
theorem d1_36 : D1 method_2_code 36 (.iconst 2) 1 37 := ⟨by decide +kernel, rfl⟩
theorem d1_37 : D1 method_2_code 37 (.if_icmp .ne 22) 3 40 := ⟨by decide +kernel, rfl⟩
theorem d1_40 : D1 method_2_code 40 (.new 7) 3 43 := ⟨by decide +kernel, rfl⟩
theorem d1_43 : D1 method_2_code 43 (.dup) 1 44 := ⟨by decide +kernel, rfl⟩
theorem d1_44 : D1 method_2_code 44 (.iconst 2) 1 45 := ⟨by decide +kernel, rfl⟩
theorem d1_45 : D1 method_2_code 45 (.newarray .char) 2 47 := ⟨by decide +kernel, rfl⟩
theorem d1_47 : D1 method_2_code 47 (.dup) 1 48 := ⟨by decide +kernel, rfl⟩
theorem d1_48 : D1 method_2_code 48 (.iconst 0) 1 49 := ⟨by decide +kernel, rfl⟩
theorem d1_49 : D1 method_2_code 49 (.iload_n 1) 1 50 := ⟨by decide +kernel, rfl⟩
theorem d1_50 : D1 method_2_code 50 (.castore) 1 51 := ⟨by decide +kernel, rfl⟩
theorem d1_51 : D1 method_2_code 51 (.dup) 1 52 := ⟨by decide +kernel, rfl⟩
theorem d1_52 : D1 method_2_code 52 (.iconst 1) 1 53 := ⟨by decide +kernel, rfl⟩
theorem d1_53 : D1 method_2_code 53 (.iload_n 2) 1 54 := ⟨by decide +kernel, rfl⟩
theorem d1_54 : D1 method_2_code 54 (.castore) 1 55 := ⟨by decide +kernel, rfl⟩
theorem d1_55 : D1 method_2_code 55 (.invokespecial 9) 3 58 := ⟨by decide +kernel, rfl⟩
theorem d1_58 : D1 method_2_code 58 (.areturn) 1 59 := ⟨by decide +kernel, rfl⟩
theorem d1_59 : D1 method_2_code 59 (.new 7) 3 62 := ⟨by decide +kernel, rfl⟩
theorem d1_62 : D1 method_2_code 62 (.dup) 1 63 := ⟨by decide +kernel, rfl⟩
theorem d1_63 : D1 method_2_code 63 (.iconst 3) 1 64 := ⟨by decide +kernel, rfl⟩
theorem d1_64 : D1 method_2_code 64 (.newarray .char) 2 66 := ⟨by decide +kernel, rfl⟩
theorem d1_66 : D1 method_2_code 66 (.dup) 1 67 := ⟨by decide +kernel, rfl⟩
theorem d1_67 : D1 method_2_code 67 (.iconst 0) 1 68 := ⟨by decide +kernel, rfl⟩
theorem d1_68 : D1 method_2_code 68 (.iload_n 1) 1 69 := ⟨by decide +kernel, rfl⟩
theorem d1_69 : D1 method_2_code 69 (.castore) 1 70 := ⟨by decide +kernel, rfl⟩
theorem d1_70 : D1 method_2_code 70 (.dup) 1 71 := ⟨by decide +kernel, rfl⟩
theorem d1_71 : D1 method_2_code 71 (.iconst 1) 1 72 := ⟨by decide +kernel, rfl⟩
theorem d1_72 : D1 method_2_code 72 (.iload_n 2) 1 73 := ⟨by decide +kernel, rfl⟩
theorem d1_73 : D1 method_2_code 73 (.castore) 1 74 := ⟨by decide +kernel, rfl⟩
theorem d1_74 : D1 method_2_code 74 (.dup) 1 75 := ⟨by decide +kernel, rfl⟩
theorem d1_75 : D1 method_2_code 75 (.iconst 2) 1 76 := ⟨by decide +kernel, rfl⟩
theorem d1_76 : D1 method_2_code 76 (.iload_n 3) 1 77 := ⟨by decide +kernel, rfl⟩
theorem d1_77 : D1 method_2_code 77 (.castore) 1 78 := ⟨by decide +kernel, rfl⟩
theorem d1_78 : D1 method_2_code 78 (.invokespecial 9) 3 81 := ⟨by decide +kernel, rfl⟩
theorem d1_81 : D1 method_2_code 81 (.areturn) 1 82 := ⟨by decide +kernel, rfl⟩
theorem pd13 : parseMethodDescriptor "([C)V" = some ⟨[(.array .char)], none⟩ := by decide +kernel
theorem ch_back : ∀ c : Nat, c < 256 → (Int32.ofNat c).toUInt32.toUInt16.toUInt32.toInt32 = Int32.ofNat c := by decide +kernel
theorem and3 (x : Int32) : ∃ c : Nat, (c = 0 ∨ c = 1 ∨ c = 2 ∨ c = 3) ∧ x &&& 3 = Int32.ofNat c := by
  refine ⟨(x.toBitVec &&& 3#32).toNat, ?_, ?_⟩
  · have : (x.toBitVec &&& 3#32).toNat = x.toBitVec.toNat % 4 := by rw [BitVec.toNat_and]; exact Nat.and_two_pow_sub_one_eq_mod _ 2
    omega
  · apply Int32.toBitVec_inj.mp
    rw [Int32.toBitVec_and]
    apply BitVec.eq_of_toNat_eq
    rw [Int32.toBitVec_ofNat]
    simp
theorem ofNat_ne {c d : Nat} (hc : c < 256) (hd : d < 256) (h : c ≠ d) : Int32.ofNat c ≠ Int32.ofNat d := fun q => h (by
  have e := congrArg Int32.toInt q
  rw [(nat32 (i := c) (by omega)).1, (nat32 (i := d) (by omega)).1] at e
  omega)
set_option maxRecDepth 65536 in
set_option maxHeartbeats 4000000 in
theorem mk_ct (l : Launch) {Z : State} {a0 : Array Value} (G : Gl a0 Z) {L : List Ent} {m0 c1 c2 c3 : Nat} (hm : m0 = 0 ∨ m0 = 1 ∨ m0 = 2 ∨ m0 = 3) (h1 : c1 < 256) (h2 : c2 < 256) (h3 : c3 < 256) : Ct WD EL0 l Z (⟨"com/example/persist/persist/session/OperandBindingsPinLaw", "mk", "(ICCC)Ljava/lang/String;"⟩ : MethodName) method_2_code 4 (some (.object "java/lang/String")) ({ frames := 4, cells := 6, slots := 18, locals := 67 } : Room) #[.int (Int32.ofNat m0), .int (Int32.ofNat c1), .int (Int32.ofNat c2), .int (Int32.ofNat c3)] L (rvQ (fun v M => ∃ s1 p1 ca K Kc f, v = .ref s1 ∧ FcB Z (List.take m0 [c1, c2, c3]) K ∧ M = (p1, Ar Z .byte K (bsOf (List.take m0 [c1, c2, c3])), f) :: ow s1 (StrP Z p1 (List.take m0 [c1, c2, c3])) :: ow ca (Ar Z .char Kc (csOf (List.take m0 [c1, c2, c3]))) :: L)) := by
  refine Ct.intro (by decide +kernel) G.2.1 ?_
  intro p e s m below meth c X
  replace X : Cx WD EL0 p Z s m meth c "com/example/persist/persist/session/OperandBindingsPinLaw" "mk" method_2_code 4 (some (.object "java/lang/String")) := X
  refine Go.cast (g' := mkF m 0 #[.val (.int (Int32.ofNat m0)), .val (.int (Int32.ofNat c1)), .val (.int (Int32.ofNat c2)), .val (.int (Int32.ofNat c3))] []) (by first | rfl | (simp [entryFrame, mkF, argsToLocals, Value.category, maxLocals]; done)) ?_
  rcases hm with rfl | rfl | rfl | rfl
  · refine Go.iloadN X d1_0 rfl ?_
    refine Go.ifc X d1_1 (pt := 15) ⟨by decide, by decide⟩ ?_ ?_
    · intro q; exact absurd (show (Int32.ofNat 0) = 0 by decide) q
    intro _
    refine Go.new X (w4 G) (w5 G) (w6 G) (lay0 G) df0 d1_4 (by first | exact Nat.le_of_ble_eq_true rfl | (simp; done) | (simp; omega)) (by first | exact Nat.le_of_ble_eq_true rfl | (simp; done) | (simp; omega)) ?_
    intro s1
    refine Go.dup X d1_7 rfl ?_
    refine Go.iconst X (v := 0) d1_8 (by decide) ?_
    refine Go.newarr X (aty := .char) (N := 0) (cap := 3) (w7 G) (by decide) (by decide) (by decide) (by decide) d1_9 (by first | exact Nat.le_of_ble_eq_true rfl | (simp; done) | (simp; omega)) (by first | exact Nat.le_of_ble_eq_true rfl | (simp; done) | (simp; omega)) ?_
    intro ca Kc
    refine Go.perm (L' := ow s1 (Ob Z "java/lang/String" ns0 [.int 0, .null]) :: ow ca (Ar Z .char Kc (csOf [])) :: L) (List.Perm.swap _ _ _) ?_
    refine Go.callI X (s_initC l G (a := s1) (cap := 3) (cl := []) (ca := ca) (Kc := Kc) (f := true) (List.mem_cons_self) (by simp; try omega) (by simp) (by omega)) rfl (rest := [.ref s1]) (w8 G) (w9 G) (w6 G) (w10 G) (by decide) pd13 rfl rfl d1_11 rfl (by first | exact Nat.le_of_ble_eq_true rfl | (simp; done) | (simp; omega)) (by first | exact Nat.le_of_ble_eq_true rfl | (simp; done) | (simp; omega)) (by first | exact Nat.le_of_ble_eq_true rfl | (simp; done) | (simp; omega)) (by first | exact Nat.le_of_ble_eq_true rfl | (simp; done) | (simp; omega)) (K0 ?_)
    rintro M ⟨p1, K, f, hK, rfl⟩
    refine Go.weak (i := 1) rfl (P' := StrP Z p1 []) (fun c q => ⟨0, 0, Or.inl rfl, Or.inl rfl, q⟩) ?_
    exact Go.aret X d1_14 (by rfl) (by rfl) (by rfl) (by first | exact Nat.le_of_ble_eq_true rfl | (simp; done) | (simp; omega)) (by first | exact Nat.le_of_ble_eq_true rfl | (simp; done) | (simp; omega)) ⟨s1, p1, ca, K, Kc, f, rfl, hK, rfl⟩
  · refine Go.iloadN X d1_0 rfl ?_
    refine Go.ifc X d1_1 (pt := 15) ⟨by decide, by decide⟩ ?_ ?_
    rotate_left
    · intro q; exact absurd (show Int32.ofNat 1 ≠ 0 by decide) q
    intro _
    refine Go.iloadN X d1_15 rfl ?_
    refine Go.iconst X (v := 1) d1_16 (by decide) ?_
    refine Go.icmp X d1_17 (pt := 35) ⟨by decide, by decide⟩ ?_ ?_
    · intro q; exact absurd (show (Int32.ofNat 1) = 1 by decide) q
    intro _
    refine Go.new X (w4 G) (w5 G) (w6 G) (lay0 G) df0 d1_20 (by first | exact Nat.le_of_ble_eq_true rfl | (simp; done) | (simp; omega)) (by first | exact Nat.le_of_ble_eq_true rfl | (simp; done) | (simp; omega)) ?_
    intro s1
    refine Go.dup X d1_23 rfl ?_
    refine Go.iconst X (v := 1) d1_24 (by decide) ?_
    refine Go.newarr X (aty := .char) (N := 1) (cap := 3) (w7 G) (by decide) (by decide) (by decide) (by decide) d1_25 (by first | exact Nat.le_of_ble_eq_true rfl | (simp; done) | (simp; omega)) (by first | exact Nat.le_of_ble_eq_true rfl | (simp; done) | (simp; omega)) ?_
    intro ca Kc
    refine Go.dup X d1_27 rfl ?_
    refine Go.iconst X (v := 0) d1_28 (by decide) ?_
    refine Go.iloadN X d1_29 rfl ?_
    refine Go.cast' X (i := 0) rfl (by decide) (by first | decide | (simp only [upd_len]; decide)) (y := Int32.ofNat c1) (ch_back c1 h1) d1_30 ?_
    refine Go.perm (L' := ow s1 (Ob Z "java/lang/String" ns0 [.int 0, .null]) :: ow ca (Ar Z .char Kc (csOf [c1])) :: L) (List.Perm.swap _ _ _) ?_
    refine Go.callI X (s_initC l G (a := s1) (cap := 3) (cl := [c1]) (ca := ca) (Kc := Kc) (f := true) (List.mem_cons_self) (by simp; try omega) (by simp) (by omega)) rfl (rest := [.ref s1]) (w8 G) (w9 G) (w6 G) (w10 G) (by decide) pd13 rfl rfl d1_31 rfl (by first | exact Nat.le_of_ble_eq_true rfl | (simp; done) | (simp; omega)) (by first | exact Nat.le_of_ble_eq_true rfl | (simp; done) | (simp; omega)) (by first | exact Nat.le_of_ble_eq_true rfl | (simp; done) | (simp; omega)) (by first | exact Nat.le_of_ble_eq_true rfl | (simp; done) | (simp; omega)) (K0 ?_)
    rintro M ⟨p1, K, f, hK, rfl⟩
    refine Go.weak (i := 1) rfl (P' := StrP Z p1 [c1]) (fun c q => ⟨0, 0, Or.inl rfl, Or.inl rfl, q⟩) ?_
    exact Go.aret X d1_34 (by rfl) (by rfl) (by rfl) (by first | exact Nat.le_of_ble_eq_true rfl | (simp; done) | (simp; omega)) (by first | exact Nat.le_of_ble_eq_true rfl | (simp; done) | (simp; omega)) ⟨s1, p1, ca, K, Kc, f, rfl, hK, rfl⟩
  · refine Go.iloadN X d1_0 rfl ?_
    refine Go.ifc X d1_1 (pt := 15) ⟨by decide, by decide⟩ ?_ ?_
    rotate_left
    · intro q; exact absurd (show Int32.ofNat 2 ≠ 0 by decide) q
    intro _
    refine Go.iloadN X d1_15 rfl ?_
    refine Go.iconst X (v := 1) d1_16 (by decide) ?_
    refine Go.icmp X d1_17 (pt := 35) ⟨by decide, by decide⟩ ?_ ?_
    rotate_left
    · intro q; exact absurd (show Int32.ofNat 2 ≠ 1 by decide) q
    intro _
    refine Go.iloadN X d1_35 rfl ?_
    refine Go.iconst X (v := 2) d1_36 (by decide) ?_
    refine Go.icmp X d1_37 (pt := 59) ⟨by decide, by decide⟩ ?_ ?_
    · intro q; exact absurd (show (Int32.ofNat 2) = 2 by decide) q
    intro _
    refine Go.new X (w4 G) (w5 G) (w6 G) (lay0 G) df0 d1_40 (by first | exact Nat.le_of_ble_eq_true rfl | (simp; done) | (simp; omega)) (by first | exact Nat.le_of_ble_eq_true rfl | (simp; done) | (simp; omega)) ?_
    intro s1
    refine Go.dup X d1_43 rfl ?_
    refine Go.iconst X (v := 2) d1_44 (by decide) ?_
    refine Go.newarr X (aty := .char) (N := 2) (cap := 3) (w7 G) (by decide) (by decide) (by decide) (by decide) d1_45 (by first | exact Nat.le_of_ble_eq_true rfl | (simp; done) | (simp; omega)) (by first | exact Nat.le_of_ble_eq_true rfl | (simp; done) | (simp; omega)) ?_
    intro ca Kc
    refine Go.dup X d1_47 rfl ?_
    refine Go.iconst X (v := 0) d1_48 (by decide) ?_
    refine Go.iloadN X d1_49 rfl ?_
    refine Go.cast' X (i := 0) rfl (by decide) (by first | decide | (simp only [upd_len]; decide)) (y := Int32.ofNat c1) (ch_back c1 h1) d1_50 ?_
    refine Go.dup X d1_51 rfl ?_
    refine Go.iconst X (v := 1) d1_52 (by decide) ?_
    refine Go.iloadN X d1_53 rfl ?_
    refine Go.cast' X (i := 0) rfl (by decide) (by first | decide | (simp only [upd_len]; decide)) (y := Int32.ofNat c2) (ch_back c2 h2) d1_54 ?_
    refine Go.perm (L' := ow s1 (Ob Z "java/lang/String" ns0 [.int 0, .null]) :: ow ca (Ar Z .char Kc (csOf [c1, c2])) :: L) (List.Perm.swap _ _ _) ?_
    refine Go.callI X (s_initC l G (a := s1) (cap := 3) (cl := [c1, c2]) (ca := ca) (Kc := Kc) (f := true) (List.mem_cons_self) (by simp; try omega) (by simp) (by omega)) rfl (rest := [.ref s1]) (w8 G) (w9 G) (w6 G) (w10 G) (by decide) pd13 rfl rfl d1_55 rfl (by first | exact Nat.le_of_ble_eq_true rfl | (simp; done) | (simp; omega)) (by first | exact Nat.le_of_ble_eq_true rfl | (simp; done) | (simp; omega)) (by first | exact Nat.le_of_ble_eq_true rfl | (simp; done) | (simp; omega)) (by first | exact Nat.le_of_ble_eq_true rfl | (simp; done) | (simp; omega)) (K0 ?_)
    rintro M ⟨p1, K, f, hK, rfl⟩
    refine Go.weak (i := 1) rfl (P' := StrP Z p1 [c1, c2]) (fun c q => ⟨0, 0, Or.inl rfl, Or.inl rfl, q⟩) ?_
    exact Go.aret X d1_58 (by rfl) (by rfl) (by rfl) (by first | exact Nat.le_of_ble_eq_true rfl | (simp; done) | (simp; omega)) (by first | exact Nat.le_of_ble_eq_true rfl | (simp; done) | (simp; omega)) ⟨s1, p1, ca, K, Kc, f, rfl, hK, rfl⟩
  · refine Go.iloadN X d1_0 rfl ?_
    refine Go.ifc X d1_1 (pt := 15) ⟨by decide, by decide⟩ ?_ ?_
    rotate_left
    · intro q; exact absurd (show Int32.ofNat 3 ≠ 0 by decide) q
    intro _
    refine Go.iloadN X d1_15 rfl ?_
    refine Go.iconst X (v := 1) d1_16 (by decide) ?_
    refine Go.icmp X d1_17 (pt := 35) ⟨by decide, by decide⟩ ?_ ?_
    rotate_left
    · intro q; exact absurd (show Int32.ofNat 3 ≠ 1 by decide) q
    intro _
    refine Go.iloadN X d1_35 rfl ?_
    refine Go.iconst X (v := 2) d1_36 (by decide) ?_
    refine Go.icmp X d1_37 (pt := 59) ⟨by decide, by decide⟩ ?_ ?_
    rotate_left
    · intro q; exact absurd (show Int32.ofNat 3 ≠ 2 by decide) q
    intro _
    refine Go.new X (w4 G) (w5 G) (w6 G) (lay0 G) df0 d1_59 (by first | exact Nat.le_of_ble_eq_true rfl | (simp; done) | (simp; omega)) (by first | exact Nat.le_of_ble_eq_true rfl | (simp; done) | (simp; omega)) ?_
    intro s1
    refine Go.dup X d1_62 rfl ?_
    refine Go.iconst X (v := 3) d1_63 (by decide) ?_
    refine Go.newarr X (aty := .char) (N := 3) (cap := 3) (w7 G) (by decide) (by decide) (by decide) (by decide) d1_64 (by first | exact Nat.le_of_ble_eq_true rfl | (simp; done) | (simp; omega)) (by first | exact Nat.le_of_ble_eq_true rfl | (simp; done) | (simp; omega)) ?_
    intro ca Kc
    refine Go.dup X d1_66 rfl ?_
    refine Go.iconst X (v := 0) d1_67 (by decide) ?_
    refine Go.iloadN X d1_68 rfl ?_
    refine Go.cast' X (i := 0) rfl (by decide) (by first | decide | (simp only [upd_len]; decide)) (y := Int32.ofNat c1) (ch_back c1 h1) d1_69 ?_
    refine Go.dup X d1_70 rfl ?_
    refine Go.iconst X (v := 1) d1_71 (by decide) ?_
    refine Go.iloadN X d1_72 rfl ?_
    refine Go.cast' X (i := 0) rfl (by decide) (by first | decide | (simp only [upd_len]; decide)) (y := Int32.ofNat c2) (ch_back c2 h2) d1_73 ?_
    refine Go.dup X d1_74 rfl ?_
    refine Go.iconst X (v := 2) d1_75 (by decide) ?_
    refine Go.iloadN X d1_76 rfl ?_
    refine Go.cast' X (i := 0) rfl (by decide) (by first | decide | (simp only [upd_len]; decide)) (y := Int32.ofNat c3) (ch_back c3 h3) d1_77 ?_
    refine Go.perm (L' := ow s1 (Ob Z "java/lang/String" ns0 [.int 0, .null]) :: ow ca (Ar Z .char Kc (csOf [c1, c2, c3])) :: L) (List.Perm.swap _ _ _) ?_
    refine Go.callI X (s_initC l G (a := s1) (cap := 3) (cl := [c1, c2, c3]) (ca := ca) (Kc := Kc) (f := true) (List.mem_cons_self) (by simp; try omega) (by simp) (by omega)) rfl (rest := [.ref s1]) (w8 G) (w9 G) (w6 G) (w10 G) (by decide) pd13 rfl rfl d1_78 rfl (by first | exact Nat.le_of_ble_eq_true rfl | (simp; done) | (simp; omega)) (by first | exact Nat.le_of_ble_eq_true rfl | (simp; done) | (simp; omega)) (by first | exact Nat.le_of_ble_eq_true rfl | (simp; done) | (simp; omega)) (by first | exact Nat.le_of_ble_eq_true rfl | (simp; done) | (simp; omega)) (K0 ?_)
    rintro M ⟨p1, K, f, hK, rfl⟩
    refine Go.weak (i := 1) rfl (P' := StrP Z p1 [c1, c2, c3]) (fun c q => ⟨0, 0, Or.inl rfl, Or.inl rfl, q⟩) ?_
    exact Go.aret X d1_81 (by rfl) (by rfl) (by rfl) (by first | exact Nat.le_of_ble_eq_true rfl | (simp; done) | (simp; omega)) (by first | exact Nat.le_of_ble_eq_true rfl | (simp; done) | (simp; omega)) ⟨s1, p1, ca, K, Kc, f, rfl, hK, rfl⟩
-- %%% operand
theorem w104 {a0 : Array Value} {Z : State} (G : Gl a0 Z) : (Jvm.Cond.instantiable "com/example/persist/persist/session/Operand" (2 : Nat)).before a0 Z = true := G.1 _ (List.mem_of_getElem? (i := 104) rfl)
theorem w105 {a0 : Array Value} {Z : State} (G : Gl a0 Z) : (Jvm.Cond.initialized "com/example/persist/persist/session/Operand").before a0 Z = true := G.1 _ (List.mem_of_getElem? (i := 105) rfl)
theorem w109 {a0 : Array Value} {Z : State} (G : Gl a0 Z) : (Jvm.Cond.methodLink "com/example/persist/persist/session/Operand" (1 : Nat) ({ cls := "java/lang/Object", name := "<init>", desc := "()V" } : Jvm.MethodName)).before a0 Z = true := G.1 _ (List.mem_of_getElem? (i := 109) rfl)
theorem w110 {a0 : Array Value} {Z : State} (G : Gl a0 Z) : (Jvm.Cond.fieldLink "com/example/persist/persist/session/Operand" (7 : Nat) "com/example/persist/persist/session/Operand" "name" "Ljava/lang/String;").before a0 Z = true := G.1 _ (List.mem_of_getElem? (i := 110) rfl)
theorem w111 {a0 : Array Value} {Z : State} (G : Gl a0 Z) : (Jvm.Cond.laysFinal "com/example/persist/persist/session/Operand" "com/example/persist/persist/session/Operand" "name" "Ljava/lang/String;").before a0 Z = true := G.1 _ (List.mem_of_getElem? (i := 111) rfl)
theorem w112 {a0 : Array Value} {Z : State} (G : Gl a0 Z) : (Jvm.Cond.fieldLink "com/example/persist/persist/session/Operand" (13 : Nat) "com/example/persist/persist/session/Operand" "exact" "Ljava/lang/String;").before a0 Z = true := G.1 _ (List.mem_of_getElem? (i := 112) rfl)
theorem w113 {a0 : Array Value} {Z : State} (G : Gl a0 Z) : (Jvm.Cond.laysFinal "com/example/persist/persist/session/Operand" "com/example/persist/persist/session/Operand" "exact" "Ljava/lang/String;").before a0 Z = true := G.1 _ (List.mem_of_getElem? (i := 113) rfl)
theorem w119 {a0 : Array Value} {Z : State} (G : Gl a0 Z) : (Jvm.Cond.methodLink "com/example/persist/persist/session/Operand" (24 : Nat) ({ cls := "com/example/persist/persist/session/Operand", name := "narrows", desc := "()Z" } : Jvm.MethodName)).before a0 Z = true := G.1 _ (List.mem_of_getElem? (i := 119) rfl)
theorem w120 {a0 : Array Value} {Z : State} (G : Gl a0 Z) : (Jvm.Cond.instanceMethod ({ cls := "com/example/persist/persist/session/Operand", name := "narrows", desc := "()Z" } : Jvm.MethodName)).before a0 Z = true := G.1 _ (List.mem_of_getElem? (i := 120) rfl)
theorem w121 {a0 : Array Value} {Z : State} (G : Gl a0 Z) : (Jvm.Cond.privateMethod ({ cls := "com/example/persist/persist/session/Operand", name := "narrows", desc := "()Z" } : Jvm.MethodName)).before a0 Z = true := G.1 _ (List.mem_of_getElem? (i := 121) rfl)
theorem w122 {a0 : Array Value} {Z : State} (G : Gl a0 Z) : (Jvm.Cond.code ({ cls := "com/example/persist/persist/session/Operand", name := "narrows", desc := "()Z" } : Jvm.MethodName) prog_28_method_8_code (1 : Nat) (Option.some Jvm.ClassFile.FieldType.boolean)).before a0 Z = true := G.1 _ (List.mem_of_getElem? (i := 122) rfl)
theorem w123 {a0 : Array Value} {Z : State} (G : Gl a0 Z) : (Jvm.Cond.methodLink "com/example/persist/persist/session/Operand" (51 : Nat) ({ cls := "java/lang/String", name := "equals", desc := "(Ljava/lang/Object;)Z" } : Jvm.MethodName)).before a0 Z = true := G.1 _ (List.mem_of_getElem? (i := 123) rfl)
theorem w124 {a0 : Array Value} {Z : State} (G : Gl a0 Z) : (Jvm.Cond.declares ({ cls := "java/lang/String", name := "equals", desc := "(Ljava/lang/Object;)Z" } : Jvm.MethodName)).before a0 Z = true := G.1 _ (List.mem_of_getElem? (i := 124) rfl)
theorem w125 {a0 : Array Value} {Z : State} (G : Gl a0 Z) : (Jvm.Cond.instanceMethod ({ cls := "java/lang/String", name := "equals", desc := "(Ljava/lang/Object;)Z" } : Jvm.MethodName)).before a0 Z = true := G.1 _ (List.mem_of_getElem? (i := 125) rfl)
theorem w126 {a0 : Array Value} {Z : State} (G : Gl a0 Z) : (Jvm.Cond.selects "java/lang/String" ({ cls := "java/lang/String", name := "equals", desc := "(Ljava/lang/Object;)Z" } : Jvm.MethodName) ({ cls := "java/lang/String", name := "equals", desc := "(Ljava/lang/Object;)Z" } : Jvm.MethodName)).before a0 Z = true := G.1 _ (List.mem_of_getElem? (i := 126) rfl)
theorem w127 {a0 : Array Value} {Z : State} (G : Gl a0 Z) : (Jvm.Cond.code ({ cls := "java/lang/String", name := "equals", desc := "(Ljava/lang/Object;)Z" } : Jvm.MethodName) jdk_42_method_66_code (3 : Nat) (Option.some Jvm.ClassFile.FieldType.boolean)).before a0 Z = true := G.1 _ (List.mem_of_getElem? (i := 127) rfl)
theorem d17_0 : D1 prog_28_method_1_code 0 (.aload_n 0) 1 1 := ⟨by decide +kernel, rfl⟩
theorem d17_1 : D1 prog_28_method_1_code 1 (.invokespecial 1) 3 4 := ⟨by decide +kernel, rfl⟩
theorem d17_4 : D1 prog_28_method_1_code 4 (.aload_n 0) 1 5 := ⟨by decide +kernel, rfl⟩
theorem d17_5 : D1 prog_28_method_1_code 5 (.aload_n 1) 1 6 := ⟨by decide +kernel, rfl⟩
theorem d17_6 : D1 prog_28_method_1_code 6 (.putfield 7) 3 9 := ⟨by decide +kernel, rfl⟩
theorem d17_9 : D1 prog_28_method_1_code 9 (.aload_n 0) 1 10 := ⟨by decide +kernel, rfl⟩
theorem d17_10 : D1 prog_28_method_1_code 10 (.aload_n 2) 1 11 := ⟨by decide +kernel, rfl⟩
theorem d17_11 : D1 prog_28_method_1_code 11 (.putfield 13) 3 14 := ⟨by decide +kernel, rfl⟩
theorem d17_14 : D1 prog_28_method_1_code 14 (.return_) 1 15 := ⟨by decide +kernel, rfl⟩
theorem d18_0 : D1 prog_28_method_7_code 0 (.aload_n 0) 1 1 := ⟨by decide +kernel, rfl⟩
theorem d18_1 : D1 prog_28_method_7_code 1 (.invokevirtual 24) 3 4 := ⟨by decide +kernel, rfl⟩
theorem d18_4 : D1 prog_28_method_7_code 4 (.ifCond .eq 7) 3 7 := ⟨by decide +kernel, rfl⟩
theorem d18_7 : D1 prog_28_method_7_code 7 (.iconst 2) 1 8 := ⟨by decide +kernel, rfl⟩
theorem d18_8 : D1 prog_28_method_7_code 8 (.goto 4) 3 11 := ⟨by decide +kernel, rfl⟩
theorem d18_11 : D1 prog_28_method_7_code 11 (.iconst 1) 1 12 := ⟨by decide +kernel, rfl⟩
theorem d18_12 : D1 prog_28_method_7_code 12 (.ireturn) 1 13 := ⟨by decide +kernel, rfl⟩
theorem d19_0 : D1 prog_28_method_8_code 0 (.aload_n 0) 1 1 := ⟨by decide +kernel, rfl⟩
theorem d19_1 : D1 prog_28_method_8_code 1 (.getfield 13) 3 4 := ⟨by decide +kernel, rfl⟩
theorem d19_4 : D1 prog_28_method_8_code 4 (.aload_n 0) 1 5 := ⟨by decide +kernel, rfl⟩
theorem d19_5 : D1 prog_28_method_8_code 5 (.getfield 7) 3 8 := ⟨by decide +kernel, rfl⟩
theorem d19_8 : D1 prog_28_method_8_code 8 (.invokevirtual 51) 3 11 := ⟨by decide +kernel, rfl⟩
theorem d19_11 : D1 prog_28_method_8_code 11 (.ifCond .ne 7) 3 14 := ⟨by decide +kernel, rfl⟩
theorem d19_14 : D1 prog_28_method_8_code 14 (.iconst 1) 1 15 := ⟨by decide +kernel, rfl⟩
theorem d19_15 : D1 prog_28_method_8_code 15 (.goto 4) 3 18 := ⟨by decide +kernel, rfl⟩
theorem d19_18 : D1 prog_28_method_8_code 18 (.iconst 0) 1 19 := ⟨by decide +kernel, rfl⟩
theorem d19_19 : D1 prog_28_method_8_code 19 (.ireturn) 1 20 := ⟨by decide +kernel, rfl⟩
def ns3 : List Nm := [("com/example/persist/persist/session/Operand", "name", "Ljava/lang/String;"), ("com/example/persist/persist/session/Operand", "exact", "Ljava/lang/String;")]
theorem lay3 {a0 : Array Value} {Z : State} (G : Gl a0 Z) : LayC Z a0 "com/example/persist/persist/session/Operand" ns3 := LayC.of (fun q hq => by
  simp only [ns3, List.mem_cons, List.not_mem_nil, or_false] at hq
  rcases hq with rfl | rfl
  · exact Or.inr (G.1 _ (List.mem_of_getElem? (i := 111) rfl))
  · exact Or.inr (G.1 _ (List.mem_of_getElem? (i := 113) rfl))) (by decide +kernel) (fun q hq => by
  simp only [ns3, List.mem_cons, List.not_mem_nil, or_false] at hq
  rcases hq with rfl | rfl
  · exact ⟨(.object "java/lang/String"), by decide +kernel⟩
  · exact ⟨(.object "java/lang/String"), by decide +kernel⟩)
theorem df3 : dfl ns3 = ([.null, .null] : List Value).map some := by decide +kernel
theorem pd14 : parseMethodDescriptor "(Ljava/lang/Object;)Z" = some ⟨[(.object "java/lang/Object")], some .boolean⟩ := by decide +kernel
theorem pd15 : parseMethodDescriptor "()Z" = some ⟨[], some .boolean⟩ := by decide +kernel
theorem pf4 : parseFieldDescriptor "Ljava/lang/String;" = some (.object "java/lang/String") := by decide +kernel
set_option maxRecDepth 65536 in
set_option maxHeartbeats 4000000 in
theorem o_init (l : Launch) {Z : State} {a0 : Array Value} (G : Gl a0 Z) {L : List Ent} {o s1 s2 : Addr} : Ct WD EL0 l Z (⟨"com/example/persist/persist/session/Operand", "<init>", "(Ljava/lang/String;Ljava/lang/String;)V"⟩ : MethodName) prog_28_method_1_code 3 none ({ frames := 1, cells := 0, slots := 0, locals := 12 } : Room) #[.ref o, .ref s1, .ref s2] (ow o (Ob Z "com/example/persist/persist/session/Operand" ns3 [.null, .null]) :: L) (r0Q (fun M => M = ow o (Ob Z "com/example/persist/persist/session/Operand" ns3 [.ref s1, .ref s2]) :: L)) := by
  refine Ct.intro (by decide +kernel) G.2.1 ?_
  intro p e s m below meth c X
  replace X : Cx WD EL0 p Z s m meth c "com/example/persist/persist/session/Operand" "<init>" prog_28_method_1_code 3 none := X
  refine Go.cast (g' := mkF m 0 #[.val (.ref o), .val (.ref s1), .val (.ref s2)] []) (by first | rfl | (simp [entryFrame, mkF, argsToLocals, Value.category, maxLocals]; done)) ?_
  refine Go.aloadN X d17_0 rfl rfl ?_
  refine Go.initObj X (w109 G) (w16 G) (w17 G) d17_1 rfl (Nat.le_of_ble_eq_true rfl) (Nat.le_of_ble_eq_true rfl) ?_
  refine Go.aloadN X d17_4 rfl rfl ?_
  refine Go.aloadN X d17_5 rfl rfl ?_
  refine Go.putFld X (i := 0) rfl (j := 0) rfl (lay3 G) (w110 G) Via.refl (Or.inr ⟨(w111 G), rfl, rfl⟩) (w104 G) pf4 d17_6 (by rfl) (by rfl) ?_
  refine Go.aloadN X d17_9 rfl rfl ?_
  refine Go.aloadN X d17_10 rfl rfl ?_
  refine Go.putFld X (i := 0) rfl (j := 1) rfl (lay3 G) (w112 G) Via.refl (Or.inr ⟨(w113 G), rfl, rfl⟩) (w104 G) pf4 d17_11 (by rfl) (by rfl) ?_
  exact Go.ret0 X d17_14 (by first | exact Nat.le_of_ble_eq_true rfl | (simp; done) | (simp; omega)) (by first | exact Nat.le_of_ble_eq_true rfl | (simp; done) | (simp; omega)) rfl
set_option maxRecDepth 65536 in
set_option maxHeartbeats 4000000 in
theorem o_narrows (l : Launch) {Z : State} {a0 : Array Value} (G : Gl a0 Z) {L : List Ent} {o s1 s2 p1 p2 : Addr} {fo : Bool} {k1 k2 : List Nat} (hO : (o, (Ob Z "com/example/persist/persist/session/Operand" ns3 [.ref s1, .ref s2]), fo) ∈ L) (hA : Sk Z L s1 p1 k1) (hB : Sk Z L s2 p2 k2) (hE : s2 = s1 → k2 = k1) : Ct WD EL0 l Z (⟨"com/example/persist/persist/session/Operand", "narrows", "()Z"⟩ : MethodName) prog_28_method_8_code 1 (some .boolean) ({ frames := 2, cells := 0, slots := 0, locals := 28 } : Room) #[.ref o] L (rvQ (fun v M => v = .int (if k1 = k2 then 0 else 1) ∧ M = L)) := by
  refine Ct.intro (by decide +kernel) G.2.1 ?_
  intro p e s m below meth c X
  replace X : Cx WD EL0 p Z s m meth c "com/example/persist/persist/session/Operand" "narrows" prog_28_method_8_code 1 (some .boolean) := X
  refine Go.cast (g' := mkF m 0 #[.val (.ref o)] []) (by first | rfl | (simp [entryFrame, mkF, argsToLocals, Value.category, maxLocals]; done)) ?_
  obtain ⟨io, hio⟩ := List.getElem?_of_mem hO
  refine Go.aloadN X d19_0 rfl rfl ?_
  refine Go.getFld X (w112 G) Via.refl (fun h H => H.fld (i := io) hio (j := 1) rfl rfl) d19_1 ?_
  refine Go.aloadN X d19_4 rfl rfl ?_
  refine Go.getFld X (w110 G) Via.refl (fun h H => H.fld (i := io) hio (j := 0) rfl rfl) d19_5 ?_
  refine Go.callV X (fun h H => (hB.sx.2 h H).1) (s_equals l G hB hA hE) (rest := []) (w123 G) (w124 G) (nfS (w126 G)) (w126 G) (w125 G) (w6 G) (w127 G) (by decide) pd14 rfl rfl d19_8 rfl (by first | exact Nat.le_of_ble_eq_true rfl | (simp; done) | (simp; omega)) (by first | exact Nat.le_of_ble_eq_true rfl | (simp; done) | (simp; omega)) (by first | exact Nat.le_of_ble_eq_true rfl | (simp; done) | (simp; omega)) (by first | exact Nat.le_of_ble_eq_true rfl | (simp; done) | (simp; omega)) (Kv ?_)
  rintro v M ⟨rfl, rfl⟩
  refine Go.ifc X d19_11 (pt := 18) ⟨by decide, by decide⟩ ?_ ?_
  · intro q
    have q := ite_1 q
    refine Go.iconst X (v := 0) d19_18 (by decide) ?_
    exact Go.zret X d19_19 (Or.inl rfl) (by first | exact Nat.le_of_ble_eq_true rfl | (simp; done) | (simp; omega)) (by first | exact Nat.le_of_ble_eq_true rfl | (simp; done) | (simp; omega)) ⟨by rw [if_pos q.symm], rfl⟩
  intro q
  have q := ite_n1 q
  refine Go.iconst X (v := 1) d19_14 (by decide) ?_
  refine Go.goto X d19_15 (pt := 19) ⟨by decide, by decide⟩ ?_
  exact Go.zret X d19_19 (Or.inr rfl) (by first | exact Nat.le_of_ble_eq_true rfl | (simp; done) | (simp; omega)) (by first | exact Nat.le_of_ble_eq_true rfl | (simp; done) | (simp; omega)) ⟨by rw [if_neg (fun z => q z.symm)], rfl⟩
set_option maxRecDepth 65536 in
set_option maxHeartbeats 4000000 in
theorem o_bind (l : Launch) {Z : State} {a0 : Array Value} (G : Gl a0 Z) {L : List Ent} {o s1 s2 p1 p2 : Addr} {fo : Bool} {k1 k2 : List Nat} (hO : (o, (Ob Z "com/example/persist/persist/session/Operand" ns3 [.ref s1, .ref s2]), fo) ∈ L) (hA : Sk Z L s1 p1 k1) (hB : Sk Z L s2 p2 k2) (hE : s2 = s1 → k2 = k1) : Ct WD EL0 l Z (⟨"com/example/persist/persist/session/Operand", "bindings", "()I"⟩ : MethodName) prog_28_method_7_code 1 (some .int) ({ frames := 3, cells := 0, slots := 0, locals := 40 } : Room) #[.ref o] L (rvQ (fun v M => v = .int (if k1 = k2 then 1 else 2) ∧ M = L)) := by
  refine Ct.intro (by decide +kernel) G.2.1 ?_
  intro p e s m below meth c X
  replace X : Cx WD EL0 p Z s m meth c "com/example/persist/persist/session/Operand" "bindings" prog_28_method_7_code 1 (some .int) := X
  refine Go.cast (g' := mkF m 0 #[.val (.ref o)] []) (by first | rfl | (simp [entryFrame, mkF, argsToLocals, Value.category, maxLocals]; done)) ?_
  refine Go.aloadN X d18_0 rfl rfl ?_
  refine Go.callP X (fun h H => H.exaM hO (fun c q => ⟨_, _, q⟩)) (o_narrows l G hO hA hB hE) (rest := []) (w119 G) (w120 G) (selP (w104 G) (w121 G) (w120 G) (by decide)) (w121 G) (w105 G) (w122 G) (by decide) pd15 rfl rfl d18_1 rfl (by first | exact Nat.le_of_ble_eq_true rfl | (simp; done) | (simp; omega)) (by first | exact Nat.le_of_ble_eq_true rfl | (simp; done) | (simp; omega)) (by first | exact Nat.le_of_ble_eq_true rfl | (simp; done) | (simp; omega)) (by first | exact Nat.le_of_ble_eq_true rfl | (simp; done) | (simp; omega)) (Kv ?_)
  rintro v M ⟨rfl, rfl⟩
  by_cases q : k1 = k2
  · rw [if_pos q, if_pos q]
    refine Go.ifc X d18_4 (pt := 11) ⟨by decide, by decide⟩ ?_ ?_
    rotate_left
    · intro z; exact absurd rfl z
    intro _
    refine Go.iconst X (v := 1) d18_11 (by decide) ?_
    exact Go.iret X d18_12 (by first | exact Nat.le_of_ble_eq_true rfl | (simp; done) | (simp; omega)) (by first | exact Nat.le_of_ble_eq_true rfl | (simp; done) | (simp; omega)) ⟨rfl, rfl⟩
  rw [if_neg q, if_neg q]
  refine Go.ifc X d18_4 (pt := 11) ⟨by decide, by decide⟩ ?_ ?_
  · intro z; exact absurd (show (1 : Int32) = 0 from z) (by decide)
  intro _
  refine Go.iconst X (v := 2) d18_7 (by decide) ?_
  refine Go.goto X d18_8 (pt := 12) ⟨by decide, by decide⟩ ?_
  exact Go.iret X d18_12 (by first | exact Nat.le_of_ble_eq_true rfl | (simp; done) | (simp; omega)) (by first | exact Nat.le_of_ble_eq_true rfl | (simp; done) | (simp; omega)) ⟨rfl, rfl⟩
-- %%% bound
theorem w75 {a0 : Array Value} {Z : State} (G : Gl a0 Z) : (Jvm.Cond.castable "java/util/ArrayList" "java/util/List").before a0 Z = true := G.1 _ (List.mem_of_getElem? (i := 75) rfl)
theorem w138 {a0 : Array Value} {Z : State} (G : Gl a0 Z) : (Jvm.Cond.classLink "com/example/persist/persist/session/Operand" (32 : Nat) "java/util/ArrayList").before a0 Z = true := G.1 _ (List.mem_of_getElem? (i := 138) rfl)
theorem w139 {a0 : Array Value} {Z : State} (G : Gl a0 Z) : (Jvm.Cond.methodLink "com/example/persist/persist/session/Operand" (34 : Nat) ({ cls := "java/util/List", name := "size", desc := "()I" } : Jvm.MethodName)).before a0 Z = true := G.1 _ (List.mem_of_getElem? (i := 139) rfl)
theorem w140 {a0 : Array Value} {Z : State} (G : Gl a0 Z) : (Jvm.Cond.declares ({ cls := "java/util/List", name := "size", desc := "()I" } : Jvm.MethodName)).before a0 Z = true := G.1 _ (List.mem_of_getElem? (i := 140) rfl)
theorem w141 {a0 : Array Value} {Z : State} (G : Gl a0 Z) : (Jvm.Cond.interfaceMethod "java/util/List" "java/util/List" "size" "()I").before a0 Z = true := G.1 _ (List.mem_of_getElem? (i := 141) rfl)
theorem w142 {a0 : Array Value} {Z : State} (G : Gl a0 Z) : (Jvm.Cond.selects "java/util/ArrayList" ({ cls := "java/util/List", name := "size", desc := "()I" } : Jvm.MethodName) ({ cls := "java/util/ArrayList", name := "size", desc := "()I" } : Jvm.MethodName)).before a0 Z = true := G.1 _ (List.mem_of_getElem? (i := 142) rfl)
theorem w143 {a0 : Array Value} {Z : State} (G : Gl a0 Z) : (Jvm.Cond.instanceMethod ({ cls := "java/util/ArrayList", name := "size", desc := "()I" } : Jvm.MethodName)).before a0 Z = true := G.1 _ (List.mem_of_getElem? (i := 143) rfl)
theorem w144 {a0 : Array Value} {Z : State} (G : Gl a0 Z) : (Jvm.Cond.publicMethod ({ cls := "java/util/ArrayList", name := "size", desc := "()I" } : Jvm.MethodName)).before a0 Z = true := G.1 _ (List.mem_of_getElem? (i := 144) rfl)
theorem w145 {a0 : Array Value} {Z : State} (G : Gl a0 Z) : (Jvm.Cond.unhidden "java/util/ArrayList" "size" "()I").before a0 Z = true := G.1 _ (List.mem_of_getElem? (i := 145) rfl)
theorem w146 {a0 : Array Value} {Z : State} (G : Gl a0 Z) : (Jvm.Cond.code ({ cls := "java/util/ArrayList", name := "size", desc := "()I" } : Jvm.MethodName) jdk_38_method_8_code (1 : Nat) (Option.some Jvm.ClassFile.FieldType.int)).before a0 Z = true := G.1 _ (List.mem_of_getElem? (i := 146) rfl)
theorem w147 {a0 : Array Value} {Z : State} (G : Gl a0 Z) : (Jvm.Cond.methodLink "com/example/persist/persist/session/Operand" (40 : Nat) ({ cls := "java/util/ArrayList", name := "<init>", desc := "(I)V" } : Jvm.MethodName)).before a0 Z = true := G.1 _ (List.mem_of_getElem? (i := 147) rfl)
theorem w148 {a0 : Array Value} {Z : State} (G : Gl a0 Z) : (Jvm.Cond.instanceMethod ({ cls := "java/util/ArrayList", name := "<init>", desc := "(I)V" } : Jvm.MethodName)).before a0 Z = true := G.1 _ (List.mem_of_getElem? (i := 148) rfl)
theorem w149 {a0 : Array Value} {Z : State} (G : Gl a0 Z) : (Jvm.Cond.code ({ cls := "java/util/ArrayList", name := "<init>", desc := "(I)V" } : Jvm.MethodName) jdk_38_method_1_code (2 : Nat) (Option.none : Option Jvm.ClassFile.FieldType)).before a0 Z = true := G.1 _ (List.mem_of_getElem? (i := 149) rfl)
theorem w150 {a0 : Array Value} {Z : State} (G : Gl a0 Z) : (Jvm.Cond.methodLink "com/example/persist/persist/session/Operand" (43 : Nat) ({ cls := "java/util/List", name := "addAll", desc := "(Ljava/util/Collection;)Z" } : Jvm.MethodName)).before a0 Z = true := G.1 _ (List.mem_of_getElem? (i := 150) rfl)
theorem w151 {a0 : Array Value} {Z : State} (G : Gl a0 Z) : (Jvm.Cond.declares ({ cls := "java/util/List", name := "addAll", desc := "(Ljava/util/Collection;)Z" } : Jvm.MethodName)).before a0 Z = true := G.1 _ (List.mem_of_getElem? (i := 151) rfl)
theorem w152 {a0 : Array Value} {Z : State} (G : Gl a0 Z) : (Jvm.Cond.interfaceMethod "java/util/List" "java/util/List" "addAll" "(Ljava/util/Collection;)Z").before a0 Z = true := G.1 _ (List.mem_of_getElem? (i := 152) rfl)
theorem w153 {a0 : Array Value} {Z : State} (G : Gl a0 Z) : (Jvm.Cond.selects "java/util/ArrayList" ({ cls := "java/util/List", name := "addAll", desc := "(Ljava/util/Collection;)Z" } : Jvm.MethodName) ({ cls := "java/util/ArrayList", name := "addAll", desc := "(Ljava/util/Collection;)Z" } : Jvm.MethodName)).before a0 Z = true := G.1 _ (List.mem_of_getElem? (i := 153) rfl)
theorem w154 {a0 : Array Value} {Z : State} (G : Gl a0 Z) : (Jvm.Cond.instanceMethod ({ cls := "java/util/ArrayList", name := "addAll", desc := "(Ljava/util/Collection;)Z" } : Jvm.MethodName)).before a0 Z = true := G.1 _ (List.mem_of_getElem? (i := 154) rfl)
theorem w155 {a0 : Array Value} {Z : State} (G : Gl a0 Z) : (Jvm.Cond.publicMethod ({ cls := "java/util/ArrayList", name := "addAll", desc := "(Ljava/util/Collection;)Z" } : Jvm.MethodName)).before a0 Z = true := G.1 _ (List.mem_of_getElem? (i := 155) rfl)
theorem w156 {a0 : Array Value} {Z : State} (G : Gl a0 Z) : (Jvm.Cond.unhidden "java/util/ArrayList" "addAll" "(Ljava/util/Collection;)Z").before a0 Z = true := G.1 _ (List.mem_of_getElem? (i := 156) rfl)
theorem w157 {a0 : Array Value} {Z : State} (G : Gl a0 Z) : (Jvm.Cond.code ({ cls := "java/util/ArrayList", name := "addAll", desc := "(Ljava/util/Collection;)Z" } : Jvm.MethodName) jdk_38_method_41_code (6 : Nat) (Option.some Jvm.ClassFile.FieldType.boolean)).before a0 Z = true := G.1 _ (List.mem_of_getElem? (i := 157) rfl)
theorem d22_0 : D1 prog_28_method_5_code 0 (.aload_n 0) 1 1 := ⟨by decide +kernel, rfl⟩
theorem d22_1 : D1 prog_28_method_5_code 1 (.invokevirtual 24) 3 4 := ⟨by decide +kernel, rfl⟩
theorem d22_4 : D1 prog_28_method_5_code 4 (.ifCond .ne 5) 3 7 := ⟨by decide +kernel, rfl⟩
theorem d22_7 : D1 prog_28_method_5_code 7 (.aload_n 1) 1 8 := ⟨by decide +kernel, rfl⟩
theorem d22_8 : D1 prog_28_method_5_code 8 (.areturn) 1 9 := ⟨by decide +kernel, rfl⟩
theorem d22_9 : D1 prog_28_method_5_code 9 (.new 32) 3 12 := ⟨by decide +kernel, rfl⟩
theorem d22_12 : D1 prog_28_method_5_code 12 (.dup) 1 13 := ⟨by decide +kernel, rfl⟩
theorem d22_13 : D1 prog_28_method_5_code 13 (.aload_n 1) 1 14 := ⟨by decide +kernel, rfl⟩
theorem d22_14 : D1 prog_28_method_5_code 14 (.invokeinterface 34 1) 5 19 := ⟨by decide +kernel, rfl⟩
theorem d22_19 : D1 prog_28_method_5_code 19 (.iconst 2) 1 20 := ⟨by decide +kernel, rfl⟩
theorem d22_20 : D1 prog_28_method_5_code 20 (.imul) 1 21 := ⟨by decide +kernel, rfl⟩
theorem d22_21 : D1 prog_28_method_5_code 21 (.invokespecial 40) 3 24 := ⟨by decide +kernel, rfl⟩
theorem d22_24 : D1 prog_28_method_5_code 24 (.astore_n 2) 1 25 := ⟨by decide +kernel, rfl⟩
theorem d22_25 : D1 prog_28_method_5_code 25 (.aload_n 2) 1 26 := ⟨by decide +kernel, rfl⟩
theorem d22_26 : D1 prog_28_method_5_code 26 (.aload_n 1) 1 27 := ⟨by decide +kernel, rfl⟩
theorem d22_27 : D1 prog_28_method_5_code 27 (.invokeinterface 43 2) 5 32 := ⟨by decide +kernel, rfl⟩
theorem d22_32 : D1 prog_28_method_5_code 32 (.pop) 1 33 := ⟨by decide +kernel, rfl⟩
theorem d22_33 : D1 prog_28_method_5_code 33 (.aload_n 2) 1 34 := ⟨by decide +kernel, rfl⟩
theorem d22_34 : D1 prog_28_method_5_code 34 (.aload_n 1) 1 35 := ⟨by decide +kernel, rfl⟩
theorem d22_35 : D1 prog_28_method_5_code 35 (.invokeinterface 43 2) 5 40 := ⟨by decide +kernel, rfl⟩
theorem d22_40 : D1 prog_28_method_5_code 40 (.pop) 1 41 := ⟨by decide +kernel, rfl⟩
theorem d22_41 : D1 prog_28_method_5_code 41 (.aload_n 2) 1 42 := ⟨by decide +kernel, rfl⟩
theorem d22_42 : D1 prog_28_method_5_code 42 (.areturn) 1 43 := ⟨by decide +kernel, rfl⟩
theorem pd16 : parseMethodDescriptor "()I" = some ⟨[], some .int⟩ := by decide +kernel
theorem pd17 : parseMethodDescriptor "(Ljava/util/Collection;)Z" = some ⟨[(.object "java/util/Collection")], some .boolean⟩ := by decide +kernel
set_option maxRecDepth 65536 in
set_option maxHeartbeats 4000000 in
theorem o_bound_y (l : Launch) {Z : State} {a0 : Array Value} (G : Gl a0 Z) {L : List Ent} {o s1 s2 p1 p2 : Addr} {fo : Bool} {k1 k2 : List Nat} (hO : (o, (Ob Z "com/example/persist/persist/session/Operand" ns3 [.ref s1, .ref s2]), fo) ∈ L) (hA : Sk Z L s1 p1 k1) (hB : Sk Z L s2 p2 k2) (hE : s2 = s1 → k2 = k1) {a1 : Addr} (hq : k1 = k2) : Ct WD EL0 l Z (⟨"com/example/persist/persist/session/Operand", "bound", "(Ljava/util/List;)Ljava/util/List;"⟩ : MethodName) prog_28_method_5_code 3 (some (.object "java/util/List")) ({ frames := 5, cells := 4, slots := 7, locals := 75 } : Room) #[.ref o, .ref a1] L (rvQ (fun v M => v = .ref a1 ∧ M = L)) := by
  refine Ct.intro (by decide +kernel) G.2.1 ?_
  intro p e s m below meth c X
  replace X : Cx WD EL0 p Z s m meth c "com/example/persist/persist/session/Operand" "bound" prog_28_method_5_code 3 (some (.object "java/util/List")) := X
  refine Go.cast (g' := mkF m 0 #[.val (.ref o), .val (.ref a1), .unset] []) (by first | rfl | (simp [entryFrame, mkF, argsToLocals, Value.category, maxLocals]; done)) ?_
  refine Go.aloadN X d22_0 rfl rfl ?_
  refine Go.callP X (fun h H => H.exaM hO (fun c q => ⟨_, _, q⟩)) (o_narrows l G hO hA hB hE) (rest := []) (w119 G) (w120 G) (selP (w104 G) (w121 G) (w120 G) (by decide)) (w121 G) (w105 G) (w122 G) (by decide) pd15 rfl rfl d22_1 rfl (by first | exact Nat.le_of_ble_eq_true rfl | (simp; done) | (simp; omega)) (by first | exact Nat.le_of_ble_eq_true rfl | (simp; done) | (simp; omega)) (by first | exact Nat.le_of_ble_eq_true rfl | (simp; done) | (simp; omega)) (by first | exact Nat.le_of_ble_eq_true rfl | (simp; done) | (simp; omega)) (Kv ?_)
  rintro v M ⟨rfl, hML⟩
  obtain rfl := hML.symm
  rw [if_pos hq]
  refine Go.ifc X d22_4 (pt := 9) ⟨by decide, by decide⟩ ?_ ?_
  · intro z; exact absurd rfl z
  intro _
  refine Go.aloadN X d22_7 rfl rfl ?_
  exact Go.aret X d22_8 (by rfl) (by rfl) (by rfl) (by first | exact Nat.le_of_ble_eq_true rfl | (simp; done) | (simp; omega)) (by first | exact Nat.le_of_ble_eq_true rfl | (simp; done) | (simp; omega)) ⟨rfl, rfl⟩
set_option maxRecDepth 65536 in
set_option maxHeartbeats 4000000 in
theorem o_bound_n (l : Launch) {Z : State} {a0 : Array Value} (G : Gl a0 Z) {L : List Ent} {o s1 s2 p1 p2 : Addr} {fo : Bool} {k1 k2 : List Nat} (hO : (o, (Ob Z "com/example/persist/persist/session/Operand" ns3 [.ref s1, .ref s2]), fo) ∈ L) (hA : Sk Z L s1 p1 k1) (hB : Sk Z L s2 p2 k2) (hE : s2 = s1 → k2 = k1) {a1 b1 x : Addr} {K1 : ClassId} {y : Int32} {vs : List Value} {fa fb : Bool} (ha : (a1, (Ob Z "java/util/ArrayList" ns2 [.int y, .ref b1, .int 1]), fa) ∈ L) (hb' : (b1, (Ar Z (.object "java/lang/Object") K1 (.ref x :: vs)), fb) ∈ L) (hK1 : OaC Z K1) (hx : Cst Z L x "java/lang/Object") (hq : ¬ k1 = k2) : Ct WD EL0 l Z (⟨"com/example/persist/persist/session/Operand", "bound", "(Ljava/util/List;)Ljava/util/List;"⟩ : MethodName) prog_28_method_5_code 3 (some (.object "java/util/List")) ({ frames := 5, cells := 4, slots := 7, locals := 75 } : Room) #[.ref o, .ref a1] L (rvQ (fun v M => ∃ t d2 b2 d1 P1 P2 P3 ed w, v = .ref t ∧ M = ow d2 P1 :: ow t (Ob Z "java/util/ArrayList" ns2 [.int w, ed, .int 2]) :: ow b2 P2 :: ow d1 P3 :: L)) := by
  refine Ct.intro (by decide +kernel) G.2.1 ?_
  intro p e s m below meth c X
  replace X : Cx WD EL0 p Z s m meth c "com/example/persist/persist/session/Operand" "bound" prog_28_method_5_code 3 (some (.object "java/util/List")) := X
  refine Go.cast (g' := mkF m 0 #[.val (.ref o), .val (.ref a1), .unset] []) (by first | rfl | (simp [entryFrame, mkF, argsToLocals, Value.category, maxLocals]; done)) ?_
  refine Go.aloadN X d22_0 rfl rfl ?_
  refine Go.callP X (fun h H => H.exaM hO (fun c q => ⟨_, _, q⟩)) (o_narrows l G hO hA hB hE) (rest := []) (w119 G) (w120 G) (selP (w104 G) (w121 G) (w120 G) (by decide)) (w121 G) (w105 G) (w122 G) (by decide) pd15 rfl rfl d22_1 rfl (by first | exact Nat.le_of_ble_eq_true rfl | (simp; done) | (simp; omega)) (by first | exact Nat.le_of_ble_eq_true rfl | (simp; done) | (simp; omega)) (by first | exact Nat.le_of_ble_eq_true rfl | (simp; done) | (simp; omega)) (by first | exact Nat.le_of_ble_eq_true rfl | (simp; done) | (simp; omega)) (Kv ?_)
  rintro v M ⟨rfl, hML⟩
  obtain rfl := hML.symm
  rw [if_neg hq]
  refine Go.ifc X d22_4 (pt := 9) ⟨by decide, by decide⟩ ?_ ?_
  rotate_left
  · intro z; exact absurd (show (1 : Int32) ≠ 0 by decide) z
  intro _
  refine Go.new X (w138 G) (w45 G) (w46 G) (lay2 G) df2 d22_9 (by first | exact Nat.le_of_ble_eq_true rfl | (simp; done) | (simp; omega)) (by first | exact Nat.le_of_ble_eq_true rfl | (simp; done) | (simp; omega)) ?_
  intro t
  obtain ⟨ia, hia⟩ := List.getElem?_of_mem ha
  refine Go.dup X d22_12 rfl ?_
  refine Go.aloadN X d22_13 rfl rfl ?_
  refine Go.callN X (fun h H => H.exaM (List.mem_cons_of_mem _ (ha)) (fun c q => ⟨_, _, q⟩)) (l_size l G (z := 1) (fun h H => H.fld (i := ia + 1) hia (j := 2) rfl rfl)) (rest := [.ref t, .ref t]) (w139 G) (w140 G) (by decide +kernel) (w141 G) (w142 G) (w143 G) (w144 G) (w145 G) (w75 G) (w46 G) (w146 G) (by decide) pd16 rfl rfl d22_14 rfl (by first | exact Nat.le_of_ble_eq_true rfl | (simp; done) | (simp; omega)) (by first | exact Nat.le_of_ble_eq_true rfl | (simp; done) | (simp; omega)) (by first | exact Nat.le_of_ble_eq_true rfl | (simp; done) | (simp; omega)) (by first | exact Nat.le_of_ble_eq_true rfl | (simp; done) | (simp; omega)) (Kv ?_)
  rintro v M ⟨rfl, rfl⟩
  refine Go.iconst X (v := 2) d22_19 (by decide) ?_
  refine Go.imul X d22_20 ?_
  rw [show (1 : Int32) * 2 = Int32.ofNat 2 from by decide]
  refine Go.callI X (l_initI l G (a := t) (N := 2) (cap := 2) (by decide) (by decide) (by decide)) rfl (rest := [.ref t]) (w147 G) (w148 G) (w46 G) (w149 G) (by decide) pd6 rfl rfl d22_21 rfl (by first | exact Nat.le_of_ble_eq_true rfl | (simp; done) | (simp; omega)) (by first | exact Nat.le_of_ble_eq_true rfl | (simp; done) | (simp; omega)) (by first | exact Nat.le_of_ble_eq_true rfl | (simp; done) | (simp; omega)) (by first | exact Nat.le_of_ble_eq_true rfl | (simp; done) | (simp; omega)) (K0 ?_)
  rintro M ⟨b2, K2, hK2, rfl⟩
  refine Go.astoreN X d22_24 rfl rfl ?_
  refine Go.perm (L' := ow t (Ob Z "java/util/ArrayList" ns2 [.int 0, .ref b2, .int (Int32.ofNat 0)]) :: ow b2 (Ar Z (.object "java/lang/Object") K2 (List.replicate 2 Value.null)) :: L) (List.Perm.swap _ _ _) ?_
  refine Go.aloadN X d22_25 rfl rfl ?_
  refine Go.aloadN X d22_26 rfl rfl ?_
  refine Go.callN X (fun h H => H.exa (i := 0) rfl) (l_addAll l G (L := L) (vs := .ref x :: vs) (N := 1) (cap := 1) (w := 0) (vd := (List.replicate 2 Value.null)) (M0 := 0) (hb') (by simp) (by decide) (by decide) (by decide) (fun v hv => by
    have hv : v = .ref x := by simpa using hv
    exact Or.inr ⟨x, hv, hx⟩) hK1.2 (ha) (by first | (simp; done) | (simp; omega)) hK2) (rest := []) (w150 G) (w151 G) (by decide +kernel) (w152 G) (w153 G) (w154 G) (w155 G) (w156 G) (w75 G) (w46 G) (w157 G) (by decide) pd17 rfl rfl d22_27 rfl (by first | exact Nat.le_of_ble_eq_true rfl | (simp; done) | (simp; omega)) (by first | exact Nat.le_of_ble_eq_true rfl | (simp; done) | (simp; omega)) (by first | exact Nat.le_of_ble_eq_true rfl | (simp; done) | (simp; omega)) (by first | exact Nat.le_of_ble_eq_true rfl | (simp; done) | (simp; omega)) (Kv ?_)
  rintro v M ⟨rfl, d1, J1, OJ1, rfl⟩
  refine Go.pop X d22_32 rfl ?_
  refine Go.perm (L' := ow t (Ob Z "java/util/ArrayList" ns2 [.int (0 + 1), .ref b2, .int (Int32.ofNat (0 + 1))]) :: ow b2 (Ar Z (.object "java/lang/Object") K2 (List.take 0 (List.replicate 2 Value.null) ++ List.take 1 (.ref x :: vs) ++ List.drop (0 + 1) (List.replicate 2 Value.null))) :: ow d1 (Ar Z (.object "java/lang/Object") J1 (List.take 1 (.ref x :: vs))) :: L) ((front (i := 0) rfl).trans ((front (i := 2) rfl).trans (front (i := 2) rfl))) ?_
  refine Go.aloadN X d22_33 rfl rfl ?_
  refine Go.aloadN X d22_34 rfl rfl ?_
  refine Go.callN X (fun h H => H.exa (i := 0) rfl) (l_addAll l G (L := (ow d1 (Ar Z (.object "java/lang/Object") J1 (List.take 1 (.ref x :: vs))) :: L)) (vs := .ref x :: vs) (N := 1) (cap := 1) (w := (0 + 1)) (vd := (List.take 0 (List.replicate 2 Value.null) ++ List.take 1 (.ref x :: vs) ++ List.drop (0 + 1) (List.replicate 2 Value.null))) (M0 := (0 + 1)) (List.mem_cons_of_mem _ (hb')) (by simp) (by decide) (by decide) (by decide) (fun v hv => by
    have hv : v = .ref x := by simpa using hv
    exact Or.inr ⟨x, hv, hx.up⟩) hK1.2 (List.mem_cons_of_mem _ (ha)) (by first | (simp; done) | (simp; omega)) hK2) (rest := []) (w150 G) (w151 G) (by decide +kernel) (w152 G) (w153 G) (w154 G) (w155 G) (w156 G) (w75 G) (w46 G) (w157 G) (by decide) pd17 rfl rfl d22_35 rfl (by first | exact Nat.le_of_ble_eq_true rfl | (simp; done) | (simp; omega)) (by first | exact Nat.le_of_ble_eq_true rfl | (simp; done) | (simp; omega)) (by first | exact Nat.le_of_ble_eq_true rfl | (simp; done) | (simp; omega)) (by first | exact Nat.le_of_ble_eq_true rfl | (simp; done) | (simp; omega)) (Kv ?_)
  rintro v M ⟨rfl, d2, J2, OJ2, rfl⟩
  refine Go.pop X d22_40 rfl ?_
  refine Go.aloadN X d22_41 rfl rfl ?_
  exact Go.aret X d22_42 (by rfl) (by rfl) (by rfl) (by first | exact Nat.le_of_ble_eq_true rfl | (simp; done) | (simp; omega)) (by first | exact Nat.le_of_ble_eq_true rfl | (simp; done) | (simp; omega)) ⟨t, d2, b2, d1, _, _, _, _, _, rfl, rfl⟩
-- %%% addBound
theorem w69 {a0 : Array Value} {Z : State} (G : Gl a0 Z) : (Jvm.Cond.declares ({ cls := "java/util/List", name := "add", desc := "(Ljava/lang/Object;)Z" } : Jvm.MethodName)).before a0 Z = true := G.1 _ (List.mem_of_getElem? (i := 69) rfl)
theorem w70 {a0 : Array Value} {Z : State} (G : Gl a0 Z) : (Jvm.Cond.interfaceMethod "java/util/List" "java/util/List" "add" "(Ljava/lang/Object;)Z").before a0 Z = true := G.1 _ (List.mem_of_getElem? (i := 70) rfl)
theorem w71 {a0 : Array Value} {Z : State} (G : Gl a0 Z) : (Jvm.Cond.selects "java/util/ArrayList" ({ cls := "java/util/List", name := "add", desc := "(Ljava/lang/Object;)Z" } : Jvm.MethodName) ({ cls := "java/util/ArrayList", name := "add", desc := "(Ljava/lang/Object;)Z" } : Jvm.MethodName)).before a0 Z = true := G.1 _ (List.mem_of_getElem? (i := 71) rfl)
theorem w72 {a0 : Array Value} {Z : State} (G : Gl a0 Z) : (Jvm.Cond.instanceMethod ({ cls := "java/util/ArrayList", name := "add", desc := "(Ljava/lang/Object;)Z" } : Jvm.MethodName)).before a0 Z = true := G.1 _ (List.mem_of_getElem? (i := 72) rfl)
theorem w73 {a0 : Array Value} {Z : State} (G : Gl a0 Z) : (Jvm.Cond.publicMethod ({ cls := "java/util/ArrayList", name := "add", desc := "(Ljava/lang/Object;)Z" } : Jvm.MethodName)).before a0 Z = true := G.1 _ (List.mem_of_getElem? (i := 73) rfl)
theorem w74 {a0 : Array Value} {Z : State} (G : Gl a0 Z) : (Jvm.Cond.unhidden "java/util/ArrayList" "add" "(Ljava/lang/Object;)Z").before a0 Z = true := G.1 _ (List.mem_of_getElem? (i := 74) rfl)
theorem w76 {a0 : Array Value} {Z : State} (G : Gl a0 Z) : (Jvm.Cond.code ({ cls := "java/util/ArrayList", name := "add", desc := "(Ljava/lang/Object;)Z" } : Jvm.MethodName) jdk_38_method_25_code (2 : Nat) (Option.some Jvm.ClassFile.FieldType.boolean)).before a0 Z = true := G.1 _ (List.mem_of_getElem? (i := 76) rfl)
theorem w195 {a0 : Array Value} {Z : State} (G : Gl a0 Z) : (Jvm.Cond.methodLink "com/example/persist/persist/session/Operand" (47 : Nat) ({ cls := "java/util/List", name := "add", desc := "(Ljava/lang/Object;)Z" } : Jvm.MethodName)).before a0 Z = true := G.1 _ (List.mem_of_getElem? (i := 195) rfl)
theorem d30_0 : D1 prog_28_method_6_code 0 (.aload_n 1) 1 1 := ⟨by decide +kernel, rfl⟩
theorem d30_1 : D1 prog_28_method_6_code 1 (.aload_n 2) 1 2 := ⟨by decide +kernel, rfl⟩
theorem d30_2 : D1 prog_28_method_6_code 2 (.invokeinterface 47 2) 5 7 := ⟨by decide +kernel, rfl⟩
theorem d30_7 : D1 prog_28_method_6_code 7 (.pop) 1 8 := ⟨by decide +kernel, rfl⟩
theorem d30_8 : D1 prog_28_method_6_code 8 (.aload_n 0) 1 9 := ⟨by decide +kernel, rfl⟩
theorem d30_9 : D1 prog_28_method_6_code 9 (.invokevirtual 24) 3 12 := ⟨by decide +kernel, rfl⟩
theorem d30_12 : D1 prog_28_method_6_code 12 (.ifCond .eq 11) 3 15 := ⟨by decide +kernel, rfl⟩
theorem d30_15 : D1 prog_28_method_6_code 15 (.aload_n 1) 1 16 := ⟨by decide +kernel, rfl⟩
theorem d30_16 : D1 prog_28_method_6_code 16 (.aload_n 2) 1 17 := ⟨by decide +kernel, rfl⟩
theorem d30_17 : D1 prog_28_method_6_code 17 (.invokeinterface 47 2) 5 22 := ⟨by decide +kernel, rfl⟩
theorem d30_22 : D1 prog_28_method_6_code 22 (.pop) 1 23 := ⟨by decide +kernel, rfl⟩
theorem d30_23 : D1 prog_28_method_6_code 23 (.return_) 1 24 := ⟨by decide +kernel, rfl⟩
set_option maxRecDepth 65536 in
set_option maxHeartbeats 4000000 in
theorem o_addBound (l : Launch) {Z : State} {a0 : Array Value} (G : Gl a0 Z) {L : List Ent} {a2 x de : Addr} (hD : DeF Z de) {o s1 s2 p1 p2 : Addr} {fo : Bool} {k1 k2 : List Nat} (hO : (o, (Ob Z "com/example/persist/persist/session/Operand" ns3 [.ref s1, .ref s2]), fo) ∈ L) (hA : Sk Z L s1 p1 k1) (hB : Sk Z L s2 p2 k2) (hE : s2 = s1 → k2 = k1) (hx : Cst Z L x "java/lang/Object") : Ct WD EL0 l Z (⟨"com/example/persist/persist/session/Operand", "addBound", "(Ljava/util/List;Ljava/lang/Object;)V"⟩ : MethodName) prog_28_method_6_code 3 none ({ frames := 5, cells := 1, slots := 10, locals := 69 } : Room) #[.ref o, .ref a2, .ref x] (ow a2 (Ob Z "java/util/ArrayList" ns2 [.int 0, .ref de, .int 0]) :: L) (r0Q (fun M => ∃ b P1 ed w, M = ow a2 (Ob Z "java/util/ArrayList" ns2 [.int w, ed, .int (if k1 = k2 then 1 else 2)]) :: ow b P1 :: L)) := by
  refine Ct.intro (by decide +kernel) G.2.1 ?_
  intro p e s m below meth c X
  replace X : Cx WD EL0 p Z s m meth c "com/example/persist/persist/session/Operand" "addBound" prog_28_method_6_code 3 none := X
  refine Go.cast (g' := mkF m 0 #[.val (.ref o), .val (.ref a2), .val (.ref x)] []) (by first | rfl | (simp [entryFrame, mkF, argsToLocals, Value.category, maxLocals]; done)) ?_
  refine Go.aloadN X d30_0 rfl rfl ?_
  refine Go.aloadN X d30_1 rfl rfl ?_
  refine Go.callN X (fun h H => H.exa (i := 0) rfl) (l_addf l G (y := 0) hD hx) (rest := []) (w195 G) (w69 G) (by decide +kernel) (w70 G) (w71 G) (w72 G) (w73 G) (w74 G) (w75 G) (w46 G) (w76 G) (by decide) pd14 rfl rfl d30_2 rfl (by first | exact Nat.le_of_ble_eq_true rfl | (simp; done) | (simp; omega)) (by first | exact Nat.le_of_ble_eq_true rfl | (simp; done) | (simp; omega)) (by first | exact Nat.le_of_ble_eq_true rfl | (simp; done) | (simp; omega)) (by first | exact Nat.le_of_ble_eq_true rfl | (simp; done) | (simp; omega)) (Kv ?_)
  rintro v M ⟨rfl, b, K, hK, rfl⟩
  refine Go.pop X d30_7 rfl ?_
  refine Go.perm (L' := (ow a2 (Ob Z "java/util/ArrayList" ns2 [.int (0 + 1), .ref b, .int (Int32.ofNat 1)]) :: ow b (Ar Z (.object "java/lang/Object") K (.ref x :: List.replicate 9 Value.null)) :: L)) (List.Perm.swap _ _ _) ?_
  refine Go.aloadN X d30_8 rfl rfl ?_
  refine Go.callP X (fun h H => H.exaM (List.mem_cons_of_mem _ (List.mem_cons_of_mem _ (hO))) (fun c q => ⟨_, _, q⟩)) (o_narrows l G (List.mem_cons_of_mem _ (List.mem_cons_of_mem _ hO)) hA.up.up hB.up.up hE) (rest := []) (w119 G) (w120 G) (selP (w104 G) (w121 G) (w120 G) (by decide)) (w121 G) (w105 G) (w122 G) (by decide) pd15 rfl rfl d30_9 rfl (by first | exact Nat.le_of_ble_eq_true rfl | (simp; done) | (simp; omega)) (by first | exact Nat.le_of_ble_eq_true rfl | (simp; done) | (simp; omega)) (by first | exact Nat.le_of_ble_eq_true rfl | (simp; done) | (simp; omega)) (by first | exact Nat.le_of_ble_eq_true rfl | (simp; done) | (simp; omega)) (Kv ?_)
  rintro v M ⟨rfl, rfl⟩
  by_cases hq : k1 = k2
  · rw [if_pos hq, if_pos hq]
    refine Go.ifc X d30_12 (pt := 23) ⟨by decide, by decide⟩ ?_ ?_
    rotate_left
    · intro z; exact absurd rfl z
    intro _
    refine Go.ret0 X d30_23 (by first | exact Nat.le_of_ble_eq_true rfl | (simp; done) | (simp; omega)) (by first | exact Nat.le_of_ble_eq_true rfl | (simp; done) | (simp; omega)) ?_
    exact ⟨b, _, _, _, rfl⟩
  rw [if_neg hq, if_neg hq]
  refine Go.ifc X d30_12 (pt := 23) ⟨by decide, by decide⟩ ?_ ?_
  · intro z; exact absurd (show (1 : Int32) = 0 from z) (by decide)
  intro _
  refine Go.aloadN X d30_15 rfl rfl ?_
  refine Go.aloadN X d30_16 rfl rfl ?_
  refine Go.callN X (fun h H => H.exa (i := 0) rfl) (l_addr l G (y := 0 + 1) (vs := (.ref x :: List.replicate 9 Value.null)) (N := 1) hK.1 (by simp) hx) (rest := []) (w195 G) (w69 G) (by decide +kernel) (w70 G) (w71 G) (w72 G) (w73 G) (w74 G) (w75 G) (w46 G) (w76 G) (by decide) pd14 rfl rfl d30_17 rfl (by first | exact Nat.le_of_ble_eq_true rfl | (simp; done) | (simp; omega)) (by first | exact Nat.le_of_ble_eq_true rfl | (simp; done) | (simp; omega)) (by first | exact Nat.le_of_ble_eq_true rfl | (simp; done) | (simp; omega)) (by first | exact Nat.le_of_ble_eq_true rfl | (simp; done) | (simp; omega)) (Kv ?_)
  rintro v M ⟨rfl, rfl⟩
  refine Go.pop X d30_22 rfl ?_
  refine Go.ret0 X d30_23 (by first | exact Nat.le_of_ble_eq_true rfl | (simp; done) | (simp; omega)) (by first | exact Nat.le_of_ble_eq_true rfl | (simp; done) | (simp; omega)) ?_
  exact ⟨b, _, _, _, rfl⟩
-- %%% law k204y
theorem w37 {a0 : Array Value} {Z : State} (G : Gl a0 Z) : (Jvm.Cond.methodLink "com/example/persist/persist/session/OperandBindingsPinLaw" (18 : Nat) ({ cls := "java/lang/Integer", name := "valueOf", desc := "(I)Ljava/lang/Integer;" } : Jvm.MethodName)).before a0 Z = true := G.1 _ (List.mem_of_getElem? (i := 37) rfl)
theorem w38 {a0 : Array Value} {Z : State} (G : Gl a0 Z) : (Jvm.Cond.static ({ cls := "java/lang/Integer", name := "valueOf", desc := "(I)Ljava/lang/Integer;" } : Jvm.MethodName)).before a0 Z = true := G.1 _ (List.mem_of_getElem? (i := 38) rfl)
theorem w40 {a0 : Array Value} {Z : State} (G : Gl a0 Z) : (Jvm.Cond.code ({ cls := "java/lang/Integer", name := "valueOf", desc := "(I)Ljava/lang/Integer;" } : Jvm.MethodName) jdk_33_method_22_code (1 : Nat) (Option.some (Jvm.ClassFile.FieldType.object "java/lang/Integer"))).before a0 Z = true := G.1 _ (List.mem_of_getElem? (i := 40) rfl)
theorem w44 {a0 : Array Value} {Z : State} (G : Gl a0 Z) : (Jvm.Cond.classLink "com/example/persist/persist/session/OperandBindingsPinLaw" (24 : Nat) "java/util/ArrayList").before a0 Z = true := G.1 _ (List.mem_of_getElem? (i := 44) rfl)
theorem w47 {a0 : Array Value} {Z : State} (G : Gl a0 Z) : (Jvm.Cond.methodLink "com/example/persist/persist/session/OperandBindingsPinLaw" (26 : Nat) ({ cls := "java/util/ArrayList", name := "<init>", desc := "()V" } : Jvm.MethodName)).before a0 Z = true := G.1 _ (List.mem_of_getElem? (i := 47) rfl)
theorem w48 {a0 : Array Value} {Z : State} (G : Gl a0 Z) : (Jvm.Cond.instanceMethod ({ cls := "java/util/ArrayList", name := "<init>", desc := "()V" } : Jvm.MethodName)).before a0 Z = true := G.1 _ (List.mem_of_getElem? (i := 48) rfl)
theorem w49 {a0 : Array Value} {Z : State} (G : Gl a0 Z) : (Jvm.Cond.code ({ cls := "java/util/ArrayList", name := "<init>", desc := "()V" } : Jvm.MethodName) jdk_38_method_2_code (1 : Nat) (Option.none : Option Jvm.ClassFile.FieldType)).before a0 Z = true := G.1 _ (List.mem_of_getElem? (i := 49) rfl)
theorem w68 {a0 : Array Value} {Z : State} (G : Gl a0 Z) : (Jvm.Cond.methodLink "com/example/persist/persist/session/OperandBindingsPinLaw" (27 : Nat) ({ cls := "java/util/List", name := "add", desc := "(Ljava/lang/Object;)Z" } : Jvm.MethodName)).before a0 Z = true := G.1 _ (List.mem_of_getElem? (i := 68) rfl)
theorem w102 {a0 : Array Value} {Z : State} (G : Gl a0 Z) : (Jvm.Cond.castable "java/lang/Integer" "java/lang/Object").before a0 Z = true := G.1 _ (List.mem_of_getElem? (i := 102) rfl)
theorem w103 {a0 : Array Value} {Z : State} (G : Gl a0 Z) : (Jvm.Cond.classLink "com/example/persist/persist/session/OperandBindingsPinLaw" (33 : Nat) "com/example/persist/persist/session/Operand").before a0 Z = true := G.1 _ (List.mem_of_getElem? (i := 103) rfl)
theorem w106 {a0 : Array Value} {Z : State} (G : Gl a0 Z) : (Jvm.Cond.methodLink "com/example/persist/persist/session/OperandBindingsPinLaw" (35 : Nat) ({ cls := "com/example/persist/persist/session/Operand", name := "<init>", desc := "(Ljava/lang/String;Ljava/lang/String;)V" } : Jvm.MethodName)).before a0 Z = true := G.1 _ (List.mem_of_getElem? (i := 106) rfl)
theorem w107 {a0 : Array Value} {Z : State} (G : Gl a0 Z) : (Jvm.Cond.instanceMethod ({ cls := "com/example/persist/persist/session/Operand", name := "<init>", desc := "(Ljava/lang/String;Ljava/lang/String;)V" } : Jvm.MethodName)).before a0 Z = true := G.1 _ (List.mem_of_getElem? (i := 107) rfl)
theorem w108 {a0 : Array Value} {Z : State} (G : Gl a0 Z) : (Jvm.Cond.code ({ cls := "com/example/persist/persist/session/Operand", name := "<init>", desc := "(Ljava/lang/String;Ljava/lang/String;)V" } : Jvm.MethodName) prog_28_method_1_code (3 : Nat) (Option.none : Option Jvm.ClassFile.FieldType)).before a0 Z = true := G.1 _ (List.mem_of_getElem? (i := 108) rfl)
theorem w114 {a0 : Array Value} {Z : State} (G : Gl a0 Z) : (Jvm.Cond.methodLink "com/example/persist/persist/session/OperandBindingsPinLaw" (38 : Nat) ({ cls := "com/example/persist/persist/session/Operand", name := "bindings", desc := "()I" } : Jvm.MethodName)).before a0 Z = true := G.1 _ (List.mem_of_getElem? (i := 114) rfl)
theorem w115 {a0 : Array Value} {Z : State} (G : Gl a0 Z) : (Jvm.Cond.declares ({ cls := "com/example/persist/persist/session/Operand", name := "bindings", desc := "()I" } : Jvm.MethodName)).before a0 Z = true := G.1 _ (List.mem_of_getElem? (i := 115) rfl)
theorem w116 {a0 : Array Value} {Z : State} (G : Gl a0 Z) : (Jvm.Cond.instanceMethod ({ cls := "com/example/persist/persist/session/Operand", name := "bindings", desc := "()I" } : Jvm.MethodName)).before a0 Z = true := G.1 _ (List.mem_of_getElem? (i := 116) rfl)
theorem w117 {a0 : Array Value} {Z : State} (G : Gl a0 Z) : (Jvm.Cond.selects "com/example/persist/persist/session/Operand" ({ cls := "com/example/persist/persist/session/Operand", name := "bindings", desc := "()I" } : Jvm.MethodName) ({ cls := "com/example/persist/persist/session/Operand", name := "bindings", desc := "()I" } : Jvm.MethodName)).before a0 Z = true := G.1 _ (List.mem_of_getElem? (i := 117) rfl)
theorem w118 {a0 : Array Value} {Z : State} (G : Gl a0 Z) : (Jvm.Cond.code ({ cls := "com/example/persist/persist/session/Operand", name := "bindings", desc := "()I" } : Jvm.MethodName) prog_28_method_7_code (1 : Nat) (Option.some Jvm.ClassFile.FieldType.int)).before a0 Z = true := G.1 _ (List.mem_of_getElem? (i := 118) rfl)
theorem w133 {a0 : Array Value} {Z : State} (G : Gl a0 Z) : (Jvm.Cond.methodLink "com/example/persist/persist/session/OperandBindingsPinLaw" (42 : Nat) ({ cls := "com/example/persist/persist/session/Operand", name := "bound", desc := "(Ljava/util/List;)Ljava/util/List;" } : Jvm.MethodName)).before a0 Z = true := G.1 _ (List.mem_of_getElem? (i := 133) rfl)
theorem w134 {a0 : Array Value} {Z : State} (G : Gl a0 Z) : (Jvm.Cond.declares ({ cls := "com/example/persist/persist/session/Operand", name := "bound", desc := "(Ljava/util/List;)Ljava/util/List;" } : Jvm.MethodName)).before a0 Z = true := G.1 _ (List.mem_of_getElem? (i := 134) rfl)
theorem w135 {a0 : Array Value} {Z : State} (G : Gl a0 Z) : (Jvm.Cond.instanceMethod ({ cls := "com/example/persist/persist/session/Operand", name := "bound", desc := "(Ljava/util/List;)Ljava/util/List;" } : Jvm.MethodName)).before a0 Z = true := G.1 _ (List.mem_of_getElem? (i := 135) rfl)
theorem w136 {a0 : Array Value} {Z : State} (G : Gl a0 Z) : (Jvm.Cond.selects "com/example/persist/persist/session/Operand" ({ cls := "com/example/persist/persist/session/Operand", name := "bound", desc := "(Ljava/util/List;)Ljava/util/List;" } : Jvm.MethodName) ({ cls := "com/example/persist/persist/session/Operand", name := "bound", desc := "(Ljava/util/List;)Ljava/util/List;" } : Jvm.MethodName)).before a0 Z = true := G.1 _ (List.mem_of_getElem? (i := 136) rfl)
theorem w137 {a0 : Array Value} {Z : State} (G : Gl a0 Z) : (Jvm.Cond.code ({ cls := "com/example/persist/persist/session/Operand", name := "bound", desc := "(Ljava/util/List;)Ljava/util/List;" } : Jvm.MethodName) prog_28_method_5_code (3 : Nat) (Option.some (Jvm.ClassFile.FieldType.object "java/util/List"))).before a0 Z = true := G.1 _ (List.mem_of_getElem? (i := 137) rfl)
theorem w190 {a0 : Array Value} {Z : State} (G : Gl a0 Z) : (Jvm.Cond.methodLink "com/example/persist/persist/session/OperandBindingsPinLaw" (46 : Nat) ({ cls := "com/example/persist/persist/session/Operand", name := "addBound", desc := "(Ljava/util/List;Ljava/lang/Object;)V" } : Jvm.MethodName)).before a0 Z = true := G.1 _ (List.mem_of_getElem? (i := 190) rfl)
theorem w191 {a0 : Array Value} {Z : State} (G : Gl a0 Z) : (Jvm.Cond.declares ({ cls := "com/example/persist/persist/session/Operand", name := "addBound", desc := "(Ljava/util/List;Ljava/lang/Object;)V" } : Jvm.MethodName)).before a0 Z = true := G.1 _ (List.mem_of_getElem? (i := 191) rfl)
theorem w192 {a0 : Array Value} {Z : State} (G : Gl a0 Z) : (Jvm.Cond.instanceMethod ({ cls := "com/example/persist/persist/session/Operand", name := "addBound", desc := "(Ljava/util/List;Ljava/lang/Object;)V" } : Jvm.MethodName)).before a0 Z = true := G.1 _ (List.mem_of_getElem? (i := 192) rfl)
theorem w193 {a0 : Array Value} {Z : State} (G : Gl a0 Z) : (Jvm.Cond.selects "com/example/persist/persist/session/Operand" ({ cls := "com/example/persist/persist/session/Operand", name := "addBound", desc := "(Ljava/util/List;Ljava/lang/Object;)V" } : Jvm.MethodName) ({ cls := "com/example/persist/persist/session/Operand", name := "addBound", desc := "(Ljava/util/List;Ljava/lang/Object;)V" } : Jvm.MethodName)).before a0 Z = true := G.1 _ (List.mem_of_getElem? (i := 193) rfl)
theorem w194 {a0 : Array Value} {Z : State} (G : Gl a0 Z) : (Jvm.Cond.code ({ cls := "com/example/persist/persist/session/Operand", name := "addBound", desc := "(Ljava/util/List;Ljava/lang/Object;)V" } : Jvm.MethodName) prog_28_method_6_code (3 : Nat) (Option.none : Option Jvm.ClassFile.FieldType)).before a0 Z = true := G.1 _ (List.mem_of_getElem? (i := 194) rfl)
theorem w196 {a0 : Array Value} {Z : State} (G : Gl a0 Z) : (Jvm.Cond.methodLink "com/example/persist/persist/session/OperandBindingsPinLaw" (50 : Nat) ({ cls := "java/util/List", name := "size", desc := "()I" } : Jvm.MethodName)).before a0 Z = true := G.1 _ (List.mem_of_getElem? (i := 196) rfl)
theorem d0_204 : D1 code 204 (.iload_n 3) 1 205 := ⟨at_204, rfl⟩
theorem d0_205 : D1 code 205 (.invokestatic 18) 3 208 := ⟨at_205, rfl⟩
theorem d0_208 : D1 code 208 (.astore 16) 2 210 := ⟨at_208, rfl⟩
theorem d0_210 : D1 code 210 (.new 24) 3 213 := ⟨at_210, rfl⟩
theorem d0_213 : D1 code 213 (.dup) 1 214 := ⟨at_213, rfl⟩
theorem d0_214 : D1 code 214 (.invokespecial 26) 3 217 := ⟨at_214, rfl⟩
theorem d0_217 : D1 code 217 (.astore 17) 2 219 := ⟨at_217, rfl⟩
theorem d0_219 : D1 code 219 (.aload 17) 2 221 := ⟨at_219, rfl⟩
theorem d0_221 : D1 code 221 (.aload 16) 2 223 := ⟨at_221, rfl⟩
theorem d0_223 : D1 code 223 (.invokeinterface 27 2) 5 228 := ⟨at_223, rfl⟩
theorem d0_228 : D1 code 228 (.pop) 1 229 := ⟨at_228, rfl⟩
theorem d0_229 : D1 code 229 (.new 24) 3 232 := ⟨at_229, rfl⟩
theorem d0_232 : D1 code 232 (.dup) 1 233 := ⟨at_232, rfl⟩
theorem d0_233 : D1 code 233 (.invokespecial 26) 3 236 := ⟨at_233, rfl⟩
theorem d0_236 : D1 code 236 (.astore 18) 2 238 := ⟨at_236, rfl⟩
theorem d0_238 : D1 code 238 (.new 33) 3 241 := ⟨at_238, rfl⟩
theorem d0_241 : D1 code 241 (.dup) 1 242 := ⟨at_241, rfl⟩
theorem d0_242 : D1 code 242 (.aload 13) 2 244 := ⟨at_242, rfl⟩
theorem d0_244 : D1 code 244 (.aload 14) 2 246 := ⟨at_244, rfl⟩
theorem d0_246 : D1 code 246 (.invokespecial 35) 3 249 := ⟨at_246, rfl⟩
theorem d0_249 : D1 code 249 (.astore 19) 2 251 := ⟨at_249, rfl⟩
theorem d0_251 : D1 code 251 (.aload 19) 2 253 := ⟨at_251, rfl⟩
theorem d0_253 : D1 code 253 (.invokevirtual 38) 3 256 := ⟨at_253, rfl⟩
theorem d0_256 : D1 code 256 (.istore 20) 2 258 := ⟨at_256, rfl⟩
theorem d0_258 : D1 code 258 (.iload 20) 2 260 := ⟨at_258, rfl⟩
theorem d0_260 : D1 code 260 (.iload 15) 2 262 := ⟨at_260, rfl⟩
theorem d0_262 : D1 code 262 (.ifCond .eq 7) 3 265 := ⟨at_262, rfl⟩
theorem d0_265 : D1 code 265 (.iconst 1) 1 266 := ⟨at_265, rfl⟩
theorem d0_266 : D1 code 266 (.goto 4) 3 269 := ⟨at_266, rfl⟩
theorem d0_270 : D1 code 270 (.if_icmp .eq 5) 3 273 := ⟨at_270, rfl⟩
theorem d0_275 : D1 code 275 (.aload 19) 2 277 := ⟨at_275, rfl⟩
theorem d0_277 : D1 code 277 (.aload 17) 2 279 := ⟨at_277, rfl⟩
theorem d0_279 : D1 code 279 (.invokevirtual 42) 3 282 := ⟨at_279, rfl⟩
theorem d0_282 : D1 code 282 (.astore 21) 2 284 := ⟨at_282, rfl⟩
theorem d0_284 : D1 code 284 (.aload 19) 2 286 := ⟨at_284, rfl⟩
theorem d0_286 : D1 code 286 (.aload 18) 2 288 := ⟨at_286, rfl⟩
theorem d0_288 : D1 code 288 (.aload 16) 2 290 := ⟨at_288, rfl⟩
theorem d0_290 : D1 code 290 (.invokevirtual 46) 3 293 := ⟨at_290, rfl⟩
theorem d0_293 : D1 code 293 (.aload 21) 2 295 := ⟨at_293, rfl⟩
theorem d0_295 : D1 code 295 (.invokeinterface 50 1) 5 300 := ⟨at_295, rfl⟩
theorem d0_300 : D1 code 300 (.iload 20) 2 302 := ⟨at_300, rfl⟩
theorem d0_302 : D1 code 302 (.if_icmp .ne 19) 3 305 := ⟨at_302, rfl⟩
theorem d0_305 : D1 code 305 (.aload 18) 2 307 := ⟨at_305, rfl⟩
theorem d0_307 : D1 code 307 (.invokeinterface 50 1) 5 312 := ⟨at_307, rfl⟩
theorem d0_312 : D1 code 312 (.iload 20) 2 314 := ⟨at_312, rfl⟩
theorem d0_314 : D1 code 314 (.if_icmp .ne 7) 3 317 := ⟨at_314, rfl⟩
theorem d0_317 : D1 code 317 (.iconst 1) 1 318 := ⟨at_317, rfl⟩
theorem d0_318 : D1 code 318 (.goto 4) 3 321 := ⟨at_318, rfl⟩
theorem d0_322 : D1 code 322 (.ireturn) 1 323 := ⟨at_322, rfl⟩
theorem pd18 : parseMethodDescriptor "(I)Ljava/lang/Integer;" = some ⟨[.int], some (.object "java/lang/Integer")⟩ := by decide +kernel
theorem pd19 : parseMethodDescriptor "(Ljava/lang/String;Ljava/lang/String;)V" = some ⟨[(.object "java/lang/String"), (.object "java/lang/String")], none⟩ := by decide +kernel
theorem pd20 : parseMethodDescriptor "(Ljava/util/List;)Ljava/util/List;" = some ⟨[(.object "java/util/List")], some (.object "java/util/List")⟩ := by decide +kernel
theorem pd21 : parseMethodDescriptor "(Ljava/util/List;Ljava/lang/Object;)V" = some ⟨[(.object "java/util/List"), (.object "java/lang/Object")], none⟩ := by decide +kernel
set_option maxRecDepth 65536 in
set_option maxHeartbeats 4000000 in
theorem k204y {p : Program} {l : Launch} {e : Env} {Z s : State} {a0 : Array Value} {m : MethodId} {below : List Frame} {meth : Method} {c : Code} {i0 i1 i2 i3 : Int32} (X : Cx WD EL0 p Z s m meth c "com/example/persist/persist/session/OperandBindingsPinLaw" "law" code 22 (some .boolean)) (G : Gl a0 Z) {m0 n0 c1 c2 c3 d1 d2 d3 : Nat} {f8 : Int32} {s1 s2 p1 p2 de : Addr} {UU : List Ent} (hA : Sk Z UU s1 p1 (List.take m0 [c1, c2, c3])) (hB : Sk Z UU s2 p2 (List.take n0 [d1, d2, d3])) (hE : s2 = s1 → List.take n0 [d1, d2, d3] = List.take m0 [c1, c2, c3]) (hD : DeF Z de) (hq : List.take m0 [c1, c2, c3] = List.take n0 [d1, d2, d3]) : Go WD EL0 p l e room_1 Z s m #[.int i0, .int i1, .int i2, .int i3] below meth c (rvQ fun v _ => v = .int 1) UU 12 40 (mkF m 204 #[.val (.int i0), .val (.int i1), .val (.int i2), .val (.int i3), .val (.int (Int32.ofNat m0)), .val (.int (Int32.ofNat c1)), .val (.int (Int32.ofNat c2)), .val (.int (Int32.ofNat c3)), .val (.int f8), .val (.int (Int32.ofNat n0)), .val (.int (Int32.ofNat d1)), .val (.int (Int32.ofNat d2)), .val (.int (Int32.ofNat d3)), .val (.ref s1), .val (.ref s2), .val (.int (if List.take m0 [c1, c2, c3] = List.take n0 [d1, d2, d3] then 1 else 0)), .unset, .unset, .unset, .unset, .unset, .unset] []) := by
    refine Go.iloadN X d0_204 rfl ?_
    refine Go.callS X (i_val l G i3) (rest := []) (w37 G) (w38 G) (w39 G) (w40 G) (by decide) pd18 rfl rfl d0_205 rfl (by first | exact Nat.le_of_ble_eq_true rfl | (simp; done) | (simp; omega)) (by first | exact Nat.le_of_ble_eq_true rfl | (simp; done) | (simp; omega)) (by first | exact Nat.le_of_ble_eq_true rfl | (simp; done) | (simp; omega)) (by first | exact Nat.le_of_ble_eq_true rfl | (simp; done) | (simp; omega)) (Kv ?_)
    rintro v M ⟨x, fx, rfl, rfl⟩
    refine Go.astore X d0_208 rfl (stL rfl rfl (by dsimp only [updL])) ?_
    have hx : Cst Z ((x, (Ob Z "java/lang/Integer" ns1 [.int i3]), fx) :: UU) x "java/lang/Object" := Cst.of List.mem_cons_self (fun c q => Ob.inC (w102 G) q)
    refine Go.new X (w44 G) (w45 G) (w46 G) (lay2 G) df2 d0_210 (by first | exact Nat.le_of_ble_eq_true rfl | (simp; done) | (simp; omega)) (by first | exact Nat.le_of_ble_eq_true rfl | (simp; done) | (simp; omega)) ?_
    intro a1
    refine Go.dup X d0_213 rfl ?_
    refine Go.callI X (l_init l G (a := a1) hD) rfl (rest := [.ref a1]) (w47 G) (w48 G) (w46 G) (w49 G) (by decide) pd5 rfl rfl d0_214 rfl (by first | exact Nat.le_of_ble_eq_true rfl | (simp; done) | (simp; omega)) (by first | exact Nat.le_of_ble_eq_true rfl | (simp; done) | (simp; omega)) (by first | exact Nat.le_of_ble_eq_true rfl | (simp; done) | (simp; omega)) (by first | exact Nat.le_of_ble_eq_true rfl | (simp; done) | (simp; omega)) (K0 ?_)
    rintro M rfl
    refine Go.astore X d0_217 rfl (stL rfl rfl (by dsimp only [updL])) ?_
    refine Go.aload X d0_219 rfl rfl ?_
    refine Go.aload X d0_221 rfl rfl ?_
    refine Go.callN X (fun h H => H.exa (i := 0) rfl) (l_addf l G (y := 0) hD hx) (rest := []) (w68 G) (w69 G) (by decide +kernel) (w70 G) (w71 G) (w72 G) (w73 G) (w74 G) (w75 G) (w46 G) (w76 G) (by decide) pd14 rfl rfl d0_223 rfl (by first | exact Nat.le_of_ble_eq_true rfl | (simp; done) | (simp; omega)) (by first | exact Nat.le_of_ble_eq_true rfl | (simp; done) | (simp; omega)) (by first | exact Nat.le_of_ble_eq_true rfl | (simp; done) | (simp; omega)) (by first | exact Nat.le_of_ble_eq_true rfl | (simp; done) | (simp; omega)) (Kv ?_)
    rintro v M ⟨rfl, b1, K1, hK1, rfl⟩
    refine Go.pop X d0_228 rfl ?_
    refine Go.new X (w44 G) (w45 G) (w46 G) (lay2 G) df2 d0_229 (by first | exact Nat.le_of_ble_eq_true rfl | (simp; done) | (simp; omega)) (by first | exact Nat.le_of_ble_eq_true rfl | (simp; done) | (simp; omega)) ?_
    intro a2
    refine Go.dup X d0_232 rfl ?_
    refine Go.callI X (l_init l G (a := a2) hD) rfl (rest := [.ref a2]) (w47 G) (w48 G) (w46 G) (w49 G) (by decide) pd5 rfl rfl d0_233 rfl (by first | exact Nat.le_of_ble_eq_true rfl | (simp; done) | (simp; omega)) (by first | exact Nat.le_of_ble_eq_true rfl | (simp; done) | (simp; omega)) (by first | exact Nat.le_of_ble_eq_true rfl | (simp; done) | (simp; omega)) (by first | exact Nat.le_of_ble_eq_true rfl | (simp; done) | (simp; omega)) (K0 ?_)
    rintro M rfl
    refine Go.astore X d0_236 rfl (stL rfl rfl (by dsimp only [updL])) ?_
    refine Go.new X (w103 G) (w104 G) (w105 G) (lay3 G) df3 d0_238 (by first | exact Nat.le_of_ble_eq_true rfl | (simp; done) | (simp; omega)) (by first | exact Nat.le_of_ble_eq_true rfl | (simp; done) | (simp; omega)) ?_
    intro o
    refine Go.dup X d0_241 rfl ?_
    refine Go.aload X d0_242 rfl rfl ?_
    refine Go.aload X d0_244 rfl rfl ?_
    refine Go.callI X (o_init l G (o := o) (s1 := s1) (s2 := s2)) rfl (rest := [.ref o]) (w106 G) (w107 G) (w105 G) (w108 G) (by decide) pd19 rfl rfl d0_246 rfl (by first | exact Nat.le_of_ble_eq_true rfl | (simp; done) | (simp; omega)) (by first | exact Nat.le_of_ble_eq_true rfl | (simp; done) | (simp; omega)) (by first | exact Nat.le_of_ble_eq_true rfl | (simp; done) | (simp; omega)) (by first | exact Nat.le_of_ble_eq_true rfl | (simp; done) | (simp; omega)) (K0 ?_)
    rintro M rfl
    refine Go.astore X d0_249 rfl (stL rfl rfl (by dsimp only [updL])) ?_
    refine Go.aload X d0_251 rfl rfl ?_
    refine Go.callV X (fun h H => H.exa (i := 0) rfl) (o_bind l G (o := o) (s1 := s1) (s2 := s2) (k1 := List.take m0 [c1, c2, c3]) (k2 := List.take n0 [d1, d2, d3]) List.mem_cons_self hA.up.up.up.up.up hB.up.up.up.up.up hE) (rest := []) (w114 G) (w115 G) (nfS (w117 G)) (w117 G) (w116 G) (w105 G) (w118 G) (by decide) pd16 rfl rfl d0_253 rfl (by first | exact Nat.le_of_ble_eq_true rfl | (simp; done) | (simp; omega)) (by first | exact Nat.le_of_ble_eq_true rfl | (simp; done) | (simp; omega)) (by first | exact Nat.le_of_ble_eq_true rfl | (simp; done) | (simp; omega)) (by first | exact Nat.le_of_ble_eq_true rfl | (simp; done) | (simp; omega)) (Kv ?_)
    rintro v M ⟨rfl, rfl⟩
    rw [if_pos hq]
    refine Go.istore X d0_256 (stL rfl rfl (by dsimp only [updL])) ?_
    refine Go.iload X d0_258 rfl ?_
    refine Go.iload X d0_260 rfl ?_
    rw [if_pos hq]
    refine Go.ifc X d0_262 (pt := 269) ⟨by decide, by decide⟩ ?_ ?_
    · intro q; exact absurd (show (1 : Int32) = 0 from q) (by decide)
    intro _
    refine Go.iconst X (v := 1) d0_265 (by decide) ?_
    refine Go.goto X d0_266 (pt := 270) ⟨by decide, by decide⟩ ?_
    refine Go.icmp X d0_270 (pt := 275) ⟨by decide, by decide⟩ ?_ ?_
    rotate_left
    · intro q; exact absurd rfl q
    intro _
    refine Go.aload X d0_275 rfl rfl ?_
    refine Go.aload X d0_277 rfl rfl ?_
    refine Go.callV X (fun h H => H.exa (i := 0) rfl) (o_bound_y l G (o := o) (s1 := s1) (s2 := s2) (k1 := List.take m0 [c1, c2, c3]) (k2 := List.take n0 [d1, d2, d3]) (a1 := a1) List.mem_cons_self hA.up.up.up.up.up hB.up.up.up.up.up hE hq) (rest := []) (w133 G) (w134 G) (nfS (w136 G)) (w136 G) (w135 G) (w105 G) (w137 G) (by decide) pd20 rfl rfl d0_279 rfl (by first | exact Nat.le_of_ble_eq_true rfl | (simp; done) | (simp; omega)) (by first | exact Nat.le_of_ble_eq_true rfl | (simp; done) | (simp; omega)) (by first | exact Nat.le_of_ble_eq_true rfl | (simp; done) | (simp; omega)) (by first | exact Nat.le_of_ble_eq_true rfl | (simp; done) | (simp; omega)) (Kv ?_)
    rintro v M ⟨rfl, rfl⟩
    refine Go.astore X d0_282 rfl (stL rfl rfl (by dsimp only [updL])) ?_
    refine Go.perm (L' := ow a2 (Ob Z "java/util/ArrayList" ns2 [.int 0, .ref de, .int 0]) :: ow o (Ob Z "com/example/persist/persist/session/Operand" ns3 [.ref s1, .ref s2]) :: ow b1 (Ar Z (.object "java/lang/Object") K1 (.ref x :: List.replicate 9 Value.null)) :: ow a1 (Ob Z "java/util/ArrayList" ns2 [.int (0 + 1), .ref b1, .int 1]) :: (x, (Ob Z "java/lang/Integer" ns1 [.int i3]), fx) :: UU) ((front (i := 4) rfl).trans ((front (i := 4) rfl).trans ((front (i := 4) rfl).trans ((front (i := 3) rfl).trans (front (i := 4) rfl))))) ?_
    refine Go.aload X d0_284 rfl rfl ?_
    refine Go.aload X d0_286 rfl rfl ?_
    refine Go.aload X d0_288 rfl rfl ?_
    refine Go.callV X (fun h H => H.exa (i := 1) rfl) (o_addBound l G (a2 := a2) hD (o := o) (s1 := s1) (s2 := s2) (k1 := List.take m0 [c1, c2, c3]) (k2 := List.take n0 [d1, d2, d3]) (List.mem_of_getElem? (i := 0) rfl) hA.up.up.up.up hB.up.up.up.up hE (x := x) (L := ow o (Ob Z "com/example/persist/persist/session/Operand" ns3 [.ref s1, .ref s2]) :: ow b1 (Ar Z (.object "java/lang/Object") K1 (.ref x :: List.replicate 9 Value.null)) :: ow a1 (Ob Z "java/util/ArrayList" ns2 [.int (0 + 1), .ref b1, .int 1]) :: (x, (Ob Z "java/lang/Integer" ns1 [.int i3]), fx) :: UU) (Cst.of (List.mem_of_getElem? (i := 3) rfl) (fun c q => Ob.inC (w102 G) q))) (rest := []) (w190 G) (w191 G) (nfS (w193 G)) (w193 G) (w192 G) (w105 G) (w194 G) (by decide) pd21 rfl rfl d0_290 rfl (by first | exact Nat.le_of_ble_eq_true rfl | (simp; done) | (simp; omega)) (by first | exact Nat.le_of_ble_eq_true rfl | (simp; done) | (simp; omega)) (by first | exact Nat.le_of_ble_eq_true rfl | (simp; done) | (simp; omega)) (by first | exact Nat.le_of_ble_eq_true rfl | (simp; done) | (simp; omega)) (K0 ?_)
    rintro M ⟨b3, P4, ed3, w3, rfl⟩
    rw [if_pos hq]
    refine Go.aload X d0_293 rfl rfl ?_
    refine Go.callN X (fun h H => H.exa (i := 4) rfl) (l_size l G (z := 1) (fun h H => H.fld (i := 4) rfl (j := 2) rfl rfl)) (rest := []) (w196 G) (w140 G) (by decide +kernel) (w141 G) (w142 G) (w143 G) (w144 G) (w145 G) (w75 G) (w46 G) (w146 G) (by decide) pd16 rfl rfl d0_295 rfl (by first | exact Nat.le_of_ble_eq_true rfl | (simp; done) | (simp; omega)) (by first | exact Nat.le_of_ble_eq_true rfl | (simp; done) | (simp; omega)) (by first | exact Nat.le_of_ble_eq_true rfl | (simp; done) | (simp; omega)) (by first | exact Nat.le_of_ble_eq_true rfl | (simp; done) | (simp; omega)) (Kv ?_)
    rintro v M ⟨rfl, rfl⟩
    refine Go.iload X d0_300 rfl ?_
    refine Go.icmp X d0_302 (pt := 321) ⟨by decide, by decide⟩ ?_ ?_
    · intro q; exact absurd rfl q
    intro _
    refine Go.aload X d0_305 rfl rfl ?_
    refine Go.callN X (fun h H => H.exa (i := 0) rfl) (l_size l G (z := 1) (fun h H => H.fld (i := 0) rfl (j := 2) rfl rfl)) (rest := []) (w196 G) (w140 G) (by decide +kernel) (w141 G) (w142 G) (w143 G) (w144 G) (w145 G) (w75 G) (w46 G) (w146 G) (by decide) pd16 rfl rfl d0_307 rfl (by first | exact Nat.le_of_ble_eq_true rfl | (simp; done) | (simp; omega)) (by first | exact Nat.le_of_ble_eq_true rfl | (simp; done) | (simp; omega)) (by first | exact Nat.le_of_ble_eq_true rfl | (simp; done) | (simp; omega)) (by first | exact Nat.le_of_ble_eq_true rfl | (simp; done) | (simp; omega)) (Kv ?_)
    rintro v M ⟨rfl, rfl⟩
    refine Go.iload X d0_312 rfl ?_
    refine Go.icmp X d0_314 (pt := 321) ⟨by decide, by decide⟩ ?_ ?_
    · intro q; exact absurd rfl q
    intro _
    refine Go.iconst X (v := 1) d0_317 (by decide) ?_
    refine Go.goto X d0_318 (pt := 322) ⟨by decide, by decide⟩ ?_
    exact Go.zret X d0_322 (Or.inr rfl) (by first | exact Nat.le_of_ble_eq_true rfl | (simp; done) | (simp; omega)) (by first | exact Nat.le_of_ble_eq_true rfl | (simp; done) | (simp; omega)) rfl
-- %%% law k204n
theorem d0_269 : D1 code 269 (.iconst 2) 1 270 := ⟨at_269, rfl⟩
set_option maxRecDepth 65536 in
set_option maxHeartbeats 4000000 in
theorem k204n {p : Program} {l : Launch} {e : Env} {Z s : State} {a0 : Array Value} {m : MethodId} {below : List Frame} {meth : Method} {c : Code} {i0 i1 i2 i3 : Int32} (X : Cx WD EL0 p Z s m meth c "com/example/persist/persist/session/OperandBindingsPinLaw" "law" code 22 (some .boolean)) (G : Gl a0 Z) {m0 n0 c1 c2 c3 d1 d2 d3 : Nat} {f8 : Int32} {s1 s2 p1 p2 de : Addr} {UU : List Ent} (hA : Sk Z UU s1 p1 (List.take m0 [c1, c2, c3])) (hB : Sk Z UU s2 p2 (List.take n0 [d1, d2, d3])) (hE : s2 = s1 → List.take n0 [d1, d2, d3] = List.take m0 [c1, c2, c3]) (hD : DeF Z de) (hq : ¬ (List.take m0 [c1, c2, c3] = List.take n0 [d1, d2, d3])) : Go WD EL0 p l e room_1 Z s m #[.int i0, .int i1, .int i2, .int i3] below meth c (rvQ fun v _ => v = .int 1) UU 12 40 (mkF m 204 #[.val (.int i0), .val (.int i1), .val (.int i2), .val (.int i3), .val (.int (Int32.ofNat m0)), .val (.int (Int32.ofNat c1)), .val (.int (Int32.ofNat c2)), .val (.int (Int32.ofNat c3)), .val (.int f8), .val (.int (Int32.ofNat n0)), .val (.int (Int32.ofNat d1)), .val (.int (Int32.ofNat d2)), .val (.int (Int32.ofNat d3)), .val (.ref s1), .val (.ref s2), .val (.int (if List.take m0 [c1, c2, c3] = List.take n0 [d1, d2, d3] then 1 else 0)), .unset, .unset, .unset, .unset, .unset, .unset] []) := by
    refine Go.iloadN X d0_204 rfl ?_
    refine Go.callS X (i_val l G i3) (rest := []) (w37 G) (w38 G) (w39 G) (w40 G) (by decide) pd18 rfl rfl d0_205 rfl (by first | exact Nat.le_of_ble_eq_true rfl | (simp; done) | (simp; omega)) (by first | exact Nat.le_of_ble_eq_true rfl | (simp; done) | (simp; omega)) (by first | exact Nat.le_of_ble_eq_true rfl | (simp; done) | (simp; omega)) (by first | exact Nat.le_of_ble_eq_true rfl | (simp; done) | (simp; omega)) (Kv ?_)
    rintro v M ⟨x, fx, rfl, rfl⟩
    refine Go.astore X d0_208 rfl (stL rfl rfl (by dsimp only [updL])) ?_
    have hx : Cst Z ((x, (Ob Z "java/lang/Integer" ns1 [.int i3]), fx) :: UU) x "java/lang/Object" := Cst.of List.mem_cons_self (fun c q => Ob.inC (w102 G) q)
    refine Go.new X (w44 G) (w45 G) (w46 G) (lay2 G) df2 d0_210 (by first | exact Nat.le_of_ble_eq_true rfl | (simp; done) | (simp; omega)) (by first | exact Nat.le_of_ble_eq_true rfl | (simp; done) | (simp; omega)) ?_
    intro a1
    refine Go.dup X d0_213 rfl ?_
    refine Go.callI X (l_init l G (a := a1) hD) rfl (rest := [.ref a1]) (w47 G) (w48 G) (w46 G) (w49 G) (by decide) pd5 rfl rfl d0_214 rfl (by first | exact Nat.le_of_ble_eq_true rfl | (simp; done) | (simp; omega)) (by first | exact Nat.le_of_ble_eq_true rfl | (simp; done) | (simp; omega)) (by first | exact Nat.le_of_ble_eq_true rfl | (simp; done) | (simp; omega)) (by first | exact Nat.le_of_ble_eq_true rfl | (simp; done) | (simp; omega)) (K0 ?_)
    rintro M rfl
    refine Go.astore X d0_217 rfl (stL rfl rfl (by dsimp only [updL])) ?_
    refine Go.aload X d0_219 rfl rfl ?_
    refine Go.aload X d0_221 rfl rfl ?_
    refine Go.callN X (fun h H => H.exa (i := 0) rfl) (l_addf l G (y := 0) hD hx) (rest := []) (w68 G) (w69 G) (by decide +kernel) (w70 G) (w71 G) (w72 G) (w73 G) (w74 G) (w75 G) (w46 G) (w76 G) (by decide) pd14 rfl rfl d0_223 rfl (by first | exact Nat.le_of_ble_eq_true rfl | (simp; done) | (simp; omega)) (by first | exact Nat.le_of_ble_eq_true rfl | (simp; done) | (simp; omega)) (by first | exact Nat.le_of_ble_eq_true rfl | (simp; done) | (simp; omega)) (by first | exact Nat.le_of_ble_eq_true rfl | (simp; done) | (simp; omega)) (Kv ?_)
    rintro v M ⟨rfl, b1, K1, hK1, rfl⟩
    refine Go.pop X d0_228 rfl ?_
    refine Go.new X (w44 G) (w45 G) (w46 G) (lay2 G) df2 d0_229 (by first | exact Nat.le_of_ble_eq_true rfl | (simp; done) | (simp; omega)) (by first | exact Nat.le_of_ble_eq_true rfl | (simp; done) | (simp; omega)) ?_
    intro a2
    refine Go.dup X d0_232 rfl ?_
    refine Go.callI X (l_init l G (a := a2) hD) rfl (rest := [.ref a2]) (w47 G) (w48 G) (w46 G) (w49 G) (by decide) pd5 rfl rfl d0_233 rfl (by first | exact Nat.le_of_ble_eq_true rfl | (simp; done) | (simp; omega)) (by first | exact Nat.le_of_ble_eq_true rfl | (simp; done) | (simp; omega)) (by first | exact Nat.le_of_ble_eq_true rfl | (simp; done) | (simp; omega)) (by first | exact Nat.le_of_ble_eq_true rfl | (simp; done) | (simp; omega)) (K0 ?_)
    rintro M rfl
    refine Go.astore X d0_236 rfl (stL rfl rfl (by dsimp only [updL])) ?_
    refine Go.new X (w103 G) (w104 G) (w105 G) (lay3 G) df3 d0_238 (by first | exact Nat.le_of_ble_eq_true rfl | (simp; done) | (simp; omega)) (by first | exact Nat.le_of_ble_eq_true rfl | (simp; done) | (simp; omega)) ?_
    intro o
    refine Go.dup X d0_241 rfl ?_
    refine Go.aload X d0_242 rfl rfl ?_
    refine Go.aload X d0_244 rfl rfl ?_
    refine Go.callI X (o_init l G (o := o) (s1 := s1) (s2 := s2)) rfl (rest := [.ref o]) (w106 G) (w107 G) (w105 G) (w108 G) (by decide) pd19 rfl rfl d0_246 rfl (by first | exact Nat.le_of_ble_eq_true rfl | (simp; done) | (simp; omega)) (by first | exact Nat.le_of_ble_eq_true rfl | (simp; done) | (simp; omega)) (by first | exact Nat.le_of_ble_eq_true rfl | (simp; done) | (simp; omega)) (by first | exact Nat.le_of_ble_eq_true rfl | (simp; done) | (simp; omega)) (K0 ?_)
    rintro M rfl
    refine Go.astore X d0_249 rfl (stL rfl rfl (by dsimp only [updL])) ?_
    refine Go.aload X d0_251 rfl rfl ?_
    refine Go.callV X (fun h H => H.exa (i := 0) rfl) (o_bind l G (o := o) (s1 := s1) (s2 := s2) (k1 := List.take m0 [c1, c2, c3]) (k2 := List.take n0 [d1, d2, d3]) List.mem_cons_self hA.up.up.up.up.up hB.up.up.up.up.up hE) (rest := []) (w114 G) (w115 G) (nfS (w117 G)) (w117 G) (w116 G) (w105 G) (w118 G) (by decide) pd16 rfl rfl d0_253 rfl (by first | exact Nat.le_of_ble_eq_true rfl | (simp; done) | (simp; omega)) (by first | exact Nat.le_of_ble_eq_true rfl | (simp; done) | (simp; omega)) (by first | exact Nat.le_of_ble_eq_true rfl | (simp; done) | (simp; omega)) (by first | exact Nat.le_of_ble_eq_true rfl | (simp; done) | (simp; omega)) (Kv ?_)
    rintro v M ⟨rfl, rfl⟩
    rw [if_neg hq]
    refine Go.istore X d0_256 (stL rfl rfl (by dsimp only [updL])) ?_
    refine Go.iload X d0_258 rfl ?_
    refine Go.iload X d0_260 rfl ?_
    rw [if_neg hq]
    refine Go.ifc X d0_262 (pt := 269) ⟨by decide, by decide⟩ ?_ ?_
    rotate_left
    · intro q; exact absurd rfl q
    intro _
    refine Go.iconst X (v := 2) d0_269 (by decide) ?_
    refine Go.icmp X d0_270 (pt := 275) ⟨by decide, by decide⟩ ?_ ?_
    rotate_left
    · intro q; exact absurd rfl q
    intro _
    refine Go.aload X d0_275 rfl rfl ?_
    refine Go.aload X d0_277 rfl rfl ?_
    refine Go.callV X (fun h H => H.exa (i := 0) rfl) (o_bound_n l G (o := o) (s1 := s1) (s2 := s2) (k1 := List.take m0 [c1, c2, c3]) (k2 := List.take n0 [d1, d2, d3]) (a1 := a1) (b1 := b1) (x := x) List.mem_cons_self hA.up.up.up.up.up hB.up.up.up.up.up hE (List.mem_of_getElem? (i := 3) rfl) (List.mem_of_getElem? (i := 2) rfl) hK1 hx.up.up.up.up hq) (rest := []) (w133 G) (w134 G) (nfS (w136 G)) (w136 G) (w135 G) (w105 G) (w137 G) (by decide) pd20 rfl rfl d0_279 rfl (by first | exact Nat.le_of_ble_eq_true rfl | (simp; done) | (simp; omega)) (by first | exact Nat.le_of_ble_eq_true rfl | (simp; done) | (simp; omega)) (by first | exact Nat.le_of_ble_eq_true rfl | (simp; done) | (simp; omega)) (by first | exact Nat.le_of_ble_eq_true rfl | (simp; done) | (simp; omega)) (Kv ?_)
    rintro v M ⟨t, u2, u3, u1, P1, P2, P3, ed, w, rfl, rfl⟩
    refine Go.astore X d0_282 rfl (stL rfl rfl (by dsimp only [updL])) ?_
    refine Go.perm (L' := ow a2 (Ob Z "java/util/ArrayList" ns2 [.int 0, .ref de, .int 0]) :: ow u2 P1 :: ow t (Ob Z "java/util/ArrayList" ns2 [.int w, ed, .int 2]) :: ow u3 P2 :: ow u1 P3 :: ow o (Ob Z "com/example/persist/persist/session/Operand" ns3 [.ref s1, .ref s2]) :: ow b1 (Ar Z (.object "java/lang/Object") K1 (.ref x :: List.replicate 9 Value.null)) :: ow a1 (Ob Z "java/util/ArrayList" ns2 [.int (0 + 1), .ref b1, .int 1]) :: (x, (Ob Z "java/lang/Integer" ns1 [.int i3]), fx) :: UU) ((front (i := 8) rfl).trans ((front (i := 8) rfl).trans ((front (i := 8) rfl).trans ((front (i := 7) rfl).trans ((front (i := 7) rfl).trans ((front (i := 7) rfl).trans ((front (i := 7) rfl).trans ((front (i := 7) rfl).trans (front (i := 8) rfl))))))))) ?_
    refine Go.aload X d0_284 rfl rfl ?_
    refine Go.aload X d0_286 rfl rfl ?_
    refine Go.aload X d0_288 rfl rfl ?_
    refine Go.callV X (fun h H => H.exa (i := 5) rfl) (o_addBound l G (a2 := a2) hD (o := o) (s1 := s1) (s2 := s2) (k1 := List.take m0 [c1, c2, c3]) (k2 := List.take n0 [d1, d2, d3]) (List.mem_of_getElem? (i := 4) rfl) hA.up.up.up.up.up.up.up.up hB.up.up.up.up.up.up.up.up hE (x := x) (L := ow u2 P1 :: ow t (Ob Z "java/util/ArrayList" ns2 [.int w, ed, .int 2]) :: ow u3 P2 :: ow u1 P3 :: ow o (Ob Z "com/example/persist/persist/session/Operand" ns3 [.ref s1, .ref s2]) :: ow b1 (Ar Z (.object "java/lang/Object") K1 (.ref x :: List.replicate 9 Value.null)) :: ow a1 (Ob Z "java/util/ArrayList" ns2 [.int (0 + 1), .ref b1, .int 1]) :: (x, (Ob Z "java/lang/Integer" ns1 [.int i3]), fx) :: UU) (Cst.of (List.mem_of_getElem? (i := 7) rfl) (fun c q => Ob.inC (w102 G) q))) (rest := []) (w190 G) (w191 G) (nfS (w193 G)) (w193 G) (w192 G) (w105 G) (w194 G) (by decide) pd21 rfl rfl d0_290 rfl (by first | exact Nat.le_of_ble_eq_true rfl | (simp; done) | (simp; omega)) (by first | exact Nat.le_of_ble_eq_true rfl | (simp; done) | (simp; omega)) (by first | exact Nat.le_of_ble_eq_true rfl | (simp; done) | (simp; omega)) (by first | exact Nat.le_of_ble_eq_true rfl | (simp; done) | (simp; omega)) (K0 ?_)
    rintro M ⟨b3, P4, ed3, w3, rfl⟩
    rw [if_neg hq]
    refine Go.aload X d0_293 rfl rfl ?_
    refine Go.callN X (fun h H => H.exa (i := 3) rfl) (l_size l G (z := 2) (fun h H => H.fld (i := 3) rfl (j := 2) rfl rfl)) (rest := []) (w196 G) (w140 G) (by decide +kernel) (w141 G) (w142 G) (w143 G) (w144 G) (w145 G) (w75 G) (w46 G) (w146 G) (by decide) pd16 rfl rfl d0_295 rfl (by first | exact Nat.le_of_ble_eq_true rfl | (simp; done) | (simp; omega)) (by first | exact Nat.le_of_ble_eq_true rfl | (simp; done) | (simp; omega)) (by first | exact Nat.le_of_ble_eq_true rfl | (simp; done) | (simp; omega)) (by first | exact Nat.le_of_ble_eq_true rfl | (simp; done) | (simp; omega)) (Kv ?_)
    rintro v M ⟨rfl, rfl⟩
    refine Go.iload X d0_300 rfl ?_
    refine Go.icmp X d0_302 (pt := 321) ⟨by decide, by decide⟩ ?_ ?_
    · intro q; exact absurd rfl q
    intro _
    refine Go.aload X d0_305 rfl rfl ?_
    refine Go.callN X (fun h H => H.exa (i := 0) rfl) (l_size l G (z := 2) (fun h H => H.fld (i := 0) rfl (j := 2) rfl rfl)) (rest := []) (w196 G) (w140 G) (by decide +kernel) (w141 G) (w142 G) (w143 G) (w144 G) (w145 G) (w75 G) (w46 G) (w146 G) (by decide) pd16 rfl rfl d0_307 rfl (by first | exact Nat.le_of_ble_eq_true rfl | (simp; done) | (simp; omega)) (by first | exact Nat.le_of_ble_eq_true rfl | (simp; done) | (simp; omega)) (by first | exact Nat.le_of_ble_eq_true rfl | (simp; done) | (simp; omega)) (by first | exact Nat.le_of_ble_eq_true rfl | (simp; done) | (simp; omega)) (Kv ?_)
    rintro v M ⟨rfl, rfl⟩
    refine Go.iload X d0_312 rfl ?_
    refine Go.icmp X d0_314 (pt := 321) ⟨by decide, by decide⟩ ?_ ?_
    · intro q; exact absurd rfl q
    intro _
    refine Go.iconst X (v := 1) d0_317 (by decide) ?_
    refine Go.goto X d0_318 (pt := 322) ⟨by decide, by decide⟩ ?_
    exact Go.zret X d0_322 (Or.inr rfl) (by first | exact Nat.le_of_ble_eq_true rfl | (simp; done) | (simp; omega)) (by first | exact Nat.le_of_ble_eq_true rfl | (simp; done) | (simp; omega)) rfl
-- %%% law k125
theorem w0 {a0 : Array Value} {Z : State} (G : Gl a0 Z) : (Jvm.Cond.methodLink "com/example/persist/persist/session/OperandBindingsPinLaw" (12 : Nat) ({ cls := "com/example/persist/persist/session/OperandBindingsPinLaw", name := "mk", desc := "(ICCC)Ljava/lang/String;" } : Jvm.MethodName)).before a0 Z = true := G.1 _ (List.mem_of_getElem? (i := 0) rfl)
theorem w1 {a0 : Array Value} {Z : State} (G : Gl a0 Z) : (Jvm.Cond.static ({ cls := "com/example/persist/persist/session/OperandBindingsPinLaw", name := "mk", desc := "(ICCC)Ljava/lang/String;" } : Jvm.MethodName)).before a0 Z = true := G.1 _ (List.mem_of_getElem? (i := 1) rfl)
theorem w2 {a0 : Array Value} {Z : State} (G : Gl a0 Z) : (Jvm.Cond.initialized "com/example/persist/persist/session/OperandBindingsPinLaw").before a0 Z = true := G.1 _ (List.mem_of_getElem? (i := 2) rfl)
theorem w3 {a0 : Array Value} {Z : State} (G : Gl a0 Z) : (Jvm.Cond.code ({ cls := "com/example/persist/persist/session/OperandBindingsPinLaw", name := "mk", desc := "(ICCC)Ljava/lang/String;" } : Jvm.MethodName) method_2_code (4 : Nat) (Option.some (Jvm.ClassFile.FieldType.object "java/lang/String"))).before a0 Z = true := G.1 _ (List.mem_of_getElem? (i := 3) rfl)
theorem d0_125 : D1 code 125 (.iload 4) 2 127 := ⟨at_125, rfl⟩
theorem d0_127 : D1 code 127 (.iload 5) 2 129 := ⟨at_127, rfl⟩
theorem d0_129 : D1 code 129 (.iload 6) 2 131 := ⟨at_129, rfl⟩
theorem d0_131 : D1 code 131 (.iload 7) 2 133 := ⟨at_131, rfl⟩
theorem d0_133 : D1 code 133 (.invokestatic 12) 3 136 := ⟨at_133, rfl⟩
theorem d0_136 : D1 code 136 (.astore 13) 2 138 := ⟨at_136, rfl⟩
theorem d0_138 : D1 code 138 (.iload 9) 2 140 := ⟨at_138, rfl⟩
theorem d0_140 : D1 code 140 (.iload 10) 2 142 := ⟨at_140, rfl⟩
theorem d0_142 : D1 code 142 (.iload 11) 2 144 := ⟨at_142, rfl⟩
theorem d0_144 : D1 code 144 (.iload 12) 2 146 := ⟨at_144, rfl⟩
theorem d0_146 : D1 code 146 (.invokestatic 12) 3 149 := ⟨at_146, rfl⟩
theorem d0_149 : D1 code 149 (.astore 14) 2 151 := ⟨at_149, rfl⟩
theorem d0_151 : D1 code 151 (.iload 4) 2 153 := ⟨at_151, rfl⟩
theorem d0_153 : D1 code 153 (.iload 9) 2 155 := ⟨at_153, rfl⟩
theorem d0_155 : D1 code 155 (.if_icmp .ne 46) 3 158 := ⟨at_155, rfl⟩
theorem d0_158 : D1 code 158 (.iload 4) 2 160 := ⟨at_158, rfl⟩
theorem d0_160 : D1 code 160 (.iconst 1) 1 161 := ⟨at_160, rfl⟩
theorem d0_161 : D1 code 161 (.if_icmp .lt 10) 3 164 := ⟨at_161, rfl⟩
theorem d0_164 : D1 code 164 (.iload 5) 2 166 := ⟨at_164, rfl⟩
theorem d0_166 : D1 code 166 (.iload 10) 2 168 := ⟨at_166, rfl⟩
theorem d0_168 : D1 code 168 (.if_icmp .ne 33) 3 171 := ⟨at_168, rfl⟩
theorem d0_171 : D1 code 171 (.iload 4) 2 173 := ⟨at_171, rfl⟩
theorem d0_173 : D1 code 173 (.iconst 2) 1 174 := ⟨at_173, rfl⟩
theorem d0_174 : D1 code 174 (.if_icmp .lt 10) 3 177 := ⟨at_174, rfl⟩
theorem d0_177 : D1 code 177 (.iload 6) 2 179 := ⟨at_177, rfl⟩
theorem d0_179 : D1 code 179 (.iload 11) 2 181 := ⟨at_179, rfl⟩
theorem d0_181 : D1 code 181 (.if_icmp .ne 20) 3 184 := ⟨at_181, rfl⟩
theorem d0_184 : D1 code 184 (.iload 4) 2 186 := ⟨at_184, rfl⟩
theorem d0_186 : D1 code 186 (.iconst 3) 1 187 := ⟨at_186, rfl⟩
theorem d0_187 : D1 code 187 (.if_icmp .lt 10) 3 190 := ⟨at_187, rfl⟩
theorem d0_190 : D1 code 190 (.iload 7) 2 192 := ⟨at_190, rfl⟩
theorem d0_192 : D1 code 192 (.iload 12) 2 194 := ⟨at_192, rfl⟩
theorem d0_194 : D1 code 194 (.if_icmp .ne 7) 3 197 := ⟨at_194, rfl⟩
theorem d0_197 : D1 code 197 (.iconst 1) 1 198 := ⟨at_197, rfl⟩
theorem d0_198 : D1 code 198 (.goto 4) 3 201 := ⟨at_198, rfl⟩
theorem d0_201 : D1 code 201 (.iconst 0) 1 202 := ⟨at_201, rfl⟩
theorem d0_202 : D1 code 202 (.istore 15) 2 204 := ⟨at_202, rfl⟩
theorem pd22 : parseMethodDescriptor "(ICCC)Ljava/lang/String;" = some ⟨[.int, .char, .char, .char], some (.object "java/lang/String")⟩ := by decide +kernel
set_option maxRecDepth 65536 in
set_option maxHeartbeats 4000000 in
theorem k125 {p : Program} {l : Launch} {e : Env} {Z s : State} {a0 : Array Value} {m : MethodId} {below : List Frame} {meth : Method} {c : Code} {i0 i1 i2 i3 : Int32} (X : Cx WD EL0 p Z s m meth c "com/example/persist/persist/session/OperandBindingsPinLaw" "law" code 22 (some .boolean)) (G : Gl a0 Z) {m0 n0 c1 c2 c3 d1 d2 d3 : Nat} {f8 : Int32} (hm : m0 = 0 ∨ m0 = 1 ∨ m0 = 2 ∨ m0 = 3) (hn : n0 = 0 ∨ n0 = 1 ∨ n0 = 2 ∨ n0 = 3) (h1 : c1 < 256) (h2 : c2 < 256) (h3 : c3 < 256) (g1 : d1 < 256) (g2 : d2 < 256) (g3 : d3 < 256) : Go WD EL0 p l e room_1 Z s m #[.int i0, .int i1, .int i2, .int i3] below meth c (rvQ fun v _ => v = .int 1) [] 0 0 (mkF m 125 #[.val (.int i0), .val (.int i1), .val (.int i2), .val (.int i3), .val (.int (Int32.ofNat m0)), .val (.int (Int32.ofNat c1)), .val (.int (Int32.ofNat c2)), .val (.int (Int32.ofNat c3)), .val (.int f8), .val (.int (Int32.ofNat n0)), .val (.int (Int32.ofNat d1)), .val (.int (Int32.ofNat d2)), .val (.int (Int32.ofNat d3)), .unset, .unset, .unset, .unset, .unset, .unset, .unset, .unset, .unset] []) := by
    obtain ⟨de, hD0⟩ := g_de G
    have hD : DeF Z de := hD0
    refine Go.iload X d0_125 rfl ?_
    refine Go.iload X d0_127 rfl ?_
    refine Go.iload X d0_129 rfl ?_
    refine Go.iload X d0_131 rfl ?_
    refine Go.callS X (mk_ct l G (m0 := m0) (c1 := c1) (c2 := c2) (c3 := c3) hm h1 h2 h3) (rest := []) (w0 G) (w1 G) (w2 G) (w3 G) (by decide) pd22 rfl rfl d0_133 rfl (by first | exact Nat.le_of_ble_eq_true rfl | (simp; done) | (simp; omega)) (by first | exact Nat.le_of_ble_eq_true rfl | (simp; done) | (simp; omega)) (by first | exact Nat.le_of_ble_eq_true rfl | (simp; done) | (simp; omega)) (by first | exact Nat.le_of_ble_eq_true rfl | (simp; done) | (simp; omega)) (Kv ?_)
    rintro v M ⟨s1, p1, ca1, Ka1, Kc1, fa1, rfl, hKa1, rfl⟩
    refine Go.astore X d0_136 rfl (stL rfl rfl (by dsimp only [updL])) ?_
    refine Go.iload X d0_138 rfl ?_
    refine Go.iload X d0_140 rfl ?_
    refine Go.iload X d0_142 rfl ?_
    refine Go.iload X d0_144 rfl ?_
    refine Go.callS X (mk_ct l G (m0 := n0) (c1 := d1) (c2 := d2) (c3 := d3) hn g1 g2 g3) (rest := []) (w0 G) (w1 G) (w2 G) (w3 G) (by decide) pd22 rfl rfl d0_146 rfl (by first | exact Nat.le_of_ble_eq_true rfl | (simp; done) | (simp; omega)) (by first | exact Nat.le_of_ble_eq_true rfl | (simp; done) | (simp; omega)) (by first | exact Nat.le_of_ble_eq_true rfl | (simp; done) | (simp; omega)) (by first | exact Nat.le_of_ble_eq_true rfl | (simp; done) | (simp; omega)) (Kv ?_)
    rintro v M ⟨s2, p2, ca2, Ka2, Kc2, fa2, rfl, hKa2, rfl⟩
    refine Go.astore X d0_149 rfl (stL rfl rfl (by dsimp only [updL])) ?_
    refine Go.fact (fun h H => H.ne (i := 1) (j := 4) rfl rfl (by decide)) fun hne => ?_
    have hltA : ∀ c ∈ List.take m0 [c1, c2, c3], c < 256 := fun c h => by
      have := List.mem_of_mem_take h
      simp at this; omega
    have hltB : ∀ c ∈ List.take n0 [d1, d2, d3], c < 256 := fun c h => by
      have := List.mem_of_mem_take h
      simp at this; omega
    have hA : Sk Z ((p2, Ar Z .byte Ka2 (bsOf (List.take n0 [d1, d2, d3])), fa2) :: ow s2 (StrP Z p2 (List.take n0 [d1, d2, d3])) :: ow ca2 (Ar Z .char Kc2 (csOf (List.take n0 [d1, d2, d3]))) :: (p1, Ar Z .byte Ka1 (bsOf (List.take m0 [c1, c2, c3])), fa1) :: ow s1 (StrP Z p1 (List.take m0 [c1, c2, c3])) :: ow ca1 (Ar Z .char Kc1 (csOf (List.take m0 [c1, c2, c3]))) :: []) s1 p1 (List.take m0 [c1, c2, c3]) := ⟨List.mem_of_getElem? (i := 4) rfl, ⟨Ka1, fa1, List.mem_of_getElem? (i := 3) rfl, hKa1⟩, hltA⟩
    have hB : Sk Z ((p2, Ar Z .byte Ka2 (bsOf (List.take n0 [d1, d2, d3])), fa2) :: ow s2 (StrP Z p2 (List.take n0 [d1, d2, d3])) :: ow ca2 (Ar Z .char Kc2 (csOf (List.take n0 [d1, d2, d3]))) :: (p1, Ar Z .byte Ka1 (bsOf (List.take m0 [c1, c2, c3])), fa1) :: ow s1 (StrP Z p1 (List.take m0 [c1, c2, c3])) :: ow ca1 (Ar Z .char Kc1 (csOf (List.take m0 [c1, c2, c3]))) :: []) s2 p2 (List.take n0 [d1, d2, d3]) := ⟨List.mem_of_getElem? (i := 1) rfl, ⟨Ka2, fa2, List.mem_of_getElem? (i := 0) rfl, hKa2⟩, hltB⟩
    have k202 : ∀ fl : Int32, fl = (if List.take m0 [c1, c2, c3] = List.take n0 [d1, d2, d3] then 1 else 0) → Go WD EL0 p l e room_1 Z s m #[.int i0, .int i1, .int i2, .int i3] below meth c (rvQ fun v _ => v = .int 1) ((p2, Ar Z .byte Ka2 (bsOf (List.take n0 [d1, d2, d3])), fa2) :: ow s2 (StrP Z p2 (List.take n0 [d1, d2, d3])) :: ow ca2 (Ar Z .char Kc2 (csOf (List.take n0 [d1, d2, d3]))) :: (p1, Ar Z .byte Ka1 (bsOf (List.take m0 [c1, c2, c3])), fa1) :: ow s1 (StrP Z p1 (List.take m0 [c1, c2, c3])) :: ow ca1 (Ar Z .char Kc1 (csOf (List.take m0 [c1, c2, c3]))) :: []) 12 36 (mkF m 202 #[.val (.int i0), .val (.int i1), .val (.int i2), .val (.int i3), .val (.int (Int32.ofNat m0)), .val (.int (Int32.ofNat c1)), .val (.int (Int32.ofNat c2)), .val (.int (Int32.ofNat c3)), .val (.int f8), .val (.int (Int32.ofNat n0)), .val (.int (Int32.ofNat d1)), .val (.int (Int32.ofNat d2)), .val (.int (Int32.ofNat d3)), .val (.ref s1), .val (.ref s2), .unset, .unset, .unset, .unset, .unset, .unset, .unset] [.int fl]) := by
      intro fl hfl
      subst hfl
      refine Go.istore X d0_202 (stL rfl rfl (by dsimp only [updL])) ?_
      by_cases hq : List.take m0 [c1, c2, c3] = List.take n0 [d1, d2, d3]
      · exact Go.book (by first | exact Nat.le_of_ble_eq_true rfl | (simp; done) | (simp; omega)) (by first | exact Nat.le_of_ble_eq_true rfl | (simp; done) | (simp; omega)) (k204y X G hA hB (fun z => absurd z hne) hD hq)
      · exact Go.book (by first | exact Nat.le_of_ble_eq_true rfl | (simp; done) | (simp; omega)) (by first | exact Nat.le_of_ble_eq_true rfl | (simp; done) | (simp; omega)) (k204n X G hA hB (fun z => absurd z hne) hD hq)
    refine Go.book (k' := 12) (n' := 36) (by first | exact Nat.le_of_ble_eq_true rfl | (simp; done) | (simp; omega)) (by first | exact Nat.le_of_ble_eq_true rfl | (simp; done) | (simp; omega)) ?_
    have lm : (Int32.ofNat m0).toInt = m0 := (nat32 (i := m0) (by omega)).1
    have ln : (Int32.ofNat n0).toInt = n0 := (nat32 (i := n0) (by omega)).1
    refine Go.iload X d0_151 rfl ?_
    refine Go.iload X d0_153 rfl ?_
    refine Go.icmp X d0_155 (pt := 201) ⟨by decide, by decide⟩ ?_ ?_
    · intro q
      have q : ¬ (m0 : Int) = n0 := ccL q lm ln
      refine Go.iconst X (v := 0) d0_201 (by decide) ?_
      exact k202 0 (by rw [if_neg (by intro z; have := congrArg List.length z; simp at this; omega)])
    intro q
    have q : (m0 : Int) = n0 := Decidable.of_not_not (ccN q lm ln)
    obtain rfl : m0 = n0 := by omega
    rcases hm with rfl | rfl | rfl | rfl
    · refine Go.iload X d0_158 rfl ?_
      refine Go.iconst X (v := 1) d0_160 (by decide) ?_
      refine Go.icmp X d0_161 (pt := 171) ⟨by decide, by decide⟩ ?_ ?_
      rotate_left
      · intro q; exact absurd (show Int32.ofNat 0 < 1 by decide) q
      intro _
      refine Go.iload X d0_171 rfl ?_
      refine Go.iconst X (v := 2) d0_173 (by decide) ?_
      refine Go.icmp X d0_174 (pt := 184) ⟨by decide, by decide⟩ ?_ ?_
      rotate_left
      · intro q; exact absurd (show Int32.ofNat 0 < 2 by decide) q
      intro _
      refine Go.iload X d0_184 rfl ?_
      refine Go.iconst X (v := 3) d0_186 (by decide) ?_
      refine Go.icmp X d0_187 (pt := 197) ⟨by decide, by decide⟩ ?_ ?_
      rotate_left
      · intro q; exact absurd (show Int32.ofNat 0 < 3 by decide) q
      intro _
      refine Go.iconst X (v := 1) d0_197 (by decide) ?_
      refine Go.goto X d0_198 (pt := 202) ⟨by decide, by decide⟩ ?_
      exact k202 1 (by rw [if_pos (by simp)])
    · refine Go.iload X d0_158 rfl ?_
      refine Go.iconst X (v := 1) d0_160 (by decide) ?_
      refine Go.icmp X d0_161 (pt := 171) ⟨by decide, by decide⟩ ?_ ?_
      · intro q; exact absurd (show Int32.ofNat 1 < 1 from q) (by decide)
      intro _
      refine Go.iload X d0_164 rfl ?_
      refine Go.iload X d0_166 rfl ?_
      refine Go.icmp X d0_168 (pt := 201) ⟨by decide, by decide⟩ ?_ ?_
      · intro q
        refine Go.iconst X (v := 0) d0_201 (by decide) ?_
        exact k202 0 (by rw [if_neg (by intro z; simp at z; exact q (by simp [z]))])
      intro q1
      have q1 : c1 = d1 := Decidable.byContradiction fun z => q1 (ofNat_ne h1 g1 z)
      refine Go.iload X d0_171 rfl ?_
      refine Go.iconst X (v := 2) d0_173 (by decide) ?_
      refine Go.icmp X d0_174 (pt := 184) ⟨by decide, by decide⟩ ?_ ?_
      rotate_left
      · intro q; exact absurd (show Int32.ofNat 1 < 2 by decide) q
      intro _
      refine Go.iload X d0_184 rfl ?_
      refine Go.iconst X (v := 3) d0_186 (by decide) ?_
      refine Go.icmp X d0_187 (pt := 197) ⟨by decide, by decide⟩ ?_ ?_
      rotate_left
      · intro q; exact absurd (show Int32.ofNat 1 < 3 by decide) q
      intro _
      refine Go.iconst X (v := 1) d0_197 (by decide) ?_
      refine Go.goto X d0_198 (pt := 202) ⟨by decide, by decide⟩ ?_
      exact k202 1 (by rw [if_pos (by simp [q1])])
    · refine Go.iload X d0_158 rfl ?_
      refine Go.iconst X (v := 1) d0_160 (by decide) ?_
      refine Go.icmp X d0_161 (pt := 171) ⟨by decide, by decide⟩ ?_ ?_
      · intro q; exact absurd (show Int32.ofNat 2 < 1 from q) (by decide)
      intro _
      refine Go.iload X d0_164 rfl ?_
      refine Go.iload X d0_166 rfl ?_
      refine Go.icmp X d0_168 (pt := 201) ⟨by decide, by decide⟩ ?_ ?_
      · intro q
        refine Go.iconst X (v := 0) d0_201 (by decide) ?_
        exact k202 0 (by rw [if_neg (by intro z; simp at z; exact q (by simp [z]))])
      intro q1
      have q1 : c1 = d1 := Decidable.byContradiction fun z => q1 (ofNat_ne h1 g1 z)
      refine Go.iload X d0_171 rfl ?_
      refine Go.iconst X (v := 2) d0_173 (by decide) ?_
      refine Go.icmp X d0_174 (pt := 184) ⟨by decide, by decide⟩ ?_ ?_
      · intro q; exact absurd (show Int32.ofNat 2 < 2 from q) (by decide)
      intro _
      refine Go.iload X d0_177 rfl ?_
      refine Go.iload X d0_179 rfl ?_
      refine Go.icmp X d0_181 (pt := 201) ⟨by decide, by decide⟩ ?_ ?_
      · intro q
        refine Go.iconst X (v := 0) d0_201 (by decide) ?_
        exact k202 0 (by rw [if_neg (by intro z; simp at z; exact q (by simp [z]))])
      intro q2
      have q2 : c2 = d2 := Decidable.byContradiction fun z => q2 (ofNat_ne h2 g2 z)
      refine Go.iload X d0_184 rfl ?_
      refine Go.iconst X (v := 3) d0_186 (by decide) ?_
      refine Go.icmp X d0_187 (pt := 197) ⟨by decide, by decide⟩ ?_ ?_
      rotate_left
      · intro q; exact absurd (show Int32.ofNat 2 < 3 by decide) q
      intro _
      refine Go.iconst X (v := 1) d0_197 (by decide) ?_
      refine Go.goto X d0_198 (pt := 202) ⟨by decide, by decide⟩ ?_
      exact k202 1 (by rw [if_pos (by simp [q1, q2])])
    · refine Go.iload X d0_158 rfl ?_
      refine Go.iconst X (v := 1) d0_160 (by decide) ?_
      refine Go.icmp X d0_161 (pt := 171) ⟨by decide, by decide⟩ ?_ ?_
      · intro q; exact absurd (show Int32.ofNat 3 < 1 from q) (by decide)
      intro _
      refine Go.iload X d0_164 rfl ?_
      refine Go.iload X d0_166 rfl ?_
      refine Go.icmp X d0_168 (pt := 201) ⟨by decide, by decide⟩ ?_ ?_
      · intro q
        refine Go.iconst X (v := 0) d0_201 (by decide) ?_
        exact k202 0 (by rw [if_neg (by intro z; simp at z; exact q (by simp [z]))])
      intro q1
      have q1 : c1 = d1 := Decidable.byContradiction fun z => q1 (ofNat_ne h1 g1 z)
      refine Go.iload X d0_171 rfl ?_
      refine Go.iconst X (v := 2) d0_173 (by decide) ?_
      refine Go.icmp X d0_174 (pt := 184) ⟨by decide, by decide⟩ ?_ ?_
      · intro q; exact absurd (show Int32.ofNat 3 < 2 from q) (by decide)
      intro _
      refine Go.iload X d0_177 rfl ?_
      refine Go.iload X d0_179 rfl ?_
      refine Go.icmp X d0_181 (pt := 201) ⟨by decide, by decide⟩ ?_ ?_
      · intro q
        refine Go.iconst X (v := 0) d0_201 (by decide) ?_
        exact k202 0 (by rw [if_neg (by intro z; simp at z; exact q (by simp [z]))])
      intro q2
      have q2 : c2 = d2 := Decidable.byContradiction fun z => q2 (ofNat_ne h2 g2 z)
      refine Go.iload X d0_184 rfl ?_
      refine Go.iconst X (v := 3) d0_186 (by decide) ?_
      refine Go.icmp X d0_187 (pt := 197) ⟨by decide, by decide⟩ ?_ ?_
      · intro q; exact absurd (show Int32.ofNat 3 < 3 from q) (by decide)
      intro _
      refine Go.iload X d0_190 rfl ?_
      refine Go.iload X d0_192 rfl ?_
      refine Go.icmp X d0_194 (pt := 201) ⟨by decide, by decide⟩ ?_ ?_
      · intro q
        refine Go.iconst X (v := 0) d0_201 (by decide) ?_
        exact k202 0 (by rw [if_neg (by intro z; simp at z; exact q (by simp [z]))])
      intro q3
      have q3 : c3 = d3 := Decidable.byContradiction fun z => q3 (ofNat_ne h3 g3 z)
      refine Go.iconst X (v := 1) d0_197 (by decide) ?_
      refine Go.goto X d0_198 (pt := 202) ⟨by decide, by decide⟩ ?_
      exact k202 1 (by rw [if_pos (by simp [q1, q2, q3])])
-- %%% law
theorem d0_0 : D1 code 0 (.iload_n 2) 1 1 := ⟨at_0, rfl⟩
theorem d0_1 : D1 code 1 (.iconst 3) 1 2 := ⟨at_1, rfl⟩
theorem d0_2 : D1 code 2 (.iand) 1 3 := ⟨at_2, rfl⟩
theorem d0_3 : D1 code 3 (.istore 4) 2 5 := ⟨at_3, rfl⟩
theorem d0_5 : D1 code 5 (.iload_n 0) 1 6 := ⟨at_5, rfl⟩
theorem d0_6 : D1 code 6 (.sipush 255) 3 9 := ⟨at_6, rfl⟩
theorem d0_9 : D1 code 9 (.iand) 1 10 := ⟨at_9, rfl⟩
theorem d0_10 : D1 code 10 (.i2c) 1 11 := ⟨at_10, rfl⟩
theorem d0_11 : D1 code 11 (.istore 5) 2 13 := ⟨at_11, rfl⟩
theorem d0_13 : D1 code 13 (.iload_n 0) 1 14 := ⟨at_13, rfl⟩
theorem d0_14 : D1 code 14 (.bipush 8) 2 16 := ⟨at_14, rfl⟩
theorem d0_16 : D1 code 16 (.iushr) 1 17 := ⟨at_16, rfl⟩
theorem d0_17 : D1 code 17 (.sipush 255) 3 20 := ⟨at_17, rfl⟩
theorem d0_20 : D1 code 20 (.iand) 1 21 := ⟨at_20, rfl⟩
theorem d0_21 : D1 code 21 (.i2c) 1 22 := ⟨at_21, rfl⟩
theorem d0_22 : D1 code 22 (.istore 6) 2 24 := ⟨at_22, rfl⟩
theorem d0_24 : D1 code 24 (.iload_n 0) 1 25 := ⟨at_24, rfl⟩
theorem d0_25 : D1 code 25 (.bipush 16) 2 27 := ⟨at_25, rfl⟩
theorem d0_27 : D1 code 27 (.iushr) 1 28 := ⟨at_27, rfl⟩
theorem d0_28 : D1 code 28 (.sipush 255) 3 31 := ⟨at_28, rfl⟩
theorem d0_31 : D1 code 31 (.iand) 1 32 := ⟨at_31, rfl⟩
theorem d0_32 : D1 code 32 (.i2c) 1 33 := ⟨at_32, rfl⟩
theorem d0_33 : D1 code 33 (.istore 7) 2 35 := ⟨at_33, rfl⟩
theorem d0_35 : D1 code 35 (.iload_n 2) 1 36 := ⟨at_35, rfl⟩
theorem d0_36 : D1 code 36 (.iconst 4) 1 37 := ⟨at_36, rfl⟩
theorem d0_37 : D1 code 37 (.iand) 1 38 := ⟨at_37, rfl⟩
theorem d0_38 : D1 code 38 (.ifCond .eq 7) 3 41 := ⟨at_38, rfl⟩
theorem d0_41 : D1 code 41 (.iconst 1) 1 42 := ⟨at_41, rfl⟩
theorem d0_42 : D1 code 42 (.goto 4) 3 45 := ⟨at_42, rfl⟩
theorem d0_45 : D1 code 45 (.iconst 0) 1 46 := ⟨at_45, rfl⟩
theorem d0_46 : D1 code 46 (.istore 8) 2 48 := ⟨at_46, rfl⟩
theorem d0_48 : D1 code 48 (.iload 8) 2 50 := ⟨at_48, rfl⟩
theorem d0_50 : D1 code 50 (.ifCond .eq 8) 3 53 := ⟨at_50, rfl⟩
theorem d0_53 : D1 code 53 (.iload 4) 2 55 := ⟨at_53, rfl⟩
theorem d0_55 : D1 code 55 (.goto 8) 3 58 := ⟨at_55, rfl⟩
theorem d0_58 : D1 code 58 (.iload_n 2) 1 59 := ⟨at_58, rfl⟩
theorem d0_59 : D1 code 59 (.iconst 3) 1 60 := ⟨at_59, rfl⟩
theorem d0_60 : D1 code 60 (.iushr) 1 61 := ⟨at_60, rfl⟩
theorem d0_61 : D1 code 61 (.iconst 3) 1 62 := ⟨at_61, rfl⟩
theorem d0_62 : D1 code 62 (.iand) 1 63 := ⟨at_62, rfl⟩
theorem d0_63 : D1 code 63 (.istore 9) 2 65 := ⟨at_63, rfl⟩
theorem d0_65 : D1 code 65 (.iload 8) 2 67 := ⟨at_65, rfl⟩
theorem d0_67 : D1 code 67 (.ifCond .eq 8) 3 70 := ⟨at_67, rfl⟩
theorem d0_70 : D1 code 70 (.iload 5) 2 72 := ⟨at_70, rfl⟩
theorem d0_72 : D1 code 72 (.goto 9) 3 75 := ⟨at_72, rfl⟩
theorem d0_75 : D1 code 75 (.iload_n 1) 1 76 := ⟨at_75, rfl⟩
theorem d0_76 : D1 code 76 (.sipush 255) 3 79 := ⟨at_76, rfl⟩
theorem d0_79 : D1 code 79 (.iand) 1 80 := ⟨at_79, rfl⟩
theorem d0_80 : D1 code 80 (.i2c) 1 81 := ⟨at_80, rfl⟩
theorem d0_81 : D1 code 81 (.istore 10) 2 83 := ⟨at_81, rfl⟩
theorem d0_83 : D1 code 83 (.iload 8) 2 85 := ⟨at_83, rfl⟩
theorem d0_85 : D1 code 85 (.ifCond .eq 8) 3 88 := ⟨at_85, rfl⟩
theorem d0_88 : D1 code 88 (.iload 6) 2 90 := ⟨at_88, rfl⟩
theorem d0_90 : D1 code 90 (.goto 12) 3 93 := ⟨at_90, rfl⟩
theorem d0_93 : D1 code 93 (.iload_n 1) 1 94 := ⟨at_93, rfl⟩
theorem d0_94 : D1 code 94 (.bipush 8) 2 96 := ⟨at_94, rfl⟩
theorem d0_96 : D1 code 96 (.iushr) 1 97 := ⟨at_96, rfl⟩
theorem d0_97 : D1 code 97 (.sipush 255) 3 100 := ⟨at_97, rfl⟩
theorem d0_100 : D1 code 100 (.iand) 1 101 := ⟨at_100, rfl⟩
theorem d0_101 : D1 code 101 (.i2c) 1 102 := ⟨at_101, rfl⟩
theorem d0_102 : D1 code 102 (.istore 11) 2 104 := ⟨at_102, rfl⟩
theorem d0_104 : D1 code 104 (.iload 8) 2 106 := ⟨at_104, rfl⟩
theorem d0_106 : D1 code 106 (.ifCond .eq 8) 3 109 := ⟨at_106, rfl⟩
theorem d0_109 : D1 code 109 (.iload 7) 2 111 := ⟨at_109, rfl⟩
theorem d0_111 : D1 code 111 (.goto 12) 3 114 := ⟨at_111, rfl⟩
theorem d0_114 : D1 code 114 (.iload_n 1) 1 115 := ⟨at_114, rfl⟩
theorem d0_115 : D1 code 115 (.bipush 16) 2 117 := ⟨at_115, rfl⟩
theorem d0_117 : D1 code 117 (.iushr) 1 118 := ⟨at_117, rfl⟩
theorem d0_118 : D1 code 118 (.sipush 255) 3 121 := ⟨at_118, rfl⟩
theorem d0_121 : D1 code 121 (.iand) 1 122 := ⟨at_121, rfl⟩
theorem d0_122 : D1 code 122 (.i2c) 1 123 := ⟨at_122, rfl⟩
theorem d0_123 : D1 code 123 (.istore 12) 2 125 := ⟨at_123, rfl⟩
theorem ent0 (v0 v1 v2 v3 : Value) (h0 : v0.category ≠ 2) (h1 : v1.category ≠ 2) (h2 : v2.category ≠ 2) (h3 : v3.category ≠ 2) (n : Nat) : argsToLocals #[v0, v1, v2, v3] (n + 4) = #[.val v0, .val v1, .val v2, .val v3] ++ Array.replicate n .unset := by
  have : (#[v0, v1, v2, v3] : Array Value).foldl (init := #[]) (fun acc v => if v.category = 2 then (acc.push (Slot.val v)).push .second else acc.push (.val v)) = #[.val v0, .val v1, .val v2, .val v3] := by
    simp [h0, h1, h2, h3]
  unfold argsToLocals
  rw [this]
  rfl
theorem ent1 (m : MethodId) (i0 i1 i2 i3 : Int32) : entryFrame m #[.int i0, .int i1, .int i2, .int i3] 22 = mkF m 0 #[.val (.int i0), .val (.int i1), .val (.int i2), .val (.int i3), .unset, .unset, .unset, .unset, .unset, .unset, .unset, .unset, .unset, .unset, .unset, .unset, .unset, .unset, .unset, .unset, .unset, .unset] [] := by
  have e : Array.replicate 18 Slot.unset = #[.unset, .unset, .unset, .unset, .unset, .unset, .unset, .unset, .unset, .unset, .unset, .unset, .unset, .unset, .unset, .unset, .unset, .unset] := by rw [← List.toArray_replicate]; rfl
  have e2 : argsToLocals #[.int i0, .int i1, .int i2, .int i3] 22 = #[.val (.int i0), .val (.int i1), .val (.int i2), .val (.int i3), .unset, .unset, .unset, .unset, .unset, .unset, .unset, .unset, .unset, .unset, .unset, .unset, .unset, .unset, .unset, .unset, .unset, .unset] := by
    rw [ent0 (.int i0) (.int i1) (.int i2) (.int i3) (by simp [Value.category]) (by simp [Value.category]) (by simp [Value.category]) (by simp [Value.category]) 18, e, List.append_toArray]
    simp only [List.cons_append, List.nil_append]
  unfold entryFrame mkF
  rw [e2]
set_option maxRecDepth 65536 in
set_option maxHeartbeats 4000000 in
theorem law_ct (l : Launch) {Z : State} {a0 : Array Value} (G : Gl a0 Z) (i0 i1 i2 i3 : Int32) : Ct WD EL0 l Z x code maxLocals ret room_1 #[.int i0, .int i1, .int i2, .int i3] [] (rvQ (fun v _ => v = .int 1)) := by
  refine Ct.intro (by decide +kernel) G.2.1 ?_
  intro p e s m below meth c X
  replace X : Cx WD EL0 p Z s m meth c "com/example/persist/persist/session/OperandBindingsPinLaw" "law" code 22 (some .boolean) := X
  refine Go.cast (g' := mkF m 0 #[.val (.int i0), .val (.int i1), .val (.int i2), .val (.int i3), .unset, .unset, .unset, .unset, .unset, .unset, .unset, .unset, .unset, .unset, .unset, .unset, .unset, .unset, .unset, .unset, .unset, .unset] []) (ent1 m i0 i1 i2 i3) ?_
  refine Go.iloadN X d0_0 rfl ?_
  refine Go.iconst X (v := 3) d0_1 (by decide) ?_
  refine Go.iand X d0_2 ?_
  obtain ⟨m0, hm, em⟩ := and3 i2
  rw [em]
  refine Go.istore X d0_3 (stL rfl rfl (by dsimp only [updL])) ?_
  refine Go.iloadN X d0_5 rfl ?_
  refine Go.sipush X (v := 255) d0_6 (by decide) ?_
  refine Go.iand X d0_9 ?_
  obtain ⟨c1, hc1, ec1⟩ := and255 i0
  rw [ec1]
  refine Go.i2c X d0_10 ?_
  rw [ch_back c1 hc1]
  refine Go.istore X d0_11 (stL rfl rfl (by dsimp only [updL])) ?_
  refine Go.iloadN X d0_13 rfl ?_
  refine Go.bipush X (v := 8) d0_14 (by decide) ?_
  refine Go.iushr X d0_16 ?_
  refine Go.sipush X (v := 255) d0_17 (by decide) ?_
  refine Go.iand X d0_20 ?_
  obtain ⟨c2, hc2, ec2⟩ := and255 (XT.ushr i0 8)
  rw [ec2]
  refine Go.i2c X d0_21 ?_
  rw [ch_back c2 hc2]
  refine Go.istore X d0_22 (stL rfl rfl (by dsimp only [updL])) ?_
  refine Go.iloadN X d0_24 rfl ?_
  refine Go.bipush X (v := 16) d0_25 (by decide) ?_
  refine Go.iushr X d0_27 ?_
  refine Go.sipush X (v := 255) d0_28 (by decide) ?_
  refine Go.iand X d0_31 ?_
  obtain ⟨c3, hc3, ec3⟩ := and255 (XT.ushr i0 16)
  rw [ec3]
  refine Go.i2c X d0_32 ?_
  rw [ch_back c3 hc3]
  refine Go.istore X d0_33 (stL rfl rfl (by dsimp only [updL])) ?_
  refine Go.iloadN X d0_35 rfl ?_
  refine Go.iconst X (v := 4) d0_36 (by decide) ?_
  refine Go.iand X d0_37 ?_
  refine Go.ifc X d0_38 (pt := 45) ⟨by decide, by decide⟩ ?_ ?_
  · intro _
    refine Go.iconst X (v := 0) d0_45 (by decide) ?_
    refine Go.istore X d0_46 (stL rfl rfl (by dsimp only [updL])) ?_
    refine Go.iload X d0_48 rfl ?_
    refine Go.ifc X d0_50 (pt := 58) ⟨by decide, by decide⟩ ?_ ?_
    rotate_left
    · intro q; exact absurd rfl q
    intro _
    refine Go.iloadN X d0_58 rfl ?_
    refine Go.iconst X (v := 3) d0_59 (by decide) ?_
    refine Go.iushr X d0_60 ?_
    refine Go.iconst X (v := 3) d0_61 (by decide) ?_
    refine Go.iand X d0_62 ?_
    obtain ⟨n0, hn, en⟩ := and3 (XT.ushr i2 3)
    rw [en]
    refine Go.istore X d0_63 (stL rfl rfl (by dsimp only [updL])) ?_
    refine Go.iload X d0_65 rfl ?_
    refine Go.ifc X d0_67 (pt := 75) ⟨by decide, by decide⟩ ?_ ?_
    rotate_left
    · intro q; exact absurd rfl q
    intro _
    refine Go.iloadN X d0_75 rfl ?_
    refine Go.sipush X (v := 255) d0_76 (by decide) ?_
    refine Go.iand X d0_79 ?_
    obtain ⟨d1, hd1, ed1⟩ := and255 i1
    rw [ed1]
    refine Go.i2c X d0_80 ?_
    rw [ch_back d1 hd1]
    refine Go.istore X d0_81 (stL rfl rfl (by dsimp only [updL])) ?_
    refine Go.iload X d0_83 rfl ?_
    refine Go.ifc X d0_85 (pt := 93) ⟨by decide, by decide⟩ ?_ ?_
    rotate_left
    · intro q; exact absurd rfl q
    intro _
    refine Go.iloadN X d0_93 rfl ?_
    refine Go.bipush X (v := 8) d0_94 (by decide) ?_
    refine Go.iushr X d0_96 ?_
    refine Go.sipush X (v := 255) d0_97 (by decide) ?_
    refine Go.iand X d0_100 ?_
    obtain ⟨d2, hd2, ed2⟩ := and255 (XT.ushr i1 8)
    rw [ed2]
    refine Go.i2c X d0_101 ?_
    rw [ch_back d2 hd2]
    refine Go.istore X d0_102 (stL rfl rfl (by dsimp only [updL])) ?_
    refine Go.iload X d0_104 rfl ?_
    refine Go.ifc X d0_106 (pt := 114) ⟨by decide, by decide⟩ ?_ ?_
    rotate_left
    · intro q; exact absurd rfl q
    intro _
    refine Go.iloadN X d0_114 rfl ?_
    refine Go.bipush X (v := 16) d0_115 (by decide) ?_
    refine Go.iushr X d0_117 ?_
    refine Go.sipush X (v := 255) d0_118 (by decide) ?_
    refine Go.iand X d0_121 ?_
    obtain ⟨d3, hd3, ed3⟩ := and255 (XT.ushr i1 16)
    rw [ed3]
    refine Go.i2c X d0_122 ?_
    rw [ch_back d3 hd3]
    refine Go.istore X d0_123 (stL rfl rfl (by dsimp only [updL])) ?_
    exact k125 X G hm hn hc1 hc2 hc3 hd1 hd2 hd3
  intro _
  refine Go.iconst X (v := 1) d0_41 (by decide) ?_
  refine Go.goto X d0_42 (pt := 46) ⟨by decide, by decide⟩ ?_
  refine Go.istore X d0_46 (stL rfl rfl (by dsimp only [updL])) ?_
  refine Go.iload X d0_48 rfl ?_
  refine Go.ifc X d0_50 (pt := 58) ⟨by decide, by decide⟩ ?_ ?_
  · intro q; exact absurd (show (1 : Int32) = 0 from q) (by decide)
  intro _
  refine Go.iload X d0_53 rfl ?_
  refine Go.goto X d0_55 (pt := 63) ⟨by decide, by decide⟩ ?_
  refine Go.istore X d0_63 (stL rfl rfl (by dsimp only [updL])) ?_
  refine Go.iload X d0_65 rfl ?_
  refine Go.ifc X d0_67 (pt := 75) ⟨by decide, by decide⟩ ?_ ?_
  · intro q; exact absurd (show (1 : Int32) = 0 from q) (by decide)
  intro _
  refine Go.iload X d0_70 rfl ?_
  refine Go.goto X d0_72 (pt := 81) ⟨by decide, by decide⟩ ?_
  refine Go.istore X d0_81 (stL rfl rfl (by dsimp only [updL])) ?_
  refine Go.iload X d0_83 rfl ?_
  refine Go.ifc X d0_85 (pt := 93) ⟨by decide, by decide⟩ ?_ ?_
  · intro q; exact absurd (show (1 : Int32) = 0 from q) (by decide)
  intro _
  refine Go.iload X d0_88 rfl ?_
  refine Go.goto X d0_90 (pt := 102) ⟨by decide, by decide⟩ ?_
  refine Go.istore X d0_102 (stL rfl rfl (by dsimp only [updL])) ?_
  refine Go.iload X d0_104 rfl ?_
  refine Go.ifc X d0_106 (pt := 114) ⟨by decide, by decide⟩ ?_ ?_
  · intro q; exact absurd (show (1 : Int32) = 0 from q) (by decide)
  intro _
  refine Go.iload X d0_109 rfl ?_
  refine Go.goto X d0_111 (pt := 123) ⟨by decide, by decide⟩ ?_
  refine Go.istore X d0_123 (stL rfl rfl (by dsimp only [updL])) ?_
  exact k125 X G hm hm hc1 hc2 hc3 hc1 hc2 hc3
-- %%% ends

set_option maxRecDepth 65536 in
set_option maxHeartbeats 4000000 in
theorem comes_1 {Post : Tables → Env → Array Value → State → Outcome → State → Prop} (hpost : ∀ tb e args s v u, (limb_1_1.after args s (.returned v) u = true ∧ limb_1_2.after args s (.returned v) u = true ∧ True) → ReturnedEndW s (.returned v) u (Jvm.fieldLocs frame_1_writes args s ++ Jvm.arrayLocs frame_1_arrays args s ++ Jvm.staticLocs frame_1_statics s) 48 1216 → Post tb e args s (.returned v) u) :
    ArmFor flags0 classFile x code maxLocals ret World_1 tables_1 room_1 Calls_1 rest_1 Pre_1 Post := by
  intro l hfl _ _ p e ha hc hk s m args below hf hA hF happ hP
  obtain ⟨hcalls, hrest, hpre⟩ := hP
  obtain ⟨-, -, -, hnamed, -, -, -, hat⟩ := (Spec.applies_iff hf).mp happ
  obtain ⟨hg, hn⟩ := and_e (Cond.before_iff.mp (show (Jvm.Cond.and given_1 narrow_1).before args s = true from hpre))
  obtain ⟨h1, h2⟩ := and_e hg
  obtain ⟨w0, w1, w2, w3, rfl⟩ : ∃ w0 w1 w2 w3 : Value, args = #[w0, w1, w2, w3] := by
    have hs : args.size = 4 := by simpa [Cond.value, given_1] using h1
    obtain ⟨L⟩ := args
    match L, hs with
    | [w0, w1, w2, w3], _ => exact ⟨w0, w1, w2, w3, rfl⟩
  have hw : ∀ d ∈ tables_1, d.before #[w0, w1, w2, w3] s = true := fun d (hd : d ∈ tables_1) => atoms_spec (ws := Jvm.Cond.code x code maxLocals ret :: tables_1) hat d (List.mem_cons_of_mem _ hd)
  have hfit : Fit s := fun {y c} hc i hi => by
    obtain ⟨ha, rfl⟩ := Array.getElem?_eq_some_iff.mp hc
    have q := List.all_eq_true.mp ((Array.all_eq_true_iff_forall_mem.mp hF) _ (Array.getElem_mem ha)) i (List.mem_range.mpr hi)
    simpa [Array.getElem?_eq_getElem hi] using q
  obtain ⟨a0, h3⟩ := and_e h2
  obtain ⟨i0, e0⟩ := is_v a0
  obtain rfl : w0 = (.int i0) := Option.some.inj e0
  obtain ⟨a1, h4⟩ := and_e h3
  obtain ⟨i1, e1⟩ := is_v a1
  obtain rfl : w1 = (.int i1) := Option.some.inj e1
  obtain ⟨a2, h5⟩ := and_e h4
  obtain ⟨i2, e2⟩ := is_v a2
  obtain rfl : w2 = (.int i2) := Option.some.inj e2
  obtain ⟨i3, e3⟩ := is_v h5
  obtain rfl : w3 = (.int i3) := Option.some.inj e3
  have hsets : ∀ d ∈ jdkStatics_1, d.before #[.int i0, .int i1, .int i2, .int i3] s = true := (atoms_of (own := restOwn_1) jdkStatics_1 (show (jdkStatics_1.foldr Jvm.Cond.and restOwn_1).before _ s = true from hrest)).1
  have G_cs : ∃ cs : Int32, cs ≠ 0 ∧ Sta s s.heap "java/lang/String" "COMPACT_STRINGS" "Z" (.int cs) := by
    obtain ⟨x, ex⟩ := is_v (Cond.before_iff.mp (hsets _ (List.mem_of_getElem? (i := 1) rfl)))
    refine ⟨x, fun z => ?_, Sta.start ex (Or.inl (hsets _ (List.mem_of_getElem? (i := 0) rfl)))⟩
    have q := Cond.before_iff.mp (hsets _ (List.mem_of_getElem? (i := 2) rfl))
    subst z
    have q2 : (Cond.eq (Term.static "java/lang/String" "COMPACT_STRINGS" "Z") (Term.int 0)).value #[.int i0, .int i1, .int i2, .int i3] s none s [] = some true := eq_i ex (Term.int_eval (0)) rfl
    simp only [Cond.value] at q q2
    rw [q2] at q
    cases q
  have G_de : ∃ de, Sta s s.heap "java/util/ArrayList" "DEFAULTCAPACITY_EMPTY_ELEMENTDATA" "[Ljava/lang/Object;" (.ref de) ∧ ∃ cl, Arr s s.heap de cl (.object "java/lang/Object") ∧ cl.slots.size = 0 := by
    obtain ⟨a, cl, q1, q2, q3, q4, q5, -⟩ := staArr (ty := .object "java/lang/Object") (A := "[Ljava/lang/Object;") (z := 0) (Or.inr ⟨(hw _ (List.mem_of_getElem? (i := 46) rfl)), (hsets _ (List.mem_of_getElem? (i := 19) rfl))⟩) (hsets _ (List.mem_of_getElem? (i := 23) rfl)) (hsets _ (List.mem_of_getElem? (i := 24) rfl)) (hsets _ (List.mem_of_getElem? (i := 25) rfl))
    refine ⟨a, q1, cl, q2, ?_⟩
    have := len_toInt q4
    rw [q5] at this
    have e0 : (0 : Int32).toInt = 0 := rfl
    omega
  have G_ic : Sta s s.heap "java/lang/Integer$IntegerCache" "high" "I" (.int 127) ∧ ∃ ca cc, Sta s s.heap "java/lang/Integer$IntegerCache" "cache" "[Ljava/lang/Integer;" (.ref ca) ∧ Bxs s ca cc "java/lang/Integer" "I" 256 (fun j => .int (j - 128)) := by
    refine ⟨staInt (Or.inl (hsets _ (List.mem_of_getElem? (i := 10) rfl))) (hsets _ (List.mem_of_getElem? (i := 12) rfl)), ?_⟩
    obtain ⟨a, cl, q1, q2, q3, q4, q5, q6⟩ := staArr (ty := .object "java/lang/Integer") (A := "[Ljava/lang/Integer;") (z := 256) (Or.inr ⟨(hw _ (List.mem_of_getElem? (i := 42) rfl)), (hsets _ (List.mem_of_getElem? (i := 11) rfl))⟩) (hsets _ (List.mem_of_getElem? (i := 13) rfl)) (hsets _ (List.mem_of_getElem? (i := 14) rfl)) (hsets _ (List.mem_of_getElem? (i := 15) rfl))
    exact ⟨a, cl, q1, Bxs.start (F := Jvm.Term.sub (Jvm.Term.index 0) (Jvm.Term.int 128)) q6 q2 q4 q5 (by decide) (Cond.before_iff.mp (hsets _ (List.mem_of_getElem? (i := 16) rfl))) (fun X j hj hX => eqv_i (Term.sub_int (idx_at hj) (Term.int_eval 128)) hX)⟩
  have hew : EW s _ EL0 := (EW.cons (hw _ (List.mem_of_getElem? (i := 34) rfl)) (by decide) EW.nil)
  have hEW : WD = true → ∃ a0, EW s a0 EL0 := fun _ => ⟨_, hew⟩
  have hIv : WD = true → CHv s EL0 s.vm s.heap ∧ ∀ x ∈ ([] : List Ent), x.2.2 = true → Safe s EL0 s.vm s.heap x.1 := fun _ => ⟨CHv.start hew (fun p hp => hcalls.2.1 p hp) (hsets _ (List.mem_of_getElem? (i := 2) rfl)) (hw _ (List.mem_of_getElem? (i := 23) rfl)) (hw _ (List.mem_of_getElem? (i := 5) rfl)), fun _ q => nomatch q⟩
  obtain ⟨KM, kM, mM, hM1, hM2, hM3, -⟩ := hcalls.1
  have G : Gl #[.int i0, .int i1, .int i2, .int i3] s := ⟨hw, hEW, G_cs, G_de, G_ic, KM, mM, hM1, kM, hM2, hM3⟩
  obtain ⟨n, o, h1, h2, h3, _, M, lc, rfl, ⟨_, rfl, rfl⟩, -, N, hq⟩ := (law_ct l G i0 i1 i2 i3) tables_1 p e ha hc hk s m _ below hf ((Spec.applies_iff_loose hf).mp happ).1 ⟨rfl, State.Warmed39.refl s, Hp.start s, hIv⟩ trivial
  exact ⟨n, _, h1, h2, h3, hpost _ _ _ _ _ _ ⟨Cond.after_iff.mpr rfl, Cond.after_iff.mpr (eq_i res_at (Term.int_eval (1)) rfl), trivial⟩ ⟨hq.1, hq.2.1, hq.2.2.1, (hq.2.2.2.sift fun y hy => Or.inr (N y hy)).mono (by decide) (by decide)⟩⟩
theorem main_1_1 : Claimed_1_1 := comes_1 fun _ _ _ _ _ _ h hF => ⟨h.1, hF⟩
theorem main_1_2 : Claimed_1_2 := comes_1 fun _ _ _ _ _ _ h hF => ⟨h.2.1, hF⟩
end Jvm.Pilot.@@N@@
namespace Jvm.Pilot.@@N@@
open Jvm Jvm.ClassFile Sem Op Lib Jvm.Free Jvm.Stand Jvm.Pilot.@@N@@.Jvm.D
/-! MADE BY PROGRAM (witnessworld.py) out of the Statement's table words and the real class files: 37 classes; the members and pool entries that the words name. The judged class is class 1, her method 2. -/
namespace start1
open Jvm.ClassFile
def u (s : String) : CpInfo := .utf8 (stringToUtf16 s)
/-- a pool by its gaps: so many unusable entries, then the entry; so many at the end -/
def gap : Nat → List CpInfo → List CpInfo
  | 0, r => r
  | n + 1, r => .unusable :: gap n r
def poolList (es : List (Nat × CpInfo)) (last : Nat) : List CpInfo := es.foldr (fun e r => gap e.1 (e.2 :: r)) (gap last [])
def pool (es : List (Nat × CpInfo)) (last : Nat) : Array CpInfo := ⟨poolList es last⟩
def fileOf (pool : Array CpInfo) (this : Nat) (attrs : Array Attribute := #[]) (ms : Array MethodInfo := #[]) (fl : Nat := 33) (sup : Nat := 0) (ifs : Array Nat := #[]) (fds : Array FieldInfo := #[]) : ClassFile where
  minorVersion := 0
  majorVersion := 65
  constantPool := pool
  accessFlags := fl
  thisClass := this
  superClass := sup
  interfaces := ifs
  fields := fds
  methods := ms
  attributes := attrs
def plain (name : String) (sup : Option ClassId) : Class where
  name := name
  kind := .ordinary
  loader := none
  accessFlags := 33
  super := sup
  interfaces := #[]
  cf := none
  fields := #[]
  methods := #[]
  instanceTypes := #[]
  staticTypes := #[]
  resolved := #[]
  callSites := []
  init := .initialized
  statics := none
  mirror := none

def pool0 : Array CpInfo := pool [(5, u "<init>"), (0, u "()V"), (1, .class_ 10), (1, u "java/lang/Object"), (0, u "getClass"), (0, u "()Ljava/lang/Class;")] 111

def k0c0 : Code := { maxStack := 0, maxLocals := 1, code := object_method_1_code, exceptionTable := #[], attributes := #[] }
def k0m0 : Method := { name := "<init>", desc := "()V", sig := { parameters := [], returnType := none }, accessFlags := 1, code := some k0c0 }
def k0m1 : Method := { name := "getClass", desc := "()Ljava/lang/Class;", sig := { parameters := [], returnType := some (.object "java/lang/Class") }, accessFlags := 273, code := none }
/-- java/lang/Object -/
def k0 : Class := { plain "java/lang/Object" none with
  accessFlags := 33
  interfaces := #[]
  cf := some (fileOf pool0 8 #[] #[{ accessFlags := 1, nameIndex := 5, descriptorIndex := 6, attributes := #[] }, { accessFlags := 273, nameIndex := 11, descriptorIndex := 12, attributes := #[] }] 33 0 #[] #[])
  fields := #[]
  methods := #[k0m0, k0m1]
  instanceTypes := #[]
  staticTypes := #[]
  resolved := Array.replicate 124 none
  statics := none }

def pool1 : Array CpInfo := pool [(2, .class_ 4), (0, .nameAndType 5 6), (0, u "java/lang/Object"), (0, u "<init>"), (0, u "()V"), (0, .class_ 8), (0, u "java/lang/String"), (0, .methodref 7 10), (0, .nameAndType 5 11), (0, u "([C)V"), (0, .methodref 13 14), (0, .class_ 15), (0, .nameAndType 16 17), (0, u "com/example/persist/persist/session/OperandBindingsPinLaw"), (0, u "mk"), (0, u "(ICCC)Ljava/lang/String;"), (0, .methodref 19 20), (0, .class_ 21), (0, .nameAndType 22 23), (0, u "java/lang/Integer"), (0, u "valueOf"), (0, u "(I)Ljava/lang/Integer;"), (0, .class_ 25), (0, u "java/util/ArrayList"), (0, .methodref 24 3), (0, .interfaceMethodref 28 29), (0, .class_ 30), (0, .nameAndType 31 32), (0, u "java/util/List"), (0, u "add"), (0, u "(Ljava/lang/Object;)Z"), (0, .class_ 34), (0, u "com/example/persist/persist/session/Operand"), (0, .methodref 33 36), (0, .nameAndType 5 37), (0, u "(Ljava/lang/String;Ljava/lang/String;)V"), (0, .methodref 33 39), (0, .nameAndType 40 41), (0, u "bindings"), (0, u "()I"), (0, .methodref 33 43), (0, .nameAndType 44 45), (0, u "bound"), (0, u "(Ljava/util/List;)Ljava/util/List;"), (0, .methodref 33 47), (0, .nameAndType 48 49), (0, u "addBound"), (0, u "(Ljava/util/List;Ljava/lang/Object;)V"), (0, .interfaceMethodref 28 51), (0, .nameAndType 52 41), (0, u "size"), (3, u "law"), (0, u "(IIII)Z")] 2

def k1m0 : Method := { name := "<init>", desc := "()V", sig := { parameters := [], returnType := none }, accessFlags := 1, code := none }
def k1c1 : Code := { maxStack := 6, maxLocals := 4, code := method_2_code, exceptionTable := #[], attributes := #[] }
def k1m1 : Method := { name := "mk", desc := "(ICCC)Ljava/lang/String;", sig := { parameters := [.int, .char, .char, .char], returnType := some (.object "java/lang/String") }, accessFlags := 10, code := some k1c1 }
def k1c2 : Code := { maxStack := 4, maxLocals := 22, code := code, exceptionTable := #[], attributes := #[] }
def k1m2 : Method := { name := "law", desc := "(IIII)Z", sig := { parameters := [.int, .int, .int, .int], returnType := some .boolean }, accessFlags := 9, code := some k1c2 }
/-- com/example/persist/persist/session/OperandBindingsPinLaw -/
def k1 : Class := { plain "com/example/persist/persist/session/OperandBindingsPinLaw" (some 0) with
  accessFlags := 49
  interfaces := #[]
  cf := some (fileOf pool1 13 #[] #[{ accessFlags := 1, nameIndex := 5, descriptorIndex := 6, attributes := #[] }, { accessFlags := 10, nameIndex := 16, descriptorIndex := 17, attributes := #[] }, { accessFlags := 9, nameIndex := 56, descriptorIndex := 57, attributes := #[] }] 49 2 #[] #[])
  fields := #[]
  methods := #[k1m0, k1m1, k1m2]
  instanceTypes := #[]
  staticTypes := #[]
  resolved := Array.replicate 60 none
  statics := none }

def pool2 : Array CpInfo := pool [(1, .class_ 2), (0, u "java/io/Serializable"), (0, .class_ 4), (0, u "java/lang/Object")] 2

/-- java/io/Serializable -/
def k2 : Class := { plain "java/io/Serializable" (some 0) with
  accessFlags := 1537
  interfaces := #[]
  cf := some (fileOf pool2 1 #[] #[] 1537 3 #[] #[])
  fields := #[]
  methods := #[]
  instanceTypes := #[]
  staticTypes := #[]
  resolved := Array.replicate 7 none
  statics := none }

def pool3 : Array CpInfo := pool [(1, .class_ 2), (0, u "java/lang/Comparable"), (0, .class_ 4), (0, u "java/lang/Object")] 7

/-- java/lang/Comparable -/
def k3 : Class := { plain "java/lang/Comparable" (some 0) with
  accessFlags := 1537
  interfaces := #[]
  cf := some (fileOf pool3 1 #[] #[] 1537 3 #[] #[])
  fields := #[]
  methods := #[]
  instanceTypes := #[]
  staticTypes := #[]
  resolved := Array.replicate 12 none
  statics := none }

def pool4 : Array CpInfo := pool [(2, .class_ 4), (1, u "java/lang/CharSequence"), (42, .class_ 48), (0, u "java/lang/CharSequence$1CodePointIterator"), (10, .class_ 60), (0, u "java/lang/CharSequence$1CharIterator"), (5, .class_ 67), (0, u "java/lang/Object")] 63

/-- java/lang/CharSequence -/
def k4 : Class := { plain "java/lang/CharSequence" (some 0) with
  accessFlags := 1537
  interfaces := #[]
  cf := some (fileOf pool4 2 #[.nestMembers #[47, 59]] #[] 1537 66 #[] #[])
  fields := #[]
  methods := #[]
  instanceTypes := #[]
  staticTypes := #[]
  resolved := Array.replicate 131 none
  statics := none }

def pool5 : Array CpInfo := pool [(1, .class_ 2), (0, u "java/lang/constant/Constable"), (0, .class_ 4), (0, u "java/lang/Object")] 6

/-- java/lang/constant/Constable -/
def k5 : Class := { plain "java/lang/constant/Constable" (some 0) with
  accessFlags := 1537
  interfaces := #[]
  cf := some (fileOf pool5 1 #[] #[] 1537 3 #[] #[])
  fields := #[]
  methods := #[]
  instanceTypes := #[]
  staticTypes := #[]
  resolved := Array.replicate 11 none
  statics := none }

def pool6 : Array CpInfo := pool [(1, .class_ 2), (0, u "java/lang/constant/ConstantDesc"), (0, .class_ 4), (0, u "java/lang/Object")] 32

/-- java/lang/constant/ConstantDesc -/
def k6 : Class := { plain "java/lang/constant/ConstantDesc" (some 0) with
  accessFlags := 1537
  interfaces := #[]
  cf := some (fileOf pool6 1 #[] #[] 1537 3 #[] #[])
  fields := #[]
  methods := #[]
  instanceTypes := #[]
  staticTypes := #[]
  resolved := Array.replicate 37 none
  statics := none }

def pool7 : Array CpInfo := pool [(1, .methodref 2 3), (0, .class_ 4), (0, .nameAndType 5 6), (0, u "java/lang/Object"), (0, u "<init>"), (0, u "()V"), (0, .string 8), (0, u ""), (0, .fieldref 10 11), (0, .class_ 12), (0, .nameAndType 13 14), (0, u "java/lang/String"), (0, u "value"), (0, u "[B"), (0, .fieldref 10 16), (0, .nameAndType 17 18), (0, u "coder"), (0, u "B"), (2, u "hash"), (0, u "I"), (2, u "hashIsZero"), (0, u "Z"), (0, .methodref 10 28), (0, .nameAndType 5 29), (0, u "([CIILjava/lang/Void;)V"), (8, .fieldref 10 39), (0, .nameAndType 40 26), (0, u "COMPACT_STRINGS"), (1, .class_ 44), (1, u "java/lang/StringUTF16"), (0, u "compress"), (1, .methodref 42 48), (0, .nameAndType 49 50), (0, u "coderFromArrayLen"), (0, u "([BI)B"), (56, .class_ 109), (1, u "java/lang/StringLatin1"), (67, .methodref 42 178), (0, .nameAndType 45 179), (0, u "([CII)[B"), (361, .methodref 107 542), (0, .nameAndType 543 544), (0, u "equals"), (0, u "([B[B)Z"), (28, u "(Ljava/lang/Object;)Z"), (1, .class_ 576), (0, u "java/lang/CharSequence"), (22, u "CASE_INSENSITIVE_ORDER"), (0, u "Ljava/util/Comparator;"), (409, u "([C)V"), (90, u "serialPersistentFields"), (0, u "[Ljava/io/ObjectStreamField;"), (0, .class_ 1104), (0, u "java/lang/String$CaseInsensitiveComparator"), (1, .class_ 1107), (0, u "java/io/Serializable"), (0, .class_ 1109), (0, u "java/lang/Comparable"), (0, .class_ 1111), (0, u "java/lang/constant/Constable"), (0, .class_ 1113), (0, u "java/lang/constant/ConstantDesc"), (2, u "serialVersionUID"), (0, u "J"), (3, u "REPL"), (0, u "C"), (2, u "LATIN1"), (1, u "UTF16")] 323

def k7m0 : Method := { name := "<init>", desc := "()V", sig := { parameters := [], returnType := none }, accessFlags := 1, code := none }
def k7c1 : Code := { maxStack := 5, maxLocals := 2, code := jdk_42_method_3_code, exceptionTable := #[], attributes := #[] }
def k7m1 : Method := { name := "<init>", desc := "([C)V", sig := { parameters := [(.array .char)], returnType := none }, accessFlags := 1, code := some k7c1 }
def k7c2 : Code := { maxStack := 2, maxLocals := 3, code := jdk_42_method_66_code, exceptionTable := #[], attributes := #[] }
def k7m2 : Method := { name := "equals", desc := "(Ljava/lang/Object;)Z", sig := { parameters := [(.object "java/lang/Object")], returnType := some .boolean }, accessFlags := 1, code := some k7c2 }
def k7c3 : Code := { maxStack := 4, maxLocals := 6, code := jdk_42_method_149_code, exceptionTable := #[], attributes := #[] }
def k7m3 : Method := { name := "<init>", desc := "([CIILjava/lang/Void;)V", sig := { parameters := [(.array .char), .int, .int, (.object "java/lang/Void")], returnType := none }, accessFlags := 2, code := some k7c3 }
/-- java/lang/String -/
def k7 : Class := { plain "java/lang/String" (some 0) with
  accessFlags := 49
  interfaces := #[2, 3, 4, 5, 6]
  cf := some (fileOf pool7 10 #[.nestMembers #[1103]] #[{ accessFlags := 1, nameIndex := 5, descriptorIndex := 6, attributes := #[] }, { accessFlags := 1, nameIndex := 5, descriptorIndex := 1010, attributes := #[] }, { accessFlags := 1, nameIndex := 543, descriptorIndex := 573, attributes := #[] }, { accessFlags := 2, nameIndex := 5, descriptorIndex := 29, attributes := #[] }] 49 2 #[1106, 1108, 575, 1110, 1112] #[{ accessFlags := 18, nameIndex := 13, descriptorIndex := 14, attributes := #[] }, { accessFlags := 18, nameIndex := 17, descriptorIndex := 18, attributes := #[] }, { accessFlags := 2, nameIndex := 21, descriptorIndex := 22, attributes := #[] }, { accessFlags := 2, nameIndex := 25, descriptorIndex := 26, attributes := #[] }, { accessFlags := 26, nameIndex := 1116, descriptorIndex := 1117, attributes := #[] }, { accessFlags := 24, nameIndex := 40, descriptorIndex := 26, attributes := #[] }, { accessFlags := 26, nameIndex := 1101, descriptorIndex := 1102, attributes := #[] }, { accessFlags := 26, nameIndex := 1121, descriptorIndex := 1122, attributes := #[] }, { accessFlags := 25, nameIndex := 599, descriptorIndex := 600, attributes := #[] }, { accessFlags := 24, nameIndex := 1125, descriptorIndex := 18, attributes := #[] }, { accessFlags := 24, nameIndex := 1127, descriptorIndex := 18, attributes := #[] }])
  fields := #[{ name := "value", type := (.array .byte), accessFlags := 18, slot := 0, constantValue := 0 }, { name := "coder", type := .byte, accessFlags := 18, slot := 1, constantValue := 0 }, { name := "hash", type := .int, accessFlags := 2, slot := 2, constantValue := 0 }, { name := "hashIsZero", type := .boolean, accessFlags := 2, slot := 3, constantValue := 0 }, { name := "serialVersionUID", type := .long, accessFlags := 26, slot := 0, constantValue := 0 }, { name := "COMPACT_STRINGS", type := .boolean, accessFlags := 24, slot := 1, constantValue := 0 }, { name := "serialPersistentFields", type := (.array (.object "java/io/ObjectStreamField")), accessFlags := 26, slot := 2, constantValue := 0 }, { name := "REPL", type := .char, accessFlags := 26, slot := 3, constantValue := 0 }, { name := "CASE_INSENSITIVE_ORDER", type := (.object "java/util/Comparator"), accessFlags := 25, slot := 4, constantValue := 0 }, { name := "LATIN1", type := .byte, accessFlags := 24, slot := 5, constantValue := 0 }, { name := "UTF16", type := .byte, accessFlags := 24, slot := 6, constantValue := 0 }]
  methods := #[k7m0, k7m1, k7m2, k7m3]
  instanceTypes := #[(.array .byte), .byte, .int, .boolean]
  staticTypes := #[.long, .boolean, (.array (.object "java/io/ObjectStreamField")), .char, (.object "java/util/Comparator"), .byte, .byte]
  resolved := Array.replicate 1451 none
  statics := some 0 }

def pool8 : Array CpInfo := pool [(6, .class_ 8), (1, u "java/lang/Object"), (0, u "<init>"), (0, u "()V"), (1, .class_ 14), (1, u "java/lang/StringUTF16"), (31, u "$assertionsDisabled"), (0, u "Z"), (13, u "HI_BYTE_SHIFT"), (0, u "I"), (2, u "LO_BYTE_SHIFT"), (49, .methodref 12 116), (0, .nameAndType 117 118), (0, u "compress"), (0, u "([CI[BII)I"), (3, u "([CII)[B"), (138, u "coderFromArrayLen"), (0, u "([BI)B"), (106, .class_ 371), (1, u "java/lang/StringUTF16$LinesSpliterator"), (58, u "MAX_LENGTH"), (196, .class_ 628), (0, u "java/lang/StringUTF16$CodePointsSpliterator"), (0, .class_ 630), (0, u "java/lang/StringUTF16$CharsSpliterator")] 4

def k8m0 : Method := { name := "<init>", desc := "()V", sig := { parameters := [], returnType := none }, accessFlags := 0, code := none }
def k8c1 : Code := { maxStack := 2, maxLocals := 2, code := jdk_52_method_15_code, exceptionTable := #[], attributes := #[] }
def k8m1 : Method := { name := "coderFromArrayLen", desc := "([BI)B", sig := { parameters := [(.array .byte), .int], returnType := some .byte }, accessFlags := 8, code := some k8c1 }
def k8c2 : Code := { maxStack := 5, maxLocals := 6, code := jdk_52_method_16_code, exceptionTable := #[], attributes := #[] }
def k8m2 : Method := { name := "compress", desc := "([CII)[B", sig := { parameters := [(.array .char), .int, .int], returnType := some (.array .byte) }, accessFlags := 9, code := some k8c2 }
def k8c3 : Code := { maxStack := 3, maxLocals := 7, code := jdk_52_method_21_code, exceptionTable := #[], attributes := #[] }
def k8m3 : Method := { name := "compress", desc := "([CI[BII)I", sig := { parameters := [(.array .char), .int, (.array .byte), .int, .int], returnType := some .int }, accessFlags := 9, code := some k8c3 }
/-- java/lang/StringUTF16 -/
def k8 : Class := { plain "java/lang/StringUTF16" (some 0) with
  accessFlags := 48
  interfaces := #[]
  cf := some (fileOf pool8 12 #[.nestMembers #[627, 629, 369]] #[{ accessFlags := 0, nameIndex := 9, descriptorIndex := 10, attributes := #[] }, { accessFlags := 8, nameIndex := 261, descriptorIndex := 262, attributes := #[] }, { accessFlags := 9, nameIndex := 117, descriptorIndex := 122, attributes := #[] }, { accessFlags := 9, nameIndex := 117, descriptorIndex := 118, attributes := #[] }] 48 6 #[] #[{ accessFlags := 26, nameIndex := 61, descriptorIndex := 62, attributes := #[] }, { accessFlags := 26, nameIndex := 65, descriptorIndex := 62, attributes := #[] }, { accessFlags := 24, nameIndex := 430, descriptorIndex := 62, attributes := #[] }, { accessFlags := 4120, nameIndex := 46, descriptorIndex := 47, attributes := #[] }])
  fields := #[{ name := "HI_BYTE_SHIFT", type := .int, accessFlags := 26, slot := 0, constantValue := 0 }, { name := "LO_BYTE_SHIFT", type := .int, accessFlags := 26, slot := 1, constantValue := 0 }, { name := "MAX_LENGTH", type := .int, accessFlags := 24, slot := 2, constantValue := 0 }, { name := "$assertionsDisabled", type := .boolean, accessFlags := 4120, slot := 3, constantValue := 0 }]
  methods := #[k8m0, k8m1, k8m2, k8m3]
  instanceTypes := #[]
  staticTypes := #[.int, .int, .int, .boolean]
  resolved := Array.replicate 635 none
  statics := none }

def pool9 : Array CpInfo := pool [(1, .methodref 2 3), (0, .class_ 4), (0, .nameAndType 5 6), (0, u "java/lang/Object"), (0, u "<init>"), (0, u "()V"), (1, .class_ 10), (1, u "java/lang/Number"), (2, .class_ 14), (0, u "java/io/Serializable"), (0, u "serialVersionUID"), (0, u "J")] 20

def k9c0 : Code := { maxStack := 1, maxLocals := 1, code := jdk_18_method_1_code, exceptionTable := #[], attributes := #[] }
def k9m0 : Method := { name := "<init>", desc := "()V", sig := { parameters := [], returnType := none }, accessFlags := 1, code := some k9c0 }
/-- java/lang/Number -/
def k9 : Class := { plain "java/lang/Number" (some 0) with
  accessFlags := 1057
  interfaces := #[2]
  cf := some (fileOf pool9 8 #[] #[{ accessFlags := 1, nameIndex := 5, descriptorIndex := 6, attributes := #[] }] 1057 2 #[13] #[{ accessFlags := 26, nameIndex := 15, descriptorIndex := 16, attributes := #[] }])
  fields := #[{ name := "serialVersionUID", type := .long, accessFlags := 26, slot := 0, constantValue := 0 }]
  methods := #[k9m0]
  instanceTypes := #[]
  staticTypes := #[.long]
  resolved := Array.replicate 37 none
  statics := none }

def pool10 : Array CpInfo := pool [(1, .class_ 2), (0, u "java/lang/Integer"), (16, u "digits"), (0, u "[C"), (46, u "<init>"), (17, u "DigitOnes"), (0, u "[B"), (2, u "DigitTens"), (10, .nameAndType 67 101), (0, u "()V"), (85, u "valueOf"), (0, u "(I)Ljava/lang/Integer;"), (0, .class_ 190), (0, u "java/lang/Integer$IntegerCache"), (0, .fieldref 189 192), (0, .nameAndType 193 194), (0, u "high"), (0, u "I"), (0, .fieldref 189 196), (0, .nameAndType 197 198), (0, u "cache"), (0, u "[Ljava/lang/Integer;"), (0, .methodref 1 200), (0, .nameAndType 67 201), (0, u "(I)V"), (0, .methodref 203 100), (0, .class_ 204), (0, u "java/lang/Number"), (0, .fieldref 1 206), (0, .nameAndType 207 194), (0, u "value"), (94, u "TYPE"), (0, u "Ljava/lang/Class;"), (0, .class_ 305), (0, u "java/lang/Comparable"), (0, .class_ 307), (0, u "java/lang/constant/Constable"), (0, .class_ 309), (0, u "java/lang/constant/ConstantDesc"), (0, u "MIN_VALUE"), (1, u "MAX_VALUE"), (3, u "SIZE"), (1, u "BYTES"), (1, u "serialVersionUID"), (0, u "J")] 131

def k10c0 : Code := { maxStack := 3, maxLocals := 1, code := jdk_33_method_22_code, exceptionTable := #[], attributes := #[] }
def k10m0 : Method := { name := "valueOf", desc := "(I)Ljava/lang/Integer;", sig := { parameters := [.int], returnType := some (.object "java/lang/Integer") }, accessFlags := 9, code := some k10c0 }
def k10c1 : Code := { maxStack := 2, maxLocals := 2, code := jdk_33_method_23_code, exceptionTable := #[], attributes := #[] }
def k10m1 : Method := { name := "<init>", desc := "(I)V", sig := { parameters := [.int], returnType := none }, accessFlags := 1, code := some k10c1 }
/-- java/lang/Integer -/
def k10 : Class := { plain "java/lang/Integer" (some 9) with
  accessFlags := 49
  interfaces := #[3, 5, 6]
  cf := some (fileOf pool10 1 #[.nestMembers #[189]] #[{ accessFlags := 9, nameIndex := 187, descriptorIndex := 188, attributes := #[] }, { accessFlags := 1, nameIndex := 67, descriptorIndex := 201, attributes := #[] }] 49 203 #[304, 306, 308] #[{ accessFlags := 25, nameIndex := 310, descriptorIndex := 194, attributes := #[] }, { accessFlags := 25, nameIndex := 312, descriptorIndex := 194, attributes := #[] }, { accessFlags := 25, nameIndex := 302, descriptorIndex := 303, attributes := #[] }, { accessFlags := 24, nameIndex := 19, descriptorIndex := 20, attributes := #[] }, { accessFlags := 24, nameIndex := 89, descriptorIndex := 86, attributes := #[] }, { accessFlags := 24, nameIndex := 85, descriptorIndex := 86, attributes := #[] }, { accessFlags := 18, nameIndex := 207, descriptorIndex := 194, attributes := #[] }, { accessFlags := 25, nameIndex := 316, descriptorIndex := 194, attributes := #[] }, { accessFlags := 25, nameIndex := 318, descriptorIndex := 194, attributes := #[] }, { accessFlags := 26, nameIndex := 320, descriptorIndex := 321, attributes := #[] }])
  fields := #[{ name := "MIN_VALUE", type := .int, accessFlags := 25, slot := 0, constantValue := 0 }, { name := "MAX_VALUE", type := .int, accessFlags := 25, slot := 1, constantValue := 0 }, { name := "TYPE", type := (.object "java/lang/Class"), accessFlags := 25, slot := 2, constantValue := 0 }, { name := "digits", type := (.array .char), accessFlags := 24, slot := 3, constantValue := 0 }, { name := "DigitTens", type := (.array .byte), accessFlags := 24, slot := 4, constantValue := 0 }, { name := "DigitOnes", type := (.array .byte), accessFlags := 24, slot := 5, constantValue := 0 }, { name := "value", type := .int, accessFlags := 18, slot := 0, constantValue := 0 }, { name := "SIZE", type := .int, accessFlags := 25, slot := 6, constantValue := 0 }, { name := "BYTES", type := .int, accessFlags := 25, slot := 7, constantValue := 0 }, { name := "serialVersionUID", type := .long, accessFlags := 26, slot := 8, constantValue := 0 }]
  methods := #[k10m0, k10m1]
  instanceTypes := #[.int]
  staticTypes := #[.int, .int, (.object "java/lang/Class"), (.array .char), (.array .byte), (.array .byte), .int, .int, .long]
  resolved := Array.replicate 453 none
  statics := none }

def pool11 : Array CpInfo := pool [(2, .class_ 4), (1, u "java/lang/Object"), (0, u "<init>"), (0, u "()V"), (0, .class_ 8), (0, u "java/lang/Integer"), (7, .class_ 18), (1, u "java/lang/Integer$IntegerCache"), (0, u "$assertionsDisabled"), (0, u "Z"), (26, u "high"), (0, u "I"), (8, u "archivedCache"), (0, u "[Ljava/lang/Integer;"), (12, u "cache"), (0, u "low")] 27

def k11m0 : Method := { name := "<init>", desc := "()V", sig := { parameters := [], returnType := none }, accessFlags := 2, code := none }
/-- java/lang/Integer$IntegerCache -/
def k11 : Class := { plain "java/lang/Integer$IntegerCache" (some 0) with
  accessFlags := 48
  interfaces := #[]
  cf := some (fileOf pool11 16 #[.nestHost 7] #[{ accessFlags := 2, nameIndex := 5, descriptorIndex := 6, attributes := #[] }] 48 2 #[] #[{ accessFlags := 24, nameIndex := 72, descriptorIndex := 48, attributes := #[] }, { accessFlags := 24, nameIndex := 47, descriptorIndex := 48, attributes := #[] }, { accessFlags := 24, nameIndex := 71, descriptorIndex := 58, attributes := #[] }, { accessFlags := 8, nameIndex := 57, descriptorIndex := 58, attributes := #[] }, { accessFlags := 4120, nameIndex := 19, descriptorIndex := 20, attributes := #[] }])
  fields := #[{ name := "low", type := .int, accessFlags := 24, slot := 0, constantValue := 0 }, { name := "high", type := .int, accessFlags := 24, slot := 1, constantValue := 0 }, { name := "cache", type := (.array (.object "java/lang/Integer")), accessFlags := 24, slot := 2, constantValue := 0 }, { name := "archivedCache", type := (.array (.object "java/lang/Integer")), accessFlags := 8, slot := 3, constantValue := 0 }, { name := "$assertionsDisabled", type := .boolean, accessFlags := 4120, slot := 4, constantValue := 0 }]
  methods := #[k11m0]
  instanceTypes := #[]
  staticTypes := #[.int, .int, (.array (.object "java/lang/Integer")), (.array (.object "java/lang/Integer")), .boolean]
  resolved := Array.replicate 100 none
  statics := some 1 }

def pool12 : Array CpInfo := pool [(8, .class_ 10), (1, u "java/lang/Iterable"), (24, .class_ 36), (0, u "java/lang/Object")] 25

/-- java/lang/Iterable -/
def k12 : Class := { plain "java/lang/Iterable" (some 0) with
  accessFlags := 1537
  interfaces := #[]
  cf := some (fileOf pool12 8 #[] #[] 1537 35 #[] #[])
  fields := #[]
  methods := #[]
  instanceTypes := #[]
  staticTypes := #[]
  resolved := Array.replicate 62 none
  statics := none }

def pool13 : Array CpInfo := pool [(10, .class_ 12), (1, u "java/util/Collection"), (0, u "toArray"), (46, .class_ 61), (0, u "java/lang/Object"), (0, .class_ 63), (0, u "java/lang/Iterable"), (6, u "()[Ljava/lang/Object;")] 44

def k13m0 : Method := { name := "toArray", desc := "()[Ljava/lang/Object;", sig := { parameters := [], returnType := some (.array (.object "java/lang/Object")) }, accessFlags := 1025, code := none }
/-- java/util/Collection -/
def k13 : Class := { plain "java/util/Collection" (some 0) with
  accessFlags := 1537
  interfaces := #[12]
  cf := some (fileOf pool13 10 #[] #[{ accessFlags := 1025, nameIndex := 13, descriptorIndex := 70, attributes := #[] }] 1537 60 #[62] #[])
  fields := #[]
  methods := #[k13m0]
  instanceTypes := #[]
  staticTypes := #[]
  resolved := Array.replicate 115 none
  statics := none }

def pool14 : Array CpInfo := pool [(1, .methodref 2 3), (0, .class_ 4), (0, .nameAndType 5 6), (0, u "java/lang/Object"), (0, u "<init>"), (0, u "()V"), (1, .class_ 10), (1, u "java/util/AbstractCollection"), (66, .class_ 78), (0, u "java/util/Collection")] 81

def k14c0 : Code := { maxStack := 1, maxLocals := 1, code := jdk_22_method_1_code, exceptionTable := #[], attributes := #[] }
def k14m0 : Method := { name := "<init>", desc := "()V", sig := { parameters := [], returnType := none }, accessFlags := 4, code := some k14c0 }
/-- java/util/AbstractCollection -/
def k14 : Class := { plain "java/util/AbstractCollection" (some 0) with
  accessFlags := 1057
  interfaces := #[13]
  cf := some (fileOf pool14 8 #[] #[{ accessFlags := 4, nameIndex := 5, descriptorIndex := 6, attributes := #[] }] 1057 2 #[77] #[])
  fields := #[]
  methods := #[k14m0]
  instanceTypes := #[]
  staticTypes := #[]
  resolved := Array.replicate 160 none
  statics := none }

def pool15 : Array CpInfo := pool [(8, .class_ 10), (1, u "java/util/SequencedCollection"), (15, .class_ 27), (0, u "java/lang/Object"), (0, .class_ 29), (0, u "java/util/Collection")] 27

/-- java/util/SequencedCollection -/
def k15 : Class := { plain "java/util/SequencedCollection" (some 0) with
  accessFlags := 1537
  interfaces := #[13]
  cf := some (fileOf pool15 8 #[] #[] 1537 26 #[28] #[])
  fields := #[]
  methods := #[]
  instanceTypes := #[]
  staticTypes := #[]
  resolved := Array.replicate 57 none
  statics := none }

def pool16 : Array CpInfo := pool [(8, .class_ 10), (1, u "java/util/List"), (49, u "add"), (3, u "(Ljava/lang/Object;)Z"), (14, u "size"), (0, u "()I"), (22, .class_ 104), (0, u "java/lang/Object"), (15, .class_ 121), (0, u "java/util/SequencedCollection"), (9, u "(Ljava/util/Collection;)Z"), (1, u "addAll")] 117

def k16m0 : Method := { name := "size", desc := "()I", sig := { parameters := [], returnType := some .int }, accessFlags := 1025, code := none }
def k16m1 : Method := { name := "add", desc := "(Ljava/lang/Object;)Z", sig := { parameters := [(.object "java/lang/Object")], returnType := some .boolean }, accessFlags := 1025, code := none }
def k16m2 : Method := { name := "addAll", desc := "(Ljava/util/Collection;)Z", sig := { parameters := [(.object "java/util/Collection")], returnType := some .boolean }, accessFlags := 1025, code := none }
/-- java/util/List -/
def k16 : Class := { plain "java/util/List" (some 0) with
  accessFlags := 1537
  interfaces := #[15]
  cf := some (fileOf pool16 8 #[] #[{ accessFlags := 1025, nameIndex := 79, descriptorIndex := 80, attributes := #[] }, { accessFlags := 1025, nameIndex := 60, descriptorIndex := 64, attributes := #[] }, { accessFlags := 1025, nameIndex := 133, descriptorIndex := 131, attributes := #[] }] 1537 103 #[120] #[])
  fields := #[]
  methods := #[k16m0, k16m1, k16m2]
  instanceTypes := #[]
  staticTypes := #[]
  resolved := Array.replicate 251 none
  statics := none }

def pool17 : Array CpInfo := pool [(1, .methodref 2 3), (0, .class_ 4), (0, .nameAndType 5 6), (0, u "java/util/AbstractCollection"), (0, u "<init>"), (0, u "()V"), (0, .fieldref 8 9), (0, .class_ 10), (0, .nameAndType 11 12), (0, u "java/util/AbstractList"), (0, u "modCount"), (0, u "I"), (64, .class_ 78), (0, u "java/util/AbstractList$Itr"), (3, .class_ 83), (0, u "java/util/AbstractList$ListItr"), (9, .class_ 94), (0, u "java/util/AbstractList$RandomAccessSubList"), (3, .class_ 99), (0, u "java/util/AbstractList$SubList"), (33, .class_ 134), (0, u "java/util/List"), (73, .class_ 209), (0, u "java/util/AbstractList$SubList$1"), (0, .class_ 211), (0, u "java/util/AbstractList$RandomAccessSpliterator")] 6

def k17c0 : Code := { maxStack := 2, maxLocals := 1, code := jdk_39_method_1_code, exceptionTable := #[], attributes := #[] }
def k17m0 : Method := { name := "<init>", desc := "()V", sig := { parameters := [], returnType := none }, accessFlags := 4, code := some k17c0 }
/-- java/util/AbstractList -/
def k17 : Class := { plain "java/util/AbstractList" (some 14) with
  accessFlags := 1057
  interfaces := #[16]
  cf := some (fileOf pool17 8 #[.nestMembers #[93, 98, 208, 210, 82, 77]] #[{ accessFlags := 4, nameIndex := 5, descriptorIndex := 6, attributes := #[] }] 1057 2 #[133] #[{ accessFlags := 132, nameIndex := 11, descriptorIndex := 12, attributes := #[] }])
  fields := #[{ name := "modCount", type := .int, accessFlags := 132, slot := 0, constantValue := 0 }]
  methods := #[k17m0]
  instanceTypes := #[.int]
  staticTypes := #[]
  resolved := Array.replicate 218 none
  statics := none }

def pool18 : Array CpInfo := pool [(1, .class_ 2), (0, u "java/util/RandomAccess"), (0, .class_ 4), (0, u "java/lang/Object")] 2

/-- java/util/RandomAccess -/
def k18 : Class := { plain "java/util/RandomAccess" (some 0) with
  accessFlags := 1537
  interfaces := #[]
  cf := some (fileOf pool18 1 #[] #[] 1537 3 #[] #[])
  fields := #[]
  methods := #[]
  instanceTypes := #[]
  staticTypes := #[]
  resolved := Array.replicate 7 none
  statics := none }

def pool19 : Array CpInfo := pool [(1, .class_ 2), (0, u "java/lang/Cloneable"), (0, .class_ 4), (0, u "java/lang/Object")] 2

/-- java/lang/Cloneable -/
def k19 : Class := { plain "java/lang/Cloneable" (some 0) with
  accessFlags := 1537
  interfaces := #[]
  cf := some (fileOf pool19 1 #[] #[] 1537 3 #[] #[])
  fields := #[]
  methods := #[]
  instanceTypes := #[]
  staticTypes := #[]
  resolved := Array.replicate 7 none
  statics := none }

def pool20 : Array CpInfo := pool [(1, .methodref 2 3), (0, .class_ 4), (0, .nameAndType 5 6), (0, u "java/util/AbstractList"), (0, u "<init>"), (0, u "()V"), (0, .class_ 8), (0, u "java/lang/Object"), (0, .fieldref 10 11), (0, .class_ 12), (0, .nameAndType 13 14), (0, u "java/util/ArrayList"), (0, u "elementData"), (0, u "[Ljava/lang/Object;"), (2, u "EMPTY_ELEMENTDATA"), (21, .fieldref 10 40), (0, .nameAndType 41 14), (0, u "DEFAULTCAPACITY_EMPTY_ELEMENTDATA"), (0, .interfaceMethodref 43 44), (0, .class_ 45), (0, .nameAndType 46 47), (0, u "java/util/Collection"), (0, u "toArray"), (0, u "()[Ljava/lang/Object;"), (0, .fieldref 10 49), (0, .nameAndType 50 51), (0, u "size"), (0, u "I"), (6, .class_ 60), (1, u "java/util/Arrays"), (0, u "copyOf"), (1, .fieldref 10 64), (0, .nameAndType 65 51), (0, u "modCount"), (0, .methodref 58 67), (0, .nameAndType 61 68), (0, u "([Ljava/lang/Object;I)[Ljava/lang/Object;"), (0, .methodref 10 70), (0, .nameAndType 71 72), (0, u "grow"), (0, u "(I)[Ljava/lang/Object;"), (6, .methodref 80 81), (0, .class_ 82), (0, .nameAndType 83 84), (0, u "java/lang/Math"), (0, u "max"), (0, u "(II)I"), (11, u "(Ljava/lang/Object;)Z"), (15, .methodref 113 114), (0, .class_ 115), (0, .nameAndType 116 117), (0, u "java/lang/System"), (0, u "arraycopy"), (0, u "(Ljava/lang/Object;ILjava/lang/Object;II)V"), (11, .methodref 10 130), (0, .nameAndType 71 47), (0, .methodref 10 132), (0, .nameAndType 133 134), (0, u "add"), (0, u "(Ljava/lang/Object;[Ljava/lang/Object;I)V"), (3, u "(I)V"), (9, .class_ 149), (0, u "java/util/List"), (36, u "()I"), (75, .class_ 263), (0, u "java/util/ArrayList$ListItr"), (3, .class_ 268), (0, u "java/util/ArrayList$Itr"), (7, .class_ 277), (0, u "java/util/ArrayList$SubList"), (12, .class_ 291), (0, u "java/util/ArrayList$ArrayListSpliterator"), (37, .class_ 330), (0, u "java/util/RandomAccess"), (0, .class_ 332), (0, u "java/lang/Cloneable"), (0, .class_ 334), (0, u "java/io/Serializable"), (0, u "serialVersionUID"), (0, u "J"), (3, u "DEFAULT_CAPACITY"), (79, u "addAll"), (0, u "(Ljava/util/Collection;)Z"), (78, .class_ 501), (0, u "java/util/ArrayList$SubList$2"), (0, .class_ 503), (0, u "java/util/ArrayList$SubList$1")] 5

def k20c0 : Code := { maxStack := 4, maxLocals := 2, code := jdk_38_method_1_code, exceptionTable := #[], attributes := #[] }
def k20m0 : Method := { name := "<init>", desc := "(I)V", sig := { parameters := [.int], returnType := none }, accessFlags := 1, code := some k20c0 }
def k20c1 : Code := { maxStack := 2, maxLocals := 1, code := jdk_38_method_2_code, exceptionTable := #[], attributes := #[] }
def k20m1 : Method := { name := "<init>", desc := "()V", sig := { parameters := [], returnType := none }, accessFlags := 1, code := some k20c1 }
def k20c2 : Code := { maxStack := 4, maxLocals := 4, code := jdk_38_method_6_code, exceptionTable := #[], attributes := #[] }
def k20m2 : Method := { name := "grow", desc := "(I)[Ljava/lang/Object;", sig := { parameters := [.int], returnType := some (.array (.object "java/lang/Object")) }, accessFlags := 2, code := some k20c2 }
def k20c3 : Code := { maxStack := 3, maxLocals := 1, code := jdk_38_method_7_code, exceptionTable := #[], attributes := #[] }
def k20m3 : Method := { name := "grow", desc := "()[Ljava/lang/Object;", sig := { parameters := [], returnType := some (.array (.object "java/lang/Object")) }, accessFlags := 2, code := some k20c3 }
def k20c4 : Code := { maxStack := 1, maxLocals := 1, code := jdk_38_method_8_code, exceptionTable := #[], attributes := #[] }
def k20m4 : Method := { name := "size", desc := "()I", sig := { parameters := [], returnType := some .int }, accessFlags := 1, code := some k20c4 }
def k20c5 : Code := { maxStack := 2, maxLocals := 1, code := jdk_38_method_16_code, exceptionTable := #[], attributes := #[] }
def k20m5 : Method := { name := "toArray", desc := "()[Ljava/lang/Object;", sig := { parameters := [], returnType := some (.array (.object "java/lang/Object")) }, accessFlags := 1, code := some k20c5 }
def k20c6 : Code := { maxStack := 3, maxLocals := 4, code := jdk_38_method_24_code, exceptionTable := #[], attributes := #[] }
def k20m6 : Method := { name := "add", desc := "(Ljava/lang/Object;[Ljava/lang/Object;I)V", sig := { parameters := [(.object "java/lang/Object"), (.array (.object "java/lang/Object")), .int], returnType := none }, accessFlags := 2, code := some k20c6 }
def k20c7 : Code := { maxStack := 4, maxLocals := 2, code := jdk_38_method_25_code, exceptionTable := #[], attributes := #[] }
def k20m7 : Method := { name := "add", desc := "(Ljava/lang/Object;)Z", sig := { parameters := [(.object "java/lang/Object")], returnType := some .boolean }, accessFlags := 1, code := some k20c7 }
def k20c8 : Code := { maxStack := 5, maxLocals := 6, code := jdk_38_method_41_code, exceptionTable := #[], attributes := #[] }
def k20m8 : Method := { name := "addAll", desc := "(Ljava/util/Collection;)Z", sig := { parameters := [(.object "java/util/Collection")], returnType := some .boolean }, accessFlags := 1, code := some k20c8 }
/-- java/util/ArrayList -/
def k20 : Class := { plain "java/util/ArrayList" (some 17) with
  accessFlags := 33
  interfaces := #[16, 18, 19, 2]
  cf := some (fileOf pool20 10 #[.nestMembers #[290, 276, 500, 502, 262, 267]] #[{ accessFlags := 1, nameIndex := 5, descriptorIndex := 138, attributes := #[] }, { accessFlags := 1, nameIndex := 5, descriptorIndex := 6, attributes := #[] }, { accessFlags := 2, nameIndex := 71, descriptorIndex := 72, attributes := #[] }, { accessFlags := 2, nameIndex := 71, descriptorIndex := 47, attributes := #[] }, { accessFlags := 1, nameIndex := 50, descriptorIndex := 186, attributes := #[] }, { accessFlags := 1, nameIndex := 46, descriptorIndex := 47, attributes := #[] }, { accessFlags := 2, nameIndex := 133, descriptorIndex := 134, attributes := #[] }, { accessFlags := 1, nameIndex := 133, descriptorIndex := 96, attributes := #[] }, { accessFlags := 1, nameIndex := 420, descriptorIndex := 421, attributes := #[] }] 33 2 #[148, 329, 331, 333] #[{ accessFlags := 26, nameIndex := 335, descriptorIndex := 336, attributes := #[] }, { accessFlags := 26, nameIndex := 340, descriptorIndex := 51, attributes := #[] }, { accessFlags := 26, nameIndex := 17, descriptorIndex := 14, attributes := #[] }, { accessFlags := 26, nameIndex := 41, descriptorIndex := 14, attributes := #[] }, { accessFlags := 128, nameIndex := 13, descriptorIndex := 14, attributes := #[] }, { accessFlags := 2, nameIndex := 50, descriptorIndex := 51, attributes := #[] }])
  fields := #[{ name := "serialVersionUID", type := .long, accessFlags := 26, slot := 0, constantValue := 0 }, { name := "DEFAULT_CAPACITY", type := .int, accessFlags := 26, slot := 1, constantValue := 0 }, { name := "EMPTY_ELEMENTDATA", type := (.array (.object "java/lang/Object")), accessFlags := 26, slot := 2, constantValue := 0 }, { name := "DEFAULTCAPACITY_EMPTY_ELEMENTDATA", type := (.array (.object "java/lang/Object")), accessFlags := 26, slot := 3, constantValue := 0 }, { name := "elementData", type := (.array (.object "java/lang/Object")), accessFlags := 128, slot := 1, constantValue := 0 }, { name := "size", type := .int, accessFlags := 2, slot := 2, constantValue := 0 }]
  methods := #[k20m0, k20m1, k20m2, k20m3, k20m4, k20m5, k20m6, k20m7, k20m8]
  instanceTypes := #[.int, (.array (.object "java/lang/Object")), .int]
  staticTypes := #[.long, .int, (.array (.object "java/lang/Object")), (.array (.object "java/lang/Object"))]
  resolved := Array.replicate 509 none
  statics := some 2 }

def pool21 : Array CpInfo := pool [(1, .class_ 2), (0, u "java/lang/Math"), (1, .class_ 6), (1, u "java/lang/Object"), (0, u "<init>"), (0, u "()V"), (89, .class_ 100), (1, u "java/lang/Math$RandomNumberGeneratorHolder"), (71, u "negativeZeroFloatBits"), (0, u "J"), (2, u "negativeZeroDoubleBits"), (21, u "max"), (2, u "min"), (43, u "$assertionsDisabled"), (0, u "Z"), (88, u "(II)I"), (2, u "twoToTheDoubleScaleDown"), (0, u "D"), (4, u "twoToTheDoubleScaleUp"), (9, u "E"), (3, u "PI"), (2, u "TAU"), (2, u "DEGREES_TO_RADIANS"), (0, u "RADIANS_TO_DEGREES")] 94

def k21m0 : Method := { name := "<init>", desc := "()V", sig := { parameters := [], returnType := none }, accessFlags := 2, code := none }
def k21c1 : Code := { maxStack := 2, maxLocals := 2, code := jdk_29_method_65_code, exceptionTable := #[], attributes := #[] }
def k21m1 : Method := { name := "max", desc := "(II)I", sig := { parameters := [.int, .int], returnType := some .int }, accessFlags := 9, code := some k21c1 }
def k21c2 : Code := { maxStack := 2, maxLocals := 2, code := jdk_29_method_69_code, exceptionTable := #[], attributes := #[] }
def k21m2 : Method := { name := "min", desc := "(II)I", sig := { parameters := [.int, .int], returnType := some .int }, accessFlags := 9, code := some k21c2 }
/-- java/lang/Math -/
def k21 : Class := { plain "java/lang/Math" (some 0) with
  accessFlags := 49
  interfaces := #[]
  cf := some (fileOf pool21 1 #[.nestMembers #[98]] #[{ accessFlags := 2, nameIndex := 7, descriptorIndex := 8, attributes := #[] }, { accessFlags := 9, nameIndex := 198, descriptorIndex := 335, attributes := #[] }, { accessFlags := 9, nameIndex := 201, descriptorIndex := 335, attributes := #[] }] 49 4 #[] #[{ accessFlags := 25, nameIndex := 354, descriptorIndex := 339, attributes := #[] }, { accessFlags := 25, nameIndex := 358, descriptorIndex := 339, attributes := #[] }, { accessFlags := 25, nameIndex := 361, descriptorIndex := 339, attributes := #[] }, { accessFlags := 26, nameIndex := 364, descriptorIndex := 339, attributes := #[] }, { accessFlags := 26, nameIndex := 365, descriptorIndex := 339, attributes := #[] }, { accessFlags := 26, nameIndex := 172, descriptorIndex := 173, attributes := #[] }, { accessFlags := 26, nameIndex := 176, descriptorIndex := 173, attributes := #[] }, { accessFlags := 8, nameIndex := 344, descriptorIndex := 339, attributes := #[] }, { accessFlags := 8, nameIndex := 338, descriptorIndex := 339, attributes := #[] }, { accessFlags := 4120, nameIndex := 245, descriptorIndex := 246, attributes := #[] }])
  fields := #[{ name := "E", type := .double, accessFlags := 25, slot := 0, constantValue := 0 }, { name := "PI", type := .double, accessFlags := 25, slot := 1, constantValue := 0 }, { name := "TAU", type := .double, accessFlags := 25, slot := 2, constantValue := 0 }, { name := "DEGREES_TO_RADIANS", type := .double, accessFlags := 26, slot := 3, constantValue := 0 }, { name := "RADIANS_TO_DEGREES", type := .double, accessFlags := 26, slot := 4, constantValue := 0 }, { name := "negativeZeroFloatBits", type := .long, accessFlags := 26, slot := 5, constantValue := 0 }, { name := "negativeZeroDoubleBits", type := .long, accessFlags := 26, slot := 6, constantValue := 0 }, { name := "twoToTheDoubleScaleUp", type := .double, accessFlags := 8, slot := 7, constantValue := 0 }, { name := "twoToTheDoubleScaleDown", type := .double, accessFlags := 8, slot := 8, constantValue := 0 }, { name := "$assertionsDisabled", type := .boolean, accessFlags := 4120, slot := 9, constantValue := 0 }]
  methods := #[k21m0, k21m1, k21m2]
  instanceTypes := #[]
  staticTypes := #[.double, .double, .double, .double, .double, .long, .long, .double, .double, .boolean]
  resolved := Array.replicate 460 none
  statics := none }

def pool22 : Array CpInfo := pool [(1, .methodref 2 3), (0, .class_ 4), (0, .nameAndType 5 6), (0, u "java/lang/Object"), (0, u "<init>"), (0, u "()V"), (0, .fieldref 8 9), (0, .class_ 10), (0, .nameAndType 11 12), (0, u "com/example/persist/persist/session/Operand"), (0, u "name"), (0, u "Ljava/lang/String;"), (0, .fieldref 8 14), (0, .nameAndType 15 12), (0, u "exact"), (6, .class_ 23), (0, u "java/lang/String"), (0, .methodref 8 25), (0, .nameAndType 26 27), (0, u "narrows"), (0, u "()Z"), (4, .class_ 33), (0, u "java/util/ArrayList"), (0, .interfaceMethodref 35 36), (0, .class_ 37), (0, .nameAndType 38 39), (0, u "java/util/List"), (0, u "size"), (0, u "()I"), (0, .methodref 32 41), (0, .nameAndType 5 42), (0, u "(I)V"), (0, .interfaceMethodref 35 44), (0, .nameAndType 45 46), (0, u "addAll"), (0, u "(Ljava/util/Collection;)Z"), (0, .interfaceMethodref 35 48), (0, .nameAndType 49 50), (0, u "add"), (0, u "(Ljava/lang/Object;)Z"), (0, .methodref 22 52), (0, .nameAndType 53 50), (0, u "equals"), (0, u "(Ljava/lang/String;Ljava/lang/String;)V"), (8, u "bound"), (0, u "(Ljava/util/List;)Ljava/util/List;"), (1, u "addBound"), (0, u "(Ljava/util/List;Ljava/lang/Object;)V"), (1, u "bindings")] 17

def k22c0 : Code := { maxStack := 2, maxLocals := 3, code := prog_28_method_1_code, exceptionTable := #[], attributes := #[] }
def k22m0 : Method := { name := "<init>", desc := "(Ljava/lang/String;Ljava/lang/String;)V", sig := { parameters := [(.object "java/lang/String"), (.object "java/lang/String")], returnType := none }, accessFlags := 0, code := some k22c0 }
def k22c1 : Code := { maxStack := 4, maxLocals := 3, code := prog_28_method_5_code, exceptionTable := #[], attributes := #[] }
def k22m1 : Method := { name := "bound", desc := "(Ljava/util/List;)Ljava/util/List;", sig := { parameters := [(.object "java/util/List")], returnType := some (.object "java/util/List") }, accessFlags := 0, code := some k22c1 }
def k22c2 : Code := { maxStack := 2, maxLocals := 3, code := prog_28_method_6_code, exceptionTable := #[], attributes := #[] }
def k22m2 : Method := { name := "addBound", desc := "(Ljava/util/List;Ljava/lang/Object;)V", sig := { parameters := [(.object "java/util/List"), (.object "java/lang/Object")], returnType := none }, accessFlags := 0, code := some k22c2 }
def k22c3 : Code := { maxStack := 1, maxLocals := 1, code := prog_28_method_7_code, exceptionTable := #[], attributes := #[] }
def k22m3 : Method := { name := "bindings", desc := "()I", sig := { parameters := [], returnType := some .int }, accessFlags := 0, code := some k22c3 }
def k22c4 : Code := { maxStack := 2, maxLocals := 1, code := prog_28_method_8_code, exceptionTable := #[], attributes := #[] }
def k22m4 : Method := { name := "narrows", desc := "()Z", sig := { parameters := [], returnType := some .boolean }, accessFlags := 2, code := some k22c4 }
/-- com/example/persist/persist/session/Operand -/
def k22 : Class := { plain "com/example/persist/persist/session/Operand" (some 0) with
  accessFlags := 32
  interfaces := #[]
  cf := some (fileOf pool22 8 #[] #[{ accessFlags := 0, nameIndex := 5, descriptorIndex := 54, attributes := #[] }, { accessFlags := 0, nameIndex := 63, descriptorIndex := 64, attributes := #[] }, { accessFlags := 0, nameIndex := 66, descriptorIndex := 67, attributes := #[] }, { accessFlags := 0, nameIndex := 69, descriptorIndex := 39, attributes := #[] }, { accessFlags := 2, nameIndex := 26, descriptorIndex := 27, attributes := #[] }] 32 2 #[] #[{ accessFlags := 18, nameIndex := 11, descriptorIndex := 12, attributes := #[] }, { accessFlags := 18, nameIndex := 15, descriptorIndex := 12, attributes := #[] }])
  fields := #[{ name := "name", type := (.object "java/lang/String"), accessFlags := 18, slot := 0, constantValue := 0 }, { name := "exact", type := (.object "java/lang/String"), accessFlags := 18, slot := 1, constantValue := 0 }]
  methods := #[k22m0, k22m1, k22m2, k22m3, k22m4]
  instanceTypes := #[(.object "java/lang/String"), (.object "java/lang/String")]
  staticTypes := #[]
  resolved := Array.replicate 87 none
  statics := none }

def pool23 : Array CpInfo := pool [(4, .class_ 6), (1, u "java/lang/Object"), (0, u "<init>"), (0, u "()V"), (5, .class_ 16), (1, u "java/lang/StringLatin1"), (104, u "$assertionsDisabled"), (0, u "Z"), (98, .class_ 223), (1, u "java/lang/StringLatin1$LinesSpliterator"), (57, u "equals"), (0, u "([B[B)Z"), (107, .class_ 391), (0, u "java/lang/StringLatin1$CharsSpliterator")] 3

def k23m0 : Method := { name := "<init>", desc := "()V", sig := { parameters := [], returnType := none }, accessFlags := 0, code := none }
def k23c1 : Code := { maxStack := 3, maxLocals := 3, code := jdk_43_method_13_code, exceptionTable := #[], attributes := #[] }
def k23m1 : Method := { name := "equals", desc := "([B[B)Z", sig := { parameters := [(.array .byte), (.array .byte)], returnType := some .boolean }, accessFlags := 9, code := some k23c1 }
/-- java/lang/StringLatin1 -/
def k23 : Class := { plain "java/lang/StringLatin1" (some 0) with
  accessFlags := 48
  interfaces := #[]
  cf := some (fileOf pool23 14 #[.nestMembers #[390, 221]] #[{ accessFlags := 0, nameIndex := 7, descriptorIndex := 8, attributes := #[] }, { accessFlags := 9, nameIndex := 281, descriptorIndex := 282, attributes := #[] }] 48 4 #[] #[{ accessFlags := 4120, nameIndex := 121, descriptorIndex := 122, attributes := #[] }])
  fields := #[{ name := "$assertionsDisabled", type := .boolean, accessFlags := 4120, slot := 0, constantValue := 0 }]
  methods := #[k23m0, k23m1]
  instanceTypes := #[]
  staticTypes := #[.boolean]
  resolved := Array.replicate 395 none
  statics := none }

def pool24 : Array CpInfo := pool [(2, .class_ 4), (1, u "java/lang/Object"), (0, u "<init>"), (0, u "()V"), (7, .class_ 16), (1, u "java/util/Arrays"), (57, .class_ 76), (1, u "java/util/Arrays$NaturalOrder"), (9, .methodref 2 87), (0, .nameAndType 88 89), (0, u "getClass"), (0, u "()Ljava/lang/Class;"), (20, .class_ 111), (0, u "[Ljava/lang/Object;"), (1, .class_ 115), (1, u "java/util/Arrays$LegacyMergeSort"), (1, u "Z"), (32, .methodref 151 152), (0, .class_ 153), (0, .nameAndType 154 155), (0, u "java/lang/System"), (0, u "arraycopy"), (0, u "(Ljava/lang/Object;ILjava/lang/Object;II)V"), (144, .methodref 14 301), (0, .nameAndType 302 303), (0, u "copyOf"), (0, u "([Ljava/lang/Object;ILjava/lang/Class;)[Ljava/lang/Object;"), (0, .methodref 305 306), (0, .class_ 307), (0, .nameAndType 308 309), (0, u "java/lang/Math"), (0, u "min"), (0, u "(II)I"), (65, .class_ 376), (0, u "java/util/Arrays$ArrayList"), (68, u "$assertionsDisabled"), (269, u "MIN_ARRAY_SORT_GRAN"), (0, u "I"), (2, u "INSERTIONSORT_THRESHOLD"), (140, u "([Ljava/lang/Object;I)[Ljava/lang/Object;"), (114, .class_ 976), (0, u "java/util/Arrays$ArrayItr")] 52

def k24m0 : Method := { name := "<init>", desc := "()V", sig := { parameters := [], returnType := none }, accessFlags := 2, code := none }
def k24c1 : Code := { maxStack := 3, maxLocals := 2, code := jdk_65_method_119_code, exceptionTable := #[], attributes := #[] }
def k24m1 : Method := { name := "copyOf", desc := "([Ljava/lang/Object;I)[Ljava/lang/Object;", sig := { parameters := [(.array (.object "java/lang/Object")), .int], returnType := some (.array (.object "java/lang/Object")) }, accessFlags := 9, code := some k24c1 }
def k24c2 : Code := { maxStack := 6, maxLocals := 4, code := jdk_65_method_120_code, exceptionTable := #[], attributes := #[] }
def k24m2 : Method := { name := "copyOf", desc := "([Ljava/lang/Object;ILjava/lang/Class;)[Ljava/lang/Object;", sig := { parameters := [(.array (.object "java/lang/Object")), .int, (.object "java/lang/Class")], returnType := some (.array (.object "java/lang/Object")) }, accessFlags := 9, code := some k24c2 }
/-- java/util/Arrays -/
def k24 : Class := { plain "java/util/Arrays" (some 0) with
  accessFlags := 49
  interfaces := #[]
  cf := some (fileOf pool24 14 #[.nestMembers #[975, 375, 113, 74]] #[{ accessFlags := 2, nameIndex := 5, descriptorIndex := 6, attributes := #[] }, { accessFlags := 9, nameIndex := 302, descriptorIndex := 860, attributes := #[] }, { accessFlags := 9, nameIndex := 302, descriptorIndex := 303, attributes := #[] }] 49 2 #[] #[{ accessFlags := 26, nameIndex := 715, descriptorIndex := 716, attributes := #[] }, { accessFlags := 26, nameIndex := 719, descriptorIndex := 716, attributes := #[] }, { accessFlags := 4120, nameIndex := 445, descriptorIndex := 117, attributes := #[] }])
  fields := #[{ name := "MIN_ARRAY_SORT_GRAN", type := .int, accessFlags := 26, slot := 0, constantValue := 0 }, { name := "INSERTIONSORT_THRESHOLD", type := .int, accessFlags := 26, slot := 1, constantValue := 0 }, { name := "$assertionsDisabled", type := .boolean, accessFlags := 4120, slot := 2, constantValue := 0 }]
  methods := #[k24m0, k24m1, k24m2]
  instanceTypes := #[]
  staticTypes := #[.int, .int, .boolean]
  resolved := Array.replicate 1029 none
  statics := none }

def pool25 : Array CpInfo := pool [(2, .class_ 4), (1, u "java/lang/Object"), (0, u "<init>"), (0, u "()V"), (1, .class_ 10), (1, u "java/lang/System"), (0, u "allowSecurityManager"), (0, u "I"), (16, u "cons"), (0, u "Ljava/io/Console;"), (77, .class_ 110), (1, u "java/lang/System$CallersHolder"), (43, u "initialErrStream"), (0, u "Ljava/io/PrintStream;"), (19, u "security"), (0, u "Ljava/lang/SecurityManager;"), (31, .class_ 209), (0, u "java/lang/System$1"), (7, u "props"), (0, u "Ljava/util/Properties;"), (2, u "lineSeparator"), (0, u "Ljava/lang/String;"), (96, .class_ 321), (1, u "java/lang/System$LoggerFinder"), (5, .class_ 328), (0, u "java/lang/System$Logger"), (67, u "err"), (2, u "out"), (91, u "notSupportedJnuEncoding"), (15, u "in"), (17, u "initialIn"), (0, u "Ljava/io/InputStream;"), (35, u "bootLayer"), (0, u "Ljava/lang/ModuleLayer;"), (99, .class_ 664), (0, u "java/lang/System$2"), (9, u "NEVER"), (2, u "MAYBE"), (49, u "arraycopy"), (0, u "(Ljava/lang/Object;ILjava/lang/Object;II)V"), (72, .class_ 802), (0, u "java/lang/System$Logger$Level")] 31

def k25m0 : Method := { name := "<init>", desc := "()V", sig := { parameters := [], returnType := none }, accessFlags := 2, code := none }
def k25m1 : Method := { name := "arraycopy", desc := "(Ljava/lang/Object;ILjava/lang/Object;II)V", sig := { parameters := [(.object "java/lang/Object"), .int, (.object "java/lang/Object"), .int, .int], returnType := none }, accessFlags := 265, code := none }
/-- java/lang/System -/
def k25 : Class := { plain "java/lang/System" (some 0) with
  accessFlags := 49
  interfaces := #[]
  cf := some (fileOf pool25 8 #[.nestMembers #[319, 327, 801, 108, 663, 208]] #[{ accessFlags := 2, nameIndex := 5, descriptorIndex := 6, attributes := #[] }, { accessFlags := 265, nameIndex := 727, descriptorIndex := 728, attributes := #[] }] 49 2 #[] #[{ accessFlags := 25, nameIndex := 507, descriptorIndex := 526, attributes := #[] }, { accessFlags := 25, nameIndex := 399, descriptorIndex := 155, attributes := #[] }, { accessFlags := 25, nameIndex := 396, descriptorIndex := 155, attributes := #[] }, { accessFlags := 10, nameIndex := 525, descriptorIndex := 526, attributes := #[] }, { accessFlags := 26, nameIndex := 674, descriptorIndex := 12, attributes := #[] }, { accessFlags := 26, nameIndex := 677, descriptorIndex := 12, attributes := #[] }, { accessFlags := 10, nameIndex := 11, descriptorIndex := 12, attributes := #[] }, { accessFlags := 74, nameIndex := 175, descriptorIndex := 176, attributes := #[] }, { accessFlags := 10, nameIndex := 491, descriptorIndex := 222, attributes := #[] }, { accessFlags := 74, nameIndex := 29, descriptorIndex := 30, attributes := #[] }, { accessFlags := 74, nameIndex := 154, descriptorIndex := 155, attributes := #[] }, { accessFlags := 10, nameIndex := 217, descriptorIndex := 218, attributes := #[] }, { accessFlags := 10, nameIndex := 221, descriptorIndex := 222, attributes := #[] }, { accessFlags := 8, nameIndex := 562, descriptorIndex := 563, attributes := #[] }])
  fields := #[{ name := "in", type := (.object "java/io/InputStream"), accessFlags := 25, slot := 0, constantValue := 0 }, { name := "out", type := (.object "java/io/PrintStream"), accessFlags := 25, slot := 1, constantValue := 0 }, { name := "err", type := (.object "java/io/PrintStream"), accessFlags := 25, slot := 2, constantValue := 0 }, { name := "initialIn", type := (.object "java/io/InputStream"), accessFlags := 10, slot := 3, constantValue := 0 }, { name := "NEVER", type := .int, accessFlags := 26, slot := 4, constantValue := 0 }, { name := "MAYBE", type := .int, accessFlags := 26, slot := 5, constantValue := 0 }, { name := "allowSecurityManager", type := .int, accessFlags := 10, slot := 6, constantValue := 0 }, { name := "security", type := (.object "java/lang/SecurityManager"), accessFlags := 74, slot := 7, constantValue := 0 }, { name := "notSupportedJnuEncoding", type := (.object "java/lang/String"), accessFlags := 10, slot := 8, constantValue := 0 }, { name := "cons", type := (.object "java/io/Console"), accessFlags := 74, slot := 9, constantValue := 0 }, { name := "initialErrStream", type := (.object "java/io/PrintStream"), accessFlags := 74, slot := 10, constantValue := 0 }, { name := "props", type := (.object "java/util/Properties"), accessFlags := 10, slot := 11, constantValue := 0 }, { name := "lineSeparator", type := (.object "java/lang/String"), accessFlags := 10, slot := 12, constantValue := 0 }, { name := "bootLayer", type := (.object "java/lang/ModuleLayer"), accessFlags := 8, slot := 13, constantValue := 0 }]
  methods := #[k25m0, k25m1]
  instanceTypes := #[]
  staticTypes := #[(.object "java/io/InputStream"), (.object "java/io/PrintStream"), (.object "java/io/PrintStream"), (.object "java/io/InputStream"), .int, .int, .int, (.object "java/lang/SecurityManager"), (.object "java/lang/String"), (.object "java/io/Console"), (.object "java/io/PrintStream"), (.object "java/util/Properties"), (.object "java/lang/String"), (.object "java/lang/ModuleLayer")]
  resolved := Array.replicate 834 none
  statics := none }

def pool26 : Array CpInfo := pool [(2, .class_ 4), (1, u "java/lang/Object"), (0, u "<init>"), (0, u "()V"), (17, .class_ 26), (1, u "jdk/internal/util/Preconditions"), (28, .class_ 56), (0, u "jdk/internal/util/Preconditions$4"), (57, .class_ 115), (0, u "jdk/internal/util/Preconditions$1"), (7, u "SIOOBE_FORMATTER"), (0, u "Ljava/util/function/BiFunction;"), (0, .class_ 126), (0, u "jdk/internal/util/Preconditions$2"), (3, u "AIOOBE_FORMATTER"), (0, .class_ 132), (0, u "jdk/internal/util/Preconditions$3"), (3, u "IOOBE_FORMATTER")] 57

def k26m0 : Method := { name := "<init>", desc := "()V", sig := { parameters := [], returnType := none }, accessFlags := 1, code := none }
/-- jdk/internal/util/Preconditions -/
def k26 : Class := { plain "jdk/internal/util/Preconditions" (some 0) with
  accessFlags := 33
  interfaces := #[]
  cf := some (fileOf pool26 24 #[.nestMembers #[55, 131, 125, 114]] #[{ accessFlags := 1, nameIndex := 5, descriptorIndex := 6, attributes := #[] }] 33 2 #[] #[{ accessFlags := 25, nameIndex := 123, descriptorIndex := 124, attributes := #[] }, { accessFlags := 25, nameIndex := 130, descriptorIndex := 124, attributes := #[] }, { accessFlags := 25, nameIndex := 136, descriptorIndex := 124, attributes := #[] }])
  fields := #[{ name := "SIOOBE_FORMATTER", type := (.object "java/util/function/BiFunction"), accessFlags := 25, slot := 0, constantValue := 0 }, { name := "AIOOBE_FORMATTER", type := (.object "java/util/function/BiFunction"), accessFlags := 25, slot := 1, constantValue := 0 }, { name := "IOOBE_FORMATTER", type := (.object "java/util/function/BiFunction"), accessFlags := 25, slot := 2, constantValue := 0 }]
  methods := #[k26m0]
  instanceTypes := #[]
  staticTypes := #[(.object "java/util/function/BiFunction"), (.object "java/util/function/BiFunction"), (.object "java/util/function/BiFunction")]
  resolved := Array.replicate 194 none
  statics := some 3 }

def pool27 : Array CpInfo := pool [(9, u "<init>"), (6, .class_ 18), (1, u "java/lang/Object"), (0, u "()V"), (1, .class_ 23), (1, u "jdk/internal/util/ArraysSupport"), (0, u "LOG2_ARRAY_LONG_INDEX_SCALE"), (0, u "I"), (2, u "U"), (0, u "Ljdk/internal/misc/Unsafe;"), (8, u "BIG_ENDIAN"), (0, u "Z"), (8, u "LOG2_BYTE_BIT_SIZE"), (4, u "LOG2_ARRAY_INT_INDEX_SCALE"), (54, u "JLA"), (0, u "Ljdk/internal/access/JavaLangAccess;"), (11, u "LOG2_ARRAY_BOOLEAN_INDEX_SCALE"), (9, u "LOG2_ARRAY_BYTE_INDEX_SCALE"), (5, u "LOG2_ARRAY_CHAR_INDEX_SCALE"), (5, u "LOG2_ARRAY_SHORT_INDEX_SCALE"), (18, u "LOG2_ARRAY_FLOAT_INDEX_SCALE"), (24, u "LOG2_ARRAY_DOUBLE_INDEX_SCALE"), (89, u "T_BOOLEAN"), (2, u "T_CHAR"), (1, u "T_FLOAT"), (1, u "T_DOUBLE"), (1, u "T_BYTE"), (1, u "T_SHORT"), (1, u "T_INT"), (1, u "T_LONG"), (1, u "SOFT_MAX_ARRAY_LENGTH")] 83

def k27m0 : Method := { name := "<init>", desc := "()V", sig := { parameters := [], returnType := none }, accessFlags := 2, code := none }
/-- jdk/internal/util/ArraysSupport -/
def k27 : Class := { plain "jdk/internal/util/ArraysSupport" (some 0) with
  accessFlags := 33
  interfaces := #[]
  cf := some (fileOf pool27 21 #[] #[{ accessFlags := 2, nameIndex := 9, descriptorIndex := 19, attributes := #[] }] 33 16 #[] #[{ accessFlags := 24, nameIndex := 28, descriptorIndex := 29, attributes := #[] }, { accessFlags := 26, nameIndex := 38, descriptorIndex := 39, attributes := #[] }, { accessFlags := 25, nameIndex := 121, descriptorIndex := 25, attributes := #[] }, { accessFlags := 25, nameIndex := 131, descriptorIndex := 25, attributes := #[] }, { accessFlags := 25, nameIndex := 137, descriptorIndex := 25, attributes := #[] }, { accessFlags := 25, nameIndex := 143, descriptorIndex := 25, attributes := #[] }, { accessFlags := 25, nameIndex := 53, descriptorIndex := 25, attributes := #[] }, { accessFlags := 25, nameIndex := 24, descriptorIndex := 25, attributes := #[] }, { accessFlags := 25, nameIndex := 162, descriptorIndex := 25, attributes := #[] }, { accessFlags := 25, nameIndex := 187, descriptorIndex := 25, attributes := #[] }, { accessFlags := 26, nameIndex := 48, descriptorIndex := 25, attributes := #[] }, { accessFlags := 25, nameIndex := 277, descriptorIndex := 25, attributes := #[] }, { accessFlags := 25, nameIndex := 280, descriptorIndex := 25, attributes := #[] }, { accessFlags := 25, nameIndex := 282, descriptorIndex := 25, attributes := #[] }, { accessFlags := 25, nameIndex := 284, descriptorIndex := 25, attributes := #[] }, { accessFlags := 25, nameIndex := 286, descriptorIndex := 25, attributes := #[] }, { accessFlags := 25, nameIndex := 288, descriptorIndex := 25, attributes := #[] }, { accessFlags := 25, nameIndex := 290, descriptorIndex := 25, attributes := #[] }, { accessFlags := 25, nameIndex := 292, descriptorIndex := 25, attributes := #[] }, { accessFlags := 26, nameIndex := 108, descriptorIndex := 109, attributes := #[] }, { accessFlags := 25, nameIndex := 294, descriptorIndex := 25, attributes := #[] }])
  fields := #[{ name := "U", type := (.object "jdk/internal/misc/Unsafe"), accessFlags := 24, slot := 0, constantValue := 0 }, { name := "BIG_ENDIAN", type := .boolean, accessFlags := 26, slot := 1, constantValue := 0 }, { name := "LOG2_ARRAY_BOOLEAN_INDEX_SCALE", type := .int, accessFlags := 25, slot := 2, constantValue := 0 }, { name := "LOG2_ARRAY_BYTE_INDEX_SCALE", type := .int, accessFlags := 25, slot := 3, constantValue := 0 }, { name := "LOG2_ARRAY_CHAR_INDEX_SCALE", type := .int, accessFlags := 25, slot := 4, constantValue := 0 }, { name := "LOG2_ARRAY_SHORT_INDEX_SCALE", type := .int, accessFlags := 25, slot := 5, constantValue := 0 }, { name := "LOG2_ARRAY_INT_INDEX_SCALE", type := .int, accessFlags := 25, slot := 6, constantValue := 0 }, { name := "LOG2_ARRAY_LONG_INDEX_SCALE", type := .int, accessFlags := 25, slot := 7, constantValue := 0 }, { name := "LOG2_ARRAY_FLOAT_INDEX_SCALE", type := .int, accessFlags := 25, slot := 8, constantValue := 0 }, { name := "LOG2_ARRAY_DOUBLE_INDEX_SCALE", type := .int, accessFlags := 25, slot := 9, constantValue := 0 }, { name := "LOG2_BYTE_BIT_SIZE", type := .int, accessFlags := 26, slot := 10, constantValue := 0 }, { name := "T_BOOLEAN", type := .int, accessFlags := 25, slot := 11, constantValue := 0 }, { name := "T_CHAR", type := .int, accessFlags := 25, slot := 12, constantValue := 0 }, { name := "T_FLOAT", type := .int, accessFlags := 25, slot := 13, constantValue := 0 }, { name := "T_DOUBLE", type := .int, accessFlags := 25, slot := 14, constantValue := 0 }, { name := "T_BYTE", type := .int, accessFlags := 25, slot := 15, constantValue := 0 }, { name := "T_SHORT", type := .int, accessFlags := 25, slot := 16, constantValue := 0 }, { name := "T_INT", type := .int, accessFlags := 25, slot := 17, constantValue := 0 }, { name := "T_LONG", type := .int, accessFlags := 25, slot := 18, constantValue := 0 }, { name := "JLA", type := (.object "jdk/internal/access/JavaLangAccess"), accessFlags := 26, slot := 19, constantValue := 0 }, { name := "SOFT_MAX_ARRAY_LENGTH", type := .int, accessFlags := 25, slot := 20, constantValue := 0 }]
  methods := #[k27m0]
  instanceTypes := #[]
  staticTypes := #[(.object "jdk/internal/misc/Unsafe"), .boolean, .int, .int, .int, .int, .int, .int, .int, .int, .int, .int, .int, .int, .int, .int, .int, .int, .int, (.object "jdk/internal/access/JavaLangAccess"), .int]
  resolved := Array.replicate 378 none
  statics := none }

def pool28 : Array CpInfo := pool [(1, u "java/lang/Class"), (0, .class_ 1), (0, u "java/lang/Object"), (0, .class_ 3)] 0

/-- java/lang/Class -/
def k28 : Class := { plain "java/lang/Class" (some 0) with
  accessFlags := 49
  interfaces := #[]
  cf := some (fileOf pool28 2 #[] #[] 49 4 #[] #[])
  fields := #[]
  methods := #[]
  instanceTypes := #[]
  staticTypes := #[]
  resolved := Array.replicate 5 none
  statics := none }

/-- the primitive byte -/
def k29 : Class := { plain "byte" none with kind := .primitive 'B', accessFlags := 0x411 }
/-- [B -/
def k30 : Class := { plain "[B" (some 0) with kind := .array 29 .byte, interfaces := #[19, 2], accessFlags := 1041 }

/-- the primitive char -/
def k31 : Class := { plain "char" none with kind := .primitive 'C', accessFlags := 0x411 }
/-- [C -/
def k32 : Class := { plain "[C" (some 0) with kind := .array 31 .char, interfaces := #[19, 2], accessFlags := 1041 }

/-- the primitive int -/
def k33 : Class := { plain "int" none with kind := .primitive 'I', accessFlags := 0x411 }
/-- [I -/
def k34 : Class := { plain "[I" (some 0) with kind := .array 33 .int, interfaces := #[19, 2], accessFlags := 1041 }

/-- [Ljava/lang/Integer; -/
def k35 : Class := { plain "[Ljava/lang/Integer;" (some 0) with kind := .array 10 (.object "java/lang/Integer"), interfaces := #[19, 2], accessFlags := 1041 }

/-- [Ljava/lang/Object; -/
def k36 : Class := { plain "[Ljava/lang/Object;" (some 0) with kind := .array 0 (.object "java/lang/Object"), interfaces := #[19, 2], accessFlags := 1041, mirror := some 4 }

def heap : Heap := #[{ cls := 7, slots := #[.long 0, .int 1, .null, .int 0, .null, .int 0, .int 0], vm := .statics 7 },
  { cls := 11, slots := #[.int 0, .int 127, .ref 5, .null, .int 0], vm := .statics 11 },
  { cls := 20, slots := #[.long 0, .int 0, .ref 262, .ref 263], vm := .statics 20 },
  { cls := 26, slots := #[.null, .null, .null], vm := .statics 26 },
  { cls := 28, slots := #[], vm := .mirror 36 },
  { cls := 35, slots := #[.ref 6, .ref 7, .ref 8, .ref 9, .ref 10, .ref 11, .ref 12, .ref 13, .ref 14, .ref 15, .ref 16, .ref 17, .ref 18, .ref 19, .ref 20, .ref 21, .ref 22, .ref 23, .ref 24, .ref 25, .ref 26, .ref 27, .ref 28, .ref 29, .ref 30, .ref 31, .ref 32, .ref 33, .ref 34, .ref 35, .ref 36, .ref 37, .ref 38, .ref 39, .ref 40, .ref 41, .ref 42, .ref 43, .ref 44, .ref 45, .ref 46, .ref 47, .ref 48, .ref 49, .ref 50, .ref 51, .ref 52, .ref 53, .ref 54, .ref 55, .ref 56, .ref 57, .ref 58, .ref 59, .ref 60, .ref 61, .ref 62, .ref 63, .ref 64, .ref 65, .ref 66, .ref 67, .ref 68, .ref 69, .ref 70, .ref 71, .ref 72, .ref 73, .ref 74, .ref 75, .ref 76, .ref 77, .ref 78, .ref 79, .ref 80, .ref 81, .ref 82, .ref 83, .ref 84, .ref 85, .ref 86, .ref 87, .ref 88, .ref 89, .ref 90, .ref 91, .ref 92, .ref 93, .ref 94, .ref 95, .ref 96, .ref 97, .ref 98, .ref 99, .ref 100, .ref 101, .ref 102, .ref 103, .ref 104, .ref 105, .ref 106, .ref 107, .ref 108, .ref 109, .ref 110, .ref 111, .ref 112, .ref 113, .ref 114, .ref 115, .ref 116, .ref 117, .ref 118, .ref 119, .ref 120, .ref 121, .ref 122, .ref 123, .ref 124, .ref 125, .ref 126, .ref 127, .ref 128, .ref 129, .ref 130, .ref 131, .ref 132, .ref 133, .ref 134, .ref 135, .ref 136, .ref 137, .ref 138, .ref 139, .ref 140, .ref 141, .ref 142, .ref 143, .ref 144, .ref 145, .ref 146, .ref 147, .ref 148, .ref 149, .ref 150, .ref 151, .ref 152, .ref 153, .ref 154, .ref 155, .ref 156, .ref 157, .ref 158, .ref 159, .ref 160, .ref 161, .ref 162, .ref 163, .ref 164, .ref 165, .ref 166, .ref 167, .ref 168, .ref 169, .ref 170, .ref 171, .ref 172, .ref 173, .ref 174, .ref 175, .ref 176, .ref 177, .ref 178, .ref 179, .ref 180, .ref 181, .ref 182, .ref 183, .ref 184, .ref 185, .ref 186, .ref 187, .ref 188, .ref 189, .ref 190, .ref 191, .ref 192, .ref 193, .ref 194, .ref 195, .ref 196, .ref 197, .ref 198, .ref 199, .ref 200, .ref 201, .ref 202, .ref 203, .ref 204, .ref 205, .ref 206, .ref 207, .ref 208, .ref 209, .ref 210, .ref 211, .ref 212, .ref 213, .ref 214, .ref 215, .ref 216, .ref 217, .ref 218, .ref 219, .ref 220, .ref 221, .ref 222, .ref 223, .ref 224, .ref 225, .ref 226, .ref 227, .ref 228, .ref 229, .ref 230, .ref 231, .ref 232, .ref 233, .ref 234, .ref 235, .ref 236, .ref 237, .ref 238, .ref 239, .ref 240, .ref 241, .ref 242, .ref 243, .ref 244, .ref 245, .ref 246, .ref 247, .ref 248, .ref 249, .ref 250, .ref 251, .ref 252, .ref 253, .ref 254, .ref 255, .ref 256, .ref 257, .ref 258, .ref 259, .ref 260, .ref 261], vm := .none },
  { cls := 10, slots := #[.int (-128)], vm := .none },
  { cls := 10, slots := #[.int (-127)], vm := .none },
  { cls := 10, slots := #[.int (-126)], vm := .none },
  { cls := 10, slots := #[.int (-125)], vm := .none },
  { cls := 10, slots := #[.int (-124)], vm := .none },
  { cls := 10, slots := #[.int (-123)], vm := .none },
  { cls := 10, slots := #[.int (-122)], vm := .none },
  { cls := 10, slots := #[.int (-121)], vm := .none },
  { cls := 10, slots := #[.int (-120)], vm := .none },
  { cls := 10, slots := #[.int (-119)], vm := .none },
  { cls := 10, slots := #[.int (-118)], vm := .none },
  { cls := 10, slots := #[.int (-117)], vm := .none },
  { cls := 10, slots := #[.int (-116)], vm := .none },
  { cls := 10, slots := #[.int (-115)], vm := .none },
  { cls := 10, slots := #[.int (-114)], vm := .none },
  { cls := 10, slots := #[.int (-113)], vm := .none },
  { cls := 10, slots := #[.int (-112)], vm := .none },
  { cls := 10, slots := #[.int (-111)], vm := .none },
  { cls := 10, slots := #[.int (-110)], vm := .none },
  { cls := 10, slots := #[.int (-109)], vm := .none },
  { cls := 10, slots := #[.int (-108)], vm := .none },
  { cls := 10, slots := #[.int (-107)], vm := .none },
  { cls := 10, slots := #[.int (-106)], vm := .none },
  { cls := 10, slots := #[.int (-105)], vm := .none },
  { cls := 10, slots := #[.int (-104)], vm := .none },
  { cls := 10, slots := #[.int (-103)], vm := .none },
  { cls := 10, slots := #[.int (-102)], vm := .none },
  { cls := 10, slots := #[.int (-101)], vm := .none },
  { cls := 10, slots := #[.int (-100)], vm := .none },
  { cls := 10, slots := #[.int (-99)], vm := .none },
  { cls := 10, slots := #[.int (-98)], vm := .none },
  { cls := 10, slots := #[.int (-97)], vm := .none },
  { cls := 10, slots := #[.int (-96)], vm := .none },
  { cls := 10, slots := #[.int (-95)], vm := .none },
  { cls := 10, slots := #[.int (-94)], vm := .none },
  { cls := 10, slots := #[.int (-93)], vm := .none },
  { cls := 10, slots := #[.int (-92)], vm := .none },
  { cls := 10, slots := #[.int (-91)], vm := .none },
  { cls := 10, slots := #[.int (-90)], vm := .none },
  { cls := 10, slots := #[.int (-89)], vm := .none },
  { cls := 10, slots := #[.int (-88)], vm := .none },
  { cls := 10, slots := #[.int (-87)], vm := .none },
  { cls := 10, slots := #[.int (-86)], vm := .none },
  { cls := 10, slots := #[.int (-85)], vm := .none },
  { cls := 10, slots := #[.int (-84)], vm := .none },
  { cls := 10, slots := #[.int (-83)], vm := .none },
  { cls := 10, slots := #[.int (-82)], vm := .none },
  { cls := 10, slots := #[.int (-81)], vm := .none },
  { cls := 10, slots := #[.int (-80)], vm := .none },
  { cls := 10, slots := #[.int (-79)], vm := .none },
  { cls := 10, slots := #[.int (-78)], vm := .none },
  { cls := 10, slots := #[.int (-77)], vm := .none },
  { cls := 10, slots := #[.int (-76)], vm := .none },
  { cls := 10, slots := #[.int (-75)], vm := .none },
  { cls := 10, slots := #[.int (-74)], vm := .none },
  { cls := 10, slots := #[.int (-73)], vm := .none },
  { cls := 10, slots := #[.int (-72)], vm := .none },
  { cls := 10, slots := #[.int (-71)], vm := .none },
  { cls := 10, slots := #[.int (-70)], vm := .none },
  { cls := 10, slots := #[.int (-69)], vm := .none },
  { cls := 10, slots := #[.int (-68)], vm := .none },
  { cls := 10, slots := #[.int (-67)], vm := .none },
  { cls := 10, slots := #[.int (-66)], vm := .none },
  { cls := 10, slots := #[.int (-65)], vm := .none },
  { cls := 10, slots := #[.int (-64)], vm := .none },
  { cls := 10, slots := #[.int (-63)], vm := .none },
  { cls := 10, slots := #[.int (-62)], vm := .none },
  { cls := 10, slots := #[.int (-61)], vm := .none },
  { cls := 10, slots := #[.int (-60)], vm := .none },
  { cls := 10, slots := #[.int (-59)], vm := .none },
  { cls := 10, slots := #[.int (-58)], vm := .none },
  { cls := 10, slots := #[.int (-57)], vm := .none },
  { cls := 10, slots := #[.int (-56)], vm := .none },
  { cls := 10, slots := #[.int (-55)], vm := .none },
  { cls := 10, slots := #[.int (-54)], vm := .none },
  { cls := 10, slots := #[.int (-53)], vm := .none },
  { cls := 10, slots := #[.int (-52)], vm := .none },
  { cls := 10, slots := #[.int (-51)], vm := .none },
  { cls := 10, slots := #[.int (-50)], vm := .none },
  { cls := 10, slots := #[.int (-49)], vm := .none },
  { cls := 10, slots := #[.int (-48)], vm := .none },
  { cls := 10, slots := #[.int (-47)], vm := .none },
  { cls := 10, slots := #[.int (-46)], vm := .none },
  { cls := 10, slots := #[.int (-45)], vm := .none },
  { cls := 10, slots := #[.int (-44)], vm := .none },
  { cls := 10, slots := #[.int (-43)], vm := .none },
  { cls := 10, slots := #[.int (-42)], vm := .none },
  { cls := 10, slots := #[.int (-41)], vm := .none },
  { cls := 10, slots := #[.int (-40)], vm := .none },
  { cls := 10, slots := #[.int (-39)], vm := .none },
  { cls := 10, slots := #[.int (-38)], vm := .none },
  { cls := 10, slots := #[.int (-37)], vm := .none },
  { cls := 10, slots := #[.int (-36)], vm := .none },
  { cls := 10, slots := #[.int (-35)], vm := .none },
  { cls := 10, slots := #[.int (-34)], vm := .none },
  { cls := 10, slots := #[.int (-33)], vm := .none },
  { cls := 10, slots := #[.int (-32)], vm := .none },
  { cls := 10, slots := #[.int (-31)], vm := .none },
  { cls := 10, slots := #[.int (-30)], vm := .none },
  { cls := 10, slots := #[.int (-29)], vm := .none },
  { cls := 10, slots := #[.int (-28)], vm := .none },
  { cls := 10, slots := #[.int (-27)], vm := .none },
  { cls := 10, slots := #[.int (-26)], vm := .none },
  { cls := 10, slots := #[.int (-25)], vm := .none },
  { cls := 10, slots := #[.int (-24)], vm := .none },
  { cls := 10, slots := #[.int (-23)], vm := .none },
  { cls := 10, slots := #[.int (-22)], vm := .none },
  { cls := 10, slots := #[.int (-21)], vm := .none },
  { cls := 10, slots := #[.int (-20)], vm := .none },
  { cls := 10, slots := #[.int (-19)], vm := .none },
  { cls := 10, slots := #[.int (-18)], vm := .none },
  { cls := 10, slots := #[.int (-17)], vm := .none },
  { cls := 10, slots := #[.int (-16)], vm := .none },
  { cls := 10, slots := #[.int (-15)], vm := .none },
  { cls := 10, slots := #[.int (-14)], vm := .none },
  { cls := 10, slots := #[.int (-13)], vm := .none },
  { cls := 10, slots := #[.int (-12)], vm := .none },
  { cls := 10, slots := #[.int (-11)], vm := .none },
  { cls := 10, slots := #[.int (-10)], vm := .none },
  { cls := 10, slots := #[.int (-9)], vm := .none },
  { cls := 10, slots := #[.int (-8)], vm := .none },
  { cls := 10, slots := #[.int (-7)], vm := .none },
  { cls := 10, slots := #[.int (-6)], vm := .none },
  { cls := 10, slots := #[.int (-5)], vm := .none },
  { cls := 10, slots := #[.int (-4)], vm := .none },
  { cls := 10, slots := #[.int (-3)], vm := .none },
  { cls := 10, slots := #[.int (-2)], vm := .none },
  { cls := 10, slots := #[.int (-1)], vm := .none },
  { cls := 10, slots := #[.int 0], vm := .none },
  { cls := 10, slots := #[.int 1], vm := .none },
  { cls := 10, slots := #[.int 2], vm := .none },
  { cls := 10, slots := #[.int 3], vm := .none },
  { cls := 10, slots := #[.int 4], vm := .none },
  { cls := 10, slots := #[.int 5], vm := .none },
  { cls := 10, slots := #[.int 6], vm := .none },
  { cls := 10, slots := #[.int 7], vm := .none },
  { cls := 10, slots := #[.int 8], vm := .none },
  { cls := 10, slots := #[.int 9], vm := .none },
  { cls := 10, slots := #[.int 10], vm := .none },
  { cls := 10, slots := #[.int 11], vm := .none },
  { cls := 10, slots := #[.int 12], vm := .none },
  { cls := 10, slots := #[.int 13], vm := .none },
  { cls := 10, slots := #[.int 14], vm := .none },
  { cls := 10, slots := #[.int 15], vm := .none },
  { cls := 10, slots := #[.int 16], vm := .none },
  { cls := 10, slots := #[.int 17], vm := .none },
  { cls := 10, slots := #[.int 18], vm := .none },
  { cls := 10, slots := #[.int 19], vm := .none },
  { cls := 10, slots := #[.int 20], vm := .none },
  { cls := 10, slots := #[.int 21], vm := .none },
  { cls := 10, slots := #[.int 22], vm := .none },
  { cls := 10, slots := #[.int 23], vm := .none },
  { cls := 10, slots := #[.int 24], vm := .none },
  { cls := 10, slots := #[.int 25], vm := .none },
  { cls := 10, slots := #[.int 26], vm := .none },
  { cls := 10, slots := #[.int 27], vm := .none },
  { cls := 10, slots := #[.int 28], vm := .none },
  { cls := 10, slots := #[.int 29], vm := .none },
  { cls := 10, slots := #[.int 30], vm := .none },
  { cls := 10, slots := #[.int 31], vm := .none },
  { cls := 10, slots := #[.int 32], vm := .none },
  { cls := 10, slots := #[.int 33], vm := .none },
  { cls := 10, slots := #[.int 34], vm := .none },
  { cls := 10, slots := #[.int 35], vm := .none },
  { cls := 10, slots := #[.int 36], vm := .none },
  { cls := 10, slots := #[.int 37], vm := .none },
  { cls := 10, slots := #[.int 38], vm := .none },
  { cls := 10, slots := #[.int 39], vm := .none },
  { cls := 10, slots := #[.int 40], vm := .none },
  { cls := 10, slots := #[.int 41], vm := .none },
  { cls := 10, slots := #[.int 42], vm := .none },
  { cls := 10, slots := #[.int 43], vm := .none },
  { cls := 10, slots := #[.int 44], vm := .none },
  { cls := 10, slots := #[.int 45], vm := .none },
  { cls := 10, slots := #[.int 46], vm := .none },
  { cls := 10, slots := #[.int 47], vm := .none },
  { cls := 10, slots := #[.int 48], vm := .none },
  { cls := 10, slots := #[.int 49], vm := .none },
  { cls := 10, slots := #[.int 50], vm := .none },
  { cls := 10, slots := #[.int 51], vm := .none },
  { cls := 10, slots := #[.int 52], vm := .none },
  { cls := 10, slots := #[.int 53], vm := .none },
  { cls := 10, slots := #[.int 54], vm := .none },
  { cls := 10, slots := #[.int 55], vm := .none },
  { cls := 10, slots := #[.int 56], vm := .none },
  { cls := 10, slots := #[.int 57], vm := .none },
  { cls := 10, slots := #[.int 58], vm := .none },
  { cls := 10, slots := #[.int 59], vm := .none },
  { cls := 10, slots := #[.int 60], vm := .none },
  { cls := 10, slots := #[.int 61], vm := .none },
  { cls := 10, slots := #[.int 62], vm := .none },
  { cls := 10, slots := #[.int 63], vm := .none },
  { cls := 10, slots := #[.int 64], vm := .none },
  { cls := 10, slots := #[.int 65], vm := .none },
  { cls := 10, slots := #[.int 66], vm := .none },
  { cls := 10, slots := #[.int 67], vm := .none },
  { cls := 10, slots := #[.int 68], vm := .none },
  { cls := 10, slots := #[.int 69], vm := .none },
  { cls := 10, slots := #[.int 70], vm := .none },
  { cls := 10, slots := #[.int 71], vm := .none },
  { cls := 10, slots := #[.int 72], vm := .none },
  { cls := 10, slots := #[.int 73], vm := .none },
  { cls := 10, slots := #[.int 74], vm := .none },
  { cls := 10, slots := #[.int 75], vm := .none },
  { cls := 10, slots := #[.int 76], vm := .none },
  { cls := 10, slots := #[.int 77], vm := .none },
  { cls := 10, slots := #[.int 78], vm := .none },
  { cls := 10, slots := #[.int 79], vm := .none },
  { cls := 10, slots := #[.int 80], vm := .none },
  { cls := 10, slots := #[.int 81], vm := .none },
  { cls := 10, slots := #[.int 82], vm := .none },
  { cls := 10, slots := #[.int 83], vm := .none },
  { cls := 10, slots := #[.int 84], vm := .none },
  { cls := 10, slots := #[.int 85], vm := .none },
  { cls := 10, slots := #[.int 86], vm := .none },
  { cls := 10, slots := #[.int 87], vm := .none },
  { cls := 10, slots := #[.int 88], vm := .none },
  { cls := 10, slots := #[.int 89], vm := .none },
  { cls := 10, slots := #[.int 90], vm := .none },
  { cls := 10, slots := #[.int 91], vm := .none },
  { cls := 10, slots := #[.int 92], vm := .none },
  { cls := 10, slots := #[.int 93], vm := .none },
  { cls := 10, slots := #[.int 94], vm := .none },
  { cls := 10, slots := #[.int 95], vm := .none },
  { cls := 10, slots := #[.int 96], vm := .none },
  { cls := 10, slots := #[.int 97], vm := .none },
  { cls := 10, slots := #[.int 98], vm := .none },
  { cls := 10, slots := #[.int 99], vm := .none },
  { cls := 10, slots := #[.int 100], vm := .none },
  { cls := 10, slots := #[.int 101], vm := .none },
  { cls := 10, slots := #[.int 102], vm := .none },
  { cls := 10, slots := #[.int 103], vm := .none },
  { cls := 10, slots := #[.int 104], vm := .none },
  { cls := 10, slots := #[.int 105], vm := .none },
  { cls := 10, slots := #[.int 106], vm := .none },
  { cls := 10, slots := #[.int 107], vm := .none },
  { cls := 10, slots := #[.int 108], vm := .none },
  { cls := 10, slots := #[.int 109], vm := .none },
  { cls := 10, slots := #[.int 110], vm := .none },
  { cls := 10, slots := #[.int 111], vm := .none },
  { cls := 10, slots := #[.int 112], vm := .none },
  { cls := 10, slots := #[.int 113], vm := .none },
  { cls := 10, slots := #[.int 114], vm := .none },
  { cls := 10, slots := #[.int 115], vm := .none },
  { cls := 10, slots := #[.int 116], vm := .none },
  { cls := 10, slots := #[.int 117], vm := .none },
  { cls := 10, slots := #[.int 118], vm := .none },
  { cls := 10, slots := #[.int 119], vm := .none },
  { cls := 10, slots := #[.int 120], vm := .none },
  { cls := 10, slots := #[.int 121], vm := .none },
  { cls := 10, slots := #[.int 122], vm := .none },
  { cls := 10, slots := #[.int 123], vm := .none },
  { cls := 10, slots := #[.int 124], vm := .none },
  { cls := 10, slots := #[.int 125], vm := .none },
  { cls := 10, slots := #[.int 126], vm := .none },
  { cls := 10, slots := #[.int 127], vm := .none },
  { cls := 36, slots := #[], vm := .none },
  { cls := 36, slots := #[], vm := .none }]
def classes : Array Class := #[k0, k1, k2, k3, k4, k5, k6, k7, k8, k9, k10, k11, k12, k13, k14, k15, k16, k17, k18, k19, k20, k21, k22, k23, k24, k25, k26, k27, k28, k29, k30, k31, k32, k33, k34, k35, k36]
def interned : List (Array UInt16 × Addr) := []
def slotsUsed : Nat := 531
def theMethod : MethodId := ⟨1, 2⟩
def args0 : Array Value := #[.int 5, .int 7, .int 1, .int 2]
def aboutOver (below : List Frame) : State where
  vm := { classes := classes, interned := interned.toArray }
  heap := heap
  slotsUsed := slotsUsed
  threads := #[{ frames := .invoking theMethod args0 :: below }]
def below0 : List Frame := [.native { method := ⟨0, 0⟩, args := #[] }]
def about1 : State := aboutOver below0
def p0 : Program := .bare "" "" ""
def e0 : Env := launch0.env 0 0 0
theorem w_frames : about1.frames = Frame.invoking theMethod args0 :: below0 := rfl
set_option maxRecDepth 65536 in
theorem w_args : argsFit about1.vm theMethod args0 = true := by decide +kernel
set_option maxRecDepth 65536 in
theorem w_heap : heapFits about1 = true := by decide +kernel
set_option maxRecDepth 65536 in
theorem w_runnable : about1.curStatus? = some .runnable := by decide +kernel
set_option maxRecDepth 65536 in
theorem w_alone : about1.alone = true := by decide +kernel
set_option maxRecDepth 65536 in
theorem w_named : about1.methodNamed? x = some theMethod := by decide +kernel
set_option maxRecDepth 65536 in
theorem w_hears : about1.hears theMethod below0 = true := by decide +kernel
set_option maxRecDepth 65536 in
theorem w_ripe : about1.ripe theMethod args0 below0 = true := by decide +kernel
theorem w_running : about1.status = .running := rfl
set_option maxRecDepth 65536 in
theorem w_room : about1.hasRoom e0.platform room_1 = true :=
  launch0.hasRoom_least _ room_1 (by decide +kernel) (by decide +kernel) (by decide +kernel) (by decide +kernel) (by decide +kernel) (by decide +kernel)
theorem allAtoms_all (ts : List Jvm.Cond) (a : Array Jvm.Value) (st : Jvm.State) : (allAtoms ts).before a st = ts.all (fun c => c.before a st) := by
  induction ts with
  | nil => rfl
  | cons c t ih =>
    show (Jvm.Cond.and c (allAtoms t)).before a st = _
    rw [Jvm.Cond.before_and, ih, List.all_cons]
def words1 : List Jvm.Cond := Jvm.Cond.code x code maxLocals ret :: tables_1
/-- a 'code' word, met by the world's own term for the bytes: nothing is compared byte by byte -/
theorem code_word {y : MethodName} {bytes : ByteArray} {mx : Nat} {rt : Option FieldType} {a : Array Value} {s : State} {m : MethodId} {meth : Method} {c : Code} (h1 : s.methodNamed? y = some m) (h2 : s.vm.method? m = some meth) (h3 : meth.code = some c) (h4 : c.code = bytes)
    (h5 : (c.maxLocals == mx && c.exceptionTable.isEmpty && decide (c.maxStack ≤ mostOperands) && decide (meth.sig.returnType = rt) && !meth.locks && decide (parseMethodDescriptor y.desc = some meth.sig)) = true) : (Jvm.Cond.code y bytes mx rt).before a s = true := by
  simp only [Bool.and_eq_true, beq_iff_eq, Bool.not_eq_true', decide_eq_true_eq] at h5
  obtain ⟨⟨⟨⟨⟨g1, g2⟩, g3⟩, g4⟩, g5⟩, g6⟩ := h5
  simp [Cond.before, Cond.holds, Cond.value, h1, h2, h3, h4, g1, g2, g3, g4, g5, g6]
def isCode : Jvm.Cond → Bool
  | .code _ _ _ _ => true
  | _ => false
theorem all_split {L : List Jvm.Cond} {P : Jvm.Cond → Bool} (h1 : L.all (fun c => isCode c || P c) = true) (h2 : ∀ c ∈ L.filter isCode, P c = true) : L.all P = true := by
  refine List.all_eq_true.mpr fun c hc => ?_
  have h := List.all_eq_true.mp h1 c hc
  rcases Bool.eq_false_or_eq_true (isCode c) with hi | hi
  · exact h2 c (List.mem_filter.mpr ⟨hc, hi⟩)
  · simpa [hi] using h
set_option maxRecDepth 65536 in
theorem w_c0 : (Jvm.Cond.code x code maxLocals ret).before args0 about1 = true := code_word (m := ⟨1, 2⟩) (meth := k1m2) (c := k1c2) (by decide +kernel) rfl rfl rfl (by decide +kernel)
set_option maxRecDepth 65536 in
theorem w_c1 : (Jvm.Cond.code ({ cls := "com/example/persist/persist/session/OperandBindingsPinLaw", name := "mk", desc := "(ICCC)Ljava/lang/String;" } : Jvm.MethodName) method_2_code (4 : Nat) (Option.some (Jvm.ClassFile.FieldType.object "java/lang/String"))).before args0 about1 = true := code_word (m := ⟨1, 1⟩) (meth := k1m1) (c := k1c1) (by decide +kernel) rfl rfl rfl (by decide +kernel)
set_option maxRecDepth 65536 in
theorem w_c2 : (Jvm.Cond.code ({ cls := "java/lang/String", name := "<init>", desc := "([C)V" } : Jvm.MethodName) jdk_42_method_3_code (2 : Nat) (Option.none : Option Jvm.ClassFile.FieldType)).before args0 about1 = true := code_word (m := ⟨7, 1⟩) (meth := k7m1) (c := k7c1) (by decide +kernel) rfl rfl rfl (by decide +kernel)
set_option maxRecDepth 65536 in
theorem w_c3 : (Jvm.Cond.code ({ cls := "java/lang/String", name := "<init>", desc := "([CIILjava/lang/Void;)V" } : Jvm.MethodName) jdk_42_method_149_code (6 : Nat) (Option.none : Option Jvm.ClassFile.FieldType)).before args0 about1 = true := code_word (m := ⟨7, 3⟩) (meth := k7m3) (c := k7c3) (by decide +kernel) rfl rfl rfl (by decide +kernel)
set_option maxRecDepth 65536 in
theorem w_c4 : (Jvm.Cond.code ({ cls := "java/lang/Object", name := "<init>", desc := "()V" } : Jvm.MethodName) object_method_1_code (1 : Nat) (Option.none : Option Jvm.ClassFile.FieldType)).before args0 about1 = true := code_word (m := ⟨0, 0⟩) (meth := k0m0) (c := k0c0) (by decide +kernel) rfl rfl rfl (by decide +kernel)
set_option maxRecDepth 65536 in
theorem w_c5 : (Jvm.Cond.code ({ cls := "java/lang/StringUTF16", name := "compress", desc := "([CII)[B" } : Jvm.MethodName) jdk_52_method_16_code (6 : Nat) (Option.some (Jvm.ClassFile.FieldType.array Jvm.ClassFile.FieldType.byte))).before args0 about1 = true := code_word (m := ⟨8, 2⟩) (meth := k8m2) (c := k8c2) (by decide +kernel) rfl rfl rfl (by decide +kernel)
set_option maxRecDepth 65536 in
theorem w_c6 : (Jvm.Cond.code ({ cls := "java/lang/StringUTF16", name := "compress", desc := "([CI[BII)I" } : Jvm.MethodName) jdk_52_method_21_code (7 : Nat) (Option.some Jvm.ClassFile.FieldType.int)).before args0 about1 = true := code_word (m := ⟨8, 3⟩) (meth := k8m3) (c := k8c3) (by decide +kernel) rfl rfl rfl (by decide +kernel)
set_option maxRecDepth 65536 in
theorem w_c7 : (Jvm.Cond.code ({ cls := "java/lang/StringUTF16", name := "coderFromArrayLen", desc := "([BI)B" } : Jvm.MethodName) jdk_52_method_15_code (2 : Nat) (Option.some Jvm.ClassFile.FieldType.byte)).before args0 about1 = true := code_word (m := ⟨8, 1⟩) (meth := k8m1) (c := k8c1) (by decide +kernel) rfl rfl rfl (by decide +kernel)
set_option maxRecDepth 65536 in
theorem w_c8 : (Jvm.Cond.code ({ cls := "java/lang/Integer", name := "valueOf", desc := "(I)Ljava/lang/Integer;" } : Jvm.MethodName) jdk_33_method_22_code (1 : Nat) (Option.some (Jvm.ClassFile.FieldType.object "java/lang/Integer"))).before args0 about1 = true := code_word (m := ⟨10, 0⟩) (meth := k10m0) (c := k10c0) (by decide +kernel) rfl rfl rfl (by decide +kernel)
set_option maxRecDepth 65536 in
theorem w_c9 : (Jvm.Cond.code ({ cls := "java/util/ArrayList", name := "<init>", desc := "()V" } : Jvm.MethodName) jdk_38_method_2_code (1 : Nat) (Option.none : Option Jvm.ClassFile.FieldType)).before args0 about1 = true := code_word (m := ⟨20, 1⟩) (meth := k20m1) (c := k20c1) (by decide +kernel) rfl rfl rfl (by decide +kernel)
set_option maxRecDepth 65536 in
theorem w_c10 : (Jvm.Cond.code ({ cls := "java/util/AbstractList", name := "<init>", desc := "()V" } : Jvm.MethodName) jdk_39_method_1_code (1 : Nat) (Option.none : Option Jvm.ClassFile.FieldType)).before args0 about1 = true := code_word (m := ⟨17, 0⟩) (meth := k17m0) (c := k17c0) (by decide +kernel) rfl rfl rfl (by decide +kernel)
set_option maxRecDepth 65536 in
theorem w_c11 : (Jvm.Cond.code ({ cls := "java/util/AbstractCollection", name := "<init>", desc := "()V" } : Jvm.MethodName) jdk_22_method_1_code (1 : Nat) (Option.none : Option Jvm.ClassFile.FieldType)).before args0 about1 = true := code_word (m := ⟨14, 0⟩) (meth := k14m0) (c := k14c0) (by decide +kernel) rfl rfl rfl (by decide +kernel)
set_option maxRecDepth 65536 in
theorem w_c12 : (Jvm.Cond.code ({ cls := "java/util/ArrayList", name := "add", desc := "(Ljava/lang/Object;)Z" } : Jvm.MethodName) jdk_38_method_25_code (2 : Nat) (Option.some Jvm.ClassFile.FieldType.boolean)).before args0 about1 = true := code_word (m := ⟨20, 7⟩) (meth := k20m7) (c := k20c7) (by decide +kernel) rfl rfl rfl (by decide +kernel)
set_option maxRecDepth 65536 in
theorem w_c13 : (Jvm.Cond.code ({ cls := "java/util/ArrayList", name := "add", desc := "(Ljava/lang/Object;[Ljava/lang/Object;I)V" } : Jvm.MethodName) jdk_38_method_24_code (4 : Nat) (Option.none : Option Jvm.ClassFile.FieldType)).before args0 about1 = true := code_word (m := ⟨20, 6⟩) (meth := k20m6) (c := k20c6) (by decide +kernel) rfl rfl rfl (by decide +kernel)
set_option maxRecDepth 65536 in
theorem w_c14 : (Jvm.Cond.code ({ cls := "java/util/ArrayList", name := "grow", desc := "()[Ljava/lang/Object;" } : Jvm.MethodName) jdk_38_method_7_code (1 : Nat) (Option.some (Jvm.ClassFile.FieldType.array (Jvm.ClassFile.FieldType.object "java/lang/Object")))).before args0 about1 = true := code_word (m := ⟨20, 3⟩) (meth := k20m3) (c := k20c3) (by decide +kernel) rfl rfl rfl (by decide +kernel)
set_option maxRecDepth 65536 in
theorem w_c15 : (Jvm.Cond.code ({ cls := "java/util/ArrayList", name := "grow", desc := "(I)[Ljava/lang/Object;" } : Jvm.MethodName) jdk_38_method_6_code (4 : Nat) (Option.some (Jvm.ClassFile.FieldType.array (Jvm.ClassFile.FieldType.object "java/lang/Object")))).before args0 about1 = true := code_word (m := ⟨20, 2⟩) (meth := k20m2) (c := k20c2) (by decide +kernel) rfl rfl rfl (by decide +kernel)
set_option maxRecDepth 65536 in
theorem w_c16 : (Jvm.Cond.code ({ cls := "java/lang/Math", name := "max", desc := "(II)I" } : Jvm.MethodName) jdk_29_method_65_code (2 : Nat) (Option.some Jvm.ClassFile.FieldType.int)).before args0 about1 = true := code_word (m := ⟨21, 1⟩) (meth := k21m1) (c := k21c1) (by decide +kernel) rfl rfl rfl (by decide +kernel)
set_option maxRecDepth 65536 in
theorem w_c17 : (Jvm.Cond.code ({ cls := "com/example/persist/persist/session/Operand", name := "<init>", desc := "(Ljava/lang/String;Ljava/lang/String;)V" } : Jvm.MethodName) prog_28_method_1_code (3 : Nat) (Option.none : Option Jvm.ClassFile.FieldType)).before args0 about1 = true := code_word (m := ⟨22, 0⟩) (meth := k22m0) (c := k22c0) (by decide +kernel) rfl rfl rfl (by decide +kernel)
set_option maxRecDepth 65536 in
theorem w_c18 : (Jvm.Cond.code ({ cls := "com/example/persist/persist/session/Operand", name := "bindings", desc := "()I" } : Jvm.MethodName) prog_28_method_7_code (1 : Nat) (Option.some Jvm.ClassFile.FieldType.int)).before args0 about1 = true := code_word (m := ⟨22, 3⟩) (meth := k22m3) (c := k22c3) (by decide +kernel) rfl rfl rfl (by decide +kernel)
set_option maxRecDepth 65536 in
theorem w_c19 : (Jvm.Cond.code ({ cls := "com/example/persist/persist/session/Operand", name := "narrows", desc := "()Z" } : Jvm.MethodName) prog_28_method_8_code (1 : Nat) (Option.some Jvm.ClassFile.FieldType.boolean)).before args0 about1 = true := code_word (m := ⟨22, 4⟩) (meth := k22m4) (c := k22c4) (by decide +kernel) rfl rfl rfl (by decide +kernel)
set_option maxRecDepth 65536 in
theorem w_c20 : (Jvm.Cond.code ({ cls := "java/lang/String", name := "equals", desc := "(Ljava/lang/Object;)Z" } : Jvm.MethodName) jdk_42_method_66_code (3 : Nat) (Option.some Jvm.ClassFile.FieldType.boolean)).before args0 about1 = true := code_word (m := ⟨7, 2⟩) (meth := k7m2) (c := k7c2) (by decide +kernel) rfl rfl rfl (by decide +kernel)
set_option maxRecDepth 65536 in
theorem w_c21 : (Jvm.Cond.code ({ cls := "java/lang/StringLatin1", name := "equals", desc := "([B[B)Z" } : Jvm.MethodName) jdk_43_method_13_code (3 : Nat) (Option.some Jvm.ClassFile.FieldType.boolean)).before args0 about1 = true := code_word (m := ⟨23, 1⟩) (meth := k23m1) (c := k23c1) (by decide +kernel) rfl rfl rfl (by decide +kernel)
set_option maxRecDepth 65536 in
theorem w_c22 : (Jvm.Cond.code ({ cls := "com/example/persist/persist/session/Operand", name := "bound", desc := "(Ljava/util/List;)Ljava/util/List;" } : Jvm.MethodName) prog_28_method_5_code (3 : Nat) (Option.some (Jvm.ClassFile.FieldType.object "java/util/List"))).before args0 about1 = true := code_word (m := ⟨22, 1⟩) (meth := k22m1) (c := k22c1) (by decide +kernel) rfl rfl rfl (by decide +kernel)
set_option maxRecDepth 65536 in
theorem w_c23 : (Jvm.Cond.code ({ cls := "java/util/ArrayList", name := "size", desc := "()I" } : Jvm.MethodName) jdk_38_method_8_code (1 : Nat) (Option.some Jvm.ClassFile.FieldType.int)).before args0 about1 = true := code_word (m := ⟨20, 4⟩) (meth := k20m4) (c := k20c4) (by decide +kernel) rfl rfl rfl (by decide +kernel)
set_option maxRecDepth 65536 in
theorem w_c24 : (Jvm.Cond.code ({ cls := "java/util/ArrayList", name := "<init>", desc := "(I)V" } : Jvm.MethodName) jdk_38_method_1_code (2 : Nat) (Option.none : Option Jvm.ClassFile.FieldType)).before args0 about1 = true := code_word (m := ⟨20, 0⟩) (meth := k20m0) (c := k20c0) (by decide +kernel) rfl rfl rfl (by decide +kernel)
set_option maxRecDepth 65536 in
theorem w_c25 : (Jvm.Cond.code ({ cls := "java/util/ArrayList", name := "addAll", desc := "(Ljava/util/Collection;)Z" } : Jvm.MethodName) jdk_38_method_41_code (6 : Nat) (Option.some Jvm.ClassFile.FieldType.boolean)).before args0 about1 = true := code_word (m := ⟨20, 8⟩) (meth := k20m8) (c := k20c8) (by decide +kernel) rfl rfl rfl (by decide +kernel)
set_option maxRecDepth 65536 in
theorem w_c26 : (Jvm.Cond.code ({ cls := "java/util/ArrayList", name := "toArray", desc := "()[Ljava/lang/Object;" } : Jvm.MethodName) jdk_38_method_16_code (1 : Nat) (Option.some (Jvm.ClassFile.FieldType.array (Jvm.ClassFile.FieldType.object "java/lang/Object")))).before args0 about1 = true := code_word (m := ⟨20, 5⟩) (meth := k20m5) (c := k20c5) (by decide +kernel) rfl rfl rfl (by decide +kernel)
set_option maxRecDepth 65536 in
theorem w_c27 : (Jvm.Cond.code ({ cls := "java/util/Arrays", name := "copyOf", desc := "([Ljava/lang/Object;I)[Ljava/lang/Object;" } : Jvm.MethodName) jdk_65_method_119_code (2 : Nat) (Option.some (Jvm.ClassFile.FieldType.array (Jvm.ClassFile.FieldType.object "java/lang/Object")))).before args0 about1 = true := code_word (m := ⟨24, 1⟩) (meth := k24m1) (c := k24c1) (by decide +kernel) rfl rfl rfl (by decide +kernel)
set_option maxRecDepth 65536 in
theorem w_c28 : (Jvm.Cond.code ({ cls := "java/util/Arrays", name := "copyOf", desc := "([Ljava/lang/Object;ILjava/lang/Class;)[Ljava/lang/Object;" } : Jvm.MethodName) jdk_65_method_120_code (4 : Nat) (Option.some (Jvm.ClassFile.FieldType.array (Jvm.ClassFile.FieldType.object "java/lang/Object")))).before args0 about1 = true := code_word (m := ⟨24, 2⟩) (meth := k24m2) (c := k24c2) (by decide +kernel) rfl rfl rfl (by decide +kernel)
set_option maxRecDepth 65536 in
theorem w_c29 : (Jvm.Cond.code ({ cls := "java/lang/Math", name := "min", desc := "(II)I" } : Jvm.MethodName) jdk_29_method_69_code (2 : Nat) (Option.some Jvm.ClassFile.FieldType.int)).before args0 about1 = true := code_word (m := ⟨21, 2⟩) (meth := k21m2) (c := k21c2) (by decide +kernel) rfl rfl rfl (by decide +kernel)
set_option maxRecDepth 65536 in
theorem w_c30 : (Jvm.Cond.code ({ cls := "com/example/persist/persist/session/Operand", name := "addBound", desc := "(Ljava/util/List;Ljava/lang/Object;)V" } : Jvm.MethodName) prog_28_method_6_code (3 : Nat) (Option.none : Option Jvm.ClassFile.FieldType)).before args0 about1 = true := code_word (m := ⟨22, 2⟩) (meth := k22m2) (c := k22c2) (by decide +kernel) rfl rfl rfl (by decide +kernel)
set_option maxRecDepth 65536 in
theorem w_c31 : (Jvm.Cond.code ({ cls := "java/lang/Integer", name := "<init>", desc := "(I)V" } : Jvm.MethodName) jdk_33_method_23_code (2 : Nat) (Option.none : Option Jvm.ClassFile.FieldType)).before args0 about1 = true := code_word (m := ⟨10, 1⟩) (meth := k10m1) (c := k10c1) (by decide +kernel) rfl rfl rfl (by decide +kernel)
set_option maxRecDepth 65536 in
theorem w_c32 : (Jvm.Cond.code ({ cls := "java/lang/Number", name := "<init>", desc := "()V" } : Jvm.MethodName) jdk_18_method_1_code (1 : Nat) (Option.none : Option Jvm.ClassFile.FieldType)).before args0 about1 = true := code_word (m := ⟨9, 0⟩) (meth := k9m0) (c := k9c0) (by decide +kernel) rfl rfl rfl (by decide +kernel)
def codes1 : List Jvm.Cond := [Jvm.Cond.code x code maxLocals ret, Jvm.Cond.code ({ cls := "com/example/persist/persist/session/OperandBindingsPinLaw", name := "mk", desc := "(ICCC)Ljava/lang/String;" } : Jvm.MethodName) method_2_code (4 : Nat) (Option.some (Jvm.ClassFile.FieldType.object "java/lang/String")), Jvm.Cond.code ({ cls := "java/lang/String", name := "<init>", desc := "([C)V" } : Jvm.MethodName) jdk_42_method_3_code (2 : Nat) (Option.none : Option Jvm.ClassFile.FieldType), Jvm.Cond.code ({ cls := "java/lang/String", name := "<init>", desc := "([CIILjava/lang/Void;)V" } : Jvm.MethodName) jdk_42_method_149_code (6 : Nat) (Option.none : Option Jvm.ClassFile.FieldType), Jvm.Cond.code ({ cls := "java/lang/Object", name := "<init>", desc := "()V" } : Jvm.MethodName) object_method_1_code (1 : Nat) (Option.none : Option Jvm.ClassFile.FieldType), Jvm.Cond.code ({ cls := "java/lang/StringUTF16", name := "compress", desc := "([CII)[B" } : Jvm.MethodName) jdk_52_method_16_code (6 : Nat) (Option.some (Jvm.ClassFile.FieldType.array Jvm.ClassFile.FieldType.byte)), Jvm.Cond.code ({ cls := "java/lang/StringUTF16", name := "compress", desc := "([CI[BII)I" } : Jvm.MethodName) jdk_52_method_21_code (7 : Nat) (Option.some Jvm.ClassFile.FieldType.int), Jvm.Cond.code ({ cls := "java/lang/StringUTF16", name := "coderFromArrayLen", desc := "([BI)B" } : Jvm.MethodName) jdk_52_method_15_code (2 : Nat) (Option.some Jvm.ClassFile.FieldType.byte), Jvm.Cond.code ({ cls := "java/lang/Integer", name := "valueOf", desc := "(I)Ljava/lang/Integer;" } : Jvm.MethodName) jdk_33_method_22_code (1 : Nat) (Option.some (Jvm.ClassFile.FieldType.object "java/lang/Integer")), Jvm.Cond.code ({ cls := "java/util/ArrayList", name := "<init>", desc := "()V" } : Jvm.MethodName) jdk_38_method_2_code (1 : Nat) (Option.none : Option Jvm.ClassFile.FieldType), Jvm.Cond.code ({ cls := "java/util/AbstractList", name := "<init>", desc := "()V" } : Jvm.MethodName) jdk_39_method_1_code (1 : Nat) (Option.none : Option Jvm.ClassFile.FieldType), Jvm.Cond.code ({ cls := "java/util/AbstractCollection", name := "<init>", desc := "()V" } : Jvm.MethodName) jdk_22_method_1_code (1 : Nat) (Option.none : Option Jvm.ClassFile.FieldType), Jvm.Cond.code ({ cls := "java/util/ArrayList", name := "add", desc := "(Ljava/lang/Object;)Z" } : Jvm.MethodName) jdk_38_method_25_code (2 : Nat) (Option.some Jvm.ClassFile.FieldType.boolean), Jvm.Cond.code ({ cls := "java/util/ArrayList", name := "add", desc := "(Ljava/lang/Object;[Ljava/lang/Object;I)V" } : Jvm.MethodName) jdk_38_method_24_code (4 : Nat) (Option.none : Option Jvm.ClassFile.FieldType), Jvm.Cond.code ({ cls := "java/util/ArrayList", name := "grow", desc := "()[Ljava/lang/Object;" } : Jvm.MethodName) jdk_38_method_7_code (1 : Nat) (Option.some (Jvm.ClassFile.FieldType.array (Jvm.ClassFile.FieldType.object "java/lang/Object"))), Jvm.Cond.code ({ cls := "java/util/ArrayList", name := "grow", desc := "(I)[Ljava/lang/Object;" } : Jvm.MethodName) jdk_38_method_6_code (4 : Nat) (Option.some (Jvm.ClassFile.FieldType.array (Jvm.ClassFile.FieldType.object "java/lang/Object"))), Jvm.Cond.code ({ cls := "java/lang/Math", name := "max", desc := "(II)I" } : Jvm.MethodName) jdk_29_method_65_code (2 : Nat) (Option.some Jvm.ClassFile.FieldType.int), Jvm.Cond.code ({ cls := "com/example/persist/persist/session/Operand", name := "<init>", desc := "(Ljava/lang/String;Ljava/lang/String;)V" } : Jvm.MethodName) prog_28_method_1_code (3 : Nat) (Option.none : Option Jvm.ClassFile.FieldType), Jvm.Cond.code ({ cls := "com/example/persist/persist/session/Operand", name := "bindings", desc := "()I" } : Jvm.MethodName) prog_28_method_7_code (1 : Nat) (Option.some Jvm.ClassFile.FieldType.int), Jvm.Cond.code ({ cls := "com/example/persist/persist/session/Operand", name := "narrows", desc := "()Z" } : Jvm.MethodName) prog_28_method_8_code (1 : Nat) (Option.some Jvm.ClassFile.FieldType.boolean), Jvm.Cond.code ({ cls := "java/lang/String", name := "equals", desc := "(Ljava/lang/Object;)Z" } : Jvm.MethodName) jdk_42_method_66_code (3 : Nat) (Option.some Jvm.ClassFile.FieldType.boolean), Jvm.Cond.code ({ cls := "java/lang/StringLatin1", name := "equals", desc := "([B[B)Z" } : Jvm.MethodName) jdk_43_method_13_code (3 : Nat) (Option.some Jvm.ClassFile.FieldType.boolean), Jvm.Cond.code ({ cls := "com/example/persist/persist/session/Operand", name := "bound", desc := "(Ljava/util/List;)Ljava/util/List;" } : Jvm.MethodName) prog_28_method_5_code (3 : Nat) (Option.some (Jvm.ClassFile.FieldType.object "java/util/List")), Jvm.Cond.code ({ cls := "java/util/ArrayList", name := "size", desc := "()I" } : Jvm.MethodName) jdk_38_method_8_code (1 : Nat) (Option.some Jvm.ClassFile.FieldType.int), Jvm.Cond.code ({ cls := "java/util/ArrayList", name := "<init>", desc := "(I)V" } : Jvm.MethodName) jdk_38_method_1_code (2 : Nat) (Option.none : Option Jvm.ClassFile.FieldType), Jvm.Cond.code ({ cls := "java/util/ArrayList", name := "addAll", desc := "(Ljava/util/Collection;)Z" } : Jvm.MethodName) jdk_38_method_41_code (6 : Nat) (Option.some Jvm.ClassFile.FieldType.boolean), Jvm.Cond.code ({ cls := "java/util/ArrayList", name := "toArray", desc := "()[Ljava/lang/Object;" } : Jvm.MethodName) jdk_38_method_16_code (1 : Nat) (Option.some (Jvm.ClassFile.FieldType.array (Jvm.ClassFile.FieldType.object "java/lang/Object"))), Jvm.Cond.code ({ cls := "java/util/Arrays", name := "copyOf", desc := "([Ljava/lang/Object;I)[Ljava/lang/Object;" } : Jvm.MethodName) jdk_65_method_119_code (2 : Nat) (Option.some (Jvm.ClassFile.FieldType.array (Jvm.ClassFile.FieldType.object "java/lang/Object"))), Jvm.Cond.code ({ cls := "java/util/Arrays", name := "copyOf", desc := "([Ljava/lang/Object;ILjava/lang/Class;)[Ljava/lang/Object;" } : Jvm.MethodName) jdk_65_method_120_code (4 : Nat) (Option.some (Jvm.ClassFile.FieldType.array (Jvm.ClassFile.FieldType.object "java/lang/Object"))), Jvm.Cond.code ({ cls := "java/lang/Math", name := "min", desc := "(II)I" } : Jvm.MethodName) jdk_29_method_69_code (2 : Nat) (Option.some Jvm.ClassFile.FieldType.int), Jvm.Cond.code ({ cls := "com/example/persist/persist/session/Operand", name := "addBound", desc := "(Ljava/util/List;Ljava/lang/Object;)V" } : Jvm.MethodName) prog_28_method_6_code (3 : Nat) (Option.none : Option Jvm.ClassFile.FieldType), Jvm.Cond.code ({ cls := "java/lang/Integer", name := "<init>", desc := "(I)V" } : Jvm.MethodName) jdk_33_method_23_code (2 : Nat) (Option.none : Option Jvm.ClassFile.FieldType), Jvm.Cond.code ({ cls := "java/lang/Number", name := "<init>", desc := "()V" } : Jvm.MethodName) jdk_18_method_1_code (1 : Nat) (Option.none : Option Jvm.ClassFile.FieldType)]
set_option maxRecDepth 65536 in
theorem codes_eq : words1.filter isCode = codes1 := rfl
theorem w_codes : ∀ c ∈ words1.filter isCode, c.before args0 about1 = true := by
  rw [codes_eq]
  intro c hc
  simp only [codes1, List.mem_cons, List.not_mem_nil, or_false] at hc
  rcases hc with rfl | rfl | rfl | rfl | rfl | rfl | rfl | rfl | rfl | rfl | rfl | rfl | rfl | rfl | rfl | rfl | rfl | rfl | rfl | rfl | rfl | rfl | rfl | rfl | rfl | rfl | rfl | rfl | rfl | rfl | rfl | rfl | rfl
  · exact w_c0
  · exact w_c1
  · exact w_c2
  · exact w_c3
  · exact w_c4
  · exact w_c5
  · exact w_c6
  · exact w_c7
  · exact w_c8
  · exact w_c9
  · exact w_c10
  · exact w_c11
  · exact w_c12
  · exact w_c13
  · exact w_c14
  · exact w_c15
  · exact w_c16
  · exact w_c17
  · exact w_c18
  · exact w_c19
  · exact w_c20
  · exact w_c21
  · exact w_c22
  · exact w_c23
  · exact w_c24
  · exact w_c25
  · exact w_c26
  · exact w_c27
  · exact w_c28
  · exact w_c29
  · exact w_c30
  · exact w_c31
  · exact w_c32
set_option maxRecDepth 65536 in
theorem w_t1 : (words1.take 24).all (fun c => isCode c || c.before args0 about1) = true := by decide +kernel
set_option maxRecDepth 65536 in
theorem w_t2 : ((words1.drop 24).take 24).all (fun c => isCode c || c.before args0 about1) = true := by decide +kernel
set_option maxRecDepth 65536 in
theorem w_t3 : (((words1.drop 24).drop 24).take 24).all (fun c => isCode c || c.before args0 about1) = true := by decide +kernel
set_option maxRecDepth 65536 in
theorem w_t4 : ((((words1.drop 24).drop 24).drop 24).take 24).all (fun c => isCode c || c.before args0 about1) = true := by decide +kernel
set_option maxRecDepth 65536 in
theorem w_t5 : (((((words1.drop 24).drop 24).drop 24).drop 24).take 24).all (fun c => isCode c || c.before args0 about1) = true := by decide +kernel
set_option maxRecDepth 65536 in
theorem w_t6 : ((((((words1.drop 24).drop 24).drop 24).drop 24).drop 24).take 24).all (fun c => isCode c || c.before args0 about1) = true := by decide +kernel
set_option maxRecDepth 65536 in
theorem w_t7 : (((((((words1.drop 24).drop 24).drop 24).drop 24).drop 24).drop 24).take 24).all (fun c => isCode c || c.before args0 about1) = true := by decide +kernel
set_option maxRecDepth 65536 in
theorem w_t8 : ((((((((words1.drop 24).drop 24).drop 24).drop 24).drop 24).drop 24).drop 24).take 24).all (fun c => isCode c || c.before args0 about1) = true := by decide +kernel
set_option maxRecDepth 65536 in
theorem w_t9 : ((((((((words1.drop 24).drop 24).drop 24).drop 24).drop 24).drop 24).drop 24).drop 24).all (fun c => isCode c || c.before args0 about1) = true := by decide +kernel
theorem w_tables : (allAtoms (Jvm.Cond.code x code maxLocals ret :: tables_1)).before args0 about1 = true := by
  rw [allAtoms_all]
  show words1.all (fun c => c.before args0 about1) = true
  refine all_split ?_ w_codes
  rw [← List.take_append_drop 24 words1, List.all_append, w_t1, ← List.take_append_drop 24 (words1.drop 24), List.all_append, w_t2, ← List.take_append_drop 24 ((words1.drop 24).drop 24), List.all_append, w_t3, ← List.take_append_drop 24 (((words1.drop 24).drop 24).drop 24), List.all_append, w_t4, ← List.take_append_drop 24 ((((words1.drop 24).drop 24).drop 24).drop 24), List.all_append, w_t5, ← List.take_append_drop 24 (((((words1.drop 24).drop 24).drop 24).drop 24).drop 24), List.all_append, w_t6, ← List.take_append_drop 24 ((((((words1.drop 24).drop 24).drop 24).drop 24).drop 24).drop 24), List.all_append, w_t7, ← List.take_append_drop 24 (((((((words1.drop 24).drop 24).drop 24).drop 24).drop 24).drop 24).drop 24), List.all_append, w_t8, w_t9]
  rfl
set_option maxRecDepth 65536 in
theorem w_rest : rest_1_c.before args0 about1 = true := by decide +kernel
set_option maxRecDepth 65536 in
theorem w_case : (Jvm.Cond.and given_1 narrow_1).before args0 about1 = true := by decide +kernel
set_option maxRecDepth 65536 in
theorem w_consts : constsHeld consts_1 about1 := Jvm.Lit.constsHeldB_iff.mp (by decide +kernel)
theorem w_applies : (headSpec (Jvm.Cond.code x code maxLocals ret :: tables_1) room_1).applies x e0.platform about1 = true :=
  (Spec.applies_iff w_frames).mpr ⟨w_running, w_runnable, w_alone, w_named, w_hears, w_ripe, w_room, w_tables⟩
set_option maxRecDepth 65536 in
theorem atStart : AtStart classFile x code maxLocals ret World_1 tables_1 room_1 Calls_1 rest_1 Pre_1 launch0 p0 e0 about1 theMethod args0 below0 :=
  ⟨lists_1, trivial, launch0.admits_env _ _ _, launch0.least_env, fairChoices_fair.cas, fairChoices_fair.clock, w_frames, w_args, w_heap, w_applies, ⟨⟨36, k36, 4, by decide +kernel, rfl, rfl, _, rfl, rfl⟩, ⟨w_consts, trivial⟩⟩, w_rest, w_case⟩
end start1
theorem witness_1 : WitnessClaimed_1 := ⟨start1.p0, start1.e0, start1.about1, start1.theMethod, start1.args0, start1.below0, start1.atStart⟩
end Jvm.Pilot.@@N@@
