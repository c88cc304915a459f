import JvmDerived
import JvmDerived.Pilot.@@N@@Statement
import JvmDerived.Pilot.@@N@@Code
set_option linter.unusedVariables false
set_option linter.unusedSimpArgs false
namespace Jvm.OwnKit
open Sem ClassFile Op Lib Jvm.Stand Jvm.Free Jvm.LawKit Jvm.RoadKit
/-! ## own kit: a body's walk as 'what is left to run' (Go), contracts (Ct), the known cells (Hp) -/
def updL {α : Type} : List α → Nat → α → List α
  | [], _, _ => []
  | _ :: r, 0, x => x :: r
  | y :: r, i + 1, x => y :: updL r i x
theorem upd_nil {α : Type} (i : Nat) (x : α) : updL [] i x = [] := by cases i <;> rfl
theorem upd_zero {α : Type} (y : α) (r : List α) (x : α) : updL (y :: r) 0 x = x :: r := rfl
theorem upd_succ {α : Type} (y : α) (r : List α) (i : Nat) (x : α) : updL (y :: r) (i + 1) x = y :: updL r i x := rfl
theorem upd_mem {α : Type} : ∀ (L : List α) (i : Nat) (x y : α), y ∈ updL L i x → y = x ∨ ∃ j, j ≠ i ∧ L[j]? = some y
  | [], i, x, y, q => by rw [upd_nil] at q; cases q
  | z :: r, 0, x, y, q => by
    rcases List.mem_cons.mp q with u | u
    · exact Or.inl u
    · obtain ⟨j, hj⟩ := List.getElem?_of_mem u
      exact Or.inr ⟨j + 1, by omega, by simpa using hj⟩
  | z :: r, i + 1, x, y, q => by
    rcases List.mem_cons.mp q with u | u
    · exact Or.inr ⟨0, by omega, by simp [u]⟩
    · rcases upd_mem r i x y u with v | ⟨j, v, w⟩
      · exact Or.inl v
      · exact Or.inr ⟨j + 1, by omega, by simpa using w⟩
theorem upd_map {α β : Type} (f : α → β) : ∀ (L : List α) (i : Nat) (x y : α), L[i]? = some y → f x = f y → (updL L i x).map f = L.map f
  | [], _, _, _, q, _ => by cases q
  | z :: r, 0, x, y, q, e => by cases q; simp [updL, e]
  | z :: r, i + 1, x, y, q, e => by simp [updL, upd_map f r i x y q e]
theorem upd_at {α : Type} : ∀ (L : List α) (i : Nat) (x y : α), L[i]? = some y → (updL L i x)[i]? = some x
  | [], _, _, _, q => by cases q
  | z :: r, 0, x, y, q => rfl
  | z :: r, i + 1, x, y, q => upd_at r i x y q
theorem upd_ne {α : Type} : ∀ (L : List α) (i j : Nat) (x : α), j ≠ i → (updL L i x)[j]? = L[j]?
  | [], i, j, x, _ => by rw [upd_nil]
  | z :: r, 0, 0, x, q => absurd rfl q
  | z :: r, 0, j + 1, x, _ => rfl
  | z :: r, i + 1, 0, x, _ => rfl
  | z :: r, i + 1, j + 1, x, q => upd_ne r i j x (by omega)
theorem upd_len {α : Type} : ∀ (L : List α) (i : Nat) (x : α), (updL L i x).length = L.length
  | [], i, x => by rw [upd_nil]
  | z :: r, 0, x => rfl
  | z :: r, i + 1, x => by simp [updL, upd_len r i x]
theorem upd_set {α : Type} : ∀ (L : List α) (i : Nat) (x : α), updL L i x = L.set i x
  | [], i, x => by rw [upd_nil]; simp
  | z :: r, 0, x => rfl
  | z :: r, i + 1, x => by simp [updL, upd_set r i x]
/-- the i-th to the front -/
theorem front {α : Type} : ∀ {L : List α} {i : Nat} {x : α}, L[i]? = some x → L.Perm (x :: L.eraseIdx i)
  | [], _, _, q => by cases q
  | z :: r, 0, x, q => by cases q; exact List.Perm.refl _
  | z :: r, i + 1, x, q => ((front (L := r) (i := i) q).cons z).trans (List.Perm.swap x z (r.eraseIdx i))
theorem upd_erase {α : Type} : ∀ (L : List α) (i : Nat) (x : α), (updL L i x).eraseIdx i = L.eraseIdx i
  | [], i, x => by rw [upd_nil]
  | z :: r, 0, x => rfl
  | z :: r, i + 1, x => by simp [updL, upd_erase r i x]
/-- .. and back to its place, another value -/
theorem unfront {α : Type} {L : List α} {i : Nat} {x x' : α} (hi : L[i]? = some x) : (x' :: L.eraseIdx i).Perm (updL L i x') := by
  have := front (upd_at L i x' x hi)
  rw [upd_erase] at this
  exact this.symm
abbrev Nm : Type := String × String × String
abbrev slo (Z : State) (q : Nm) : Nat := RoadKit.slotOf Z q.1 q.2.1 q.2.2
/-- a cell that is known: its address, what it holds, whether it is the walk's own (new; may be written) -/
abbrev Ent : Type := Addr × (Cell → Prop) × Bool
abbrev ow (a : Addr) (P : Cell → Prop) : Ent := (a, P, true)
abbrev ro (a : Addr) (P : Cell → Prop) : Ent := (a, P, false)
theorem upd_self {α : Type} : ∀ (L : List α) (i : Nat) (x : α), L[i]? = some x → updL L i x = L
  | [], _, _, q => by cases q
  | z :: r, 0, x, q => by cases q; rfl
  | z :: r, i + 1, x, q => by rw [upd_succ, upd_self r i x q]
/-- an object of exactly the class C; its fields ns hold vs -/
def Ob (Z : State) (C : String) (ns : List Nm) (vs : List Value) (c : Cell) : Prop :=
  (∃ k, Z.vm.findClass C = some c.cls ∧ Z.vm.classes[c.cls]? = some k ∧ c.vm.isStatics = false ∧ (k.kind = .ordinary → c.slots.size = k.instanceTypes.size)) ∧ vs.length = ns.length ∧
  ∀ (j : Nat) (q : Nm) (v : Value), ns[j]? = some q → vs[j]? = some v → ∃ cf k i f, Z.fieldFound? q.1 q.2.1 q.2.2 = some (cf, k, i, f) ∧ f.isStatic = false ∧ c.vm ≠ .unknown ∧ c.vm.isStatics = false ∧ Z.vm.assignable c.cls cf = true ∧ c.slots[f.slot]? = some v
/-- an array of the class number K, its components' kind ty; it holds vs -/
def Ar (Z : State) (ty : FieldType) (K : ClassId) (vs : List Value) (c : Cell) : Prop := Z.isArrayOf c ty ∧ c.vm ≠ .unknown ∧ c.cls = K ∧ c.slots = vs.toArray ∧ vs.length < 2 ^ 31 ∧ ∀ v ∈ vs, fits ty v = true
/-- what stood at the start stands; the cells of L are new, each as it says, no two the same -/
def Apart (x y : Ent) : Prop := (x.2.2 || y.2.2) = true → x.1 ≠ y.1
def Hp (Z : State) (h : Heap) (L : List Ent) : Prop := Ext Z.heap h ∧ (∀ x ∈ L, (x.2.2 = true → Z.heap.size ≤ x.1) ∧ ∃ c, h[x.1]? = some c ∧ x.2.1 c) ∧ L.Pairwise Apart
section Facts
variable {Z : State} {h h' : Heap} {L L' : List Ent} {i j : Nat} {a b : Addr} {P P' : Cell → Prop} {C : String} {ns : List Nm} {vs : List Value} {v w : Value} {sl : Nat} {ty : FieldType} {K : ClassId} {f f' : Bool}
theorem Apart.symm {x y : Ent} (q : Apart x y) : Apart y x := fun r e => q (by rw [Bool.or_comm]; exact r) e.symm
theorem Hp.start (Z : State) : Hp Z Z.heap [] := ⟨⟨Nat.le_refl _, fun _ _ q => q⟩, (fun _ q => nomatch q), List.Pairwise.nil⟩
theorem Hp.atM (H : Hp Z h L) (hi : (a, P, f) ∈ L) : ∃ c, h[a]? = some c ∧ P c := (H.2.1 _ hi).2
theorem Hp.at (H : Hp Z h L) (hi : L[i]? = some (a, P, f)) : ∃ c, h[a]? = some c ∧ P c := (H.2.1 _ (List.mem_of_getElem? hi)).2
theorem Hp.ge (H : Hp Z h L) (hi : L[i]? = some (ow a P)) : Z.heap.size ≤ a := (H.2.1 _ (List.mem_of_getElem? hi)).1 rfl
theorem Hp.lt (H : Hp Z h L) (hi : L[i]? = some (a, P, f)) : a < h.size := by obtain ⟨c, q, -⟩ := H.at hi; exact (Array.getElem?_eq_some_iff.mp q).1
theorem Hp.ne (H : Hp Z h L) (hi : L[i]? = some (a, P, f)) (hj : L[j]? = some (b, P', f')) (ij : i ≠ j) (hf : (f || f') = true := by rfl) : a ≠ b := by
  obtain ⟨li, ei⟩ := List.getElem?_eq_some_iff.mp hi
  obtain ⟨lj, ej⟩ := List.getElem?_eq_some_iff.mp hj
  have W := List.pairwise_iff_getElem.mp H.2.2
  rcases Nat.lt_or_ge i j with q | q
  · have r := W i j li lj q
    rw [ei, ej] at r
    exact r hf
  · have r := W j i lj li (by omega)
    rw [ei, ej] at r
    exact fun e => r (by rw [Bool.or_comm]; exact hf) e.symm
theorem Hp.mono (H : Hp Z h L) (E : Ext h h') : Hp Z h' L := ⟨⟨Nat.le_trans H.1.1 E.1, fun x c q => E.2 x c (H.1.2 x c q)⟩, fun x hx => by obtain ⟨q1, c, q2, q3⟩ := H.2.1 x hx; exact ⟨q1, c, E.2 _ _ q2, q3⟩, H.2.2⟩
theorem Hp.push (H : Hp Z h L) (E : Ext h h') (ha : h.size ≤ a) (hc : ∃ c, h'[a]? = some c ∧ P c) : Hp Z h' (ow a P :: L) := by
  have H' := H.mono E
  refine ⟨H'.1, fun x hx => ?_, ?_⟩
  · rcases List.mem_cons.mp hx with rfl | u
    · exact ⟨fun _ => Nat.le_trans H.1.1 ha, hc⟩
    · exact H'.2.1 x u
  · rw [List.pairwise_cons]
    refine ⟨fun x hx _ e => ?_, H.2.2⟩
    obtain ⟨-, c, q2, -⟩ := H.2.1 x hx
    have := (Array.getElem?_eq_some_iff.mp q2).1
    have e : a = x.1 := e
    rw [← e] at this
    exact absurd this (Nat.not_lt.mpr ha)
/-- a cell that is read alone -/
theorem Hp.know (H : Hp Z h L) (hc : ∃ c, h[a]? = some c ∧ P c) (hn : ∀ x ∈ L, x.2.2 = true → x.1 ≠ a) : Hp Z h (ro a P :: L) := by
  refine ⟨H.1, fun x hx => ?_, ?_⟩
  · rcases List.mem_cons.mp hx with rfl | u
    · exact ⟨fun q => (nomatch q), hc⟩
    · exact H.2.1 x u
  · rw [List.pairwise_cons]
    exact ⟨fun x hx q e => hn x hx (by simpa using q) e.symm, H.2.2⟩
theorem upd_apart : ∀ (L : List Ent) (i : Nat) (x y : Ent), L[i]? = some y → x.1 = y.1 → x.2.2 = y.2.2 → L.Pairwise Apart → (updL L i x).Pairwise Apart
  | [], _, _, _, q, _, _, _ => by cases q
  | z :: r, 0, x, y, q, e1, e2, W => by
    cases q
    rw [List.pairwise_cons] at W
    rw [upd_zero, List.pairwise_cons]
    exact ⟨fun u hu => by have := W.1 u hu; unfold Apart at this ⊢; rw [e1, e2]; exact this, W.2⟩
  | z :: r, i + 1, x, y, q, e1, e2, W => by
    rw [List.pairwise_cons] at W
    rw [upd_succ, List.pairwise_cons]
    refine ⟨fun u hu => ?_, upd_apart r i x y q e1 e2 W.2⟩
    rcases upd_mem _ _ _ _ hu with rfl | ⟨j, -, hj⟩
    · have := W.1 y (List.mem_of_getElem? (i := i) q); unfold Apart at this ⊢; rw [e1, e2]; exact this
    · exact W.1 u (List.mem_of_getElem? hj)
theorem Hp.wr (H : Hp Z h L) (hi : L[i]? = some (ow a P)) (W : Wr h h' a sl v) (hP : ∀ c : Cell, P c → c.vm.isStatics = false → sl < c.slots.size → P' (c.setSlot sl v)) : Hp Z h' (updL L i (ow a P')) := by
  have ge := H.ge hi
  obtain ⟨cell, h1, h2, h3, rfl⟩ := W
  obtain ⟨c, hc, hPc⟩ := H.at hi
  cases hc.symm.trans h1
  have lt := (Array.getElem?_eq_some_iff.mp h1).1
  have hset : (h.setIfInBounds a (cell.setSlot sl v))[a]? = some (cell.setSlot sl v) := by simp [lt]
  refine ⟨⟨by simpa using H.1.1, fun x c q => ?_⟩, fun x hx => ?_, upd_apart L i (ow a P') (ow a P) hi rfl rfl H.2.2⟩
  · have := (Array.getElem?_eq_some_iff.mp q).1
    rw [Array.getElem?_setIfInBounds_ne (by omega)]; exact H.1.2 x c q
  · rcases upd_mem _ _ _ _ hx with rfl | ⟨j, hj, hLj⟩
    · exact ⟨fun _ => ge, _, hset, hP _ hPc h2 h3⟩
    · obtain ⟨xa, xP, xf⟩ := x
      have ne : a ≠ xa := H.ne hi hLj (Ne.symm hj) (by simp)
      obtain ⟨q1, c, q2, q3⟩ := H.2.1 _ (List.mem_of_getElem? hLj)
      exact ⟨q1, c, by rw [Array.getElem?_setIfInBounds_ne ne]; exact q2, q3⟩
theorem Hp.weak (H : Hp Z h L) (hi : L[i]? = some (a, P, f)) (hP : ∀ c, P c → P' c) : Hp Z h (updL L i (a, P', f)) := by
  refine ⟨H.1, fun x hx => ?_, upd_apart L i (a, P', f) (a, P, f) hi rfl rfl H.2.2⟩
  rcases upd_mem _ _ _ _ hx with rfl | ⟨j, hj, hLj⟩
  · obtain ⟨c, q1, q2⟩ := H.at hi; exact ⟨(H.2.1 _ (List.mem_of_getElem? hi)).1, c, q1, hP c q2⟩
  · exact H.2.1 x (List.mem_of_getElem? hLj)
theorem Hp.perm (H : Hp Z h L) (q : L.Perm L') : Hp Z h L' := ⟨H.1, fun x hx => H.2.1 x (q.mem_iff.mpr hx), (q.pairwise_iff fun r => r.symm).mp H.2.2⟩
theorem Hp.exa (H : Hp Z h L) (hi : L[i]? = some (a, Ob Z C ns vs, f)) : Exa Z h a C := by
  obtain ⟨c, q, ⟨k, r⟩, -⟩ := H.at hi; exact ⟨c, k, q, r⟩
theorem Hp.exaM (H : Hp Z h L) (hi : (a, P, f) ∈ L) (hP : ∀ c, P c → ∃ ns vs, Ob Z C ns vs c) : Exa Z h a C := by
  obtain ⟨c, q, q2⟩ := H.atM hi; obtain ⟨ns, vs, ⟨k, r⟩, -⟩ := hP c q2; exact ⟨c, k, q, r⟩
theorem Hp.fld (H : Hp Z h L) (hi : L[i]? = some (a, Ob Z C ns vs, f)) {q : Nm} (hj : ns[j]? = some q) (hv : vs[j]? = some v) : Fld Z h a q.1 q.2.1 q.2.2 v := by
  obtain ⟨c, hc, -, -, F⟩ := H.at hi
  obtain ⟨cf, k, i, f, r⟩ := F j q v hj hv
  exact ⟨c, cf, k, i, f, hc, r⟩
theorem Hp.arr (H : Hp Z h L) (hi : L[i]? = some (a, Ar Z ty K vs, f)) : ∃ cl, Arr Z h a cl ty ∧ cl.cls = K ∧ cl.slots = vs.toArray ∧ vs.length < 2 ^ 31 ∧ ∀ v ∈ vs, fits ty v = true := by
  obtain ⟨c, hc, q1, q2, q3, q4, q5, q6⟩ := H.at hi; exact ⟨c, ⟨hc, q1, q2⟩, q3, q4, q5, q6⟩
theorem Hp.arrM (H : Hp Z h L) (hi : (a, Ar Z ty K vs, f) ∈ L) : ∃ cl, Arr Z h a cl ty ∧ cl.cls = K ∧ cl.slots = vs.toArray ∧ vs.length < 2 ^ 31 ∧ ∀ v ∈ vs, fits ty v = true := by
  obtain ⟨c, hc, q1, q2, q3, q4, q5, q6⟩ := H.atM hi; exact ⟨c, ⟨hc, q1, q2⟩, q3, q4, q5, q6⟩
/-- a class's fields: each laid, their slots distinct -/
def LayC (Z : State) (a0 : Array Value) (C : String) (ns : List Nm) : Prop := (∀ q ∈ ns, Laid Z a0 C q.1 q.2.1 q.2.2) ∧ (ns.map (slo Z)).Nodup
theorem LayC.of {a0 : Array Value} (hl : ∀ q ∈ ns, Laid Z a0 C q.1 q.2.1 q.2.2) (hn : (ns.map (·.2.1)).Nodup) (hp : ∀ q ∈ ns, ∃ t, parseFieldDescriptor q.2.2 = some t) : LayC Z a0 C ns := by
  refine ⟨hl, ?_⟩
  revert hl hn hp
  induction ns with
  | nil => intros; exact List.nodup_nil
  | cons x r ih =>
    intro hl hn hp
    rw [List.map_cons, List.nodup_cons] at hn ⊢
    refine ⟨fun q => ?_, ih (fun q hq => hl q (List.mem_cons_of_mem _ hq)) hn.2 (fun q hq => hp q (List.mem_cons_of_mem _ hq))⟩
    obtain ⟨y, hy, ey⟩ := List.mem_map.mp q
    obtain ⟨t1, p1⟩ := hp x List.mem_cons_self
    obtain ⟨t2, p2⟩ := hp y (List.mem_cons_of_mem _ hy)
    refine slot_ne (hl y (List.mem_cons_of_mem _ hy)) (hl x List.mem_cons_self) (fun z => ?_) p2 p1 ey
    exact hn.1 (List.mem_map.mpr ⟨y, hy, z⟩)
theorem Ob.put {a0 : Array Value} (Y : LayC Z a0 C ns) {q : Nm} (hj : ns[j]? = some q) {c : Cell} (O : Ob Z C ns vs c) (hs : c.vm.isStatics = false) (lt : slo Z q < c.slots.size) : Ob Z C ns (updL vs j v) (c.setSlot (slo Z q) v) := by
  obtain ⟨⟨k, r1, r2, r3, r4⟩, hl, F⟩ := O
  refine ⟨⟨k, r1, r2, r3, by rw [sz_set]; exact r4⟩, by rw [upd_len]; exact hl, fun j' q' v' hj' hv' => ?_⟩
  by_cases e : j' = j
  · subst e
    cases hj.symm.trans hj'
    have lj : j' < vs.length := by rw [hl]; exact (List.getElem?_eq_some_iff.mp hj).1
    obtain ⟨cf, k, i, f, f1, f2, f3, f4, f5, f6⟩ := F j' q (vs[j']) hj (List.getElem?_eq_getElem lj)
    rw [upd_at _ _ _ _ (List.getElem?_eq_getElem lj)] at hv'
    cases hv'
    have es : slo Z q = f.slot := by simp [slo, RoadKit.slotOf, f1]
    exact ⟨cf, k, i, f, f1, f2, f3, f4, f5, by rw [es] at lt ⊢; simp [Cell.setSlot, lt]⟩
  · rw [upd_ne _ _ _ _ e] at hv'
    obtain ⟨cf, k, i, f, f1, f2, f3, f4, f5, f6⟩ := F j' q' v' hj' hv'
    refine ⟨cf, k, i, f, f1, f2, f3, f4, f5, ?_⟩
    have es : slo Z q' = f.slot := by simp [slo, RoadKit.slotOf, f1]
    have ne : slo Z q ≠ f.slot := by
      rw [← es]
      intro z
      have l1 : (ns.map (slo Z))[j]? = some (slo Z q) := by simp [hj]
      have l2 : (ns.map (slo Z))[j']? = some (slo Z q) := by simp [hj', z]
      exact e ((List.getElem?_inj (List.getElem?_eq_some_iff.mp l2).1 Y.2).mp (l2.trans l1.symm))
    show (c.slots.setIfInBounds _ _)[_]? = _
    rw [Array.getElem?_setIfInBounds_ne ne]; exact f6
theorem Ar.put {c : Cell} (A : Ar Z ty K vs c) (hv : fits ty v = true) : Ar Z ty K (updL vs j v) (c.setSlot j v) := by
  obtain ⟨q1, q2, q3, q4, q5, q6⟩ := A
  rw [upd_set]
  refine ⟨q1, q2, q3, ?_, by simpa using q5, fun u hu => (List.mem_or_eq_of_mem_set hu).elim (q6 u) fun e => e ▸ hv⟩
  show c.slots.setIfInBounds j v = _
  rw [q4]; simp
end Facts
end Jvm.OwnKit
namespace Jvm.OwnKit
open Sem ClassFile Op Lib Jvm.Stand Jvm.Free Jvm.LawKit Jvm.RoadKit
/-- the tables over which the walk stands: the start's own, or (wd: it may have interned strings) re-based ones -/
def Bse (wd : Bool) (s : State) (vm : Vm) (N : Nat) : Prop := match wd with | false => vm = s.vm | true => s.Since vm N
/-- the frame that is promised at the end -/
def FrE (wd : Bool) (s : State) (o : Outcome) (t : State) (L : List Loc) (k n : Nat) : Prop := match wd with | false => FrameEnd s o t L k n | true => ReturnedEndW s o t L k n
/-- what is known of the heap: the cells of L; and (wd) that whatever is booked for a constant of EL spells it, and is none of L's -/
def Iv (wd : Bool) (Z : State) (EL : List (String × Nat)) (vm : Vm) (h : Heap) (L : List Ent) : Prop := Hp Z h L ∧ (wd = true → CHv Z EL vm h ∧ ∀ x ∈ L, x.2.2 = true → Safe Z EL vm h x.1)
/-- what a body's walk knows throughout -/
def Cx (wd : Bool) (EL : List (String × Nat)) (p : Program) (Z s : State) (m : MethodId) (meth : Method) (c : Code) (own nm : String) (code : ByteArray) (ml : Nat) (ret : Option FieldType) : Prop :=
  p.tables.exec = Jvm.exec ∧ Z.Warmed39 s.vm ∧ s.vm.findClass own = some m.cls ∧ c.code = code ∧ c.maxLocals = ml ∧ meth.sig.returnType = ret ∧ meth.locks = false ∧ meth.name = nm ∧ (wd = true → ∃ a0, EW Z a0 EL)
/-- from frame g the body goes to its end, and its end is as Q says -/
def Go (wd : Bool) (EL : List (String × Nat)) (p : Program) (l : Launch) (e : Env) (R : Room) (Z s : State) (m : MethodId) (args : Array Value) (below : List Frame) (meth : Method) (c : Code) (Q : Option Value → List Ent → Prop) (L : List Ent) (k n : Nat) (g : JFrame) : Prop :=
  ∀ (vm : Vm) (T : State) (lc : List Loc), Fr Z.heap.size lc → Bse wd s vm T.heap.size → Iv wd Z EL vm T.heap L → Stand p l e R (s.setVm vm) m args below meth c T lc k n →
    ∃ u o, Steps p.tables e below (T.setTop g) u ∧ u.status = .running ∧ Ended u below o ∧ ∃ v L' lc', o = .returned v ∧ Q v L' ∧ Iv wd Z EL u.vm u.heap L' ∧ Fr Z.heap.size lc' ∧ FrE wd s o u lc' R.cells R.slots
/-- a body's contract: called with 'as' over the cells L it returns as Q says -/
def Ct (wd : Bool) (EL : List (String × Nat)) (l : Launch) (Z : State) (y : MethodName) (code : ByteArray) (ml : Nat) (ret : Option FieldType) (rm : Room) (as : Array Value) (L : List Ent) (Q : Option Value → List Ent → Prop) : Prop :=
  ∀ ws : List Jvm.Cond, MetFree l y (head1 (Jvm.Cond.code y code ml ret :: ws) rm) (fun a U => a = as ∧ Z.Warmed39 U.vm ∧ Iv wd Z EL U.vm U.heap L) (fun _ _ _ _ _ => True) (fun _ U o U' => ∃ v L' lc, o = .returned v ∧ Q v L' ∧ Iv wd Z EL U'.vm U'.heap L' ∧ Fr Z.heap.size lc ∧ FrE wd U o U' lc rm.cells rm.slots)
def rvQ (Q : Value → List Ent → Prop) : Option Value → List Ent → Prop := fun o L => ∃ v, o = some v ∧ Q v L
def r0Q (Q : List Ent → Prop) : Option Value → List Ent → Prop := fun o L => o = none ∧ Q L
/-- the instruction at pc, and the pc behind it -/
def D1 (code : ByteArray) (pc : Nat) (i : Instr) (len pc' : Nat) : Prop := decode code pc = .ok (i, len) ∧ pc + len = pc'
section Steps
variable {wd : Bool} {EL : List (String × Nat)} {p : Program} {l : Launch} {e : Env} {R : Room} {Z s : State} {m : MethodId} {args : Array Value} {below : List Frame} {meth : Method} {c : Code} {Q : Option Value → List Ent → Prop} {L L' : List Ent} {k n : Nat} {own nm : String} {code : ByteArray} {ml : Nat} {ret : Option FieldType} {a0 : Array Value}
variable {pc pc' : Nat} {Ls : Array Slot} {st : List Value} {i j : Nat} {a b : Addr} {C : String} {ns : List Nm} {vs : List Value} {v : Value} {h h' : Heap} {vm : Vm}
theorem Bse.start (s : State) (N : Nat) : Bse wd s s.vm N := by
  cases wd
  · exact rfl
  · exact (State.WarmedH.refl s).since N
theorem Bse.mono {N N' : Nat} (B : Bse wd s vm N) (q : N ≤ N') : Bse wd s vm N' := by
  cases wd
  · exact B
  · exact ⟨B.1, fun j p hj hp => by obtain ⟨x, y⟩ := B.2 j p hj hp; exact ⟨x, Nat.lt_of_lt_of_le y q⟩⟩
theorem Bse.wide {N : Nat} (B : Bse wd s vm N) : s.Warmed39 vm := by
  cases wd
  · rw [show vm = s.vm from B]; exact State.Warmed39.refl s
  · exact B.1
theorem Cx.re {N : Nat} (X : Cx wd EL p Z s m meth c own nm code ml ret) (B : Bse wd s vm N) : Cx wd EL p Z (s.setVm vm) m meth c own nm code ml ret :=
  ⟨X.1, State.Warmed39.trans X.2.1 B.wide, by rw [show (s.setVm vm).vm = vm from rfl, B.wide.alike.findClass]; exact X.2.2.1, X.2.2.2⟩
theorem Bse.ended {N : Nat} (B : Bse wd s vm N) {U : State} {o : Outcome} {lc : List Loc} {k n k' n' : Nat} (hr : ∃ v, o = .returned v) (hW : (s.setVm vm).WarmedH U.vm) (hn : N ≤ U.heap.size) (hs : (s.setVm vm).sameButNew ({ U with vm := vm } : State) lc k n) (hk : k ≤ k') (hl : n ≤ n') : FrE wd s o U lc k' n' := by
  cases wd
  · obtain rfl : vm = s.vm := B
    exact ⟨hr, hW, hs.mono hk hl⟩
  · obtain ⟨q1, q2, q3⟩ := State.Since.ended B hW hn hs
    exact ⟨hr, q1, q2, q3.mono hk hl⟩
theorem Iv.ext (I : Iv wd Z EL vm h L) (E : Ext h h') : Iv wd Z EL vm h' L := ⟨I.1.mono E, fun q => ⟨(I.2 q).1.ext E, fun x hx hf => Safe.ext E (I.2 q).1 ((I.2 q).2 x hx hf)⟩⟩
theorem Iv.push {P : Cell → Prop} (I : Iv wd Z EL vm h L) (E : Ext h h') (ha : h.size ≤ a) (hc : ∃ c, h'[a]? = some c ∧ P c) : Iv wd Z EL vm h' (ow a P :: L) := ⟨I.1.push E ha hc, fun q => ⟨(I.2 q).1.ext E, fun x hx hf => by
  rcases List.mem_cons.mp hx with rfl | u
  · exact Safe.ext E (I.2 q).1 (Safe.new ha)
  · exact Safe.ext E (I.2 q).1 ((I.2 q).2 x u hf)⟩⟩
theorem Iv.know {P : Cell → Prop} (I : Iv wd Z EL vm h L) (hc : ∃ c, h[a]? = some c ∧ P c) (hn : ∀ x ∈ L, x.2.2 = true → x.1 ≠ a) : Iv wd Z EL vm h (ro a P :: L) := ⟨I.1.know hc hn, fun q => ⟨(I.2 q).1, fun x hx hf => by
  rcases List.mem_cons.mp hx with rfl | u
  · cases hf
  · exact (I.2 q).2 x u hf⟩⟩
theorem Iv.wr {P P' : Cell → Prop} {sl : Nat} (I : Iv wd Z EL vm h L) (hi : L[i]? = some (ow a P)) (W : Wr h h' a sl v) (hP : ∀ c : Cell, P c → c.vm.isStatics = false → sl < c.slots.size → P' (c.setSlot sl v)) : Iv wd Z EL vm h' (updL L i (ow a P')) := ⟨I.1.wr hi W hP, fun q => by
  have S := (I.2 q).2 _ (List.mem_of_getElem? hi) rfl
  refine ⟨(I.2 q).1.wr W S, fun x hx hf => ?_⟩
  rcases upd_mem _ _ _ _ hx with rfl | ⟨j, hj, hLj⟩
  · exact Safe.wr W S (I.2 q).1 S
  · exact Safe.wr W S (I.2 q).1 ((I.2 q).2 x (List.mem_of_getElem? hLj) hf)⟩
theorem Iv.perm (I : Iv wd Z EL vm h L) (q : L.Perm L') : Iv wd Z EL vm h L' := ⟨I.1.perm q, fun r => ⟨(I.2 r).1, fun x hx => (I.2 r).2 x (q.mem_iff.mpr hx)⟩⟩
theorem Iv.weak {P P' : Cell → Prop} {f : Bool} (I : Iv wd Z EL vm h L) (hi : L[i]? = some (a, P, f)) (hP : ∀ c, P c → P' c) : Iv wd Z EL vm h (updL L i (a, P', f)) := ⟨I.1.weak hi hP, fun q => ⟨(I.2 q).1, fun x hx hf => by
  rcases upd_mem _ _ _ _ hx with rfl | ⟨j, hj, hLj⟩
  · exact (I.2 q).2 (a, P, f) (List.mem_of_getElem? hi) hf
  · exact (I.2 q).2 x (List.mem_of_getElem? hLj) hf⟩⟩
theorem Iv.drop {x : Ent} (I : Iv wd Z EL vm h (x :: L)) : Iv wd Z EL vm h L := ⟨⟨I.1.1, fun y hy => I.1.2.1 y (List.mem_cons_of_mem _ hy), (List.pairwise_cons.mp I.1.2.2).2⟩, fun r => ⟨(I.2 r).1, fun y hy => (I.2 r).2 y (List.mem_cons_of_mem _ hy)⟩⟩
/-- the tables at hand, in a walk that has interned nothing since its last base -/
theorem Iv.now {T : State} {lc : List Loc} (I : Iv wd Z EL vm T.heap L) (X : Cx wd EL p Z (s.setVm vm) m meth c own nm code ml ret) (S : Stand p l e R (s.setVm vm) m args below meth c T lc k n) : Iv wd Z EL T.vm T.heap L := ⟨I.1, fun q => by
  obtain ⟨a0, w⟩ := X.2.2.2.2.2.2.2.2 q
  have r := CHv.at S X.2.1 w (I.2 q).1
  refine ⟨r.1, fun x hx hf => r.safe ?_ ((I.2 q).2 x hx hf)⟩
  obtain ⟨-, cc, h1, -⟩ := I.1.2.1 x hx
  exact (Array.getElem?_eq_some_iff.mp h1).1⟩
theorem Ct.intro {y : MethodName} {rm : Room} {as : Array Value} (hp : plainFor y = true) (hE : wd = true → ∃ a0, EW Z a0 EL)
    (B : ∀ (p : Program) e s m below meth c, Cx wd EL p Z s m meth c y.cls y.name code ml ret → Go wd EL p l e rm Z s m as below meth c Q L 0 0 (entryFrame m as ml)) : Ct wd EL l Z y code ml ret rm as L Q := by
  intro ws
  refine MetFree.of_bodySF hp hisR ?_
  intro p e s m args below meth c s₁ Bd hml hP hK
  obtain ⟨rfl, hZ, hh⟩ := hP
  have X0 : Stand p l e rm s m args below meth c s₁ [] 0 0 := Stand.of_body Bd
  have e0 : s₁.heap = s.heap := by rw [Bd.state]; rfl
  exact B p e s m below meth c ⟨Bd.exec, hZ, findClass_of_methodNamed Bd.named, Bd.bytes, hml, Bd.returns, Bd.notSynchronized, (name_of_methodNamed Bd.named Bd.method).1, hE⟩ s.vm s₁ [] (Fr.nil _) (Bse.start s _) (by rw [e0]; exact hh) X0
theorem Ct.mono {y : MethodName} {rm : Room} {as : Array Value} {Q' : Option Value → List Ent → Prop} (B : Ct wd EL l Z y code ml ret rm as L Q) (hq : ∀ v L', Q v L' → Q' v L') : Ct wd EL l Z y code ml ret rm as L Q' := fun ws =>
  (B ws).mono (fun _ _ q => q) (fun _ _ _ _ _ q => q) fun a U o U' _ ⟨v, L', lc, q1, q2, q3⟩ => ⟨v, L', lc, q1, hq v L' q2, q3⟩
/-- the contract, its cells in another order -/
theorem Ct.perm {y : MethodName} {rm : Room} {as : Array Value} {Q' : Option Value → List Ent → Prop} (B : Ct wd EL l Z y code ml ret rm as L Q) (q : L'.Perm L) (hq : ∀ v M, Q v M → ∃ M', Q' v M' ∧ M.Perm M') : Ct wd EL l Z y code ml ret rm as L' Q' := fun ws =>
  (B ws).mono (fun _ _ r => ⟨r.1, r.2.1, r.2.2.perm q⟩) (fun _ _ _ _ _ q => q) fun a U o U' _ ⟨v, M, lc, q1, q2, q3, q4⟩ => by
    obtain ⟨M', r1, r2⟩ := hq v M q2
    exact ⟨v, M', lc, q1, r1, q3.perm r2, q4⟩
theorem Go.to {g g' : JFrame} (K : Go wd EL p l e R Z s m args below meth c Q L k n g') (X : Cx wd EL p Z s m meth c own nm code ml ret) (f : ∀ s, Cx wd EL p Z s m meth c own nm code ml ret → ∀ T lc, Hp Z T.heap L → Stand p l e R s m args below meth c T lc k n → ∀ target, Steps p.tables e below (T.setTop g') target → Steps p.tables e below (T.setTop g) target) : Go wd EL p l e R Z s m args below meth c Q L k n g := by
  intro vm T lc F B I S
  obtain ⟨u, o, st, r⟩ := K vm T lc F B I S
  exact ⟨u, o, f _ (X.re B) T lc I.1 S u st, r⟩
theorem Go.cast {g g' : JFrame} (q : g = g') (K : Go wd EL p l e R Z s m args below meth c Q L k n g') : Go wd EL p l e R Z s m args below meth c Q L k n g := q ▸ K
theorem Go.perm {g : JFrame} (q : L.Perm L') (K : Go wd EL p l e R Z s m args below meth c Q L' k n g) : Go wd EL p l e R Z s m args below meth c Q L k n g := fun vm T lc F B I S => K vm T lc F B (I.perm q) S
theorem Go.weak {g : JFrame} {P P' : Cell → Prop} {f : Bool} (hi : L[i]? = some (a, P, f)) (hP : ∀ c, P c → P' c) (K : Go wd EL p l e R Z s m args below meth c Q (updL L i (a, P', f)) k n g) : Go wd EL p l e R Z s m args below meth c Q L k n g := fun vm T lc F B I S => K vm T lc F B (I.weak hi hP) S
theorem Go.drop {g : JFrame} {x : Ent} (K : Go wd EL p l e R Z s m args below meth c Q L k n g) : Go wd EL p l e R Z s m args below meth c Q (x :: L) k n g := fun vm T lc F B I S => K vm T lc F B I.drop S
/-- a fact of every heap that L describes -/
theorem Go.fact {g : JFrame} {A : Prop} (f : ∀ h, Hp Z h L → A) (K : A → Go wd EL p l e R Z s m args below meth c Q L k n g) : Go wd EL p l e R Z s m args below meth c Q L k n g := fun vm T lc F B I S => K (f _ I.1) vm T lc F B I S
theorem Go.book {g : JFrame} {k' n' : Nat} (hk : k ≤ k') (hn : n ≤ n') (K : Go wd EL p l e R Z s m args below meth c Q L k' n' g) : Go wd EL p l e R Z s m args below meth c Q L k n g := fun vm T lc F B I S => K vm T lc F B I (S.mono hk hn)
/-! ### plain steps -/
theorem Go.iloadN (X : Cx wd EL p Z s m meth c own nm code ml ret) {i : Fin 4} {v : Int32} (D : D1 code pc (.iload_n i) 1 pc') (hl : Ls[i.val]? = some (.val (.int v))) (K : Go wd EL p l e R Z s m args below meth c Q L k n (mkF m pc' Ls (.int v :: st))) : Go wd EL p l e R Z s m args below meth c Q L k n (mkF m pc Ls st) := by
  obtain ⟨d, rfl⟩ := D
  exact K.to X fun s X T lc H S t r => XS.iloadN S.here X.1 rfl (hb X.2.2.2.1 d) hl r
theorem Go.iload (X : Cx wd EL p Z s m meth c own nm code ml ret) {i : Nat} {v : Int32} (D : D1 code pc (.iload i) 2 pc') (hl : Ls[i]? = some (.val (.int v))) (K : Go wd EL p l e R Z s m args below meth c Q L k n (mkF m pc' Ls (.int v :: st))) : Go wd EL p l e R Z s m args below meth c Q L k n (mkF m pc Ls st) := by
  obtain ⟨d, rfl⟩ := D
  exact K.to X fun s X T lc H S t r => XS.iload S.here X.1 rfl (hb X.2.2.2.1 d) hl r
theorem Go.aloadN (X : Cx wd EL p Z s m meth c own nm code ml ret) {i : Fin 4} {v : Value} (D : D1 code pc (.aload_n i) 1 pc') (hl : Ls[i.val]? = some (.val v)) (hv : v.isRef = true) (K : Go wd EL p l e R Z s m args below meth c Q L k n (mkF m pc' Ls (v :: st))) : Go wd EL p l e R Z s m args below meth c Q L k n (mkF m pc Ls st) := by
  obtain ⟨d, rfl⟩ := D
  exact K.to X fun s X T lc H S t r => XS.aloadN S.here X.1 rfl (hb X.2.2.2.1 d) hl hv r
theorem Go.aload (X : Cx wd EL p Z s m meth c own nm code ml ret) {i : Nat} {v : Value} (D : D1 code pc (.aload i) 2 pc') (hl : Ls[i]? = some (.val v)) (hv : v.isRef = true) (K : Go wd EL p l e R Z s m args below meth c Q L k n (mkF m pc' Ls (v :: st))) : Go wd EL p l e R Z s m args below meth c Q L k n (mkF m pc Ls st) := by
  obtain ⟨d, rfl⟩ := D
  exact K.to X fun s X T lc H S t r => XS.aload S.here X.1 rfl (hb X.2.2.2.1 d) hl hv r
theorem Go.floadN (X : Cx wd EL p Z s m meth c own nm code ml ret) {i : Fin 4} {v : UInt32} (D : D1 code pc (.fload_n i) 1 pc') (hl : Ls[i.val]? = some (.val (.float v))) (K : Go wd EL p l e R Z s m args below meth c Q L k n (mkF m pc' Ls (.float v :: st))) : Go wd EL p l e R Z s m args below meth c Q L k n (mkF m pc Ls st) := by
  obtain ⟨d, rfl⟩ := D
  exact K.to X fun s X T lc H S t r => XS.floadN S.here X.1 rfl (hb X.2.2.2.1 d) hl r
theorem Go.iconst (X : Cx wd EL p Z s m meth c own nm code ml ret) {i : Int} {v : Int32} (D : D1 code pc (.iconst i) 1 pc') (hv : Int32.ofInt i = v) (K : Go wd EL p l e R Z s m args below meth c Q L k n (mkF m pc' Ls (.int v :: st))) : Go wd EL p l e R Z s m args below meth c Q L k n (mkF m pc Ls st) := by
  obtain ⟨d, rfl⟩ := D; subst hv
  exact K.to X fun s X T lc H S t r => XS.iconst S.here X.1 rfl (hb X.2.2.2.1 d) r
theorem Go.bipush (X : Cx wd EL p Z s m meth c own nm code ml ret) {i : Int} {v : Int32} (D : D1 code pc (.bipush i) 2 pc') (hv : (Int8.ofInt i).toInt32 = v) (K : Go wd EL p l e R Z s m args below meth c Q L k n (mkF m pc' Ls (.int v :: st))) : Go wd EL p l e R Z s m args below meth c Q L k n (mkF m pc Ls st) := by
  obtain ⟨d, rfl⟩ := D; subst hv
  exact K.to X fun s X T lc H S t r => XS.bipush S.here X.1 rfl (hb X.2.2.2.1 d) r
theorem Go.sipush (X : Cx wd EL p Z s m meth c own nm code ml ret) {i : Int} {v : Int32} (D : D1 code pc (.sipush i) 3 pc') (hv : (Int16.ofInt i).toInt32 = v) (K : Go wd EL p l e R Z s m args below meth c Q L k n (mkF m pc' Ls (.int v :: st))) : Go wd EL p l e R Z s m args below meth c Q L k n (mkF m pc Ls st) := by
  obtain ⟨d, rfl⟩ := D; subst hv
  exact K.to X fun s X T lc H S t r => XS.sipush S.here X.1 rfl (hb X.2.2.2.1 d) r
theorem Go.ldcI (X : Cx wd EL p Z s m meth c own nm code ml ret) {i : Nat} {v : Int32} (w : (Cond.constant own i v).before a0 Z = true) (D : D1 code pc (.ldc i) 2 pc')  (K : Go wd EL p l e R Z s m args below meth c Q L k n (mkF m pc' Ls (.int v :: st))) : Go wd EL p l e R Z s m args below meth c Q L k n (mkF m pc Ls st) := by
  obtain ⟨d, rfl⟩ := D
  exact K.to X fun s X T lc H S t r => S.ldcI X.1 X.2.2.1 (mv X.2.1 w) rfl (hb X.2.2.2.1 d) r
theorem Go.aconstNull (X : Cx wd EL p Z s m meth c own nm code ml ret)  (D : D1 code pc (.aconst_null) 1 pc')  (K : Go wd EL p l e R Z s m args below meth c Q L k n (mkF m pc' Ls (.null :: st))) : Go wd EL p l e R Z s m args below meth c Q L k n (mkF m pc Ls st) := by
  obtain ⟨d, rfl⟩ := D
  exact K.to X fun s X T lc H S t r => XS.aconstNull S.here X.1 rfl (hb X.2.2.2.1 d) r
theorem Go.istoreN (X : Cx wd EL p Z s m meth c own nm code ml ret) {i : Fin 4} {x : Int32} {L2 : Array Slot} (D : D1 code pc (.istore_n i) 1 pc') (hl : storeLocals Ls i.val (.int x) = some L2) (K : Go wd EL p l e R Z s m args below meth c Q L k n (mkF m pc' L2 st)) : Go wd EL p l e R Z s m args below meth c Q L k n (mkF m pc Ls (.int x :: st)) := by
  obtain ⟨d, rfl⟩ := D
  exact K.to X fun s X T lc H S t r => XS.istoreN S.here X.1 rfl (hb X.2.2.2.1 d) rfl hl r
theorem Go.istore (X : Cx wd EL p Z s m meth c own nm code ml ret) {i : Nat} {x : Int32} {L2 : Array Slot} (D : D1 code pc (.istore i) 2 pc') (hl : storeLocals Ls i (.int x) = some L2) (K : Go wd EL p l e R Z s m args below meth c Q L k n (mkF m pc' L2 st)) : Go wd EL p l e R Z s m args below meth c Q L k n (mkF m pc Ls (.int x :: st)) := by
  obtain ⟨d, rfl⟩ := D
  exact K.to X fun s X T lc H S t r => XS.istore S.here X.1 rfl (hb X.2.2.2.1 d) rfl hl r
theorem Go.astoreN (X : Cx wd EL p Z s m meth c own nm code ml ret) {i : Fin 4} {x : Value} {L2 : Array Slot} (D : D1 code pc (.astore_n i) 1 pc') (hv : x.isRef = true) (hl : storeLocals Ls i.val x = some L2) (K : Go wd EL p l e R Z s m args below meth c Q L k n (mkF m pc' L2 st)) : Go wd EL p l e R Z s m args below meth c Q L k n (mkF m pc Ls (x :: st)) := by
  obtain ⟨d, rfl⟩ := D
  exact K.to X fun s X T lc H S t r => XS.astoreN S.here X.1 rfl (hb X.2.2.2.1 d) rfl hv hl r
theorem Go.astore (X : Cx wd EL p Z s m meth c own nm code ml ret) {i : Nat} {x : Value} {L2 : Array Slot} (D : D1 code pc (.astore i) 2 pc') (hv : x.isRef = true) (hl : storeLocals Ls i x = some L2) (K : Go wd EL p l e R Z s m args below meth c Q L k n (mkF m pc' L2 st)) : Go wd EL p l e R Z s m args below meth c Q L k n (mkF m pc Ls (x :: st)) := by
  obtain ⟨d, rfl⟩ := D
  exact K.to X fun s X T lc H S t r => XS.astore S.here X.1 rfl (hb X.2.2.2.1 d) rfl hv hl r
theorem Go.fstore (X : Cx wd EL p Z s m meth c own nm code ml ret) {i : Nat} {x : UInt32} {L2 : Array Slot} (D : D1 code pc (.fstore i) 2 pc') (hl : storeLocals Ls i (.float x) = some L2) (K : Go wd EL p l e R Z s m args below meth c Q L k n (mkF m pc' L2 st)) : Go wd EL p l e R Z s m args below meth c Q L k n (mkF m pc Ls (.float x :: st)) := by
  obtain ⟨d, rfl⟩ := D
  exact K.to X fun s X T lc H S t r => XS.fstore S.here X.1 rfl (hb X.2.2.2.1 d) rfl hl r
theorem Go.fload (X : Cx wd EL p Z s m meth c own nm code ml ret) {i : Nat} {v : UInt32} (D : D1 code pc (.fload i) 2 pc') (hl : Ls[i]? = some (.val (.float v))) (K : Go wd EL p l e R Z s m args below meth c Q L k n (mkF m pc' Ls (.float v :: st))) : Go wd EL p l e R Z s m args below meth c Q L k n (mkF m pc Ls st) := by
  obtain ⟨d, rfl⟩ := D
  exact K.to X fun s X T lc H S t r => XS.fload S.here X.1 rfl (hb X.2.2.2.1 d) hl r
theorem Go.iinc (X : Cx wd EL p Z s m meth c own nm code ml ret) {i : Nat} {cst : Int} {x : Int32} {L2 : Array Slot} (D : D1 code pc (.iinc i cst) 3 pc') (hl : Ls[i]? = some (.val (.int x))) (hl' : storeLocals Ls i (.int (x + Int32.ofInt cst)) = some L2) (K : Go wd EL p l e R Z s m args below meth c Q L k n (mkF m pc' L2 st)) : Go wd EL p l e R Z s m args below meth c Q L k n (mkF m pc Ls st) := by
  obtain ⟨d, rfl⟩ := D
  exact K.to X fun s X T lc H S t r => XS.iinc S.here X.1 rfl (hb X.2.2.2.1 d) hl hl' r
theorem Go.dup (X : Cx wd EL p Z s m meth c own nm code ml ret) {x : Value} (D : D1 code pc (.dup) 1 pc') (hc : x.category = 1) (K : Go wd EL p l e R Z s m args below meth c Q L k n (mkF m pc' Ls (x :: x :: st))) : Go wd EL p l e R Z s m args below meth c Q L k n (mkF m pc Ls (x :: st)) := by
  obtain ⟨d, rfl⟩ := D
  exact K.to X fun s X T lc H S t r => XS.dup S.here X.1 rfl (hb X.2.2.2.1 d) rfl hc r
theorem Go.dupX1 (X : Cx wd EL p Z s m meth c own nm code ml ret) {x y : Value} (D : D1 code pc (.dup_x1) 1 pc') (hc : x.category = 1) (hc' : y.category = 1) (K : Go wd EL p l e R Z s m args below meth c Q L k n (mkF m pc' Ls (x :: y :: x :: st))) : Go wd EL p l e R Z s m args below meth c Q L k n (mkF m pc Ls (x :: y :: st)) := by
  obtain ⟨d, rfl⟩ := D
  exact K.to X fun s X T lc H S t r => XT.dupX1 S.here X.1 rfl (hb X.2.2.2.1 d) rfl hc hc' r
theorem Go.dup2 (X : Cx wd EL p Z s m meth c own nm code ml ret) {x y : Value} (D : D1 code pc (.dup2) 1 pc') (hc : x.category = 1) (hc' : y.category = 1) (K : Go wd EL p l e R Z s m args below meth c Q L k n (mkF m pc' Ls (x :: y :: x :: y :: st))) : Go wd EL p l e R Z s m args below meth c Q L k n (mkF m pc Ls (x :: y :: st)) := by
  obtain ⟨d, rfl⟩ := D
  exact K.to X fun s X T lc H S t r => XT.dup2 S.here X.1 rfl (hb X.2.2.2.1 d) rfl hc hc' r
theorem Go.pop (X : Cx wd EL p Z s m meth c own nm code ml ret) {x : Value} (D : D1 code pc (.pop) 1 pc') (hc : x.category = 1) (K : Go wd EL p l e R Z s m args below meth c Q L k n (mkF m pc' Ls st)) : Go wd EL p l e R Z s m args below meth c Q L k n (mkF m pc Ls (x :: st)) := by
  obtain ⟨d, rfl⟩ := D
  exact K.to X fun s X T lc H S t r => XT.pop S.here X.1 rfl (hb X.2.2.2.1 d) rfl hc r
theorem Go.iadd (X : Cx wd EL p Z s m meth c own nm code ml ret) {x y : Int32} (D : D1 code pc (.iadd) 1 pc')  (K : Go wd EL p l e R Z s m args below meth c Q L k n (mkF m pc' Ls (.int (x + y) :: st))) : Go wd EL p l e R Z s m args below meth c Q L k n (mkF m pc Ls (.int y :: .int x :: st)) := by
  obtain ⟨d, rfl⟩ := D
  exact K.to X fun s X T lc H S t r => XS.iadd S.here X.1 rfl (hb X.2.2.2.1 d) rfl r
theorem Go.isub (X : Cx wd EL p Z s m meth c own nm code ml ret) {x y : Int32} (D : D1 code pc (.isub) 1 pc')  (K : Go wd EL p l e R Z s m args below meth c Q L k n (mkF m pc' Ls (.int (x - y) :: st))) : Go wd EL p l e R Z s m args below meth c Q L k n (mkF m pc Ls (.int y :: .int x :: st)) := by
  obtain ⟨d, rfl⟩ := D
  exact K.to X fun s X T lc H S t r => XS.isub S.here X.1 rfl (hb X.2.2.2.1 d) rfl r
theorem Go.imul (X : Cx wd EL p Z s m meth c own nm code ml ret) {x y : Int32} (D : D1 code pc (.imul) 1 pc')  (K : Go wd EL p l e R Z s m args below meth c Q L k n (mkF m pc' Ls (.int (x * y) :: st))) : Go wd EL p l e R Z s m args below meth c Q L k n (mkF m pc Ls (.int y :: .int x :: st)) := by
  obtain ⟨d, rfl⟩ := D
  exact K.to X fun s X T lc H S t r => XS.imul S.here X.1 rfl (hb X.2.2.2.1 d) rfl r
theorem Go.iand (X : Cx wd EL p Z s m meth c own nm code ml ret) {x y : Int32} (D : D1 code pc (.iand) 1 pc')  (K : Go wd EL p l e R Z s m args below meth c Q L k n (mkF m pc' Ls (.int (x &&& y) :: st))) : Go wd EL p l e R Z s m args below meth c Q L k n (mkF m pc Ls (.int y :: .int x :: st)) := by
  obtain ⟨d, rfl⟩ := D
  exact K.to X fun s X T lc H S t r => XS.iand S.here X.1 rfl (hb X.2.2.2.1 d) rfl r
theorem Go.ior (X : Cx wd EL p Z s m meth c own nm code ml ret) {x y : Int32} (D : D1 code pc (.ior) 1 pc')  (K : Go wd EL p l e R Z s m args below meth c Q L k n (mkF m pc' Ls (.int (x ||| y) :: st))) : Go wd EL p l e R Z s m args below meth c Q L k n (mkF m pc Ls (.int y :: .int x :: st)) := by
  obtain ⟨d, rfl⟩ := D
  exact K.to X fun s X T lc H S t r => XT.ior S.here X.1 rfl (hb X.2.2.2.1 d) rfl r
theorem Go.ixor (X : Cx wd EL p Z s m meth c own nm code ml ret) {x y : Int32} (D : D1 code pc (.ixor) 1 pc')  (K : Go wd EL p l e R Z s m args below meth c Q L k n (mkF m pc' Ls (.int (x ^^^ y) :: st))) : Go wd EL p l e R Z s m args below meth c Q L k n (mkF m pc Ls (.int y :: .int x :: st)) := by
  obtain ⟨d, rfl⟩ := D
  exact K.to X fun s X T lc H S t r => XT.ixor S.here X.1 rfl (hb X.2.2.2.1 d) rfl r
theorem Go.ishl (X : Cx wd EL p Z s m meth c own nm code ml ret) {x y : Int32} (D : D1 code pc (.ishl) 1 pc')  (K : Go wd EL p l e R Z s m args below meth c Q L k n (mkF m pc' Ls (.int (x <<< (y &&& 31)) :: st))) : Go wd EL p l e R Z s m args below meth c Q L k n (mkF m pc Ls (.int y :: .int x :: st)) := by
  obtain ⟨d, rfl⟩ := D
  exact K.to X fun s X T lc H S t r => XT.ishl S.here X.1 rfl (hb X.2.2.2.1 d) rfl r
theorem Go.ishr (X : Cx wd EL p Z s m meth c own nm code ml ret) {x y : Int32} (D : D1 code pc (.ishr) 1 pc')  (K : Go wd EL p l e R Z s m args below meth c Q L k n (mkF m pc' Ls (.int (x >>> (y &&& 31)) :: st))) : Go wd EL p l e R Z s m args below meth c Q L k n (mkF m pc Ls (.int y :: .int x :: st)) := by
  obtain ⟨d, rfl⟩ := D
  exact K.to X fun s X T lc H S t r => XT.ishr S.here X.1 rfl (hb X.2.2.2.1 d) rfl r
theorem Go.iushr (X : Cx wd EL p Z s m meth c own nm code ml ret) {x y : Int32} (D : D1 code pc (.iushr) 1 pc')  (K : Go wd EL p l e R Z s m args below meth c Q L k n (mkF m pc' Ls (.int (XT.ushr x y) :: st))) : Go wd EL p l e R Z s m args below meth c Q L k n (mkF m pc Ls (.int y :: .int x :: st)) := by
  obtain ⟨d, rfl⟩ := D
  exact K.to X fun s X T lc H S t r => XT.iushr S.here X.1 rfl (hb X.2.2.2.1 d) rfl r
theorem Go.irem (X : Cx wd EL p Z s m meth c own nm code ml ret) {x y : Int32} (D : D1 code pc (.irem) 1 pc') (hy : y ≠ 0) (K : Go wd EL p l e R Z s m args below meth c Q L k n (mkF m pc' Ls (.int (x % y) :: st))) : Go wd EL p l e R Z s m args below meth c Q L k n (mkF m pc Ls (.int y :: .int x :: st)) := by
  obtain ⟨d, rfl⟩ := D
  exact K.to X fun s X T lc H S t r => iremM S X.1 rfl (hb X.2.2.2.1 d) rfl hy r
theorem Go.ineg (X : Cx wd EL p Z s m meth c own nm code ml ret) {x : Int32} (D : D1 code pc (.ineg) 1 pc')  (K : Go wd EL p l e R Z s m args below meth c Q L k n (mkF m pc' Ls (.int (-x) :: st))) : Go wd EL p l e R Z s m args below meth c Q L k n (mkF m pc Ls (.int x :: st)) := by
  obtain ⟨d, rfl⟩ := D
  exact K.to X fun s X T lc H S t r => XS.ineg S.here X.1 rfl (hb X.2.2.2.1 d) rfl r
theorem Go.i2c (X : Cx wd EL p Z s m meth c own nm code ml ret) {x : Int32} (D : D1 code pc (.i2c) 1 pc')  (K : Go wd EL p l e R Z s m args below meth c Q L k n (mkF m pc' Ls (.int (x.toUInt32.toUInt16.toUInt32.toInt32) :: st))) : Go wd EL p l e R Z s m args below meth c Q L k n (mkF m pc Ls (.int x :: st)) := by
  obtain ⟨d, rfl⟩ := D
  exact K.to X fun s X T lc H S t r => XT.i2c S.here X.1 rfl (hb X.2.2.2.1 d) rfl r
theorem Go.i2b (X : Cx wd EL p Z s m meth c own nm code ml ret) {x : Int32} (D : D1 code pc (.i2b) 1 pc')  (K : Go wd EL p l e R Z s m args below meth c Q L k n (mkF m pc' Ls (.int (x.toInt8.toInt32) :: st))) : Go wd EL p l e R Z s m args below meth c Q L k n (mkF m pc Ls (.int x :: st)) := by
  obtain ⟨d, rfl⟩ := D
  exact K.to X fun s X T lc H S t r => XT.i2b S.here X.1 rfl (hb X.2.2.2.1 d) rfl r
theorem Go.goto (X : Cx wd EL p Z s m meth c own nm code ml ret) {o : Int} {pt : Nat} (D : D1 code pc (.goto o) 3 pc') (ho : 0 ≤ (pc : Int) + o ∧ ((pc : Int) + o).toNat = pt) (K : Go wd EL p l e R Z s m args below meth c Q L k n (mkF m pt Ls st)) : Go wd EL p l e R Z s m args below meth c Q L k n (mkF m pc Ls st) := by
  obtain ⟨d, rfl⟩ := D
  exact K.to X fun s X T lc H S t r => XS.goto S.here X.1 rfl rfl (hb X.2.2.2.1 d) ho.1 ho.2 r
theorem Go.ifnullY (X : Cx wd EL p Z s m meth c own nm code ml ret) {o : Int} {pt : Nat} (D : D1 code pc (.ifnull o) 3 pc') (ho : 0 ≤ (pc : Int) + o ∧ ((pc : Int) + o).toNat = pt) (K : Go wd EL p l e R Z s m args below meth c Q L k n (mkF m pt Ls st)) : Go wd EL p l e R Z s m args below meth c Q L k n (mkF m pc Ls (.null :: st)) := by
  obtain ⟨d, rfl⟩ := D
  exact K.to X fun s X T lc H S t r => XS.ifnullYes S.here X.1 rfl rfl (hb X.2.2.2.1 d) rfl ho.1 ho.2 r
theorem Go.ifnullN (X : Cx wd EL p Z s m meth c own nm code ml ret) {o : Int} {b : Addr} (D : D1 code pc (.ifnull o) 3 pc')  (K : Go wd EL p l e R Z s m args below meth c Q L k n (mkF m pc' Ls st)) : Go wd EL p l e R Z s m args below meth c Q L k n (mkF m pc Ls (.ref b :: st)) := by
  obtain ⟨d, rfl⟩ := D
  exact K.to X fun s X T lc H S t r => XS.ifnullNo S.here X.1 rfl (hb X.2.2.2.1 d) rfl r
theorem Go.ifnonnullY (X : Cx wd EL p Z s m meth c own nm code ml ret) {o : Int} {pt : Nat} {b : Addr} (D : D1 code pc (.ifnonnull o) 3 pc') (ho : 0 ≤ (pc : Int) + o ∧ ((pc : Int) + o).toNat = pt) (K : Go wd EL p l e R Z s m args below meth c Q L k n (mkF m pt Ls st)) : Go wd EL p l e R Z s m args below meth c Q L k n (mkF m pc Ls (.ref b :: st)) := by
  obtain ⟨d, rfl⟩ := D
  exact K.to X fun s X T lc H S t r => XT.ifnonnullYes S.here X.1 rfl rfl (hb X.2.2.2.1 d) rfl ho.1 ho.2 r
theorem Go.ifnonnullN (X : Cx wd EL p Z s m meth c own nm code ml ret) {o : Int} (D : D1 code pc (.ifnonnull o) 3 pc')  (K : Go wd EL p l e R Z s m args below meth c Q L k n (mkF m pc' Ls st)) : Go wd EL p l e R Z s m args below meth c Q L k n (mkF m pc Ls (.null :: st)) := by
  obtain ⟨d, rfl⟩ := D
  exact K.to X fun s X T lc H S t r => XT.ifnonnullNo S.here X.1 rfl (hb X.2.2.2.1 d) rfl r
/-! ### branches -/
def ccP (cd : ClassFile.Cond) (x y : Int32) : Prop := match cd with
  | .eq => x = y | .ne => x ≠ y | .lt => x < y | .ge => y ≤ x | .gt => y < x | .le => x ≤ y
theorem cc_icmp (cd : ClassFile.Cond) (x y : Int32) : if_icmp.holds cd x y = true ↔ ccP cd x y := by cases cd <;> simp [if_icmp.holds, ccP]
theorem cc_if (cd : ClassFile.Cond) (x : Int32) : ifCond.holds cd x = true ↔ ccP cd x 0 := by cases cd <;> simp [ifCond.holds, ccP]
def ccI (cd : ClassFile.Cond) (x y : Int) : Prop := match cd with
  | .eq => x = y | .ne => x ≠ y | .lt => x < y | .ge => y ≤ x | .gt => y < x | .le => x ≤ y
theorem cc_int (cd : ClassFile.Cond) (x y : Int32) : ccP cd x y ↔ ccI cd x.toInt y.toInt := by cases cd <;> simp only [ccP, ccI, Int32.lt_iff_toInt_lt, Int32.le_iff_toInt_le, ne_eq, Int32.toInt_inj]
theorem ccL {cd : ClassFile.Cond} {x y : Int32} {a b : Int} (q : ccP cd x y) (hx : x.toInt = a) (hy : y.toInt = b) : ccI cd a b := by subst hx hy; exact (cc_int cd x y).mp q
theorem ccN {cd : ClassFile.Cond} {x y : Int32} {a b : Int} (q : ¬ ccP cd x y) (hx : x.toInt = a) (hy : y.toInt = b) : ¬ ccI cd a b := by subst hx hy; exact fun r => q ((cc_int cd x y).mpr r)
theorem ite_0 {P : Prop} [Decidable P] (q : ccP .eq (if P then 1 else 0 : Int32) 0) : ¬ P := fun r => by rw [if_pos r] at q; exact absurd q (by show ¬ (1 : Int32) = 0; decide)
theorem ite_n0 {P : Prop} [Decidable P] (q : ¬ ccP .eq (if P then 1 else 0 : Int32) 0) : P := Decidable.byContradiction fun r => q (by rw [if_neg r]; rfl)
theorem ite_1 {P : Prop} [Decidable P] (q : ccP .ne (if P then 1 else 0 : Int32) 0) : P := Decidable.byContradiction fun r => q (by rw [if_neg r])
theorem ite_n1 {P : Prop} [Decidable P] (q : ¬ ccP .ne (if P then 1 else 0 : Int32) 0) : ¬ P := fun r => q (by rw [if_pos r]; show (1 : Int32) ≠ 0; decide)
theorem ite_01 {P : Prop} [Decidable P] : (if P then 1 else 0 : Int32) = 0 ∨ (if P then 1 else 0 : Int32) = 1 := by by_cases q : P <;> simp [q]
theorem ite_c {P Q : Prop} [Decidable P] [Decidable Q] (h : P ↔ Q) : (if P then 1 else 0 : Int32) = if Q then 1 else 0 := by by_cases q : P <;> simp [q, h.symm] <;> simp_all
theorem nat32 {i : Nat} (q : i < 2 ^ 31) : (Int32.ofNat i).toInt = i ∧ ¬ Int32.ofNat i < 0 ∧ (Int32.ofNat i).toNatClampNeg = i := by
  have e : (Int32.ofNat i).toInt = i := Int32.toInt_ofNat_small q
  refine ⟨e, ?_, ?_⟩
  · rw [Int32.lt_iff_toInt_lt, e, show (0 : Int32).toInt = 0 from rfl]; omega
  · simp only [Int32.toNatClampNeg, e]; rfl
theorem Go.icmp (X : Cx wd EL p Z s m meth c own nm code ml ret) {cd : ClassFile.Cond} {o : Int} {pt : Nat} {x y : Int32} (D : D1 code pc (.if_icmp cd o) 3 pc') (ho : 0 ≤ (pc : Int) + o ∧ ((pc : Int) + o).toNat = pt) (K1 : ccP cd x y → Go wd EL p l e R Z s m args below meth c Q L k n (mkF m pt Ls st)) (K2 : ¬ ccP cd x y → Go wd EL p l e R Z s m args below meth c Q L k n (mkF m pc' Ls st)) : Go wd EL p l e R Z s m args below meth c Q L k n (mkF m pc Ls (.int y :: .int x :: st)) := by
  obtain ⟨d, rfl⟩ := D
  cases hq : if_icmp.holds cd x y
  · exact (K2 fun q => by rw [(cc_icmp cd x y).mpr q] at hq; cases hq).to X fun s X T lc H S t r => XS.icmpNo S.here X.1 rfl (hb X.2.2.2.1 d) rfl hq r
  · exact (K1 ((cc_icmp cd x y).mp hq)).to X fun s X T lc H S t r => XS.icmpYes S.here X.1 rfl rfl (hb X.2.2.2.1 d) rfl hq ho.1 ho.2 r
theorem Go.ifc (X : Cx wd EL p Z s m meth c own nm code ml ret) {cd : ClassFile.Cond} {o : Int} {pt : Nat} {x : Int32} (D : D1 code pc (.ifCond cd o) 3 pc') (ho : 0 ≤ (pc : Int) + o ∧ ((pc : Int) + o).toNat = pt) (K1 : ccP cd x 0 → Go wd EL p l e R Z s m args below meth c Q L k n (mkF m pt Ls st)) (K2 : ¬ ccP cd x 0 → Go wd EL p l e R Z s m args below meth c Q L k n (mkF m pc' Ls st)) : Go wd EL p l e R Z s m args below meth c Q L k n (mkF m pc Ls (.int x :: st)) := by
  obtain ⟨d, rfl⟩ := D
  cases hq : ifCond.holds cd x
  · exact (K2 fun q => by rw [(cc_if cd x).mpr q] at hq; cases hq).to X fun s X T lc H S t r => XS.ifNo S.here X.1 rfl (hb X.2.2.2.1 d) rfl hq r
  · exact (K1 ((cc_if cd x).mp hq)).to X fun s X T lc H S t r => XS.ifYes S.here X.1 rfl rfl (hb X.2.2.2.1 d) rfl hq ho.1 ho.2 r
def acP (cd : ACond) (x y : Value) : Prop := match cd with | .eq => x = y | .ne => x ≠ y
theorem ac_iff (cd : ACond) (x y : Value) : acV cd (decide (x = y)) = true ↔ acP cd x y := by cases cd <;> simp [acV, acP]
theorem Go.acmp (X : Cx wd EL p Z s m meth c own nm code ml ret) {cd : ACond} {o : Int} {pt : Nat} {x y : Value} (D : D1 code pc (.if_acmp cd o) 3 pc') (ho : 0 ≤ (pc : Int) + o ∧ ((pc : Int) + o).toNat = pt) (hx : x.isRef = true) (hy : y.isRef = true) (K1 : acP cd x y → Go wd EL p l e R Z s m args below meth c Q L k n (mkF m pt Ls st)) (K2 : ¬ acP cd x y → Go wd EL p l e R Z s m args below meth c Q L k n (mkF m pc' Ls st)) : Go wd EL p l e R Z s m args below meth c Q L k n (mkF m pc Ls (y :: x :: st)) := by
  obtain ⟨d, rfl⟩ := D
  cases hq : acV cd (decide (x = y))
  · exact (K2 fun q => by rw [(ac_iff cd x y).mpr q] at hq; cases hq).to X fun s X T lc H S t r => RoadKit.acmp S X.1 rfl hx hy rfl (hb X.2.2.2.1 d) rfl rfl ho.1 (by rw [hq]; rfl) r
  · exact (K1 ((ac_iff cd x y).mp hq)).to X fun s X T lc H S t r => RoadKit.acmp S X.1 rfl hx hy rfl (hb X.2.2.2.1 d) rfl rfl ho.1 (by rw [hq]; exact ho.2.symm) r
theorem Go.lswY (X : Cx wd EL p Z s m meth c own nm code ml ret) {dflt : Int} {pairs : Array (Int × Int)} {len : Nat} {x : Int32} {a off : Int} {pt : Nat} (D : D1 code pc (.lookupswitch dflt pairs) len pc') (hs : (pairs.toList.zip (pairs.toList.drop 1)).all (fun (a, next) => a.1 < next.1) = true) (hf : pairs.find? (·.1 == x.toInt) = some (a, off)) (ho : 0 ≤ (pc : Int) + off ∧ ((pc : Int) + off).toNat = pt) (K : Go wd EL p l e R Z s m args below meth c Q L k n (mkF m pt Ls st)) : Go wd EL p l e R Z s m args below meth c Q L k n (mkF m pc Ls (.int x :: st)) := by
  obtain ⟨d, rfl⟩ := D
  exact K.to X fun s X T lc H S t r => S.lookupswitchHit X.1 (g := mkF m pc Ls (.int x :: st)) rfl rfl (hb X.2.2.2.1 d) hs hf ho.1 t (by show Steps _ _ _ (T.setTop (mkF m ((pc : Int) + off).toNat Ls st)) _; rw [ho.2]; exact r)
theorem Go.lswN (X : Cx wd EL p Z s m meth c own nm code ml ret) {dflt : Int} {pairs : Array (Int × Int)} {len : Nat} {x : Int32} {pt : Nat} (D : D1 code pc (.lookupswitch dflt pairs) len pc') (hs : (pairs.toList.zip (pairs.toList.drop 1)).all (fun (a, next) => a.1 < next.1) = true) (hf : pairs.find? (·.1 == x.toInt) = none) (ho : 0 ≤ (pc : Int) + dflt ∧ ((pc : Int) + dflt).toNat = pt) (K : Go wd EL p l e R Z s m args below meth c Q L k n (mkF m pt Ls st)) : Go wd EL p l e R Z s m args below meth c Q L k n (mkF m pc Ls (.int x :: st)) := by
  obtain ⟨d, rfl⟩ := D
  exact K.to X fun s X T lc H S t r => S.lookupswitchMiss X.1 (g := mkF m pc Ls (.int x :: st)) rfl rfl (hb X.2.2.2.1 d) hs hf ho.1 t (by show Steps _ _ _ (T.setTop (mkF m ((pc : Int) + dflt).toNat Ls st)) _; rw [ho.2]; exact r)
theorem Go.tswY (X : Cx wd EL p Z s m meth c own nm code ml ret) {dflt low high : Int} {offs : Array Int} {len : Nat} {x : Int32} {off : Int} {pt : Nat} (D : D1 code pc (.tableswitch dflt low high offs) len pc') (hin : ¬ (x.toInt < low ∨ x.toInt > high)) (hf : offs[(x.toInt - low).toNat]? = some off) (ho : 0 ≤ (pc : Int) + off ∧ ((pc : Int) + off).toNat = pt) (K : Go wd EL p l e R Z s m args below meth c Q L k n (mkF m pt Ls st)) : Go wd EL p l e R Z s m args below meth c Q L k n (mkF m pc Ls (.int x :: st)) := by
  obtain ⟨d, rfl⟩ := D
  exact K.to X fun s X T lc H S t r => S.tableswitchIn X.1 (g := mkF m pc Ls (.int x :: st)) rfl rfl (hb X.2.2.2.1 d) hin hf ho.1 t (by show Steps _ _ _ (T.setTop (mkF m ((pc : Int) + off).toNat Ls st)) _; rw [ho.2]; exact r)
/-! ### returns -/
theorem Go.retw {t : FieldType} (X : Cx wd EL p Z s m meth c own nm code ml (some t)) {i : Instr} {w : Value} {Qv : Value → List Ent → Prop} (hn : narrow t w = w)
    (hi : (i = .ireturn ∧ (t = .int ∨ t = .boolean ∨ t = .byte ∨ t = .char ∨ t = .short) ∧ ∃ z, w = .int z) ∨ (i = .lreturn ∧ t = .long ∧ ∃ z, w = .long z) ∨ (i = .dreturn ∧ t = .double ∧ ∃ z, w = .double z) ∨ (i = .freturn ∧ t = .float ∧ ∃ z, w = .float z) ∨ (i = .areturn ∧ t.isReference = true ∧ w.isRef = true))
    (D : D1 code pc i 1 pc') (hk : k ≤ R.cells) (hs : n ≤ R.slots) (q : Qv w L) : Go wd EL p l e R Z s m args below meth c (rvQ Qv) L k n (mkF m pc Ls (w :: st)) := by
  intro vm T lc F B I S
  replace X := X.re B
  have hlk : meth.locks = false := X.2.2.2.2.2.2.1
  obtain ⟨fs, hr, hrun, hended, hW, hsame⟩ := S.leave (v := some w) (fun z => by rw [X.2.2.2.2.2.1] at z; cases z) hlk
  exact ⟨_, _, retOut S X.1 X.2.2.2.2.2.1 hn hi (hb X.2.2.2.1 D.1) hr, hrun, hended, some w, L, lc, rfl, ⟨w, rfl, q⟩, I.now X S, F, B.ended ⟨_, rfl⟩ hW (Nat.le_refl _) hsame hk hs⟩
theorem Go.iret (X : Cx wd EL p Z s m meth c own nm code ml (some .int)) {z : Int32} {Qv : Value → List Ent → Prop} (D : D1 code pc .ireturn 1 pc') (hk : k ≤ R.cells) (hs : n ≤ R.slots) (q : Qv (.int z) L) : Go wd EL p l e R Z s m args below meth c (rvQ Qv) L k n (mkF m pc Ls (.int z :: st)) :=
  Go.retw X rfl (Or.inl ⟨rfl, Or.inl rfl, z, rfl⟩) D hk hs q
theorem Go.zret (X : Cx wd EL p Z s m meth c own nm code ml (some .boolean)) {z : Int32} {Qv : Value → List Ent → Prop} (D : D1 code pc .ireturn 1 pc') (hz : z = 0 ∨ z = 1) (hk : k ≤ R.cells) (hs : n ≤ R.slots) (q : Qv (.int z) L) : Go wd EL p l e R Z s m args below meth c (rvQ Qv) L k n (mkF m pc Ls (.int z :: st)) :=
  Go.retw X (by rcases hz with rfl | rfl <;> rfl) (Or.inl ⟨rfl, Or.inr (Or.inl rfl), z, rfl⟩) D hk hs q
theorem Go.cret (X : Cx wd EL p Z s m meth c own nm code ml (some .char)) {z : Int32} {Qv : Value → List Ent → Prop} (D : D1 code pc .ireturn 1 pc') (hz : z.toUInt32.toUInt16.toUInt32.toInt32 = z) (hk : k ≤ R.cells) (hs : n ≤ R.slots) (q : Qv (.int z) L) : Go wd EL p l e R Z s m args below meth c (rvQ Qv) L k n (mkF m pc Ls (.int z :: st)) :=
  Go.retw X (by show Value.int (z.toUInt32.toUInt16.toUInt32.toInt32) = .int z; rw [hz]) (Or.inl ⟨rfl, Or.inr (Or.inr (Or.inr (Or.inl rfl))), z, rfl⟩) D hk hs q
theorem Go.bret (X : Cx wd EL p Z s m meth c own nm code ml (some .byte)) {z : Int32} {Qv : Value → List Ent → Prop} (D : D1 code pc .ireturn 1 pc') (hz : z.toInt8.toInt32 = z) (hk : k ≤ R.cells) (hs : n ≤ R.slots) (q : Qv (.int z) L) : Go wd EL p l e R Z s m args below meth c (rvQ Qv) L k n (mkF m pc Ls (.int z :: st)) :=
  Go.retw X (by show Value.int (z.toInt8.toInt32) = .int z; rw [hz]) (Or.inl ⟨rfl, Or.inr (Or.inr (Or.inl rfl)), z, rfl⟩) D hk hs q
theorem Go.aret {t : FieldType} (X : Cx wd EL p Z s m meth c own nm code ml (some t)) {w : Value} {Qv : Value → List Ent → Prop} (D : D1 code pc .areturn 1 pc') (ht : t.isReference = true) (hw : w.isRef = true) (hn : narrow t w = w) (hk : k ≤ R.cells) (hs : n ≤ R.slots) (q : Qv w L) : Go wd EL p l e R Z s m args below meth c (rvQ Qv) L k n (mkF m pc Ls (w :: st)) :=
  Go.retw X hn (Or.inr (Or.inr (Or.inr (Or.inr ⟨rfl, ht, hw⟩)))) D hk hs q
theorem Go.ret0 (X : Cx wd EL p Z s m meth c own nm code ml none) {Q0 : List Ent → Prop} (D : D1 code pc .return_ 1 pc') (hk : k ≤ R.cells) (hs : n ≤ R.slots) (q : Q0 L) : Go wd EL p l e R Z s m args below meth c (r0Q Q0) L k n (mkF m pc Ls []) := by
  intro vm T lc F B I S
  replace X := X.re B
  have hlk : meth.locks = false := X.2.2.2.2.2.2.1
  obtain ⟨fs, hr, hrun, hended, hW, hsame⟩ := S.leave (v := none) (fun _ => rfl) hlk
  exact ⟨_, _, S.returnOut X.1 X.2.2.2.2.2.1 (hb X.2.2.2.1 D.1) hr, hrun, hended, none, L, lc, rfl, ⟨rfl, q⟩, I.now X S, F, B.ended ⟨_, rfl⟩ hW (Nat.le_refl _) hsame hk hs⟩
end Steps
end Jvm.OwnKit
namespace Jvm.OwnKit
open Sem ClassFile Op Lib Jvm.Stand Jvm.Free Jvm.LawKit Jvm.RoadKit
section Steps
variable {wd : Bool} {EL : List (String × Nat)} {p : Program} {l : Launch} {e : Env} {R : Room} {Z s : State} {m : MethodId} {args : Array Value} {below : List Frame} {meth : Method} {c : Code} {Q : Option Value → List Ent → Prop} {L L' : List Ent} {k n : Nat} {own nm : String} {code : ByteArray} {ml : Nat} {ret : Option FieldType} {a0 : Array Value}
variable {pc pc' : Nat} {Ls : Array Slot} {st : List Value} {i j : Nat} {a b : Addr} {C : String} {ns : List Nm} {vs : List Value} {v : Value} {h h' : Heap} {vm : Vm}
def dfl (ns : List Nm) : List (Option Value) := ns.map fun q => (parseFieldDescriptor q.2.2).map defaultValue
theorem Go.new (X : Cx wd EL p Z s m meth c own nm code ml ret) {idx kk : Nat} (w : (Cond.classLink own idx C).before a0 Z = true) (wi : (Cond.instantiable C kk).before a0 Z = true) (wz : (Cond.initialized C).before a0 Z = true) (Y : LayC Z a0 C ns) (hv : dfl ns = vs.map some) (D : D1 code pc (.new idx) 3 pc') (hc : k + 1 ≤ R.cells) (hl : n + kk ≤ R.slots)
    (K : ∀ a, Go wd EL p l e R Z s m args below meth c Q (ow a (Ob Z C ns vs) :: L) (k + 1) (n + kk) (mkF m pc' Ls (.ref a :: st))) : Go wd EL p l e R Z s m args below meth c Q L k n (mkF m pc Ls st) := by
  obtain ⟨d, rfl⟩ := D
  intro vm T lc F B I S
  replace X := X.re B
  obtain ⟨T', h', S', e', E', A', D', -, stp⟩ := newO S X.1 X.2.1 X.2.2.1 w wi wz rfl (g := mkF m pc Ls st) rfl (hb X.2.2.2.1 d) hc hl
  have I' : Iv wd Z EL vm h' (ow T.heap.size (Ob Z C ns vs) :: L) := by
    obtain ⟨cell, kC, a1, a2, a3, a4, a5⟩ := A'
    refine I.push E' (Nat.le_refl _) ⟨cell, a1, ⟨kC, a2, a3, a4, a5⟩, ?_, fun j q v hj hv' => ?_⟩
    · have := congrArg List.length hv; simpa [dfl] using this.symm
    · have e1 : (dfl ns)[j]? = some ((parseFieldDescriptor q.2.2).map defaultValue) := by simp [dfl, hj]
      rw [hv] at e1
      simp only [List.getElem?_map, hv', Option.map_some, Option.some.injEq] at e1
      cases ht : parseFieldDescriptor q.2.2 with
      | none => rw [ht] at e1; cases e1
      | some ty =>
        rw [ht] at e1
        cases e1
        obtain ⟨c', cf, k', i', f, f0, r⟩ := D' (Y.1 q (List.mem_of_getElem? hj)) ht
        cases a1.symm.trans f0
        exact ⟨cf, k', i', f, r⟩
  subst e'
  obtain ⟨u, o, st', r⟩ := K _ vm T' lc F (B.mono E'.1) I' S'
  exact ⟨u, o, stp _ st', r⟩
theorem Go.getFld (X : Cx wd EL p Z s m meth c own nm code ml ret) {R0 O f d : String} {idx : Nat} (w : (Cond.fieldLink own idx R0 f d).before a0 Z = true) (via : Via Z R0 O f d) (F : ∀ h, Hp Z h L → Fld Z h a O f d v) (D : D1 code pc (.getfield idx) 3 pc') (K : Go wd EL p l e R Z s m args below meth c Q L k n (mkF m pc' Ls (v :: st))) : Go wd EL p l e R Z s m args below meth c Q L k n (mkF m pc Ls (.ref a :: st)) := by
  obtain ⟨dd, rfl⟩ := D
  intro vm T lc Fr' B I S
  replace X := X.re B
  obtain ⟨T', S', e', stp⟩ := getF S X.1 X.2.1 X.2.2.1 (host := "") (Or.inl w) via rfl (F _ I.1) (g := mkF m pc Ls (.ref a :: st)) rfl rfl (hb X.2.2.2.1 dd)
  rw [← e'] at I B
  obtain ⟨u, o, st', r⟩ := K vm T' lc Fr' B I S'
  exact ⟨u, o, stp _ st', r⟩
theorem Go.putFld (X : Cx wd EL p Z s m meth c own nm code ml ret) {R0 O f d : String} {idx kk : Nat} {ty : FieldType} (hi : L[i]? = some (ow a (Ob Z C ns vs))) (hj : ns[j]? = some (O, f, d)) (Y : LayC Z a0 C ns) (w : (Cond.fieldLink own idx R0 f d).before a0 Z = true) (via : Via Z R0 O f d) (hL : (Cond.lays C O f d).before a0 Z = true ∨ ((Cond.laysFinal C O f d).before a0 Z = true ∧ own = O ∧ nm = "<init>")) (wi : (Cond.instantiable C kk).before a0 Z = true)
    (ht : parseFieldDescriptor d = some ty) (D : D1 code pc (.putfield idx) 3 pc') (hn : narrow ty v = v) (hf : fits ty v = true) (K : Go wd EL p l e R Z s m args below meth c Q (updL L i (ow a (Ob Z C ns (updL vs j v)))) k n (mkF m pc' Ls st)) : Go wd EL p l e R Z s m args below meth c Q L k n (mkF m pc Ls (v :: .ref a :: st)) := by
  obtain ⟨dd, rfl⟩ := D
  intro vm T lc F' B I S
  replace X := X.re B
  have lj : j < vs.length := by obtain ⟨c, hc, -, hl, -⟩ := I.1.at hi; rw [hl]; exact (List.getElem?_eq_some_iff.mp hj).1
  have F := I.1.fld hi hj (List.getElem?_eq_getElem lj)
  have E := I.1.exa hi
  obtain ⟨T', h', S', e', W, stp⟩ := putF S X.1 X.2.1 X.2.2.1 (host := "") (Or.inl w) via rfl F E (hL.imp id fun q => ⟨q.1, q.2.1, X.2.2.2.2.2.2.2.1.trans q.2.2⟩) wi ht hn hf (g := mkF m pc Ls (v :: .ref a :: st)) rfl rfl (hb X.2.2.2.1 dd)
  have I' := I.wr (P' := Ob Z C ns (updL vs j v)) hi W fun c O hs lt => Ob.put Y hj O hs lt
  subst e'
  obtain ⟨u, o, st', r⟩ := K vm T' _ (F'.app fun y hy => by cases List.mem_singleton.mp hy; exact I.1.ge hi) (B.mono (Nat.le_of_eq W.size.symm)) I' S'
  exact ⟨u, o, stp _ st', r⟩
theorem Go.getSta (X : Cx wd EL p Z s m meth c own nm code ml ret) {R0 O f d : String} {idx : Nat} (w : (Cond.fieldLink own idx R0 f d).before a0 Z = true) (via : Via Z R0 O f d) (F : Sta Z Z.heap O f d v) (D : D1 code pc (.getstatic idx) 3 pc') (K : Go wd EL p l e R Z s m args below meth c Q L k n (mkF m pc' Ls (v :: st))) : Go wd EL p l e R Z s m args below meth c Q L k n (mkF m pc Ls st) := by
  obtain ⟨dd, rfl⟩ := D
  intro vm T lc F' B I S
  replace X := X.re B
  obtain ⟨T', S', e', stp⟩ := getS2 S X.1 X.2.1 X.2.2.1 (host := "") (Or.inl w) via rfl (F.ext I.1.1) (g := mkF m pc Ls st) rfl (hb X.2.2.2.1 dd)
  rw [← e'] at I B
  obtain ⟨u, o, st', r⟩ := K vm T' lc F' B I S'
  exact ⟨u, o, stp _ st', r⟩
theorem Go.getFldN (X : Cx wd EL p Z s m meth c own nm code ml ret) {R0 O f d : String} {host : String} {idx : Nat} (w : (Cond.fieldLinkNest own idx R0 f d host).before a0 Z = true) (via : Via Z R0 O f d) (F : ∀ h, Hp Z h L → Fld Z h a O f d v) (D : D1 code pc (.getfield idx) 3 pc') (K : Go wd EL p l e R Z s m args below meth c Q L k n (mkF m pc' Ls (v :: st))) : Go wd EL p l e R Z s m args below meth c Q L k n (mkF m pc Ls (.ref a :: st)) := by
  obtain ⟨dd, rfl⟩ := D
  intro vm T lc Fr' B I S
  replace X := X.re B
  obtain ⟨T', S', e', stp⟩ := getF S X.1 X.2.1 X.2.2.1 (host := host) (Or.inr w) via rfl (F _ I.1) (g := mkF m pc Ls (.ref a :: st)) rfl rfl (hb X.2.2.2.1 dd)
  rw [← e'] at I B
  obtain ⟨u, o, st', r⟩ := K vm T' lc Fr' B I S'
  exact ⟨u, o, stp _ st', r⟩
theorem Go.putFldN (X : Cx wd EL p Z s m meth c own nm code ml ret) {R0 O f d : String} {host : String} {idx kk : Nat} {ty : FieldType} (hi : L[i]? = some (ow a (Ob Z C ns vs))) (hj : ns[j]? = some (O, f, d)) (Y : LayC Z a0 C ns) (w : (Cond.fieldLinkNest own idx R0 f d host).before a0 Z = true) (via : Via Z R0 O f d) (hL : (Cond.lays C O f d).before a0 Z = true ∨ ((Cond.laysFinal C O f d).before a0 Z = true ∧ own = O ∧ nm = "<init>")) (wi : (Cond.instantiable C kk).before a0 Z = true)
    (ht : parseFieldDescriptor d = some ty) (D : D1 code pc (.putfield idx) 3 pc') (hn : narrow ty v = v) (hf : fits ty v = true) (K : Go wd EL p l e R Z s m args below meth c Q (updL L i (ow a (Ob Z C ns (updL vs j v)))) k n (mkF m pc' Ls st)) : Go wd EL p l e R Z s m args below meth c Q L k n (mkF m pc Ls (v :: .ref a :: st)) := by
  obtain ⟨dd, rfl⟩ := D
  intro vm T lc F' B I S
  replace X := X.re B
  have lj : j < vs.length := by obtain ⟨c, hc, -, hl, -⟩ := I.1.at hi; rw [hl]; exact (List.getElem?_eq_some_iff.mp hj).1
  have F := I.1.fld hi hj (List.getElem?_eq_getElem lj)
  have E := I.1.exa hi
  obtain ⟨T', h', S', e', W, stp⟩ := putF S X.1 X.2.1 X.2.2.1 (host := host) (Or.inr w) via rfl F E (hL.imp id fun q => ⟨q.1, q.2.1, X.2.2.2.2.2.2.2.1.trans q.2.2⟩) wi ht hn hf (g := mkF m pc Ls (v :: .ref a :: st)) rfl rfl (hb X.2.2.2.1 dd)
  have I' := I.wr (P' := Ob Z C ns (updL vs j v)) hi W fun c O hs lt => Ob.put Y hj O hs lt
  subst e'
  obtain ⟨u, o, st', r⟩ := K vm T' _ (F'.app fun y hy => by cases List.mem_singleton.mp hy; exact I.1.ge hi) (B.mono (Nat.le_of_eq W.size.symm)) I' S'
  exact ⟨u, o, stp _ st', r⟩
theorem Go.getStaN (X : Cx wd EL p Z s m meth c own nm code ml ret) {R0 O f d : String} {host : String} {idx : Nat} (w : (Cond.fieldLinkNest own idx R0 f d host).before a0 Z = true) (via : Via Z R0 O f d) (F : Sta Z Z.heap O f d v) (D : D1 code pc (.getstatic idx) 3 pc') (K : Go wd EL p l e R Z s m args below meth c Q L k n (mkF m pc' Ls (v :: st))) : Go wd EL p l e R Z s m args below meth c Q L k n (mkF m pc Ls st) := by
  obtain ⟨dd, rfl⟩ := D
  intro vm T lc F' B I S
  replace X := X.re B
  obtain ⟨T', S', e', stp⟩ := getS2 S X.1 X.2.1 X.2.2.1 (host := host) (Or.inr w) via rfl (F.ext I.1.1) (g := mkF m pc Ls st) rfl (hb X.2.2.2.1 dd)
  rw [← e'] at I B
  obtain ⟨u, o, st', r⟩ := K vm T' lc F' B I S'
  exact ⟨u, o, stp _ st', r⟩
theorem Go.putInv (X : Cx wd EL p Z s m meth c own nm code ml ret) {R0 O f d : String} {idx kk : Nat} {ty : FieldType} {P : Cell → Prop} (hi : ow a P ∈ L) (w : (Cond.fieldLink own idx R0 f d).before a0 Z = true) (via : Via Z R0 O f d) (hL : (Cond.lays C O f d).before a0 Z = true ∨ ((Cond.laysFinal C O f d).before a0 Z = true ∧ own = O ∧ nm = "<init>")) (wi : (Cond.instantiable C kk).before a0 Z = true)
    (hF : ∀ h, Hp Z h L → (∃ v0, Fld Z h a O f d v0) ∧ Exa Z h a C) (hP : ∀ c : Cell, P c → c.vm.isStatics = false → slo Z (O, f, d) < c.slots.size → P (c.setSlot (slo Z (O, f, d)) v))
    (ht : parseFieldDescriptor d = some ty) (D : D1 code pc (.putfield idx) 3 pc') (hn : narrow ty v = v) (hf : fits ty v = true) (K : Go wd EL p l e R Z s m args below meth c Q L k n (mkF m pc' Ls st)) : Go wd EL p l e R Z s m args below meth c Q L k n (mkF m pc Ls (v :: .ref a :: st)) := by
  obtain ⟨dd, rfl⟩ := D
  intro vm T lc F' B I S
  replace X := X.re B
  obtain ⟨⟨v0, F⟩, E⟩ := hF _ I.1
  obtain ⟨T', h', S', e', W, stp⟩ := putF S X.1 X.2.1 X.2.2.1 (host := "") (Or.inl w) via rfl F E (hL.imp id fun q => ⟨q.1, q.2.1, X.2.2.2.2.2.2.2.1.trans q.2.2⟩) wi ht hn hf (g := mkF m pc Ls (v :: .ref a :: st)) rfl rfl (hb X.2.2.2.1 dd)
  obtain ⟨ix, hix⟩ := List.getElem?_of_mem hi
  have I' := I.wr (P' := P) hix W fun c O hs lt => hP c O hs lt
  have eL : updL L ix (ow a P) = L := upd_self L ix _ hix
  rw [eL] at I'
  subst e'
  obtain ⟨u, o, st', r⟩ := K vm T' _ (F'.app fun y hy => by cases List.mem_singleton.mp hy; exact I.1.ge hix) (B.mono (Nat.le_of_eq W.size.symm)) I' S'
  exact ⟨u, o, stp _ st', r⟩
theorem Go.getAny (X : Cx wd EL p Z s m meth c own nm code ml ret) {R0 O f d : String} {idx : Nat} {φ : Value → Prop} (w : (Cond.fieldLink own idx R0 f d).before a0 Z = true) (via : Via Z R0 O f d) (F : ∀ h, Hp Z h L → ∃ v, φ v ∧ Fld Z h a O f d v) (D : D1 code pc (.getfield idx) 3 pc') (K : ∀ v, φ v → Go wd EL p l e R Z s m args below meth c Q L k n (mkF m pc' Ls (v :: st))) : Go wd EL p l e R Z s m args below meth c Q L k n (mkF m pc Ls (.ref a :: st)) := by
  obtain ⟨dd, rfl⟩ := D
  intro vm T lc Fr' B I S
  replace X := X.re B
  obtain ⟨v, hv, F⟩ := F _ I.1
  obtain ⟨T', S', e', stp⟩ := getF S X.1 X.2.1 X.2.2.1 (host := "") (Or.inl w) via rfl F (g := mkF m pc Ls (.ref a :: st)) rfl rfl (hb X.2.2.2.1 dd)
  rw [← e'] at I B
  obtain ⟨u, o, st', r⟩ := K v hv vm T' lc Fr' B I S'
  exact ⟨u, o, stp _ st', r⟩
/-! ### arrays -/
theorem Go.newarrF (X : Cx wd EL p Z s m meth c own nm code ml ret) {aty : ArrayType} {z : Int32} {N cap : Nat} (w : (Cond.arrayClass (newarray.typeOf aty)).before a0 Z = true) (hz : ¬ z < 0) (hN : z.toNatClampNeg = N) (hcap : N ≤ cap) (hb8 : cap * 8 ≤ 536870912) (D : D1 code pc (.newarray aty) 2 pc') (hc : k + 1 ≤ R.cells) (hl : n + cap ≤ R.slots)
    (K : ∀ a K', Z.vm.findClass ("[" ++ (newarray.typeOf aty).toString) = some K' → Go wd EL p l e R Z s m args below meth c Q (ow a (Ar Z (newarray.typeOf aty) K' (List.replicate N (defaultValue (newarray.typeOf aty)))) :: L) (k + 1) (n + cap) (mkF m pc' Ls (.ref a :: st))) : Go wd EL p l e R Z s m args below meth c Q L k n (mkF m pc Ls (.int z :: st)) := by
  obtain ⟨d, rfl⟩ := D
  intro vm T lc F B I S
  replace X := X.re B
  have hcb : componentBytes (newarray.typeOf aty) ≤ 8 := by cases aty <;> decide
  obtain ⟨cA, kA, comp, h1, h2, h3, S', stp⟩ := S.newarrayPrim X.1 (mvA X.2.1 w) (g := mkF m pc Ls (.int z :: st)) rfl (hb X.2.2.2.1 d) rfl hz (Nat.le_trans (Nat.mul_le_mul (by omega) hcb) hb8) hc (by omega)
  rw [X.2.1.alike.findClass] at h1
  obtain ⟨kZ, z1, -⟩ := Vm.findClass_spec h1
  obtain ⟨k', z2, z3⟩ := X.2.1.alike.2.2 _ _ z1
  cases h2.symm.trans z2
  have E' : Ext T.heap (T.heap.push { cls := cA, slots := Array.replicate z.toNatClampNeg (defaultValue (newarray.typeOf aty)), vm := .none }) := ext_of fun a q => Array.getElem?_push_lt q |>.trans (Array.getElem?_eq_getElem q).symm
  have I' := I.push (a := T.heap.size) (P := Ar Z (newarray.typeOf aty) cA (List.replicate N (defaultValue (newarray.typeOf aty)))) E' (Nat.le_refl _) ⟨{ cls := cA, slots := Array.replicate z.toNatClampNeg (defaultValue (newarray.typeOf aty)), vm := .none }, by simp, ⟨by simp, kZ, z1, comp, by rw [← h3, z3]⟩, by simp, rfl, by simp [hN], by simp; omega, fun u hu => by rw [List.eq_of_mem_replicate hu]; cases aty <;> rfl⟩
  obtain ⟨u, o, st', r⟩ := K _ cA h1 vm _ lc F (B.mono E'.1) I' (S'.mono (Nat.le_refl _) (by omega))
  exact ⟨u, o, stp _ st', r⟩
theorem Go.newarr (X : Cx wd EL p Z s m meth c own nm code ml ret) {aty : ArrayType} {z : Int32} {N cap : Nat} (w : (Cond.arrayClass (newarray.typeOf aty)).before a0 Z = true) (hz : ¬ z < 0) (hN : z.toNatClampNeg = N) (hcap : N ≤ cap) (hb8 : cap * 8 ≤ 536870912) (D : D1 code pc (.newarray aty) 2 pc') (hc : k + 1 ≤ R.cells) (hl : n + cap ≤ R.slots)
    (K : ∀ a K', Go wd EL p l e R Z s m args below meth c Q (ow a (Ar Z (newarray.typeOf aty) K' (List.replicate N (defaultValue (newarray.typeOf aty)))) :: L) (k + 1) (n + cap) (mkF m pc' Ls (.ref a :: st))) : Go wd EL p l e R Z s m args below meth c Q L k n (mkF m pc Ls (.int z :: st)) := by
  obtain ⟨d, rfl⟩ := D
  intro vm T lc F B I S
  replace X := X.re B
  obtain ⟨T', h', cA, S', e', E', A', stp⟩ := newP S X.1 X.2.1 w rfl (g := mkF m pc Ls (.int z :: st)) rfl (hb X.2.2.2.1 d) rfl hz (cap := cap) (by omega) hb8 hc hl
  have I' := I.push (P := Ar Z (newarray.typeOf aty) cA (List.replicate N (defaultValue (newarray.typeOf aty)))) E' (Nat.le_refl _) ⟨_, A'.1, A'.2.1, A'.2.2, rfl, by simp [newA, hN], by simp; omega, fun u hu => by rw [List.eq_of_mem_replicate hu]; cases aty <;> rfl⟩
  subst e'
  obtain ⟨u, o, st', r⟩ := K _ cA vm T' lc F (B.mono E'.1) I' S'
  exact ⟨u, o, stp _ st', r⟩
theorem Go.anew (X : Cx wd EL p Z s m meth c own nm code ml ret) {idx : Nat} {z : Int32} {N cap : Nat} (w : (Cond.classLink own idx C).before a0 Z = true) (w2 : (Cond.arrayOver (.object C)).before a0 Z = true) (hz : ¬ z < 0) (hN : z.toNatClampNeg = N) (hcap : N ≤ cap) (hb8 : cap * 8 ≤ 536870912) (D : D1 code pc (.anewarray idx) 3 pc') (hc : k + 1 ≤ R.cells) (hl : n + cap ≤ R.slots)
    (K : ∀ a K', Ovr Z K' C → Go wd EL p l e R Z s m args below meth c Q (ow a (Ar Z (.object C) K' (List.replicate N .null)) :: L) (k + 1) (n + cap) (mkF m pc' Ls (.ref a :: st))) : Go wd EL p l e R Z s m args below meth c Q L k n (mkF m pc Ls (.int z :: st)) := by
  obtain ⟨d, rfl⟩ := D
  intro vm T lc F B I S
  replace X := X.re B
  obtain ⟨T', h', cA, S', e', E', A', O', stp⟩ := newR S X.1 X.2.1 X.2.2.1 w w2 rfl (g := mkF m pc Ls (.int z :: st)) rfl (hb X.2.2.2.1 d) rfl hz (cap := cap) (by omega) hb8 hc hl
  have I' := I.push (P := Ar Z (.object C) cA (List.replicate N .null)) E' (Nat.le_refl _) ⟨_, A'.1, A'.2.1, A'.2.2, rfl, by simp [newA, hN, defaultValue], by simp; omega, fun u hu => by rw [List.eq_of_mem_replicate hu]; rfl⟩
  subst e'
  obtain ⟨u, o, st', r⟩ := K _ cA O' vm T' lc F (B.mono E'.1) I' S'
  exact ⟨u, o, stp _ st', r⟩
theorem inb {cl : Cell} {vs : List Value} {z : Int32} (q : cl.slots = vs.toArray) (hz : ¬ z < 0) (hN : z.toNatClampNeg < vs.length) : ¬ (z < 0 ∨ cl.slots.size ≤ z.toNatClampNeg) := by rw [q]; simp; exact ⟨Int32.not_lt.mp hz, hN⟩
theorem Go.alenA (X : Cx wd EL p Z s m meth c own nm code ml ret) {ty : FieldType} {N : Nat} (hA : ∀ h, Hp Z h L → ∃ cl, Arr Z h a cl ty ∧ cl.slots.size = N) (D : D1 code pc .arraylength 1 pc') (K : Go wd EL p l e R Z s m args below meth c Q L k n (mkF m pc' Ls (.int N.toInt32 :: st))) : Go wd EL p l e R Z s m args below meth c Q L k n (mkF m pc Ls (.ref a :: st)) := by
  obtain ⟨d, rfl⟩ := D
  refine K.to X fun s X T lc H S t r => ?_
  obtain ⟨cl, A, q⟩ := hA _ H
  refine S.arraylength X.1 A.1 (State.isArrayOf_alike X.2.1.alike A.2.1) (g := mkF m pc Ls (.ref a :: st)) rfl rfl (hb X.2.2.2.1 d) _ ?_
  rw [q]; exact r
theorem Hp.len {f : Bool} (H : Hp Z h L) {ty : FieldType} {K : ClassId} (hi : L[i]? = some (a, Ar Z ty K vs, f)) : ∃ cl, Arr Z h a cl ty ∧ cl.slots.size = vs.length := by
  obtain ⟨cl, A, -, q, -⟩ := H.arr hi; exact ⟨cl, A, by rw [q]; simp⟩
theorem Hp.lenM {f : Bool} (H : Hp Z h L) {ty : FieldType} {K : ClassId} (hi : (a, Ar Z ty K vs, f) ∈ L) : ∃ cl, Arr Z h a cl ty ∧ cl.slots.size = vs.length := by
  obtain ⟨cl, A, -, q, -⟩ := H.arrM hi; exact ⟨cl, A, by rw [q]; simp⟩
theorem Hp.el {f : Bool} (H : Hp Z h L) {ty : FieldType} {K : ClassId} (hi : L[i]? = some (a, Ar Z ty K vs, f)) {N : Nat} (hv : vs[N]? = some v) : ∃ cl, Arr Z h a cl ty ∧ cl.slots[N]? = some v := by
  obtain ⟨cl, A, -, q, -⟩ := H.arr hi; exact ⟨cl, A, by rw [q]; simpa using hv⟩
theorem Hp.elM {f : Bool} (H : Hp Z h L) {ty : FieldType} {K : ClassId} (hi : (a, Ar Z ty K vs, f) ∈ L) {N : Nat} (hv : vs[N]? = some v) : ∃ cl, Arr Z h a cl ty ∧ cl.slots[N]? = some v := by
  obtain ⟨cl, A, -, q, -⟩ := H.arrM hi; exact ⟨cl, A, by rw [q]; simpa using hv⟩
theorem inb2 {cl : Cell} {z : Int32} (hz : ¬ z < 0) {v : Value} (hv : cl.slots[z.toNatClampNeg]? = some v) : ¬ (z < 0 ∨ cl.slots.size ≤ z.toNatClampNeg) := fun q => q.elim hz fun q => absurd (Array.getElem?_eq_some_iff.mp hv).1 (Nat.not_lt.mpr q)
theorem Go.iald (X : Cx wd EL p Z s m meth c own nm code ml ret) {z x : Int32} (hz : ¬ z < 0) (hA : ∀ h, Hp Z h L → ∃ cl, Arr Z h a cl .int ∧ cl.slots[z.toNatClampNeg]? = some (.int x)) (D : D1 code pc .iaload 1 pc') (K : Go wd EL p l e R Z s m args below meth c Q L k n (mkF m pc' Ls (.int x :: st))) : Go wd EL p l e R Z s m args below meth c Q L k n (mkF m pc Ls (.int z :: .ref a :: st)) := by
  obtain ⟨d, rfl⟩ := D
  refine K.to X fun s X T lc H S t r => ?_
  obtain ⟨cl, A, hv⟩ := hA _ H
  exact S.iaload X.1 A.1 (State.isArrayOf_alike X.2.1.alike A.2.1) A.2.2 (inb2 hz hv) hv (g := mkF m pc Ls (.int z :: .ref a :: st)) rfl rfl (hb X.2.2.2.1 d) _ r
theorem Go.cald (X : Cx wd EL p Z s m meth c own nm code ml ret) {z x : Int32} (hz : ¬ z < 0) (hA : ∀ h, Hp Z h L → ∃ cl, Arr Z h a cl .char ∧ cl.slots[z.toNatClampNeg]? = some (.int x)) (D : D1 code pc .caload 1 pc') (K : Go wd EL p l e R Z s m args below meth c Q L k n (mkF m pc' Ls (.int x :: st))) : Go wd EL p l e R Z s m args below meth c Q L k n (mkF m pc Ls (.int z :: .ref a :: st)) := by
  obtain ⟨d, rfl⟩ := D
  refine K.to X fun s X T lc H S t r => ?_
  obtain ⟨cl, A, hv⟩ := hA _ H
  exact S.caload X.1 A.1 (State.isArrayOf_alike X.2.1.alike A.2.1) A.2.2 (inb2 hz hv) hv (g := mkF m pc Ls (.int z :: .ref a :: st)) rfl rfl (hb X.2.2.2.1 d) _ r
theorem Go.bald (X : Cx wd EL p Z s m meth c own nm code ml ret) {z x : Int32} (hz : ¬ z < 0) (hA : ∀ h, Hp Z h L → ∃ cl, Arr Z h a cl .byte ∧ cl.slots[z.toNatClampNeg]? = some (.int x)) (D : D1 code pc .baload 1 pc') (K : Go wd EL p l e R Z s m args below meth c Q L k n (mkF m pc' Ls (.int x :: st))) : Go wd EL p l e R Z s m args below meth c Q L k n (mkF m pc Ls (.int z :: .ref a :: st)) := by
  obtain ⟨d, rfl⟩ := D
  refine K.to X fun s X T lc H S t r => ?_
  obtain ⟨cl, A, hv⟩ := hA _ H
  exact S.baloadBytes X.1 A.1 (State.isArrayOf_alike X.2.1.alike A.2.1) A.2.2 (inb2 hz hv) hv (g := mkF m pc Ls (.int z :: .ref a :: st)) rfl rfl (hb X.2.2.2.1 d) _ r
theorem Go.aald (X : Cx wd EL p Z s m meth c own nm code ml ret) {ty : FieldType} {z : Int32} (ht : ty.isReference = true) (hz : ¬ z < 0) (hA : ∀ h, Hp Z h L → ∃ cl, Arr Z h a cl ty ∧ cl.slots[z.toNatClampNeg]? = some v) (D : D1 code pc .aaload 1 pc') (K : Go wd EL p l e R Z s m args below meth c Q L k n (mkF m pc' Ls (v :: st))) : Go wd EL p l e R Z s m args below meth c Q L k n (mkF m pc Ls (.int z :: .ref a :: st)) := by
  obtain ⟨d, rfl⟩ := D
  refine K.to X fun s X T lc H S t r => ?_
  obtain ⟨cl, A, hv⟩ := hA _ H
  exact S.aaload X.1 A.1 (State.isArrayOf_alike X.2.1.alike A.2.1) ht A.2.2 (inb2 hz hv) hv (g := mkF m pc Ls (.int z :: .ref a :: st)) rfl rfl (hb X.2.2.2.1 d) _ r
theorem Go.iast (X : Cx wd EL p Z s m meth c own nm code ml ret) {K' : ClassId} {z x : Int32} (hi : L[i]? = some (ow a (Ar Z .int K' vs))) (hz : ¬ z < 0) (hN : z.toNatClampNeg < vs.length) (D : D1 code pc .iastore 1 pc') (K : Go wd EL p l e R Z s m args below meth c Q (updL L i (ow a (Ar Z .int K' (updL vs z.toNatClampNeg (.int x))))) k n (mkF m pc' Ls st)) : Go wd EL p l e R Z s m args below meth c Q L k n (mkF m pc Ls (.int x :: .int z :: .ref a :: st)) := by
  obtain ⟨d, rfl⟩ := D
  intro vm T lc F B I S
  replace X := X.re B
  obtain ⟨cl, A, -, q, -, -⟩ := I.1.arr hi
  obtain ⟨T', h', S', e', W, stp⟩ := stI S X.1 X.2.1 rfl A (inb q hz hN) (g := mkF m pc Ls (.int x :: .int z :: .ref a :: st)) rfl rfl (hb X.2.2.2.1 d)
  have I' := I.wr hi W fun c A _ _ => Ar.put A rfl
  subst e'
  obtain ⟨u, o, st', r⟩ := K vm T' _ (F.app fun y hy => by cases List.mem_singleton.mp hy; exact I.1.ge hi) (B.mono (Nat.le_of_eq W.size.symm)) I' S'
  exact ⟨u, o, stp _ st', r⟩
theorem Go.cast' (X : Cx wd EL p Z s m meth c own nm code ml ret) {K' : ClassId} {z x y : Int32} (hi : L[i]? = some (ow a (Ar Z .char K' vs))) (hz : ¬ z < 0) (hN : z.toNatClampNeg < vs.length) (hx : x.toUInt32.toUInt16.toUInt32.toInt32 = y) (D : D1 code pc .castore 1 pc') (K : Go wd EL p l e R Z s m args below meth c Q (updL L i (ow a (Ar Z .char K' (updL vs z.toNatClampNeg (.int y))))) k n (mkF m pc' Ls st)) : Go wd EL p l e R Z s m args below meth c Q L k n (mkF m pc Ls (.int x :: .int z :: .ref a :: st)) := by
  obtain ⟨d, rfl⟩ := D; subst hx
  intro vm T lc F B I S
  replace X := X.re B
  obtain ⟨cl, A, -, q, -, -⟩ := I.1.arr hi
  obtain ⟨T', h', S', e', W, stp⟩ := stC S X.1 X.2.1 rfl A (inb q hz hN) (g := mkF m pc Ls (.int x :: .int z :: .ref a :: st)) rfl rfl (hb X.2.2.2.1 d)
  have I' := I.wr hi W fun c A _ _ => Ar.put A (fits_nar_char x)
  subst e'
  obtain ⟨u, o, st', r⟩ := K vm T' _ (F.app fun y hy => by cases List.mem_singleton.mp hy; exact I.1.ge hi) (B.mono (Nat.le_of_eq W.size.symm)) I' S'
  exact ⟨u, o, stp _ st', r⟩
theorem Go.bast (X : Cx wd EL p Z s m meth c own nm code ml ret) {K' : ClassId} {z x y : Int32} (hi : L[i]? = some (ow a (Ar Z .byte K' vs))) (hz : ¬ z < 0) (hN : z.toNatClampNeg < vs.length) (hx : x.toInt8.toInt32 = y) (D : D1 code pc .bastore 1 pc') (K : Go wd EL p l e R Z s m args below meth c Q (updL L i (ow a (Ar Z .byte K' (updL vs z.toNatClampNeg (.int y))))) k n (mkF m pc' Ls st)) : Go wd EL p l e R Z s m args below meth c Q L k n (mkF m pc Ls (.int x :: .int z :: .ref a :: st)) := by
  obtain ⟨d, rfl⟩ := D; subst hx
  intro vm T lc F B I S
  replace X := X.re B
  obtain ⟨cl, A, -, q, -, -⟩ := I.1.arr hi
  obtain ⟨T', h', S', e', W, stp⟩ := stB S X.1 X.2.1 rfl A (inb q hz hN) (g := mkF m pc Ls (.int x :: .int z :: .ref a :: st)) rfl rfl (hb X.2.2.2.1 d)
  have I' := I.wr hi W fun c A _ _ => Ar.put A (fits_nar_byte x)
  subst e'
  obtain ⟨u, o, st', r⟩ := K vm T' _ (F.app fun y hy => by cases List.mem_singleton.mp hy; exact I.1.ge hi) (B.mono (Nat.le_of_eq W.size.symm)) I' S'
  exact ⟨u, o, stp _ st', r⟩
theorem Go.aast (X : Cx wd EL p Z s m meth c own nm code ml ret) {K' : ClassId} {t : String} {z : Int32} (hi : L[i]? = some (ow a (Ar Z (.object t) K' vs))) (hz : ¬ z < 0) (hN : z.toNatClampNeg < vs.length) (hs : ∀ h, Hp Z h L → Sto Z h a v) (hf : fits (.object t) v = true) (D : D1 code pc .aastore 1 pc') (K : Go wd EL p l e R Z s m args below meth c Q (updL L i (ow a (Ar Z (.object t) K' (updL vs z.toNatClampNeg v)))) k n (mkF m pc' Ls st)) : Go wd EL p l e R Z s m args below meth c Q L k n (mkF m pc Ls (v :: .int z :: .ref a :: st)) := by
  obtain ⟨d, rfl⟩ := D
  intro vm T lc F B I S
  replace X := X.re B
  obtain ⟨cl, A, -, q, -, -⟩ := I.1.arr hi
  obtain ⟨T', h', S', e', W, stp⟩ := stR S X.1 X.2.1 rfl A (inb q hz hN) rfl (hs _ I.1) (g := mkF m pc Ls (v :: .int z :: .ref a :: st)) rfl rfl (hb X.2.2.2.1 d)
  have I' := I.wr (P' := Ar Z (.object t) K' (updL vs z.toNatClampNeg v)) hi W fun c A _ _ => Ar.put A hf
  subst e'
  obtain ⟨u, o, st', r⟩ := K vm T' _ (F.app fun y hy => by cases List.mem_singleton.mp hy; exact I.1.ge hi) (B.mono (Nat.le_of_eq W.size.symm)) I' S'
  exact ⟨u, o, stp _ st', r⟩
theorem Hp.sto {f : Bool} (H : Hp Z h L) {K' : ClassId} {ty : FieldType} (hi : L[i]? = some (a, Ar Z ty K' vs, f)) (O : Ovr Z K' C) (I : Ins Z h b C true) : Sto Z h a (.ref b) := by
  obtain ⟨cl, A, q, -⟩ := H.arr hi
  exact Sto.of A (q ▸ O) I
theorem Go.ccast (X : Cx wd EL p Z s m meth c own nm code ml ret) {idx : Nat} (w : (Cond.classLink own idx C).before a0 Z = true) (hI : ∀ h, Hp Z h L → Ins Z h a C true) (D : D1 code pc (.checkcast idx) 3 pc') (K : Go wd EL p l e R Z s m args below meth c Q L k n (mkF m pc' Ls (.ref a :: st))) : Go wd EL p l e R Z s m args below meth c Q L k n (mkF m pc Ls (.ref a :: st)) := by
  obtain ⟨d, rfl⟩ := D
  intro vm T lc F B I S
  replace X := X.re B
  obtain ⟨T', S', e', stp⟩ := castY S X.1 X.2.1 X.2.2.1 w rfl (hI _ I.1) (g := mkF m pc Ls (.ref a :: st)) rfl rfl (hb X.2.2.2.1 d)
  rw [← e'] at I B
  obtain ⟨u, o, st', r⟩ := K vm T' lc F B I S'
  exact ⟨u, o, stp _ st', r⟩
theorem Go.inst1 (X : Cx wd EL p Z s m meth c own nm code ml ret) {idx : Nat} (w : (Cond.classLink own idx C).before a0 Z = true) (hI : ∀ h, Hp Z h L → Ins Z h a C true) (D : D1 code pc (.instanceof idx) 3 pc') (K : Go wd EL p l e R Z s m args below meth c Q L k n (mkF m pc' Ls (.int 1 :: st))) : Go wd EL p l e R Z s m args below meth c Q L k n (mkF m pc Ls (.ref a :: st)) := by
  obtain ⟨d, rfl⟩ := D
  intro vm T lc F B I S
  replace X := X.re B
  obtain ⟨T', S', e', stp⟩ := instY S X.1 X.2.1 X.2.2.1 w rfl (hI _ I.1) (g := mkF m pc Ls (.ref a :: st)) rfl rfl (hb X.2.2.2.1 d)
  rw [← e'] at I B
  obtain ⟨u, o, st', r⟩ := K vm T' lc F B I S'
  exact ⟨u, o, stp _ st', r⟩
/-! ### calls -/
theorem mroom (m : MethodId) (pc : Nat) (Ls : Array Slot) (st : List Value) : (mkF m pc Ls st).monitorRoom = 0 := rfl
theorem Kv {rest : List Value} {k' n' : Nat} {Qv : Value → List Ent → Prop} (K : ∀ v L, Qv v L → Go wd EL p l e R Z s m args below meth c Q L k' n' (mkF m pc' Ls (v :: rest))) : ∀ o L, rvQ Qv o L → Go wd EL p l e R Z s m args below meth c Q L k' n' (mkF m pc' Ls (o.toList ++ rest)) := by
  rintro _ L ⟨v, rfl, q⟩; exact K v L q
theorem K0 {rest : List Value} {k' n' : Nat} {Q0 : List Ent → Prop} (K : ∀ L, Q0 L → Go wd EL p l e R Z s m args below meth c Q L k' n' (mkF m pc' Ls rest)) : ∀ o L, r0Q Q0 o L → Go wd EL p l e R Z s m args below meth c Q L k' n' (mkF m pc' Ls (o.toList ++ rest)) := by
  rintro _ L ⟨rfl, q⟩; exact K L q
variable {y : MethodName} {code' : ByteArray} {ml' : Nat} {ret' : Option FieldType} {rm : Room} {argsL rest : List Value} {Q' : Option Value → List Ent → Prop}
/-- a contract as the library's call laws ask it: no interning since the walk's last base -/
theorem backN {as : Array Value} {len W : Nat} {sargs : Array Value} (hM : Ct false EL l Z y code' ml' ret' rm as L Q') (hZ : Z.Warmed39 s.vm) (wc : (Cond.code y code' ml' ret').before a0 Z = true) (wz : (Cond.initialized y.cls).before a0 Z = true) (hf : rm.frames + 1 ≤ R.frames) (hl : W + (ml' + 11) + rm.locals ≤ R.locals) :
    Back l R p e below s sargs y len W (fun A a => a = as ∧ Hp Z A.U.heap L ∧ A.cells + rm.cells ≤ R.cells ∧ A.slots + rm.slots ≤ R.slots)
      (fun A _ v B => ∃ L' lc, Q' v L' ∧ Iv false Z EL B.U.vm B.U.heap L' ∧ Fr Z.heap.size lc ∧ B.locs = A.locs ++ lc ∧ B.cells = A.cells + rm.cells ∧ B.slots = A.slots + rm.slots) :=
  Back.of_free (bytes := code') (maxL := ml') (ret := ret') (E := fun _ _ o t lc k n => k = rm.cells ∧ n = rm.slots ∧ ∃ v L', o = .returned v ∧ Q' v L' ∧ Iv false Z EL t.vm t.heap L' ∧ Fr Z.heap.size lc) (hM []) hf hl
    (fun m meth c A a Y hp => have hU : Z.Warmed39 A.U.vm := wtrans hZ Y.warmed
      ⟨by show (Cond.and _ .tt).before a A.U = true; rw [Cond.before_and, mv hU wc]; rfl, mv hU wc, mv hU wz, hp.2.2.1, hp.2.2.2⟩)
    (fun m meth c A a g mk Y hp => ⟨hp.1, wtrans hZ Y.warmed, hp.2.1, fun q => nomatch q⟩) (fun _ _ _ _ _ _ _ _ _ => trivial)
    (fun _ _ _ _ ⟨v, L', lc, h1, h2, h3, h4, h5⟩ => ⟨lc, _, _, h5, rfl, rfl, v, L', h1, h2, h3, h4⟩)
    (fun m meth c A a g mk v t lc k n Y hp _ _ ⟨e1, e2, v', L', e3, e4, e5, e6⟩ => by cases e3; subst e1 e2; exact ⟨L', lc, e4, e5, e6, rfl, rfl, rfl⟩)
/-- .. and where it may intern -/
theorem backW {as : Array Value} {len W : Nat} {sargs : Array Value} (hM : Ct true EL l Z y code' ml' ret' rm as L Q') (hZ : Z.Warmed39 vm) (wc : (Cond.code y code' ml' ret').before a0 Z = true) (wz : (Cond.initialized y.cls).before a0 Z = true) (hf : rm.frames + 1 ≤ R.frames) (hl : W + (ml' + 11) + rm.locals ≤ R.locals) {a1 : Array Value} (hEL : EW Z a1 EL) (H : Iv true Z EL vm h L) :
    BackS l R p e below (s.setVm vm) sargs y len W (fun A a => a = as ∧ A.U.heap = h ∧ A.cells + rm.cells ≤ R.cells ∧ A.slots + rm.slots ≤ R.slots)
      (fun A _ v B => ∃ L' lc, Q' v L' ∧ Iv true Z EL B.U.vm B.U.heap L' ∧ Fr Z.heap.size lc ∧ B.locs = A.locs ++ lc ∧ B.cells = A.cells + rm.cells ∧ B.slots = A.slots + rm.slots) :=
  BackS.of_freeW (bytes := code') (maxL := ml') (ret := ret') (E := fun _ _ o t lc k n => k = rm.cells ∧ n = rm.slots ∧ ∃ v L', o = .returned v ∧ Q' v L' ∧ Iv true Z EL t.vm t.heap L' ∧ Fr Z.heap.size lc) (hM []) hf hl
    (fun m meth c A a Y hp => have hU : Z.Warmed39 A.U.vm := wtrans (s := s.setVm vm) hZ Y.warmed
      ⟨by show (Cond.and _ .tt).before a A.U = true; rw [Cond.before_and, mv hU wc]; rfl, mv hU wc, mv hU wz, hp.2.2.1, hp.2.2.2⟩)
    (fun m meth c A a g mk Y hp => ⟨hp.1, wtrans (s := s.setVm vm) hZ Y.warmed, by
      have r := CHv.at Y hZ hEL (H.2 rfl).1
      have q : A.U.heap = h := hp.2.1
      show Iv true Z EL A.U.vm A.U.heap L
      rw [q]
      refine ⟨H.1, fun _ => ⟨r.1, fun x hx hf => r.safe ?_ ((H.2 rfl).2 x hx hf)⟩⟩
      obtain ⟨-, cc, h1, -⟩ := H.1.2.1 x hx
      exact (Array.getElem?_eq_some_iff.mp h1).1⟩) (fun _ _ _ _ _ _ _ _ _ => trivial)
    (fun _ _ _ _ ⟨v, L', lc, h1, h2, h3, h4, h5⟩ => ⟨lc, _, _, h5, rfl, rfl, v, L', h1, h2, h3, h4⟩)
    (fun m meth c A a g mk v t lc k n Y hp _ _ ⟨e1, e2, v', L', e3, e4, e5, e6⟩ => by cases e3; subst e1 e2; exact ⟨L', lc, e4, e5, e6, rfl, rfl, rfl⟩)
theorem Go.byN {g : JFrame} (X : Cx false EL p Z s m meth c own nm code ml ret)
    (f : ∀ s, Cx false EL p Z s m meth c own nm code ml ret → ∀ T lc, Hp Z T.heap L → Stand p l e R s m args below meth c T lc k n → ∃ (v : Option Value) (vm : Vm) (B : Pt), s.WarmedH vm ∧ Stand p l e R s m args below meth c B.U B.locs B.cells B.slots ∧ (∃ L' lc', Q' v L' ∧ Iv false Z EL B.U.vm B.U.heap L' ∧ Fr Z.heap.size lc' ∧ B.locs = lc ++ lc' ∧ B.cells = k + rm.cells ∧ B.slots = n + rm.slots) ∧ Steps p.tables e below (T.setTop g) (B.U.setTop (mkF m pc' Ls (v.toList ++ rest))))
    (hgrow : ∀ T : State, True) (K : ∀ o L, Q' o L → Go false EL p l e R Z s m args below meth c Q L (k + rm.cells) (n + rm.slots) (mkF m pc' Ls (o.toList ++ rest))) : Go false EL p l e R Z s m args below meth c Q L k n g := by
  intro vm T lc F B I S
  obtain ⟨v, vm', ⟨T', L2, k2, n2⟩, -, S', ⟨L3, lc3, hQ, I3, F3, e1, e2, e3⟩, stp⟩ := f _ (X.re B) T lc I.1 S
  dsimp only [Pt.U, Pt.locs, Pt.cells, Pt.slots] at S' e1 e2 e3 stp I3
  subst e1 e2 e3
  obtain ⟨u, o, st', r⟩ := K v L3 hQ vm T' _ (F.app F3) B ⟨I3.1, fun q => nomatch q⟩ S'
  exact ⟨u, o, stp.trans st', r⟩
theorem Go.byW {g : JFrame} (X : Cx true EL p Z s m meth c own nm code ml ret)
    (f : ∀ vm, Cx true EL p Z (s.setVm vm) m meth c own nm code ml ret → ∀ T lc, Iv true Z EL vm T.heap L → Stand p l e R (s.setVm vm) m args below meth c T lc k n → ∃ (v : Option Value) (vm1 : Vm) (B : Pt), (s.setVm vm).WarmedH vm1 ∧ Stand p l e R ((s.setVm vm).setVm B.U.vm) m args below meth c B.U B.locs B.cells B.slots ∧ (s.setVm vm).Since B.U.vm B.U.heap.size ∧ T.heap.size ≤ B.U.heap.size ∧ (∃ L' lc', Q' v L' ∧ Iv true Z EL B.U.vm B.U.heap L' ∧ Fr Z.heap.size lc' ∧ B.locs = lc ++ lc' ∧ B.cells = k + rm.cells ∧ B.slots = n + rm.slots) ∧ Steps p.tables e below (T.setTop g) (B.U.setTop (mkF m pc' Ls (v.toList ++ rest))))
    (K : ∀ o L, Q' o L → Go true EL p l e R Z s m args below meth c Q L (k + rm.cells) (n + rm.slots) (mkF m pc' Ls (o.toList ++ rest))) : Go true EL p l e R Z s m args below meth c Q L k n g := by
  intro vm T lc F B I S
  obtain ⟨v, vm', ⟨T', L2, k2, n2⟩, -, S', hS, hsz, ⟨L3, lc3, hQ, I3, F3, e1, e2, e3⟩, stp⟩ := f _ (X.re B) T lc I S
  dsimp only [Pt.U, Pt.locs, Pt.cells, Pt.slots] at S' e1 e2 e3 stp hS hsz I3
  subst e1 e2 e3
  have B' : s.Since vm T.heap.size := B
  obtain ⟨u, o, st', r⟩ := K v L3 hQ T'.vm T' _ (F.app F3) (B'.trans hS hsz) I3 S'
  exact ⟨u, o, stp.trans st', r⟩
theorem Go.callS (X : Cx wd EL p Z s m meth c own nm code ml ret) (B : Ct wd EL l Z y code' ml' ret' rm argsL.toArray L Q')
    {idx : Nat} (w1 : (Cond.methodLink own idx y).before a0 Z = true) (w2 : (Cond.static y).before a0 Z = true) (w3 : (Cond.initialized y.cls).before a0 Z = true) (w4 : (Cond.code y code' ml' ret').before a0 Z = true) (hy : y.cls ≠ "java/lang/invoke/MethodHandle" ∧ y.cls ≠ "java/lang/invoke/VarHandle")
    {ps : List FieldType} {rt : Option FieldType} (pd : parseMethodDescriptor y.desc = some ⟨ps, rt⟩) (hl : argsL.length = ps.length) (hs : st = argsL.reverse ++ rest) (D : D1 code pc (.invokestatic idx) 3 pc') (hm : Ls.size = ml)
    (hf : rm.frames + 1 ≤ R.frames) (hlo : (rest.map fun v => v.category).sum + (ml' + 11) + rm.locals ≤ R.locals) (hk : k + rm.cells ≤ R.cells) (hn : n + rm.slots ≤ R.slots)
    (K : ∀ o L, Q' o L → Go wd EL p l e R Z s m args below meth c Q L (k + rm.cells) (n + rm.slots) (mkF m pc' Ls (o.toList ++ rest))) : Go wd EL p l e R Z s m args below meth c Q L k n (mkF m pc Ls st) := by
  obtain ⟨d, rfl⟩ := D
  subst hs
  cases wd
  · refine Go.byN X (fun s X T lc H S => ?_) (fun _ => trivial) K
    obtain ⟨v, vm, B, b1, b2, b3, b4⟩ := Jvm.LawKit.callS S X.1 X.2.2.1 (mvT X.2.1 w1) (mvT X.2.1 w2) (mvT X.2.1 w3) (mvT X.2.1 w4) hy (backN (W := (rest.map fun v => v.category).sum) B X.2.1 w4 w3 hf hlo) (g := mkF m pc Ls (argsL.reverse ++ rest)) rfl (by rw [X.2.2.2.2.1]; exact hm) (argsL := argsL) (rest := rest) (lenOf pd hl) rfl (by rw [mroom]; omega) (hb X.2.2.2.1 d) (fun _ _ => ⟨rfl, H, hk, hn⟩)
    exact ⟨v, vm, B, b1, b2, b3, b4 _ (Steps.refl _)⟩
  · refine Go.byW X (fun vm X T lc I S => ?_) K
    obtain ⟨a1, hE⟩ := X.2.2.2.2.2.2.2.2 rfl
    have H := I.1
    exact callSS S X.1 X.2.2.1 (mvT X.2.1 w1) (mvT X.2.1 w2) (mvT X.2.1 w3) (mvT X.2.1 w4) hy (backW (W := (rest.map fun v => v.category).sum) B X.2.1 w4 w3 hf hlo hE I) (g := mkF m pc Ls (argsL.reverse ++ rest)) rfl (by rw [X.2.2.2.2.1]; exact hm) (argsL := argsL) (rest := rest) (lenOf pd hl) rfl (by rw [mroom]; omega) (hb X.2.2.2.1 d) (fun _ _ => ⟨rfl, rfl, hk, hn⟩)
theorem Go.callI (X : Cx wd EL p Z s m meth c own nm code ml ret) (B : Ct wd EL l Z y code' ml' none rm (Value.ref a :: argsL).toArray L Q') (hy1 : y.name = "<init>")
    {idx : Nat} (w1 : (Cond.methodLink own idx y).before a0 Z = true) (w2 : (Cond.instanceMethod y).before a0 Z = true) (w3 : (Cond.initialized y.cls).before a0 Z = true) (w4 : (Cond.code y code' ml' none).before a0 Z = true) (hy : y.cls ≠ "java/lang/invoke/MethodHandle" ∧ y.cls ≠ "java/lang/invoke/VarHandle")
    {ps : List FieldType} {rt : Option FieldType} (pd : parseMethodDescriptor y.desc = some ⟨ps, rt⟩) (hl : argsL.length = ps.length) (hs : st = argsL.reverse ++ .ref a :: rest) (D : D1 code pc (.invokespecial idx) 3 pc') (hm : Ls.size = ml)
    (hf : rm.frames + 1 ≤ R.frames) (hlo : (rest.map fun v => v.category).sum + (ml' + 11) + rm.locals ≤ R.locals) (hk : k + rm.cells ≤ R.cells) (hn : n + rm.slots ≤ R.slots)
    (K : ∀ o L, Q' o L → Go wd EL p l e R Z s m args below meth c Q L (k + rm.cells) (n + rm.slots) (mkF m pc' Ls (o.toList ++ rest))) : Go wd EL p l e R Z s m args below meth c Q L k n (mkF m pc Ls st) := by
  obtain ⟨d, rfl⟩ := D
  subst hs
  cases wd
  · refine Go.byN X (fun s X T lc H S => ?_) (fun _ => trivial) K
    exact S.specialBack X.1 hy1 X.2.2.1 (mvT X.2.1 w1) (mvT X.2.1 w2) (mvT X.2.1 w4) hy (backN (W := (rest.map fun v => v.category).sum) B X.2.1 w4 w3 hf hlo) (g := mkF m pc Ls (argsL.reverse ++ .ref a :: rest)) rfl (by rw [X.2.2.2.2.1]; exact hm) (Steps.refl _) (a := a) (argsL := argsL) (rest := rest) (lenOf pd hl) rfl (by rw [mroom]; omega) (hb X.2.2.2.1 d) (fun _ _ => ⟨rfl, H, hk, hn⟩)
  · refine Go.byW X (fun vm X T lc I S => ?_) K
    obtain ⟨a1, hE⟩ := X.2.2.2.2.2.2.2.2 rfl
    have H := I.1
    exact S.specialBackS X.1 hy1 X.2.2.1 (mvT X.2.1 w1) (mvT X.2.1 w2) (mvT X.2.1 w4) hy (backW (W := (rest.map fun v => v.category).sum) B X.2.1 w4 w3 hf hlo hE I) (g := mkF m pc Ls (argsL.reverse ++ .ref a :: rest)) rfl (by rw [X.2.2.2.2.1]; exact hm) (Steps.refl _) (a := a) (argsL := argsL) (rest := rest) (lenOf pd hl) rfl (by rw [mroom]; omega) (hb X.2.2.2.1 d) (fun _ _ => ⟨rfl, rfl, hk, hn⟩)
theorem Go.callV (X : Cx wd EL p Z s m meth c own nm code ml ret) {z : MethodName} (E : ∀ h, Hp Z h L → Exa Z h a C) (B : Ct wd EL l Z z code' ml' ret' rm (Value.ref a :: argsL).toArray L Q')
    {idx : Nat} (w1 : (Cond.methodLink own idx y).before a0 Z = true) (wdc : (Cond.declares y).before a0 Z = true) (hnf : ∀ s : State, Z.Warmed39 s.vm → NotFace s y) (ws : (Cond.selects C y z).before a0 Z = true) (w2 : (Cond.instanceMethod z).before a0 Z = true) (w3 : (Cond.initialized z.cls).before a0 Z = true) (w4 : (Cond.code z code' ml' ret').before a0 Z = true) (hy : y.cls ≠ "java/lang/invoke/MethodHandle" ∧ y.cls ≠ "java/lang/invoke/VarHandle")
    {ps : List FieldType} {rt : Option FieldType} (pd : parseMethodDescriptor y.desc = some ⟨ps, rt⟩) (hl : argsL.length = ps.length) (hs : st = argsL.reverse ++ .ref a :: rest) (D : D1 code pc (.invokevirtual idx) 3 pc') (hm : Ls.size = ml)
    (hf : rm.frames + 1 ≤ R.frames) (hlo : (rest.map fun v => v.category).sum + (ml' + 11) + rm.locals ≤ R.locals) (hk : k + rm.cells ≤ R.cells) (hn : n + rm.slots ≤ R.slots)
    (K : ∀ o L, Q' o L → Go wd EL p l e R Z s m args below meth c Q L (k + rm.cells) (n + rm.slots) (mkF m pc' Ls (o.toList ++ rest))) : Go wd EL p l e R Z s m args below meth c Q L k n (mkF m pc Ls st) := by
  obtain ⟨d, rfl⟩ := D
  subst hs
  cases wd
  · refine Go.byN X (fun s X T lc H S => ?_) (fun _ => trivial) K
    obtain ⟨cq, kq, qa, qb, qc⟩ := isOf (T := T) X.2.1 rfl (E _ H)
    exact S.virtualBack X.1 X.2.2.1 (mvT X.2.1 w1) (mvT X.2.1 wdc) (hnf _ X.2.1) (mvT X.2.1 ws) (mvT X.2.1 w2) hy (backN (W := (rest.map fun v => v.category).sum) B X.2.1 w4 w3 hf hlo) qa qc (g := mkF m pc Ls (argsL.reverse ++ .ref a :: rest)) rfl (by rw [X.2.2.2.2.1]; exact hm) (Steps.refl _) (argsL := argsL) (rest := rest) (lenOf pd hl) rfl (by rw [mroom]; omega) (hb X.2.2.2.1 d) (fun _ _ => ⟨rfl, H, hk, hn⟩)
  · refine Go.byW X (fun vm X T lc I S => ?_) K
    obtain ⟨a1, hE⟩ := X.2.2.2.2.2.2.2.2 rfl
    have H := I.1
    obtain ⟨cq, kq, qa, qb, qc⟩ := isOf (T := T) X.2.1 rfl (E _ H)
    exact S.virtualBackS X.1 X.2.2.1 (mvT X.2.1 w1) (mvT X.2.1 wdc) (hnf _ X.2.1) (mvT X.2.1 ws) (mvT X.2.1 w2) hy (backW (W := (rest.map fun v => v.category).sum) B X.2.1 w4 w3 hf hlo hE I) qa qc (g := mkF m pc Ls (argsL.reverse ++ .ref a :: rest)) rfl (by rw [X.2.2.2.2.1]; exact hm) (Steps.refl _) (argsL := argsL) (rest := rest) (lenOf pd hl) rfl (by rw [mroom]; omega) (hb X.2.2.2.1 d) (fun _ _ => ⟨rfl, rfl, hk, hn⟩)
theorem nfS (ws : (Cond.selects C y y).before a0 Z = true) : ∀ s : State, Z.Warmed39 s.vm → NotFace s y := fun s q => notFace_of_selects (args := #[]) (mvT q ws)
theorem nfT (ws : (Cond.noSuperclass y.cls).before a0 Z = true) : ∀ s : State, Z.Warmed39 s.vm → NotFace s y := fun s q => nf_top (args := #[]) (mvT q ws)
theorem nfU {S : String} (ws : (Cond.superclass y.cls S).before a0 Z = true) : ∀ s : State, Z.Warmed39 s.vm → NotFace s y := fun s q => nf_super (args := #[]) (mvT q ws)
theorem Go.callP (X : Cx wd EL p Z s m meth c own nm code ml ret) (E : ∀ h, Hp Z h L → Exa Z h a C) (B : Ct wd EL l Z y code' ml' ret' rm (Value.ref a :: argsL).toArray L Q')
    {idx : Nat} (w1 : (Cond.methodLink own idx y).before a0 Z = true) (w2 : (Cond.instanceMethod y).before a0 Z = true) (ws : (Cond.selects y.cls y y).before a0 Z = true) (wp : (Cond.privateMethod y).before a0 Z = true) (w3 : (Cond.initialized y.cls).before a0 Z = true) (w4 : (Cond.code y code' ml' ret').before a0 Z = true) (hy : y.cls ≠ "java/lang/invoke/MethodHandle" ∧ y.cls ≠ "java/lang/invoke/VarHandle")
    {ps : List FieldType} {rt : Option FieldType} (pd : parseMethodDescriptor y.desc = some ⟨ps, rt⟩) (hl : argsL.length = ps.length) (hs : st = argsL.reverse ++ .ref a :: rest) (D : D1 code pc (.invokevirtual idx) 3 pc') (hm : Ls.size = ml)
    (hf : rm.frames + 1 ≤ R.frames) (hlo : (rest.map fun v => v.category).sum + (ml' + 11) + rm.locals ≤ R.locals) (hk : k + rm.cells ≤ R.cells) (hn : n + rm.slots ≤ R.slots)
    (K : ∀ o L, Q' o L → Go wd EL p l e R Z s m args below meth c Q L (k + rm.cells) (n + rm.slots) (mkF m pc' Ls (o.toList ++ rest))) : Go wd EL p l e R Z s m args below meth c Q L k n (mkF m pc Ls st) := by
  obtain ⟨d, rfl⟩ := D
  subst hs
  cases wd
  · refine Go.byN X (fun s X T lc H S => ?_) (fun _ => trivial) K
    obtain ⟨cq, q1, q2⟩ := (E _ H).cell
    exact S.privateBack X.1 X.2.2.1 (mvT X.2.1 w1) (mvT X.2.1 w2) (mvT X.2.1 ws) (Cond.privateMethod_at (mvP X.2.1 wp (args := #[]))) (mvT X.2.1 w4) hy (backN (W := (rest.map fun v => v.category).sum) B X.2.1 w4 w3 hf hlo) (g := mkF m pc Ls (argsL.reverse ++ .ref a :: rest)) rfl (by rw [X.2.2.2.2.1]; exact hm) (Steps.refl _) (a := a) q1 q2 (argsL := argsL) (rest := rest) (lenOf pd hl) rfl (by rw [mroom]; omega) (hb X.2.2.2.1 d) (fun _ _ => ⟨rfl, H, hk, hn⟩)
  · refine Go.byW X (fun vm X T lc I S => ?_) K
    obtain ⟨a1, hE⟩ := X.2.2.2.2.2.2.2.2 rfl
    have H := I.1
    obtain ⟨cq, q1, q2⟩ := (E _ H).cell
    exact S.privateBackS X.1 X.2.2.1 (mvT X.2.1 w1) (mvT X.2.1 w2) (mvT X.2.1 ws) (Cond.privateMethod_at (mvP X.2.1 wp (args := #[]))) (mvT X.2.1 w4) hy (backW (W := (rest.map fun v => v.category).sum) B X.2.1 w4 w3 hf hlo hE I) (g := mkF m pc Ls (argsL.reverse ++ .ref a :: rest)) rfl (by rw [X.2.2.2.2.1]; exact hm) (Steps.refl _) (a := a) q1 q2 (argsL := argsL) (rest := rest) (lenOf pd hl) rfl (by rw [mroom]; omega) (hb X.2.2.2.1 d) (fun _ _ => ⟨rfl, rfl, hk, hn⟩)
theorem Go.callN (X : Cx wd EL p Z s m meth c own nm code ml ret) {xi : MethodName} (E : ∀ h, Hp Z h L → Exa Z h a C) (B : Ct wd EL l Z y code' ml' ret' rm (Value.ref a :: argsL).toArray L Q')
    {idx cnt : Nat} (w1 : (Cond.methodLink own idx xi).before a0 Z = true) (wdc : (Cond.declares xi).before a0 Z = true) (hfa : (Cond.interfaceMethod xi.cls xi.cls xi.name xi.desc).faceAtom = true) (wf : (Cond.interfaceMethod xi.cls xi.cls xi.name xi.desc).before a0 Z = true) (ws : (Cond.selects C xi y).before a0 Z = true) (w2 : (Cond.instanceMethod y).before a0 Z = true) (wp : (Cond.publicMethod y).before a0 Z = true) (wu : (Cond.unhidden C xi.name xi.desc).before a0 Z = true) (wc : (Cond.castable C xi.cls).before a0 Z = true) (w3 : (Cond.initialized y.cls).before a0 Z = true) (w4 : (Cond.code y code' ml' ret').before a0 Z = true) (hy : xi.cls ≠ "java/lang/invoke/MethodHandle" ∧ xi.cls ≠ "java/lang/invoke/VarHandle")
    {ps : List FieldType} {rt : Option FieldType} (pd : parseMethodDescriptor xi.desc = some ⟨ps, rt⟩) (hl : argsL.length = ps.length) (hs : st = argsL.reverse ++ .ref a :: rest) (D : D1 code pc (.invokeinterface idx cnt) 5 pc') (hm : Ls.size = ml)
    (hf : rm.frames + 1 ≤ R.frames) (hlo : (rest.map fun v => v.category).sum + (ml' + 11) + rm.locals ≤ R.locals) (hk : k + rm.cells ≤ R.cells) (hn : n + rm.slots ≤ R.slots)
    (K : ∀ o L, Q' o L → Go wd EL p l e R Z s m args below meth c Q L (k + rm.cells) (n + rm.slots) (mkF m pc' Ls (o.toList ++ rest))) : Go wd EL p l e R Z s m args below meth c Q L k n (mkF m pc Ls st) := by
  obtain ⟨d, rfl⟩ := D
  subst hs
  cases wd
  · refine Go.byN X (fun s X T lc H S => ?_) (fun _ => trivial) K
    obtain ⟨cq, kq, qa, qb, qc⟩ := isOf (T := T) X.2.1 rfl (E _ H)
    exact S.interfaceBack X.1 X.2.2.1 (mvT X.2.1 w1) (mvT X.2.1 wdc) (mvT X.2.1 wf (by simp [Cond.onTables, Cond.keepsFace, Cond.keeps, Cond.steady, hfa])) (mvT X.2.1 ws) (mvT X.2.1 w2) (mvT X.2.1 wp) (mvT X.2.1 wu) (mvT X.2.1 wc) hy (backN (W := (rest.map fun v => v.category).sum) B X.2.1 w4 w3 hf hlo) qa qb qc (g := mkF m pc Ls (argsL.reverse ++ .ref a :: rest)) rfl (by rw [X.2.2.2.2.1]; exact hm) (Steps.refl _) (argsL := argsL) (rest := rest) (lenOf pd hl) rfl (by rw [mroom]; omega) (hb X.2.2.2.1 d) (fun _ _ => ⟨rfl, H, hk, hn⟩)
  · refine Go.byW X (fun vm X T lc I S => ?_) K
    obtain ⟨a1, hE⟩ := X.2.2.2.2.2.2.2.2 rfl
    have H := I.1
    obtain ⟨cq, kq, qa, qb, qc⟩ := isOf (T := T) X.2.1 rfl (E _ H)
    exact S.interfaceBackS X.1 X.2.2.1 (mvT X.2.1 w1) (mvT X.2.1 wdc) (mvT X.2.1 wf (by simp [Cond.onTables, Cond.keepsFace, Cond.keeps, Cond.steady, hfa])) (mvT X.2.1 ws) (mvT X.2.1 w2) (mvT X.2.1 wp) (mvT X.2.1 wu) (mvT X.2.1 wc) hy (backW (W := (rest.map fun v => v.category).sum) B X.2.1 w4 w3 hf hlo hE I) qa qb qc (g := mkF m pc Ls (argsL.reverse ++ .ref a :: rest)) rfl (by rw [X.2.2.2.2.1]; exact hm) (Steps.refl _) (argsL := argsL) (rest := rest) (lenOf pd hl) rfl (by rw [mroom]; omega) (hb X.2.2.2.1 d) (fun _ _ => ⟨rfl, rfl, hk, hn⟩)
theorem Go.initObj (X : Cx wd EL p Z s m meth c own nm code ml ret) {idx : Nat} (w1 : (Cond.methodLink own idx Lib.objectInit).before a0 Z = true) (w2 : (Cond.instanceMethod Lib.objectInit).before a0 Z = true) (w3 : (Cond.code Lib.objectInit ⟨#[0xb1]⟩ 1 none).before a0 Z = true) (D : D1 code pc (.invokespecial idx) 3 pc') (hm : Ls.size = ml) (hf : 1 ≤ R.frames) (hlo : (st.map fun v => v.category).sum + 12 ≤ R.locals)
    (K : Go wd EL p l e R Z s m args below meth c Q L k n (mkF m pc' Ls st)) : Go wd EL p l e R Z s m args below meth c Q L k n (mkF m pc Ls (.ref a :: st)) := by
  obtain ⟨d, rfl⟩ := D
  intro vm T lc F B I S
  replace X := X.re B
  obtain ⟨T', S', e', stp⟩ := initO S X.1 X.2.1 X.2.2.1 w1 w2 w3 rfl (g := mkF m pc Ls (.ref a :: st)) rfl (by rw [X.2.2.2.2.1]; exact hm) rfl (hb X.2.2.2.1 d) hf (W := (st.map fun v => v.category).sum) (by rw [mroom]; omega) hlo
  rw [← e'] at I B
  obtain ⟨u, o, st', r⟩ := K vm T' lc F B I S'
  exact ⟨u, o, stp _ st', r⟩
end Steps
/-- a String constant's cell: its bytes are the array b's, its coder 0 -/
def Lt (Z : State) (b : Addr) (c : Cell) : Prop := (∃ k, Z.vm.findClass "java/lang/String" = some c.cls ∧ Z.vm.classes[c.cls]? = some k ∧ c.vm.isStatics = false ∧ (k.kind = .ordinary → c.slots.size = k.instanceTypes.size)) ∧
  (∃ cf k i f, Z.fieldFound? "java/lang/String" "coder" "B" = some (cf, k, i, f) ∧ f.isStatic = false ∧ c.vm ≠ .unknown ∧ c.vm.isStatics = false ∧ Z.vm.assignable c.cls cf = true ∧ c.slots[f.slot]? = some (.int 0)) ∧
  (∃ cf k i f, Z.fieldFound? "java/lang/String" "value" "[B" = some (cf, k, i, f) ∧ f.isStatic = false ∧ c.vm ≠ .unknown ∧ c.vm.isStatics = false ∧ Z.vm.assignable c.cls cf = true ∧ c.slots[f.slot]? = some (.ref b))
theorem Hp.ltC {Z : State} {h : Heap} {L : List Ent} {i : Nat} {a b : Addr} {f : Bool} (H : Hp Z h L) (hi : L[i]? = some (a, Lt Z b, f)) : Exa Z h a "java/lang/String" ∧ Fld Z h a "java/lang/String" "coder" "B" (.int 0) ∧ Fld Z h a "java/lang/String" "value" "[B" (.ref b) := by
  obtain ⟨c, hc, ⟨k, r1⟩, ⟨cf, k2, i2, f2, r2⟩, ⟨cf3, k3, i3, f3, r3⟩⟩ := H.at hi
  exact ⟨⟨c, k, hc, r1⟩, ⟨c, cf, k2, i2, f2, hc, r2⟩, ⟨c, cf3, k3, i3, f3, hc, r3⟩⟩
/-- ldc of a String constant of EL: the object spells its text (Latin-1); it is none of L's -/
theorem Go.ldcS {EL : List (String × Nat)} {p : Program} {l : Launch} {e : Env} {R : Room} {Z s : State} {m : MethodId} {args : Array Value} {below : List Frame} {meth : Method} {c : Code} {Q : Option Value → List Ent → Prop} {L : List Ent} {k n : Nat} {own nm : String} {code : ByteArray} {ml : Nat} {ret : Option FieldType} {a0 : Array Value} {pc pc' : Nat} {Ls : Array Slot} {st : List Value}
    (X : Cx true EL p Z s m meth c own nm code ml ret) {idx : Nat} {text : String} (w : (Cond.stringLink own idx text).before a0 Z = true) (wS : ∀ a ∈ Bundle.stringAtoms, a.before a0 Z = true) (hmem : (own, idx) ∈ EL) {vs : List Value} {z : Int32} (ht : (∀ c ∈ text.toList, c.toNat < 256) ∧ text.toList.map (fun c => Value.int (Jvm.Lit.byteI c.toNat.toUInt16)) = vs) (hz : ¬ z < 0) (hl : z.toNatClampNeg = vs.length)
    (D : D1 code pc (.ldc idx) 2 pc') {N : Nat} (hN : 4 * text.toList.length ≤ N) (hbig : N ≤ 536870912) (hc : k + 2 ≤ R.cells) (hl' : n + (N + 4) ≤ R.slots)
    (K : ∀ (a b : Addr) (K' : ClassId), Go true EL p l e R Z s m args below meth c Q (ro a (Lt Z b) :: ro b (Ar Z .byte K' vs) :: L) (k + 2) (n + (N + 4)) (mkF m pc' Ls (.ref a :: st))) : Go true EL p l e R Z s m args below meth c Q L k n (mkF m pc Ls st) := by
  obtain ⟨d, rfl⟩ := D
  intro vm T lc F B I S
  obtain ⟨a1, hE⟩ := X.2.2.2.2.2.2.2.2 rfl
  have B' : s.Since vm T.heap.size := B
  replace X := X.re B
  obtain ⟨hv1, hv2⟩ := I.2 rfl
  obtain ⟨a, T', h', k1, b, kk, S', e', E', q1, q2, q3, q4, q5, q6, q7, q8, q9, q10, q11, q12, q13, stp⟩ := ldcCH S X.1 X.2.1 X.2.2.1 w wS rfl B' (Nat.le_refl _) hE hmem hv1 ht hz hl (g := mkF m pc Ls st) rfl (hb X.2.2.2.1 d) hN hbig hc hl'
  subst e'
  have I' : Iv true Z EL T'.vm T'.heap L := ⟨I.1.mono E', fun _ => ⟨q11.1, fun x hx hf => q11.safe (by obtain ⟨-, cc, h1, -⟩ := I.1.2.1 x hx; exact (Array.getElem?_eq_some_iff.mp h1).1) (hv2 x hx hf)⟩⟩
  have I2 := I'.know (a := b) (P := Ar Z .byte kk vs) (by
    obtain ⟨cl, A, r1, r2, r3, r4, r5⟩ := q8
    have rs : cl.slots = vs.toArray := by
      apply Array.ext
      · rw [r2, hl]; simp
      · intro i h1 h2
        have := r4 i h1
        rw [Array.getElem?_eq_getElem h1] at this
        have h3 : i < vs.length := by simpa using h2
        rw [List.getD_eq_getElem?_getD, List.getElem?_eq_getElem h3] at this
        simpa using this
    refine ⟨cl, A.1, A.2.1, A.2.2, r1, rs, by rw [← hl]; exact (back32 hz).2, fun v hv => ?_⟩
    obtain ⟨i, hi, rfl⟩ := List.getElem_of_mem hv
    have := r5 i (by rw [r2, hl]; exact hi)
    rw [List.getD_eq_getElem?_getD, List.getElem?_eq_getElem hi] at this
    exact this) (fun x hx hf => (q13 x.1 (I'.2 rfl |>.2 x hx hf)).2)
  have I3 := I2.know (a := a) (P := Lt Z b) (by
    obtain ⟨cell, kc, a1, a2, a3, a4, a5⟩ := q5
    obtain ⟨c1, cf1, k1', i1, f1, b1, b2⟩ := q6
    obtain ⟨c2, cf2, k2', i2, f2, b3, b4⟩ := q7
    cases a1.symm.trans b1
    cases a1.symm.trans b3
    exact ⟨_, a1, ⟨kc, a2, a3, a4, a5⟩, ⟨_, _, _, _, b2⟩, ⟨_, _, _, _, b4⟩⟩) (fun x hx hf => by
      rcases List.mem_cons.mp hx with rfl | u
      · cases hf
      · exact (q13 x.1 (I'.2 rfl |>.2 x u hf)).1)
  obtain ⟨u, o, st', r⟩ := K a b kk T'.vm T' lc F (show s.Since T'.vm T'.heap.size from ⟨q1.1, fun j p hj hp => by obtain ⟨x, y⟩ := q1.2 j p hj hp; exact ⟨x, Nat.lt_of_lt_of_le y q2⟩⟩) I3 S'
  exact ⟨u, o, stp _ st', r⟩
end Jvm.OwnKit
namespace Jvm.OwnKit
open Sem ClassFile Op Lib Jvm.Stand Jvm.Free Jvm.LawKit Jvm.RoadKit
section More
variable {wd : Bool} {EL : List (String × Nat)} {p : Program} {l : Launch} {e : Env} {R : Room} {Z s : State} {m : MethodId} {args : Array Value} {below : List Frame} {meth : Method} {c : Code} {Q : Option Value → List Ent → Prop} {L L' : List Ent} {k n : Nat} {own nm : String} {code : ByteArray} {ml : Nat} {ret : Option FieldType} {a0 : Array Value}
variable {pc pc' : Nat} {Ls : Array Slot} {st : List Value} {i j : Nat} {a b : Addr} {C : String} {ns : List Nm} {vs vd : List Value} {v : Value} {h h' : Heap} {vm : Vm} {P P' : Cell → Prop} {f : Bool} {ty : FieldType} {K K' : ClassId}
theorem Hp.kp (H : Hp Z h L) (hi : L[i]? = some (ow b P)) (Kp : Keep h h' [b]) (hc : ∃ c, h'[b]? = some c ∧ P' c) : Hp Z h' (updL L i (ow b P')) := by
  refine ⟨⟨Nat.le_trans H.1.1 Kp.1, fun x c q => Kp.2.1 x c (H.1.2 x c q) fun r => ?_⟩, fun x hx => ?_, upd_apart L i (ow b P') (ow b P) hi rfl rfl H.2.2⟩
  · cases List.mem_singleton.mp r
    exact absurd (Array.getElem?_eq_some_iff.mp q).1 (Nat.not_lt.mpr (H.ge hi))
  · rcases upd_mem _ _ _ _ hx with rfl | ⟨j, hj, hLj⟩
    · exact ⟨fun _ => H.ge hi, hc⟩
    · obtain ⟨xa, xP, xf⟩ := x
      obtain ⟨q1, c, q2, q3⟩ := H.2.1 _ (List.mem_of_getElem? hLj)
      exact ⟨q1, c, Kp.2.1 _ _ q2 fun r => H.ne hi hLj (Ne.symm hj) (by simp) (List.mem_singleton.mp r).symm, q3⟩
theorem Iv.kp (I : Iv wd Z EL vm h L) (hi : L[i]? = some (ow b P)) (Kp : Keep h h' [b]) (hc : ∃ c, h'[b]? = some c ∧ P' c) : Iv wd Z EL vm h' (updL L i (ow b P')) := ⟨I.1.kp hi Kp hc, fun q => by
  have S := (I.2 q).2 _ (List.mem_of_getElem? hi) rfl
  have hs : ∀ x ∈ [b], Safe Z EL vm h x := fun x hx => by cases List.mem_singleton.mp hx; exact S
  refine ⟨(I.2 q).1.keep Kp hs, fun x hx hf => ?_⟩
  rcases upd_mem _ _ _ _ hx with rfl | ⟨j, hj, hLj⟩
  · exact Safe.keep Kp hs (I.2 q).1 S
  · exact Safe.keep Kp hs (I.2 q).1 ((I.2 q).2 x (List.mem_of_getElem? hLj) hf)⟩
theorem i32_of_clamp {z : Int32} {N : Nat} (hz : ¬ z < 0) (hN : z.toNatClampNeg = N) : z.toInt = N := by
  rw [Int32.lt_iff_toInt_lt] at hz; have : (0 : Int32).toInt = 0 := rfl
  simp only [Int32.toNatClampNeg] at hN; omega
theorem Ar.arv (hc : ∃ c, h[a]? = some c ∧ Ar Z ty K vs c) (dv : Value) : ∃ z : Int32, z.toNatClampNeg = vs.length ∧ ¬ z < 0 ∧ Arv Z h a K ty z vs dv := by
  obtain ⟨c, q1, q2, q3, q4, q5, q6, q7⟩ := hc
  obtain ⟨n1, n2, n3⟩ := nat32 q6
  refine ⟨Int32.ofNat vs.length, n3, n2, c, ⟨q1, q2, q3⟩, q4, by rw [q5, n3]; simp, n2, fun i hi => ?_, fun i hi => ?_⟩
  · rw [q5] at hi ⊢
    have : i < vs.length := by simpa using hi
    simp [this]
  · rw [q5] at hi
    have hi' : i < vs.length := by simpa using hi
    rw [List.getD_eq_getElem?_getD, List.getElem?_eq_getElem hi']
    exact q7 _ (List.getElem_mem hi')
theorem arv_ar {z : Int32} {dv : Value} (A : Arv Z h a K ty z vs dv) (hl : z.toNatClampNeg = vs.length) : ∃ c, h[a]? = some c ∧ Ar Z ty K vs c := by
  obtain ⟨cl, A, r1, r2, r3, r4, r5⟩ := A
  have rs : cl.slots = vs.toArray := by
    apply Array.ext
    · rw [r2, hl]; simp
    · intro i h1 h2
      have := r4 i h1
      rw [Array.getElem?_eq_getElem h1] at this
      have h3 : i < vs.length := by simpa using h2
      rw [List.getD_eq_getElem?_getD, List.getElem?_eq_getElem h3] at this
      simpa using this
  refine ⟨cl, A.1, A.2.1, A.2.2, r1, rs, by rw [← hl]; exact (back32 r3).2, fun v hv => ?_⟩
  obtain ⟨i, hi, rfl⟩ := List.getElem_of_mem hv
  have := r5 i (by rw [r2, hl]; exact hi)
  rw [List.getD_eq_getElem?_getD, List.getElem?_eq_getElem hi] at this
  exact this
/-- System.arraycopy between two arrays of one primitive kind -/
theorem Go.acopy (X : Cx wd EL p Z s m meth c own nm code ml ret) {idx : Nat} (w1 : (Cond.methodLink own idx Jvm.Stand.acN).before a0 Z = true) (w2 : (Cond.native Jvm.Stand.acN).before a0 Z = true) (w3 : (Cond.static Jvm.Stand.acN).before a0 Z = true) (w4 : (Cond.initialized "java/lang/System").before a0 Z = true)
    {sp dp nn : Int32} {sN dN nN : Nat} {r : List Value} (hj : L[j]? = some (ow b (Ar Z ty K' vd))) (hs : (a, Ar Z ty K vs, f) ∈ L) (ht : refKind ty = false) (q1 : ¬ sp < 0) (q2 : ¬ dp < 0) (q3 : ¬ nn < 0) (e1 : sp.toNatClampNeg = sN) (e2 : dp.toNatClampNeg = dN) (e3 : nn.toNatClampNeg = nN) (l1 : sN + nN ≤ vs.length) (l2 : dN + nN ≤ vd.length)
    (hr : vd.take dN ++ ((List.range nN).map fun i => vs.getD (sN + i) .null) ++ vd.drop (dN + nN) = r) (D : D1 code pc (.invokestatic idx) 3 pc') (hm : Ls.size = ml) (hf : 1 ≤ R.frames) (hlo : (st.map fun v => v.category).sum + (nativeFrameWords "java/lang/System" "arraycopy" 5 + 11) ≤ R.locals)
    (K1 : Go wd EL p l e R Z s m args below meth c Q (updL L j (ow b (Ar Z ty K' r))) k n (mkF m pc' Ls st)) : Go wd EL p l e R Z s m args below meth c Q L k n (mkF m pc Ls (.int nn :: .int dp :: .ref b :: .int sp :: .ref a :: st)) := by
  obtain ⟨d, rfl⟩ := D
  intro vm T lc F B I S
  replace X := X.re B
  obtain ⟨z1, t1, t2, A⟩ := Ar.arv (I.1.atM hs) .null
  obtain ⟨z2, t3, t4, A2⟩ := Ar.arv (I.1.at hj) .null
  obtain ⟨T', h', lc', S', e', F', Kp, A3, stp⟩ := cpA S X.1 X.2.1 X.2.2.1 w1 w2 w3 w4 rfl A A2 (Or.inl ⟨rfl, ht⟩) q1 q2 q3 (by rw [e1, e3, t1]; exact l1) (by rw [e2, e3, t3]; exact l2) rfl (by rw [e2, e3]; exact l2) F (I.1.ge hj) (g := mkF m pc Ls (.int nn :: .int dp :: .ref b :: .int sp :: .ref a :: st)) rfl (by rw [X.2.2.2.2.1]; exact hm) rfl (hb X.2.2.2.1 d) hf (W := (st.map fun v => v.category).sum) (by rw [mroom]; omega) hlo
  rw [e1, e2, e3, hr] at A3
  subst e'
  have hlen : r.length = vd.length := by rw [← hr]; simp; omega
  have I' := I.kp (P' := Ar Z ty K' r) hj Kp (arv_ar A3 (by rw [hlen]; exact t3))
  obtain ⟨u, o, st', rr⟩ := K1 vm T' _ F' (B.mono Kp.1) I' S'
  exact ⟨u, o, stp _ st', rr⟩
end More
/-- a private method of a class that can be made: a call of it goes to itself -/
theorem selP {Z : State} {a0 : Array Value} {y : MethodName} {n : Nat} (wi : (Cond.instantiable y.cls n).before a0 Z = true) (wp : (Cond.privateMethod y).before a0 Z = true) (w2 : (Cond.instanceMethod y).before a0 Z = true) (hy : y.cls ≠ "java/lang/invoke/MethodHandle" ∧ y.cls ≠ "java/lang/invoke/VarHandle") : (Cond.selects y.cls y y).before a0 Z = true := by
  obtain ⟨c, k, h1, h2, -, h4, -⟩ := Cond.instantiable_spec wi
  rw [Bool.or_eq_false_iff] at h4
  exact Jvm.Stand.selects_self_of_private h1 h2 h4.1 (Cond.privateMethod_at wp) w2 hy
/-! ### small numbers -/
theorem and255 (x : Int32) : ∃ c : Nat, c < 256 ∧ x &&& 255 = Int32.ofNat c := by
  refine ⟨(x.toBitVec &&& 255#32).toNat, ?_, ?_⟩
  · have : (x.toBitVec &&& 255#32).toNat = x.toBitVec.toNat % 256 := by rw [BitVec.toNat_and]; exact Nat.and_two_pow_sub_one_eq_mod _ 8
    omega
  · apply Int32.toBitVec_inj.mp
    rw [Int32.toBitVec_and]
    apply BitVec.eq_of_toNat_eq
    rw [Int32.toBitVec_ofNat]
    simp
/-! ### stores into big frames: the locals stay a literal list -/
def okSlot : Option Slot → Bool
  | some .unset => true
  | some (.val w) => w.category == 1
  | _ => false
theorem stL {ls ls' : List Slot} {i : Nat} {v : Value} (hv : v.category = 1) (h : okSlot ls[i]? = true) (e : updL ls i (.val v) = ls') : storeLocals ls.toArray i v = some ls'.toArray := by
  subst e
  rw [upd_set]
  have hs : storeSelf ls.toArray i v = some (ls.set i (.val v)).toArray := by
    have hi : i < ls.length := by
      rcases Nat.lt_or_ge i ls.length with q | q
      · exact q
      · rw [List.getElem?_eq_none q] at h; cases h
    simp [storeSelf, setAt, hv, hi]
  unfold storeLocals
  rw [List.getElem?_toArray]
  cases q : ls[i]? with
  | none => rw [q] at h; cases h
  | some o =>
    rw [q] at h
    cases o with
    | second => cases h
    | unset => simpa using hs
    | val w =>
      have : w.category ≠ 2 := by simp [okSlot] at h; omega
      simpa [this] using hs
end Jvm.OwnKit
namespace Jvm.OwnKit
open Sem ClassFile Op Lib Jvm.Stand Jvm.Free Jvm.LawKit Jvm.RoadKit
section More2
variable {wd : Bool} {EL : List (String × Nat)} {p : Program} {l : Launch} {e : Env} {R : Room} {Z s : State} {m : MethodId} {args : Array Value} {below : List Frame} {meth : Method} {c : Code} {Q : Option Value → List Ent → Prop} {L L' : List Ent} {k n : Nat} {own nm : String} {code : ByteArray} {ml : Nat} {ret : Option FieldType} {a0 : Array Value}
variable {pc pc' : Nat} {Ls : Array Slot} {st : List Value} {i j : Nat} {a b : Addr} {C : String} {ns : List Nm} {vs vd : List Value} {v : Value} {h h' : Heap} {vm : Vm} {P P' : Cell → Prop} {f : Bool} {ty ty' : FieldType} {K K' : ClassId}
theorem Hp.tail {x : Ent} (H : Hp Z h (x :: L)) : Hp Z h L := ⟨H.1, fun y hy => H.2.1 y (List.mem_cons_of_mem _ hy), (List.pairwise_cons.mp H.2.2).2⟩
theorem Hp.sub (q : L'.Sublist L) (H : Hp Z h L) : Hp Z h L' := ⟨H.1, fun x hx => H.2.1 x (q.subset hx), H.2.2.sublist q⟩
/-- a cell that stood at the start -/
theorem Go.know {g : JFrame} (hlt : a < Z.heap.size) (hc : ∀ h, Hp Z h L → ∃ c, h[a]? = some c ∧ P c) (K : Go wd EL p l e R Z s m args below meth c Q (ro a P :: L) k n g) : Go wd EL p l e R Z s m args below meth c Q L k n g := fun vm T lc F B I S => K vm T lc F B (I.know (hc _ I.1) fun x hx hf q => by
  have r := (I.1.2.1 x hx).1 hf
  rw [q] at r
  exact absurd hlt (Nat.not_lt.mpr r)) S
/-- the cell may be taken for a C -/
def InC (Z : State) (C : String) (c : Cell) : Prop := ∃ cT, Z.vm.findClass C = some cT ∧ (!c.vm.isStatics && Z.vm.assignable c.cls cT) = true
def Cst (Z : State) (L : List Ent) (x : Addr) (C : String) : Prop := ∀ h, Hp Z h L → Ins Z h x C true
theorem Cst.of (q1 : (a, P, f) ∈ L) (q2 : ∀ c, P c → InC Z C c) : Cst Z L a C := fun h H => by
  obtain ⟨c, h1, h2⟩ := H.atM q1
  obtain ⟨cT, r1, r2⟩ := q2 c h2
  exact ⟨c, cT, h1, r1, r2⟩
theorem Cst.up {y : Ent} (q : Cst Z L a C) : Cst Z (y :: L) a C := fun h H => q h H.tail
theorem Cst.ins (q : Cst Z L a C) (H : Hp Z h L) : Ins Z h a C true := q h H
theorem Ob.inC {D : String} {c : Cell} (w : (Cond.castable C D).before a0 Z = true) (O : Ob Z C ns vs c) : InC Z D c := by
  obtain ⟨⟨k, h2, -, h4, -⟩, -⟩ := O
  obtain ⟨c1, c2, g1, g2, g3⟩ := Cond.castable_spec w
  cases h2.symm.trans g1
  exact ⟨c2, g2, by simp [h4, g3]⟩
theorem Ob.inS {c : Cell} (O : Ob Z C ns vs c) : InC Z C c := by
  obtain ⟨⟨k, h2, -, h4, -⟩, -⟩ := O
  exact ⟨_, h2, by simp [h4, Vm.assignable_self]⟩
theorem Hp.arC (H : Hp Z h L) (hi : (a, Ar Z ty K vs, f) ∈ L) : ∃ cl, h[a]? = some cl ∧ cl.cls = K ∧ cl.vm.isStatics = false := by
  obtain ⟨c, q, q1, q2, q3, -⟩ := H.atM hi
  refine ⟨c, q, q3, ?_⟩
  have := q1.1
  cases hv : c.vm <;> first | rfl | exact absurd hv (this _)
theorem Go.anewF (X : Cx wd EL p Z s m meth c own nm code ml ret) {idx : Nat} {z : Int32} {N cap : Nat} (w : (Cond.classLink own idx C).before a0 Z = true) (w2 : (Cond.arrayOver (.object C)).before a0 Z = true) (hz : ¬ z < 0) (hN : z.toNatClampNeg = N) (hcap : N ≤ cap) (hb8 : cap * 8 ≤ 536870912) (D : D1 code pc (.anewarray idx) 3 pc') (hc : k + 1 ≤ R.cells) (hl : n + cap ≤ R.slots)
    (K1 : ∀ a K', Ovr Z K' C → Z.vm.findClass ("[" ++ (FieldType.object C).toString) = some K' → Go wd EL p l e R Z s m args below meth c Q (ow a (Ar Z (.object C) K' (List.replicate N .null)) :: L) (k + 1) (n + cap) (mkF m pc' Ls (.ref a :: st))) : Go wd EL p l e R Z s m args below meth c Q L k n (mkF m pc Ls (.int z :: st)) := by
  obtain ⟨d, rfl⟩ := D
  intro vm T lc F B I S
  replace X := X.re B
  obtain ⟨vm₁, cA, kA, comp, -, h1, h2, h3, h4, S', stp⟩ := S.anewarrayRefK X.1 X.2.2.1 (mv X.2.1 w) (Cond.arrayOver_alike X.2.1.alike w2) (g := mkF m pc Ls (.int z :: st)) rfl (hb X.2.2.2.1 d) rfl hz (by omega) hc (by omega)
  rw [X.2.1.alike.findClass] at h1
  obtain ⟨kZ, z1, -⟩ := Vm.findClass_spec h1
  obtain ⟨k', z2, z3⟩ := X.2.1.alike.2.2 _ _ z1
  cases h2.symm.trans z2
  have E' : Ext T.heap (T.heap.push { cls := cA, slots := Array.replicate z.toNatClampNeg .null, vm := .none }) := ext_of fun a q => Array.getElem?_push_lt q |>.trans (Array.getElem?_eq_getElem q).symm
  have I' := I.push (a := T.heap.size) (P := Ar Z (.object C) cA (List.replicate N .null)) E' (Nat.le_refl _) ⟨{ cls := cA, slots := Array.replicate z.toNatClampNeg .null, vm := .none }, by simp, ⟨by simp, kZ, z1, comp, by rw [← h3, z3]⟩, by simp, rfl, by simp [hN], by simp; omega, fun u hu => by rw [List.eq_of_mem_replicate hu]; rfl⟩
  obtain ⟨u, o, st', r⟩ := K1 _ cA ⟨kZ, comp, z1, by rw [← h3, z3], by rw [← X.2.1.alike.findClass]; exact h4⟩ h1 vm _ lc F (B.mono E'.1) I' (S'.mono (Nat.le_refl _) (by omega))
  exact ⟨u, o, stp _ st', r⟩
/-- the class C has its mirror -/
def MirC (Z : State) (C : String) (K : ClassId) (mir : Addr) : Prop := Z.vm.findClass C = some K ∧ ∃ kc, Z.vm.classes[K]? = some kc ∧ kc.mirror = some mir
theorem Go.getcls (X : Cx wd EL p Z s m meth c own nm code ml ret) {idx : Nat} {mir : Addr} (w1 : (Cond.methodLink own idx Jvm.Stand.gcN).before a0 Z = true) (wdc : (Cond.declares Jvm.Stand.gcN).before a0 Z = true) (hnf : ∀ s : State, Z.Warmed39 s.vm → NotFace s Jvm.Stand.gcN) (ws : (Cond.selects C Jvm.Stand.gcN Jvm.Stand.gcN).before a0 Z = true) (w2 : (Cond.instanceMethod Jvm.Stand.gcN).before a0 Z = true) (w3 : (Cond.native Jvm.Stand.gcN).before a0 Z = true) (hM : MirC Z C K mir)
    (hA : ∀ h, Hp Z h L → ∃ cl : Cell, h[a]? = some cl ∧ cl.cls = K ∧ cl.vm.isStatics = false) (D : D1 code pc (.invokevirtual idx) 3 pc') (hm : Ls.size = ml) (hf : 1 ≤ R.frames) (hlo : (st.map fun v => v.category).sum + (nativeFrameWords "java/lang/Object" "getClass" 1 + 11) ≤ R.locals)
    (K1 : Go wd EL p l e R Z s m args below meth c Q L k n (mkF m pc' Ls (.ref mir :: st))) : Go wd EL p l e R Z s m args below meth c Q L k n (mkF m pc Ls (.ref a :: st)) := by
  obtain ⟨d, rfl⟩ := D
  intro vm T lc F B I S
  replace X := X.re B
  obtain ⟨cl, c1, c2, c3⟩ := hA _ I.1
  obtain ⟨hK, kc, hkc, hmi⟩ := hM
  obtain ⟨k', k1, k2⟩ := X.2.1.alike.2.2 _ _ hkc
  obtain ⟨vm', S', stp⟩ := S.getClassOf X.1 X.2.2.1 (mvT X.2.1 w1) (mvT X.2.1 wdc) (hnf _ X.2.1) (mvT X.2.1 ws) (mvT X.2.1 w2) (mvT X.2.1 w3) (cB := K) (by rw [X.2.1.alike.findClass]; exact hK) ⟨cl, c1, c2, c3⟩ k1 (mir := mir) (by rw [k2]; exact hmi) (g := mkF m pc Ls (.ref a :: st)) rfl (by rw [X.2.2.2.2.1]; exact hm) rfl (hb X.2.2.2.1 d) hf (by rw [mroom]; omega)
  obtain ⟨u, o, st', r⟩ := K1 vm (T.setVm vm') lc F B I S'
  exact ⟨u, o, stp _ st', r⟩
theorem Go.ldcM (X : Cx wd EL p Z s m meth c own nm code ml ret) {idx : Nat} {mir : Addr} (w : (Cond.classLink own idx C).before a0 Z = true) (hM : MirC Z C K mir) (D : D1 code pc (.ldc idx) 2 pc') (K1 : Go wd EL p l e R Z s m args below meth c Q L k n (mkF m pc' Ls (.ref mir :: st))) : Go wd EL p l e R Z s m args below meth c Q L k n (mkF m pc Ls st) := by
  obtain ⟨d, rfl⟩ := D
  intro vm T lc F B I S
  replace X := X.re B
  obtain ⟨hK, kc, hkc, hmi⟩ := hM
  obtain ⟨k', k1, k2⟩ := X.2.1.alike.2.2 _ _ hkc
  have q1 : (s.setVm vm).vm.findClass C = some K := by rw [X.2.1.alike.findClass]; exact hK
  have q2 : k'.mirror = some mir := by rw [k2]; exact hmi
  have ev : (Term.mirror C).eval args (s.setVm vm) none [] (s.setVm vm) = some (.ref mir) := by
    simp only [Term.eval, q1, k1, q2, Option.bind_eq_bind, Option.bind_some, Option.pure_def]
  obtain ⟨vm', S', stp⟩ := S.ldcMirror X.1 X.2.2.1 (mv X.2.1 w) ev (g := mkF m pc Ls st) rfl (hb X.2.2.2.1 d)
  obtain ⟨u, o, st', r⟩ := K1 vm (T.setVm vm') lc F B I S'
  exact ⟨u, o, stp _ st', r⟩
theorem stoL_of : ∀ {us : List Value}, (∀ v ∈ us, Sto Z h b v) → StoL Z h b us
  | [], _ => trivial
  | v :: r, q => ⟨q v List.mem_cons_self, stoL_of fun w hw => q w (List.mem_cons_of_mem _ hw)⟩
/-- System.arraycopy between two arrays of references -/
theorem Go.acopyR (X : Cx wd EL p Z s m meth c own nm code ml ret) {idx : Nat} (w1 : (Cond.methodLink own idx Jvm.Stand.acN).before a0 Z = true) (w2 : (Cond.native Jvm.Stand.acN).before a0 Z = true) (w3 : (Cond.static Jvm.Stand.acN).before a0 Z = true) (w4 : (Cond.initialized "java/lang/System").before a0 Z = true)
    {sp dp nn : Int32} {sN dN nN : Nat} {r : List Value} (hj : L[j]? = some (ow b (Ar Z ty' K' vd))) (hs : (a, Ar Z ty K vs, f) ∈ L) (ht : refKind ty = true) (ht' : refKind ty' = true) (hst : ∀ h, Hp Z h L → ∀ v ∈ (List.range nN).map (fun i => vs.getD (sN + i) .null), Sto Z h b v) (q1 : ¬ sp < 0) (q2 : ¬ dp < 0) (q3 : ¬ nn < 0) (e1 : sp.toNatClampNeg = sN) (e2 : dp.toNatClampNeg = dN) (e3 : nn.toNatClampNeg = nN) (l1 : sN + nN ≤ vs.length) (l2 : dN + nN ≤ vd.length)
    (hr : vd.take dN ++ ((List.range nN).map fun i => vs.getD (sN + i) .null) ++ vd.drop (dN + nN) = r) (D : D1 code pc (.invokestatic idx) 3 pc') (hm : Ls.size = ml) (hf : 1 ≤ R.frames) (hlo : (st.map fun v => v.category).sum + (nativeFrameWords "java/lang/System" "arraycopy" 5 + 11) ≤ R.locals)
    (K1 : Go wd EL p l e R Z s m args below meth c Q (updL L j (ow b (Ar Z ty' K' r))) k n (mkF m pc' Ls st)) : Go wd EL p l e R Z s m args below meth c Q L k n (mkF m pc Ls (.int nn :: .int dp :: .ref b :: .int sp :: .ref a :: st)) := by
  obtain ⟨d, rfl⟩ := D
  intro vm T lc F B I S
  replace X := X.re B
  subst e1 e2 e3
  obtain ⟨z1, t1, t2, A⟩ := Ar.arv (I.1.atM hs) .null
  obtain ⟨z2, t3, t4, A2⟩ := Ar.arv (I.1.at hj) .null
  obtain ⟨T', h', lc', S', e', F', Kp, A3, stp⟩ := cpA S X.1 X.2.1 X.2.2.1 w1 w2 w3 w4 rfl A A2 (us := (List.range nn.toNatClampNeg).map fun i => vs.getD (sp.toNatClampNeg + i) .null) (Or.inr ⟨ht, ht', stoL_of (hst _ I.1)⟩) q1 q2 q3 (by rw [t1]; exact l1) (by rw [t3]; exact l2) rfl l2 F (I.1.ge hj) (g := mkF m pc Ls (.int nn :: .int dp :: .ref b :: .int sp :: .ref a :: st)) rfl (by rw [X.2.2.2.2.1]; exact hm) rfl (hb X.2.2.2.1 d) hf (W := (st.map fun v => v.category).sum) (by rw [mroom]; omega) hlo
  rw [hr] at A3
  subst e'
  have hlen : r.length = vd.length := by rw [← hr]; simp; omega
  have I' := I.kp (P' := Ar Z ty' K' r) hj Kp (arv_ar A3 (by rw [hlen]; exact t3))
  obtain ⟨u, o, st', rr⟩ := K1 vm T' _ F' (B.mono Kp.1) I' S'
  exact ⟨u, o, stp _ st', rr⟩
/-- a call of the superclass's own method (invokespecial, no <init>) -/
theorem Go.callU (X : Cx wd EL p Z s m meth c own nm code ml ret) {y : MethodName} {code' : ByteArray} {ml' : Nat} {ret' : Option FieldType} {rm : Room} {argsL rest : List Value} {Q' : Option Value → List Ent → Prop} {K0 : String} (E : ∀ h, Hp Z h L → Ins Z h a K0 true) (B : Ct wd EL l Z y code' ml' ret' rm (Value.ref a :: argsL).toArray L Q')
    {idx : Nat} (w1 : (Cond.methodLink own idx y).before a0 Z = true) (w5 : (Cond.sameMethod y.cls y.cls y.name y.desc).before a0 Z = true) (w2 : (Cond.instanceMethod y).before a0 Z = true) (w6 : (Cond.superclass own y.cls).before a0 Z = true) (hy1 : y.name ≠ "<init>") (w3 : (Cond.initialized y.cls).before a0 Z = true) (w4 : (Cond.code y code' ml' ret').before a0 Z = true)
    {ps : List FieldType} {rt : Option FieldType} (pd : parseMethodDescriptor y.desc = some ⟨ps, rt⟩) (hl : argsL.length = ps.length) (hs : st = argsL.reverse ++ .ref a :: rest) (D : D1 code pc (.invokespecial idx) 3 pc') (hm : Ls.size = ml)
    (hf : rm.frames + 1 ≤ R.frames) (hlo : (rest.map fun v => v.category).sum + (ml' + 11) + rm.locals ≤ R.locals) (hk : k + rm.cells ≤ R.cells) (hn : n + rm.slots ≤ R.slots)
    (K : ∀ o L, Q' o L → Go wd EL p l e R Z s m args below meth c Q L (k + rm.cells) (n + rm.slots) (mkF m pc' Ls (o.toList ++ rest))) : Go wd EL p l e R Z s m args below meth c Q L k n (mkF m pc Ls st) := by
  obtain ⟨d, rfl⟩ := D
  subst hs
  cases wd
  · refine Go.byN X (fun s X T lc H S => ?_) (fun _ => trivial) K
    exact superBack S X.1 X.2.1 X.2.2.1 w1 w5 w2 w6 hy1 (backN (W := (rest.map fun v => v.category).sum) B X.2.1 w4 w3 hf hlo) rfl (E _ H) (g := mkF m pc Ls (argsL.reverse ++ .ref a :: rest)) rfl (by rw [X.2.2.2.2.1]; exact hm) w4 (argsL := argsL) (rest := rest) (lenOf pd hl) rfl (by rw [mroom]; omega) (hb X.2.2.2.1 d) (fun _ _ => ⟨rfl, H, hk, hn⟩)
  · refine Go.byW X (fun vm X T lc I S => ?_) K
    obtain ⟨a1, hE⟩ := X.2.2.2.2.2.2.2.2 rfl
    exact superBackS S X.1 X.2.1 X.2.2.1 w1 w5 w2 w6 hy1 (backW (W := (rest.map fun v => v.category).sum) B X.2.1 w4 w3 hf hlo hE I) rfl (E _ I.1) (g := mkF m pc Ls (argsL.reverse ++ .ref a :: rest)) rfl (by rw [X.2.2.2.2.1]; exact hm) w4 (argsL := argsL) (rest := rest) (lenOf pd hl) rfl (by rw [mroom]; omega) (hb X.2.2.2.1 d) (fun _ _ => ⟨rfl, rfl, hk, hn⟩)
/-- a method of a class that is no interface: the lookup from its own class finds it -/
theorem sameSelf {y x y2 : MethodName} (w2 : (Cond.instanceMethod y).before a0 Z = true) (ws : (Cond.selects C x y2).before a0 Z = true) (hc : y2.cls = y.cls) (hy : y.cls ≠ "java/lang/invoke/MethodHandle" ∧ y.cls ≠ "java/lang/invoke/VarHandle") : (Cond.sameMethod y.cls y.cls y.name y.desc).before a0 Z = true := by
  obtain ⟨mk, methM, hnamed, -⟩ := Cond.instanceMethod_spec w2
  obtain ⟨c2, r2, m2, q1, q2, q3, q4, kP, hkP, hkPi⟩ := Cond.selects_spec ws
  have c1 := findClass_of_methodNamed hnamed
  have c3 := findClass_of_methodNamed q3
  rw [hc, c1] at c3
  have ec : mk.cls = m2.cls := Option.some.inj c3
  have hf := State.methodFound?_of_named hnamed hy
  have e : (⟨y.cls, y.name, y.desc⟩ : MethodName) = y := rfl
  rw [← ec] at hkP
  simp [Cond.before, Cond.holds, Cond.value, c1, hf, e, hnamed, hkP, hkPi]
theorem selP2 {x y : MethodName} (ws : (Cond.selects C x y).before a0 Z = true) (wp : (Cond.privateMethod y).before a0 Z = true) (w2 : (Cond.instanceMethod y).before a0 Z = true) (hy : y.cls ≠ "java/lang/invoke/MethodHandle" ∧ y.cls ≠ "java/lang/invoke/VarHandle") : (Cond.selects y.cls y y).before a0 Z = true := by
  obtain ⟨c2, r2, m2, q1, q2, q3, q4, kP, hkP, hkPi⟩ := Cond.selects_spec ws
  exact Jvm.Stand.selects_self_of_private (findClass_of_methodNamed q3) hkP hkPi (Cond.privateMethod_at wp) w2 hy
theorem nfX {x z y : MethodName} (ws : (Cond.selects C x z).before a0 Z = true) (hc : z.cls = y.cls) : ∀ s : State, Z.Warmed39 s.vm → NotFace s y := fun s q r0 hr => by
  obtain ⟨c2, r2, m2, q1, q2, q3, q4, kP, hkP, hkPi⟩ := Cond.selects_spec (mvT (args := #[]) q ws)
  have c1 := findClass_of_methodNamed hr
  have c3 := findClass_of_methodNamed q3
  rw [hc, c1] at c3
  rw [Option.some.inj c3]
  exact ⟨kP, hkP, hkPi⟩
/-! ### statics that hold an array -/
theorem lenLt {args : Array Value} {t : Term} {cl : Cell} {v : Value} (ea : t.eval args Z none [] Z = some (.ref a)) (hA : Z.arrayAt? a = some cl) (L : (Term.length t).eval args Z none [] Z = some v) : cl.slots.size < 2 ^ 31 := by
  rcases Nat.lt_or_ge cl.slots.size (2 ^ 31) with q | q
  · exact q
  · exfalso
    have q' : ¬ cl.slots.size < 2147483648 := Nat.not_lt.mpr q
    simp [Term.eval, ea, hA, q'] at L
theorem staArr {args : Array Value} {C n d A : String} {z : Int32} (hi : (Cond.initializedFor C n d).before args Z = true ∨ ((Cond.initialized C).before args Z = true ∧ (Cond.laysStatic C n d).before args Z = true)) (wa : (Cond.arrayOf (Term.static C n d) ty).before args Z = true) (wx : (Cond.exactly (Term.static C n d) A).before args Z = true) (wl : (Cond.eq (Term.length (Term.static C n d)) (Term.int z)).before args Z = true) :
    ∃ a cl, Sta Z Z.heap C n d (.ref a) ∧ Arr Z Z.heap a cl ty ∧ Z.vm.findClass A = some cl.cls ∧ cl.slots.size < 2 ^ 31 ∧ cl.slots.size.toInt32 = z ∧ ∀ idx, (Term.static C n d).eval args Z none idx Z = some (.ref a) := by
  have wx' := Cond.before_iff.mp wx
  obtain ⟨a, ea⟩ := exa_v wx'
  obtain ⟨cl, A'⟩ := Arr.start ea (Cond.before_iff.mp wa)
  obtain ⟨cell, k, x1, x2, -⟩ := Exa.start ea wx'
  cases A'.1.symm.trans x1
  have L := eqv_i (Term.int_eval z) (Cond.before_iff.mp wl)
  have hA := A'.fin (U := Z) (Vm.Alike.refl _)
  have hl : cl.slots.size < 2 ^ 31 := lenLt ea hA L
  rw [len_f ea hA hl] at L
  simp only [Option.some.injEq, Value.int.injEq] at L
  exact ⟨a, cl, Sta.start ea hi, A', x2, hl, L, fun idx => ea⟩
theorem staInt {args : Array Value} {C n d : String} {z : Int32} (hi : (Cond.initializedFor C n d).before args Z = true ∨ ((Cond.initialized C).before args Z = true ∧ (Cond.laysStatic C n d).before args Z = true)) (wl : (Cond.eq (Term.static C n d) (Term.int z)).before args Z = true) : Sta Z Z.heap C n d (.int z) :=
  Sta.start (eqv_i (Term.int_eval z) (Cond.before_iff.mp wl)) hi
/-- an empty array that stood at the start -/
theorem emptyAr {cl : Cell} (A : Arr Z Z.heap a cl ty) (h0 : cl.slots.size.toInt32 = 0) (hl : cl.slots.size < 2 ^ 31) : Ar Z ty cl.cls [] cl := by
  have e : cl.slots.size = 0 := by
    have := len_toInt hl
    rw [h0] at this
    have q : (0 : Int32).toInt = 0 := rfl
    omega
  refine ⟨A.2.1, A.2.2, rfl, ?_, by simp, fun v hv => nomatch hv⟩
  exact Array.eq_empty_of_size_eq_zero e
/-- .. a known object that stood at the start -/
theorem oldOb (E : Exa Z Z.heap a C) (hl : vs.length = ns.length) (F : ∀ (j : Nat) (q : Nm) (v : Value), ns[j]? = some q → vs[j]? = some v → Fld Z Z.heap a q.1 q.2.1 q.2.2 v) : a < Z.heap.size ∧ ∀ h, Hp Z h L → ∃ c, h[a]? = some c ∧ Ob Z C ns vs c := by
  obtain ⟨cell, k, h1, r⟩ := E
  refine ⟨(Array.getElem?_eq_some_iff.mp h1).1, fun h H => ⟨cell, H.1.2 _ _ h1, ⟨k, r⟩, hl, fun j q v hj hv => ?_⟩⟩
  obtain ⟨c2, cf, k2, i2, f2, g1, g2⟩ := F j q v hj hv
  cases h1.symm.trans g1
  exact ⟨cf, k2, i2, f2, g2⟩
end More2
end Jvm.OwnKit
namespace Jvm.Pilot.@@N@@
open Jvm Jvm.ClassFile Sem Op Lib Jvm.Free Jvm.Stand Jvm.LawKit Jvm.RoadKit Jvm.OwnKit Bundle Jvm.Pilot.@@N@@.Jvm.D
abbrev WD : Bool := true
abbrev EL0 : List (String × Nat) := consts_1
/-- what is known throughout -/
def Gl (a0 : Array Value) (Z : State) : Prop := (∀ d ∈ tables_1, d.before a0 Z = true) ∧ (WD = true → ∃ a0, EW Z a0 EL0) ∧ (∃ cs : Int32, cs ≠ 0 ∧ Sta Z Z.heap "java/lang/String" "COMPACT_STRINGS" "Z" (.int cs)) ∧ (∃ v3 : Value, v3.category = 1 ∧ Sta Z Z.heap "jdk/internal/util/Preconditions" "SIOOBE_FORMATTER" "Ljava/util/function/BiFunction;" v3)
theorem g_cs {a0 : Array Value} {Z : State} (G : Gl a0 Z) : ∃ cs : Int32, cs ≠ 0 ∧ Sta Z Z.heap "java/lang/String" "COMPACT_STRINGS" "Z" (.int cs) := G.2.2.1
theorem g_sf {a0 : Array Value} {Z : State} (G : Gl a0 Z) : ∃ v3 : Value, v3.category = 1 ∧ Sta Z Z.heap "jdk/internal/util/Preconditions" "SIOOBE_FORMATTER" "Ljava/util/function/BiFunction;" v3 := G.2.2.2
-- %%% strings
theorem w9 {a0 : Array Value} {Z : State} (G : Gl a0 Z) : (Jvm.Cond.instantiable "java/lang/String" (4 : Nat)).before a0 Z = true := G.1 _ (List.mem_of_getElem? (i := 9) rfl)
theorem w10 {a0 : Array Value} {Z : State} (G : Gl a0 Z) : (Jvm.Cond.initialized "java/lang/String").before a0 Z = true := G.1 _ (List.mem_of_getElem? (i := 10) rfl)
theorem w15 {a0 : Array Value} {Z : State} (G : Gl a0 Z) : (Jvm.Cond.methodLink "java/lang/String" (27 : Nat) ({ cls := "java/lang/String", name := "<init>", desc := "([CIILjava/lang/Void;)V" } : Jvm.MethodName)).before a0 Z = true := G.1 _ (List.mem_of_getElem? (i := 15) rfl)
theorem w16 {a0 : Array Value} {Z : State} (G : Gl a0 Z) : (Jvm.Cond.instanceMethod ({ cls := "java/lang/String", name := "<init>", desc := "([CIILjava/lang/Void;)V" } : Jvm.MethodName)).before a0 Z = true := G.1 _ (List.mem_of_getElem? (i := 16) rfl)
theorem w18 {a0 : Array Value} {Z : State} (G : Gl a0 Z) : (Jvm.Cond.code ({ cls := "java/lang/String", name := "<init>", desc := "([CIILjava/lang/Void;)V" } : Jvm.MethodName) jdk_42_method_149_code (6 : Nat) (Option.none : Option Jvm.ClassFile.FieldType)).before a0 Z = true := G.1 _ (List.mem_of_getElem? (i := 18) rfl)
theorem w19 {a0 : Array Value} {Z : State} (G : Gl a0 Z) : (Jvm.Cond.methodLink "java/lang/String" (1 : Nat) ({ cls := "java/lang/Object", name := "<init>", desc := "()V" } : Jvm.MethodName)).before a0 Z = true := G.1 _ (List.mem_of_getElem? (i := 19) rfl)
theorem w20 {a0 : Array Value} {Z : State} (G : Gl a0 Z) : (Jvm.Cond.instanceMethod ({ cls := "java/lang/Object", name := "<init>", desc := "()V" } : Jvm.MethodName)).before a0 Z = true := G.1 _ (List.mem_of_getElem? (i := 20) rfl)
theorem w21 {a0 : Array Value} {Z : State} (G : Gl a0 Z) : (Jvm.Cond.code ({ cls := "java/lang/Object", name := "<init>", desc := "()V" } : Jvm.MethodName) object_method_1_code (1 : Nat) (Option.none : Option Jvm.ClassFile.FieldType)).before a0 Z = true := G.1 _ (List.mem_of_getElem? (i := 21) rfl)
theorem w22 {a0 : Array Value} {Z : State} (G : Gl a0 Z) : (Jvm.Cond.stringLink "java/lang/String" (7 : Nat) "").before a0 Z = true := G.1 _ (List.mem_of_getElem? (i := 22) rfl)
theorem w23 {a0 : Array Value} {Z : State} (G : Gl a0 Z) : (Jvm.Cond.arrayClass Jvm.ClassFile.FieldType.byte).before a0 Z = true := G.1 _ (List.mem_of_getElem? (i := 23) rfl)
theorem w24 {a0 : Array Value} {Z : State} (G : Gl a0 Z) : (Jvm.Cond.laysFinal "java/lang/String" "java/lang/String" "value" "[B").before a0 Z = true := G.1 _ (List.mem_of_getElem? (i := 24) rfl)
theorem w25 {a0 : Array Value} {Z : State} (G : Gl a0 Z) : (Jvm.Cond.laysFinal "java/lang/String" "java/lang/String" "coder" "B").before a0 Z = true := G.1 _ (List.mem_of_getElem? (i := 25) rfl)
theorem w26 {a0 : Array Value} {Z : State} (G : Gl a0 Z) : (Jvm.Cond.soleField "java/lang/String" "value").before a0 Z = true := G.1 _ (List.mem_of_getElem? (i := 26) rfl)
theorem w27 {a0 : Array Value} {Z : State} (G : Gl a0 Z) : (Jvm.Cond.soleField "java/lang/String" "coder").before a0 Z = true := G.1 _ (List.mem_of_getElem? (i := 27) rfl)
theorem w28 {a0 : Array Value} {Z : State} (G : Gl a0 Z) : (Jvm.Cond.fieldLink "java/lang/String" (9 : Nat) "java/lang/String" "value" "[B").before a0 Z = true := G.1 _ (List.mem_of_getElem? (i := 28) rfl)
theorem w29 {a0 : Array Value} {Z : State} (G : Gl a0 Z) : (Jvm.Cond.fieldLink "java/lang/String" (15 : Nat) "java/lang/String" "coder" "B").before a0 Z = true := G.1 _ (List.mem_of_getElem? (i := 29) rfl)
theorem w39 {a0 : Array Value} {Z : State} (G : Gl a0 Z) : (Jvm.Cond.methodLink "java/lang/String" (335 : Nat) ({ cls := "java/lang/String", name := "coder", desc := "()B" } : Jvm.MethodName)).before a0 Z = true := G.1 _ (List.mem_of_getElem? (i := 39) rfl)
theorem w40 {a0 : Array Value} {Z : State} (G : Gl a0 Z) : (Jvm.Cond.declares ({ cls := "java/lang/String", name := "coder", desc := "()B" } : Jvm.MethodName)).before a0 Z = true := G.1 _ (List.mem_of_getElem? (i := 40) rfl)
theorem w41 {a0 : Array Value} {Z : State} (G : Gl a0 Z) : (Jvm.Cond.instanceMethod ({ cls := "java/lang/String", name := "coder", desc := "()B" } : Jvm.MethodName)).before a0 Z = true := G.1 _ (List.mem_of_getElem? (i := 41) rfl)
theorem w42 {a0 : Array Value} {Z : State} (G : Gl a0 Z) : (Jvm.Cond.selects "java/lang/String" ({ cls := "java/lang/String", name := "coder", desc := "()B" } : Jvm.MethodName) ({ cls := "java/lang/String", name := "coder", desc := "()B" } : Jvm.MethodName)).before a0 Z = true := G.1 _ (List.mem_of_getElem? (i := 42) rfl)
theorem w43 {a0 : Array Value} {Z : State} (G : Gl a0 Z) : (Jvm.Cond.code ({ cls := "java/lang/String", name := "coder", desc := "()B" } : Jvm.MethodName) jdk_42_method_152_code (1 : Nat) (Option.some Jvm.ClassFile.FieldType.byte)).before a0 Z = true := G.1 _ (List.mem_of_getElem? (i := 43) rfl)
theorem w44 {a0 : Array Value} {Z : State} (G : Gl a0 Z) : (Jvm.Cond.fieldLink "java/lang/String" (38 : Nat) "java/lang/String" "COMPACT_STRINGS" "Z").before a0 Z = true := G.1 _ (List.mem_of_getElem? (i := 44) rfl)
theorem w75 {a0 : Array Value} {Z : State} (G : Gl a0 Z) : (Jvm.Cond.methodLink "java/lang/String" (177 : Nat) ({ cls := "java/lang/StringUTF16", name := "compress", desc := "([CII)[B" } : Jvm.MethodName)).before a0 Z = true := G.1 _ (List.mem_of_getElem? (i := 75) rfl)
theorem w76 {a0 : Array Value} {Z : State} (G : Gl a0 Z) : (Jvm.Cond.static ({ cls := "java/lang/StringUTF16", name := "compress", desc := "([CII)[B" } : Jvm.MethodName)).before a0 Z = true := G.1 _ (List.mem_of_getElem? (i := 76) rfl)
theorem w77 {a0 : Array Value} {Z : State} (G : Gl a0 Z) : (Jvm.Cond.initialized "java/lang/StringUTF16").before a0 Z = true := G.1 _ (List.mem_of_getElem? (i := 77) rfl)
theorem w78 {a0 : Array Value} {Z : State} (G : Gl a0 Z) : (Jvm.Cond.code ({ cls := "java/lang/StringUTF16", name := "compress", desc := "([CII)[B" } : Jvm.MethodName) jdk_52_method_16_code (6 : Nat) (Option.some (Jvm.ClassFile.FieldType.array Jvm.ClassFile.FieldType.byte))).before a0 Z = true := G.1 _ (List.mem_of_getElem? (i := 78) rfl)
theorem w79 {a0 : Array Value} {Z : State} (G : Gl a0 Z) : (Jvm.Cond.methodLink "java/lang/StringUTF16" (115 : Nat) ({ cls := "java/lang/StringUTF16", name := "compress", desc := "([CI[BII)I" } : Jvm.MethodName)).before a0 Z = true := G.1 _ (List.mem_of_getElem? (i := 79) rfl)
theorem w80 {a0 : Array Value} {Z : State} (G : Gl a0 Z) : (Jvm.Cond.static ({ cls := "java/lang/StringUTF16", name := "compress", desc := "([CI[BII)I" } : Jvm.MethodName)).before a0 Z = true := G.1 _ (List.mem_of_getElem? (i := 80) rfl)
theorem w81 {a0 : Array Value} {Z : State} (G : Gl a0 Z) : (Jvm.Cond.code ({ cls := "java/lang/StringUTF16", name := "compress", desc := "([CI[BII)I" } : Jvm.MethodName) jdk_52_method_21_code (7 : Nat) (Option.some Jvm.ClassFile.FieldType.int)).before a0 Z = true := G.1 _ (List.mem_of_getElem? (i := 81) rfl)
theorem w82 {a0 : Array Value} {Z : State} (G : Gl a0 Z) : (Jvm.Cond.methodLink "java/lang/String" (47 : Nat) ({ cls := "java/lang/StringUTF16", name := "coderFromArrayLen", desc := "([BI)B" } : Jvm.MethodName)).before a0 Z = true := G.1 _ (List.mem_of_getElem? (i := 82) rfl)
theorem w83 {a0 : Array Value} {Z : State} (G : Gl a0 Z) : (Jvm.Cond.static ({ cls := "java/lang/StringUTF16", name := "coderFromArrayLen", desc := "([BI)B" } : Jvm.MethodName)).before a0 Z = true := G.1 _ (List.mem_of_getElem? (i := 83) rfl)
theorem w84 {a0 : Array Value} {Z : State} (G : Gl a0 Z) : (Jvm.Cond.code ({ cls := "java/lang/StringUTF16", name := "coderFromArrayLen", desc := "([BI)B" } : Jvm.MethodName) jdk_52_method_15_code (2 : Nat) (Option.some Jvm.ClassFile.FieldType.byte)).before a0 Z = true := G.1 _ (List.mem_of_getElem? (i := 84) rfl)
theorem d3_0 : D1 jdk_42_method_3_code 0 (.aload_n 0) 1 1 := ⟨by decide +kernel, rfl⟩
theorem d3_1 : D1 jdk_42_method_3_code 1 (.aload_n 1) 1 2 := ⟨by decide +kernel, rfl⟩
theorem d3_2 : D1 jdk_42_method_3_code 2 (.iconst 0) 1 3 := ⟨by decide +kernel, rfl⟩
theorem d3_3 : D1 jdk_42_method_3_code 3 (.aload_n 1) 1 4 := ⟨by decide +kernel, rfl⟩
theorem d3_4 : D1 jdk_42_method_3_code 4 (.arraylength) 1 5 := ⟨by decide +kernel, rfl⟩
theorem d3_5 : D1 jdk_42_method_3_code 5 (.aconst_null) 1 6 := ⟨by decide +kernel, rfl⟩
theorem d3_6 : D1 jdk_42_method_3_code 6 (.invokespecial 27) 3 9 := ⟨by decide +kernel, rfl⟩
theorem d3_9 : D1 jdk_42_method_3_code 9 (.return_) 1 10 := ⟨by decide +kernel, rfl⟩
theorem d4_0 : D1 jdk_42_method_149_code 0 (.aload_n 0) 1 1 := ⟨by decide +kernel, rfl⟩
theorem d4_1 : D1 jdk_42_method_149_code 1 (.invokespecial 1) 3 4 := ⟨by decide +kernel, rfl⟩
theorem d4_4 : D1 jdk_42_method_149_code 4 (.iload_n 3) 1 5 := ⟨by decide +kernel, rfl⟩
theorem d4_5 : D1 jdk_42_method_149_code 5 (.ifCond .ne 22) 3 8 := ⟨by decide +kernel, rfl⟩
theorem d4_8 : D1 jdk_42_method_149_code 8 (.aload_n 0) 1 9 := ⟨by decide +kernel, rfl⟩
theorem d4_9 : D1 jdk_42_method_149_code 9 (.ldc 7) 2 11 := ⟨by decide +kernel, rfl⟩
theorem d4_11 : D1 jdk_42_method_149_code 11 (.getfield 9) 3 14 := ⟨by decide +kernel, rfl⟩
theorem d4_14 : D1 jdk_42_method_149_code 14 (.putfield 9) 3 17 := ⟨by decide +kernel, rfl⟩
theorem d4_17 : D1 jdk_42_method_149_code 17 (.aload_n 0) 1 18 := ⟨by decide +kernel, rfl⟩
theorem d4_18 : D1 jdk_42_method_149_code 18 (.ldc 7) 2 20 := ⟨by decide +kernel, rfl⟩
theorem d4_20 : D1 jdk_42_method_149_code 20 (.getfield 15) 3 23 := ⟨by decide +kernel, rfl⟩
theorem d4_23 : D1 jdk_42_method_149_code 23 (.putfield 15) 3 26 := ⟨by decide +kernel, rfl⟩
theorem d4_26 : D1 jdk_42_method_149_code 26 (.return_) 1 27 := ⟨by decide +kernel, rfl⟩
theorem d4_27 : D1 jdk_42_method_149_code 27 (.getstatic 38) 3 30 := ⟨by decide +kernel, rfl⟩
theorem d4_30 : D1 jdk_42_method_149_code 30 (.ifCond .eq 28) 3 33 := ⟨by decide +kernel, rfl⟩
theorem d4_33 : D1 jdk_42_method_149_code 33 (.aload_n 1) 1 34 := ⟨by decide +kernel, rfl⟩
theorem d4_34 : D1 jdk_42_method_149_code 34 (.iload_n 2) 1 35 := ⟨by decide +kernel, rfl⟩
theorem d4_35 : D1 jdk_42_method_149_code 35 (.iload_n 3) 1 36 := ⟨by decide +kernel, rfl⟩
theorem d4_36 : D1 jdk_42_method_149_code 36 (.invokestatic 177) 3 39 := ⟨by decide +kernel, rfl⟩
theorem d4_39 : D1 jdk_42_method_149_code 39 (.astore 5) 2 41 := ⟨by decide +kernel, rfl⟩
theorem d4_41 : D1 jdk_42_method_149_code 41 (.aload_n 0) 1 42 := ⟨by decide +kernel, rfl⟩
theorem d4_42 : D1 jdk_42_method_149_code 42 (.aload 5) 2 44 := ⟨by decide +kernel, rfl⟩
theorem d4_44 : D1 jdk_42_method_149_code 44 (.iload_n 3) 1 45 := ⟨by decide +kernel, rfl⟩
theorem d4_45 : D1 jdk_42_method_149_code 45 (.invokestatic 47) 3 48 := ⟨by decide +kernel, rfl⟩
theorem d4_48 : D1 jdk_42_method_149_code 48 (.putfield 15) 3 51 := ⟨by decide +kernel, rfl⟩
theorem d4_51 : D1 jdk_42_method_149_code 51 (.aload_n 0) 1 52 := ⟨by decide +kernel, rfl⟩
theorem d4_52 : D1 jdk_42_method_149_code 52 (.aload 5) 2 54 := ⟨by decide +kernel, rfl⟩
theorem d4_54 : D1 jdk_42_method_149_code 54 (.putfield 9) 3 57 := ⟨by decide +kernel, rfl⟩
theorem d4_57 : D1 jdk_42_method_149_code 57 (.return_) 1 58 := ⟨by decide +kernel, rfl⟩
theorem d7_0 : D1 jdk_42_method_54_code 0 (.aload_n 0) 1 1 := ⟨by decide +kernel, rfl⟩
theorem d7_1 : D1 jdk_42_method_54_code 1 (.getfield 9) 3 4 := ⟨by decide +kernel, rfl⟩
theorem d7_4 : D1 jdk_42_method_54_code 4 (.arraylength) 1 5 := ⟨by decide +kernel, rfl⟩
theorem d7_5 : D1 jdk_42_method_54_code 5 (.aload_n 0) 1 6 := ⟨by decide +kernel, rfl⟩
theorem d7_6 : D1 jdk_42_method_54_code 6 (.invokevirtual 335) 3 9 := ⟨by decide +kernel, rfl⟩
theorem d7_9 : D1 jdk_42_method_54_code 9 (.ishr) 1 10 := ⟨by decide +kernel, rfl⟩
theorem d7_10 : D1 jdk_42_method_54_code 10 (.ireturn) 1 11 := ⟨by decide +kernel, rfl⟩
theorem d8_0 : D1 jdk_42_method_152_code 0 (.getstatic 38) 3 3 := ⟨by decide +kernel, rfl⟩
theorem d8_3 : D1 jdk_42_method_152_code 3 (.ifCond .eq 10) 3 6 := ⟨by decide +kernel, rfl⟩
theorem d8_6 : D1 jdk_42_method_152_code 6 (.aload_n 0) 1 7 := ⟨by decide +kernel, rfl⟩
theorem d8_7 : D1 jdk_42_method_152_code 7 (.getfield 15) 3 10 := ⟨by decide +kernel, rfl⟩
theorem d8_10 : D1 jdk_42_method_152_code 10 (.goto 4) 3 13 := ⟨by decide +kernel, rfl⟩
theorem d8_14 : D1 jdk_42_method_152_code 14 (.ireturn) 1 15 := ⟨by decide +kernel, rfl⟩
theorem d14_0 : D1 jdk_52_method_16_code 0 (.iload_n 2) 1 1 := ⟨by decide +kernel, rfl⟩
theorem d14_1 : D1 jdk_52_method_16_code 1 (.newarray .byte) 2 3 := ⟨by decide +kernel, rfl⟩
theorem d14_3 : D1 jdk_52_method_16_code 3 (.astore_n 3) 1 4 := ⟨by decide +kernel, rfl⟩
theorem d14_4 : D1 jdk_52_method_16_code 4 (.aload_n 0) 1 5 := ⟨by decide +kernel, rfl⟩
theorem d14_5 : D1 jdk_52_method_16_code 5 (.iload_n 1) 1 6 := ⟨by decide +kernel, rfl⟩
theorem d14_6 : D1 jdk_52_method_16_code 6 (.aload_n 3) 1 7 := ⟨by decide +kernel, rfl⟩
theorem d14_7 : D1 jdk_52_method_16_code 7 (.iconst 0) 1 8 := ⟨by decide +kernel, rfl⟩
theorem d14_8 : D1 jdk_52_method_16_code 8 (.iload_n 2) 1 9 := ⟨by decide +kernel, rfl⟩
theorem d14_9 : D1 jdk_52_method_16_code 9 (.invokestatic 115) 3 12 := ⟨by decide +kernel, rfl⟩
theorem d14_12 : D1 jdk_52_method_16_code 12 (.istore 4) 2 14 := ⟨by decide +kernel, rfl⟩
theorem d14_14 : D1 jdk_52_method_16_code 14 (.iload 4) 2 16 := ⟨by decide +kernel, rfl⟩
theorem d14_16 : D1 jdk_52_method_16_code 16 (.iload_n 2) 1 17 := ⟨by decide +kernel, rfl⟩
theorem d14_17 : D1 jdk_52_method_16_code 17 (.if_icmp .eq 40) 3 20 := ⟨by decide +kernel, rfl⟩
theorem d14_57 : D1 jdk_52_method_16_code 57 (.aload_n 3) 1 58 := ⟨by decide +kernel, rfl⟩
theorem d14_58 : D1 jdk_52_method_16_code 58 (.areturn) 1 59 := ⟨by decide +kernel, rfl⟩
theorem d15_0 : D1 jdk_52_method_21_code 0 (.iconst 0) 1 1 := ⟨by decide +kernel, rfl⟩
theorem d15_1 : D1 jdk_52_method_21_code 1 (.istore 5) 2 3 := ⟨by decide +kernel, rfl⟩
theorem d15_3 : D1 jdk_52_method_21_code 3 (.iload 5) 2 5 := ⟨by decide +kernel, rfl⟩
theorem d15_5 : D1 jdk_52_method_21_code 5 (.iload 4) 2 7 := ⟨by decide +kernel, rfl⟩
theorem d15_7 : D1 jdk_52_method_21_code 7 (.if_icmp .ge 37) 3 10 := ⟨by decide +kernel, rfl⟩
theorem d15_10 : D1 jdk_52_method_21_code 10 (.aload_n 0) 1 11 := ⟨by decide +kernel, rfl⟩
theorem d15_11 : D1 jdk_52_method_21_code 11 (.iload_n 1) 1 12 := ⟨by decide +kernel, rfl⟩
theorem d15_12 : D1 jdk_52_method_21_code 12 (.caload) 1 13 := ⟨by decide +kernel, rfl⟩
theorem d15_13 : D1 jdk_52_method_21_code 13 (.istore 6) 2 15 := ⟨by decide +kernel, rfl⟩
theorem d15_15 : D1 jdk_52_method_21_code 15 (.iload 6) 2 17 := ⟨by decide +kernel, rfl⟩
theorem d15_17 : D1 jdk_52_method_21_code 17 (.sipush 255) 3 20 := ⟨by decide +kernel, rfl⟩
theorem d15_20 : D1 jdk_52_method_21_code 20 (.if_icmp .le 6) 3 23 := ⟨by decide +kernel, rfl⟩
theorem d15_26 : D1 jdk_52_method_21_code 26 (.aload_n 2) 1 27 := ⟨by decide +kernel, rfl⟩
theorem d15_27 : D1 jdk_52_method_21_code 27 (.iload_n 3) 1 28 := ⟨by decide +kernel, rfl⟩
theorem d15_28 : D1 jdk_52_method_21_code 28 (.iload 6) 2 30 := ⟨by decide +kernel, rfl⟩
theorem d15_30 : D1 jdk_52_method_21_code 30 (.i2b) 1 31 := ⟨by decide +kernel, rfl⟩
theorem d15_31 : D1 jdk_52_method_21_code 31 (.bastore) 1 32 := ⟨by decide +kernel, rfl⟩
theorem d15_32 : D1 jdk_52_method_21_code 32 (.iinc 1 1) 3 35 := ⟨by decide +kernel, rfl⟩
theorem d15_35 : D1 jdk_52_method_21_code 35 (.iinc 3 1) 3 38 := ⟨by decide +kernel, rfl⟩
theorem d15_38 : D1 jdk_52_method_21_code 38 (.iinc 5 1) 3 41 := ⟨by decide +kernel, rfl⟩
theorem d15_41 : D1 jdk_52_method_21_code 41 (.goto (-38)) 3 44 := ⟨by decide +kernel, rfl⟩
theorem d15_44 : D1 jdk_52_method_21_code 44 (.iload 4) 2 46 := ⟨by decide +kernel, rfl⟩
theorem d15_46 : D1 jdk_52_method_21_code 46 (.ireturn) 1 47 := ⟨by decide +kernel, rfl⟩
theorem d16_0 : D1 jdk_52_method_15_code 0 (.iload_n 1) 1 1 := ⟨by decide +kernel, rfl⟩
theorem d16_1 : D1 jdk_52_method_15_code 1 (.aload_n 0) 1 2 := ⟨by decide +kernel, rfl⟩
theorem d16_2 : D1 jdk_52_method_15_code 2 (.arraylength) 1 3 := ⟨by decide +kernel, rfl⟩
theorem d16_3 : D1 jdk_52_method_15_code 3 (.isub) 1 4 := ⟨by decide +kernel, rfl⟩
theorem d16_4 : D1 jdk_52_method_15_code 4 (.bipush 31) 2 6 := ⟨by decide +kernel, rfl⟩
theorem d16_6 : D1 jdk_52_method_15_code 6 (.iushr) 1 7 := ⟨by decide +kernel, rfl⟩
theorem d16_7 : D1 jdk_52_method_15_code 7 (.i2b) 1 8 := ⟨by decide +kernel, rfl⟩
theorem d16_8 : D1 jdk_52_method_15_code 8 (.ireturn) 1 9 := ⟨by decide +kernel, rfl⟩
def ns0 : List Nm := [("java/lang/String", "value", "[B"), ("java/lang/String", "coder", "B")]
theorem lay0 {a0 : Array Value} {Z : State} (G : Gl a0 Z) : LayC Z a0 "java/lang/String" ns0 := LayC.of (fun q hq => by
  simp only [ns0, List.mem_cons, List.not_mem_nil, or_false] at hq
  rcases hq with rfl | rfl
  · exact Or.inr (G.1 _ (List.mem_of_getElem? (i := 24) rfl))
  · exact Or.inr (G.1 _ (List.mem_of_getElem? (i := 25) rfl))) (by decide +kernel) (fun q hq => by
  simp only [ns0, List.mem_cons, List.not_mem_nil, or_false] at hq
  rcases hq with rfl | rfl
  · exact ⟨(.array .byte), by decide +kernel⟩
  · exact ⟨.byte, by decide +kernel⟩)
theorem df0 : dfl ns0 = ([.null, .int 0] : List Value).map some := by decide +kernel
theorem pd0 : parseMethodDescriptor "()B" = some ⟨[], some .byte⟩ := by decide +kernel
theorem pd1 : parseMethodDescriptor "([CI[BII)I" = some ⟨[(.array .char), .int, (.array .byte), .int, .int], some .int⟩ := by decide +kernel
theorem pd2 : parseMethodDescriptor "([CII)[B" = some ⟨[(.array .char), .int, .int], some (.array .byte)⟩ := by decide +kernel
theorem pd3 : parseMethodDescriptor "([BI)B" = some ⟨[(.array .byte), .int], some .byte⟩ := by decide +kernel
theorem pd4 : parseMethodDescriptor "([CIILjava/lang/Void;)V" = some ⟨[(.array .char), .int, .int, (.object "java/lang/Void")], none⟩ := by decide +kernel
theorem pf0 : parseFieldDescriptor "[B" = some (.array .byte) := by decide +kernel
theorem pf1 : parseFieldDescriptor "B" = some .byte := by decide +kernel

/-- the bytes and the chars of a text whose signs are below 256 -/
def bsOf (cl : List Nat) : List Value := cl.map fun c => .int (Int32.ofNat c).toInt8.toInt32
def csOf (cl : List Nat) : List Value := cl.map fun c => .int (Int32.ofNat c)
/-- the class number of a text's byte array is byte[]'s (where the text isn't empty) -/
def FcB (Z : State) (cl : List Nat) (K : ClassId) : Prop := cl = [] ∨ Z.vm.findClass "[B" = some K
/-- the String at a is known: its bytes are the array b's and spell cl; its coder is 0 -/
def Sx (Z : State) (L : List Ent) (a b : Addr) (cl : List Nat) : Prop := (∃ K f, (b, Ar Z .byte K (bsOf cl), f) ∈ L) ∧ ∀ h, Hp Z h L → Exa Z h a "java/lang/String" ∧ Fld Z h a "java/lang/String" "value" "[B" (.ref b) ∧ Fld Z h a "java/lang/String" "coder" "B" (.int 0)
theorem bs_len (cl : List Nat) : (bsOf cl).length = cl.length := by simp [bsOf]
theorem bs_at {cl : List Nat} {i c : Nat} (q : cl[i]? = some c) : (bsOf cl)[i]? = some (.int (Int32.ofNat c).toInt8.toInt32) := by simp [bsOf, q]
theorem upd_mid {α : Type} (A B : List α) (x y : α) : updL (A ++ x :: B) A.length y = A ++ y :: B := by
  induction A with
  | nil => rfl
  | cons z r ih => simp [updL, ih]
theorem rep_at {α : Type} {x : α} {M i : Nat} (h : i < M) : (List.replicate M x)[i]? = some x := by simp [h]
theorem len_small {L : List Ent} {Z : State} {h : Heap} {b : Addr} {ty : FieldType} {K : ClassId} {vs : List Value} {f : Bool} (H : Hp Z h L) (q : (b, Ar Z ty K vs, f) ∈ L) : vs.length < 2 ^ 31 := by
  obtain ⟨cl, -, -, -, r, -⟩ := H.arrM q; exact r

theorem sAtoms {a0 : Array Value} {Z : State} (G : Gl a0 Z) : ∀ d ∈ Bundle.stringAtoms, d.before a0 Z = true := by
  intro d hd
  simp only [Bundle.stringAtoms, Bundle.sN, List.mem_cons, List.not_mem_nil, or_false] at hd
  rcases hd with rfl | rfl | rfl | rfl | rfl | rfl | rfl
  · exact (w10 G)
  · exact (w9 G)
  · exact (w23 G)
  · exact (w24 G)
  · exact (w25 G)
  · exact (w26 G)
  · exact (w27 G)
set_option maxRecDepth 65536 in
set_option maxHeartbeats 4000000 in
theorem s_coder (l : Launch) {Z : State} {a0 : Array Value} (G : Gl a0 Z) {L : List Ent} {a b : Addr} {cl : List Nat} (hS : Sx Z L a b cl) : Ct WD EL0 l Z (⟨"java/lang/String", "coder", "()B"⟩ : MethodName) jdk_42_method_152_code 1 (some .byte) ({ frames := 0, cells := 0, slots := 0, locals := 0 } : Room) #[.ref a] L (rvQ (fun v M => v = .int 0 ∧ M = L)) := by
  refine Ct.intro (by decide +kernel) G.2.1 ?_
  intro p e s m below meth c X
  replace X : Cx WD EL0 p Z s m meth c "java/lang/String" "coder" jdk_42_method_152_code 1 (some .byte) := X
  refine Go.cast (g' := mkF m 0 #[.val (.ref a)] []) (by first | rfl | (simp [entryFrame, mkF, argsToLocals, Value.category, maxLocals]; done)) ?_
  obtain ⟨cst, hcst, Fcst⟩ := g_cs G
  refine Go.getSta X (w44 G) Via.refl Fcst d8_0 ?_
  refine Go.ifc X d8_3 (pt := 13) ⟨by decide, by decide⟩ ?_ ?_
  · intro q; exact absurd q hcst
  intro _
  refine Go.aloadN X d8_6 rfl rfl ?_
  refine Go.getFld X (w29 G) Via.refl (fun h H => (hS.2 h H).2.2) d8_7 ?_
  refine Go.goto X d8_10 (pt := 14) ⟨by decide, by decide⟩ ?_
  exact Go.bret X d8_14 (by decide) (Nat.zero_le _) (Nat.zero_le _) ⟨rfl, rfl⟩
theorem shr0 (x : Int32) : x >>> ((0 : Int32) &&& 31) = x := by
  have : (0 : Int32) &&& 31 = 0 := by decide
  rw [this]; simp
set_option maxRecDepth 65536 in
set_option maxHeartbeats 4000000 in
theorem s_length (l : Launch) {Z : State} {a0 : Array Value} (G : Gl a0 Z) {L : List Ent} {a b : Addr} {cl : List Nat} (hS : Sx Z L a b cl) : Ct WD EL0 l Z (⟨"java/lang/String", "length", "()I"⟩ : MethodName) jdk_42_method_54_code 1 (some .int) ({ frames := 1, cells := 0, slots := 0, locals := 13 } : Room) #[.ref a] L (rvQ (fun v M => v = .int cl.length.toInt32 ∧ M = L)) := by
  refine Ct.intro (by decide +kernel) G.2.1 ?_
  intro p e s m below meth c X
  replace X : Cx WD EL0 p Z s m meth c "java/lang/String" "length" jdk_42_method_54_code 1 (some .int) := X
  refine Go.cast (g' := mkF m 0 #[.val (.ref a)] []) (by first | rfl | (simp [entryFrame, mkF, argsToLocals, Value.category, maxLocals]; done)) ?_
  obtain ⟨K, f, hb'⟩ := hS.1
  refine Go.aloadN X d7_0 rfl rfl ?_
  refine Go.getFld X (w28 G) Via.refl (fun h H => (hS.2 h H).2.1) d7_1 ?_
  refine Go.alenA X (fun h H => H.lenM hb') d7_4 ?_
  refine Go.aloadN X d7_5 rfl rfl ?_
  refine Go.callV X (fun h H => (hS.2 h H).1) (s_coder l G hS) (rest := [.int (bsOf cl).length.toInt32]) (w39 G) (w40 G) (nfS (w42 G)) (w42 G) (w41 G) (w10 G) (w43 G) (by decide) pd0 rfl rfl d7_6 rfl (Nat.le_of_ble_eq_true rfl) (Nat.le_of_ble_eq_true rfl) (Nat.le_of_ble_eq_true rfl) (Nat.le_of_ble_eq_true rfl) (Kv ?_)
  rintro v M ⟨rfl, rfl⟩
  refine Go.ishr X d7_9 ?_
  refine Go.iret X d7_10 (Nat.zero_le _) (Nat.zero_le _) ⟨?_, rfl⟩
  rw [bs_len]; congr 1; exact shr0 _
set_option maxRecDepth 65536 in
set_option maxHeartbeats 4000000 in
theorem s_cmp_loop {p : Program} {l : Launch} {e : Env} {R : Room} {Z s : State} {m : MethodId} {args : Array Value} {below : List Frame} {meth : Method} {c : Code} {L : List Ent} {ca b : Addr} {K Kc : ClassId} {cs : List Value} {f : Bool} {o N : Nat} (hc : (ca, Ar Z .char Kc cs, f) ∈ L)
    (X : Cx WD EL0 p Z s m meth c "java/lang/StringUTF16" "compress" jdk_52_method_21_code 7 (some .int)) : ∀ (suf pre : List Nat) (u : Slot), (u = .unset ∨ ∃ w, u = .val (.int w)) → pre.length + suf.length = N → (∀ c ∈ suf, c < 256) → (∀ (i c : Nat), suf[i]? = some c → cs[o + pre.length + i]? = some (Value.int (Int32.ofNat c))) → o + N < 2 ^ 31 →
    Go WD EL0 p l e R Z s m args below meth c (rvQ fun v M => v = .int (Int32.ofNat N) ∧ M = ow b (Ar Z .byte K (bsOf (pre ++ suf))) :: L) (ow b (Ar Z .byte K (bsOf pre ++ List.replicate suf.length (.int 0))) :: L) 0 0 (mkF m 3 #[.val (.ref ca), .val (.int (Int32.ofNat (o + pre.length))), .val (.ref b), .val (.int (Int32.ofNat pre.length)), .val (.int (Int32.ofNat N)), .val (.int (Int32.ofNat pre.length)), u] []) := by
  intro suf
  induction suf with
  | nil =>
    intro pre u hu hN hlt hcs ho
    have hN : pre.length = N := by simpa using hN
    refine Go.iload X d15_3 rfl ?_
    refine Go.iload X d15_5 rfl ?_
    refine Go.icmp X d15_7 (pt := 44) ⟨by decide, by decide⟩ ?_ ?_
    · intro _
      refine Go.iload X d15_44 rfl ?_
      exact Go.iret X d15_46 (Nat.zero_le _) (Nat.zero_le _) ⟨rfl, by simp⟩
    intro q
    exact absurd (show Int32.ofNat N ≤ Int32.ofNat pre.length by rw [hN]; exact Int32.le_refl _) q
  | cons x suf ih =>
    intro pre u hu hN hlt hcs ho
    have hN' : pre.length + 1 + suf.length = N := by simp at hN; omega
    have hx := hlt x List.mem_cons_self
    have hst : ∀ w, storeLocals #[.val (.ref ca), .val (.int (Int32.ofNat (o + pre.length))), .val (.ref b), .val (.int (Int32.ofNat pre.length)), .val (.int (Int32.ofNat N)), .val (.int (Int32.ofNat pre.length)), u] 6 (.int w) = some #[.val (.ref ca), .val (.int (Int32.ofNat (o + pre.length))), .val (.ref b), .val (.int (Int32.ofNat pre.length)), .val (.int (Int32.ofNat N)), .val (.int (Int32.ofNat pre.length)), .val (.int w)] := by intro w; rcases hu with rfl | ⟨w', rfl⟩ <;> rfl
    obtain ⟨n1, n2, n3⟩ := nat32 (i := pre.length) (by omega)
    obtain ⟨m1, m2, m3⟩ := nat32 (i := o + pre.length) (by omega)
    obtain ⟨k1, k2, k3⟩ := nat32 (i := N) (by omega)
    obtain ⟨x1, x2, x3⟩ := nat32 (i := x) (by omega)
    refine Go.iload X d15_3 rfl ?_
    refine Go.iload X d15_5 rfl ?_
    refine Go.icmp X d15_7 (pt := 44) ⟨by decide, by decide⟩ ?_ ?_
    · intro q
      have q : (N : Int) ≤ pre.length := ccL q n1 k1
      omega
    intro _
    refine Go.aloadN X d15_10 rfl rfl ?_
    refine Go.iloadN X d15_11 rfl ?_
    refine Go.cald X m2 (x := Int32.ofNat x) (fun h H => H.elM (List.mem_cons_of_mem _ hc) (by rw [m3]; simpa using hcs 0 x rfl)) d15_12 ?_
    refine Go.istore X d15_13 (hst _) ?_
    refine Go.iload X d15_15 rfl ?_
    refine Go.sipush X (v := 255) d15_17 (by decide) ?_
    refine Go.icmp X d15_20 (pt := 26) ⟨by decide, by decide⟩ ?_ ?_
    rotate_left
    · intro q
      have q : ¬ (x : Int) ≤ 255 := ccN (b := 255) q x1 rfl
      omega
    intro _
    refine Go.aloadN X d15_26 rfl rfl ?_
    refine Go.iloadN X d15_27 rfl ?_
    refine Go.iload X d15_28 rfl ?_
    refine Go.i2b X d15_30 ?_
    refine Go.bast X (i := 0) rfl n2 (by rw [n3]; simp [bsOf]) (y := (Int32.ofNat x).toInt8.toInt32) (by simp) d15_31 ?_
    have e1 : updL (bsOf pre ++ List.replicate (x :: suf).length (.int 0)) (Int32.ofNat pre.length).toNatClampNeg (.int (Int32.ofNat x).toInt8.toInt32) = bsOf (pre ++ [x]) ++ List.replicate suf.length (.int 0) := by
      rw [n3]
      have := upd_mid (bsOf pre) (List.replicate suf.length (Value.int 0)) (.int 0) (.int (Int32.ofNat x).toInt8.toInt32)
      rw [bs_len] at this
      rw [show (x :: suf).length = suf.length + 1 from rfl, List.replicate_succ, this]
      simp [bsOf]
    rw [upd_zero, e1]
    refine Go.iinc X d15_32 rfl rfl ?_
    refine Go.iinc X d15_35 rfl rfl ?_
    refine Go.iinc X d15_38 rfl rfl ?_
    refine Go.goto X d15_41 (pt := 3) ⟨by decide, by decide⟩ ?_
    have a1 : Int32.ofNat (o + pre.length) + Int32.ofInt 1 = Int32.ofNat (o + (pre ++ [x]).length) := by
      rw [show o + (pre ++ [x]).length = o + pre.length + 1 by simp; omega]; exact (inc_ofNat _).symm
    have a2 : Int32.ofNat pre.length + Int32.ofInt 1 = Int32.ofNat (pre ++ [x]).length := by
      rw [show (pre ++ [x]).length = pre.length + 1 by simp]; exact (inc_ofNat _).symm
    rw [a1, a2]
    have r := ih (pre ++ [x]) (.val (.int (Int32.ofNat x))) (Or.inr ⟨_, rfl⟩) (by simp; omega) (fun c hc => hlt c (List.mem_cons_of_mem _ hc)) (fun i c hi => by
      have := hcs (i + 1) c (by simpa using hi)
      rw [show o + (pre ++ [x]).length + i = o + pre.length + (i + 1) by simp; omega]; exact this) ho
    simpa using r
set_option maxRecDepth 65536 in
set_option maxHeartbeats 4000000 in
theorem s_cmp5 (l : Launch) {Z : State} {a0 : Array Value} (G : Gl a0 Z) {L : List Ent} {ca b : Addr} {K Kc : ClassId} {cs : List Value} {f : Bool} {o : Nat} {cl : List Nat} (hc : (ca, Ar Z .char Kc cs, f) ∈ L) (hlt : ∀ c ∈ cl, c < 256) (hcs : ∀ (i c : Nat), cl[i]? = some c → cs[o + i]? = some (Value.int (Int32.ofNat c))) (ho : o + cl.length < 2 ^ 31) : Ct WD EL0 l Z (⟨"java/lang/StringUTF16", "compress", "([CI[BII)I"⟩ : MethodName) jdk_52_method_21_code 7 (some .int) ({ frames := 0, cells := 0, slots := 0, locals := 0 } : Room) #[.ref ca, .int (Int32.ofNat o), .ref b, .int 0, .int (Int32.ofNat cl.length)] (ow b (Ar Z .byte K (List.replicate cl.length (.int 0))) :: L) (rvQ (fun v M => v = .int (Int32.ofNat cl.length) ∧ M = ow b (Ar Z .byte K (bsOf cl)) :: L)) := by
  refine Ct.intro (by decide +kernel) G.2.1 ?_
  intro p e s m below meth c X
  replace X : Cx WD EL0 p Z s m meth c "java/lang/StringUTF16" "compress" jdk_52_method_21_code 7 (some .int) := X
  refine Go.cast (g' := mkF m 0 #[.val (.ref ca), .val (.int (Int32.ofNat o)), .val (.ref b), .val (.int 0), .val (.int (Int32.ofNat cl.length)), .unset, .unset] []) (by first | rfl | (simp [entryFrame, mkF, argsToLocals, Value.category, maxLocals]; done)) ?_
  refine Go.iconst X (v := 0) d15_0 (by decide) ?_
  refine Go.istore X d15_1 rfl ?_
  have r := s_cmp_loop (p := p) (l := l) (e := e) (R := ({ frames := 0, cells := 0, slots := 0, locals := 0 } : Room)) (args := #[.ref ca, .int (Int32.ofNat o), .ref b, .int 0, .int (Int32.ofNat cl.length)]) (below := below) (b := b) (K := K) (o := o) (N := cl.length) hc X cl [] .unset (Or.inl rfl) (by simp) hlt (by simpa using hcs) ho
  exact r
set_option maxRecDepth 65536 in
set_option maxHeartbeats 4000000 in
theorem s_cmp3 (l : Launch) {Z : State} {a0 : Array Value} (G : Gl a0 Z) {L : List Ent} {ca : Addr} {Kc : ClassId} {cs : List Value} {f : Bool} {o cap : Nat} {cl : List Nat} (hc : (ca, Ar Z .char Kc cs, f) ∈ L) (hlt : ∀ c ∈ cl, c < 256) (hcs : ∀ (i c : Nat), cl[i]? = some c → cs[o + i]? = some (Value.int (Int32.ofNat c))) (ho : o + cl.length < 2 ^ 31) (hcap : cl.length ≤ cap) (hcap2 : cap ≤ 4096) : Ct WD EL0 l Z (⟨"java/lang/StringUTF16", "compress", "([CII)[B"⟩ : MethodName) jdk_52_method_16_code 6 (some (.array .byte)) ({ frames := 1, cells := 1, slots := cap, locals := 18 } : Room) #[.ref ca, .int (Int32.ofNat o), .int (Int32.ofNat cl.length)] L (rvQ (fun v M => ∃ b K, v = .ref b ∧ FcB Z cl K ∧ M = ow b (Ar Z .byte K (bsOf cl)) :: L)) := by
  refine Ct.intro (by decide +kernel) G.2.1 ?_
  intro p e s m below meth c X
  replace X : Cx WD EL0 p Z s m meth c "java/lang/StringUTF16" "compress" jdk_52_method_16_code 6 (some (.array .byte)) := X
  refine Go.cast (g' := mkF m 0 #[.val (.ref ca), .val (.int (Int32.ofNat o)), .val (.int (Int32.ofNat cl.length)), .unset, .unset, .unset] []) (by first | rfl | (simp [entryFrame, mkF, argsToLocals, Value.category, maxLocals]; done)) ?_
  refine Go.iloadN X d14_0 rfl ?_
  obtain ⟨n1, n2, n3⟩ := nat32 (i := cl.length) (by omega)
  refine Go.newarrF X (aty := .byte) (N := cl.length) (cap := cap) (w23 G) n2 n3 hcap (by omega) d14_1 (by first | exact Nat.le_of_ble_eq_true rfl | (simp; done) | (simp; omega)) (by first | exact Nat.le_of_ble_eq_true rfl | (simp; done) | (simp; omega)) ?_
  intro b K hK
  refine Go.astoreN X d14_3 rfl rfl ?_
  refine Go.aloadN X d14_4 rfl rfl ?_
  refine Go.iloadN X d14_5 rfl ?_
  refine Go.aloadN X d14_6 rfl rfl ?_
  refine Go.iconst X (v := 0) d14_7 (by decide) ?_
  refine Go.iloadN X d14_8 rfl ?_
  refine Go.callS X (s_cmp5 l G (L := L) (b := b) (K := K) (o := o) (cl := cl) hc hlt hcs ho) (rest := []) (w79 G) (w80 G) (w77 G) (w81 G) (by decide) pd1 rfl rfl d14_9 rfl (Nat.le_of_ble_eq_true rfl) (Nat.le_of_ble_eq_true rfl) (by first | exact Nat.le_of_ble_eq_true rfl | (simp; done) | (simp; omega)) (by first | exact Nat.le_of_ble_eq_true rfl | (simp; done) | (simp; omega)) (Kv ?_)
  rintro v M ⟨rfl, rfl⟩
  refine Go.istore X d14_12 rfl ?_
  refine Go.iload X d14_14 rfl ?_
  refine Go.iloadN X d14_16 rfl ?_
  refine Go.icmp X d14_17 (pt := 57) ⟨by decide, by decide⟩ ?_ ?_
  · intro _
    refine Go.aloadN X d14_57 rfl rfl ?_
    exact Go.aret X d14_58 (by rfl) (by rfl) (by rfl) (by first | exact Nat.le_of_ble_eq_true rfl | (simp; done) | (simp; omega)) (by first | exact Nat.le_of_ble_eq_true rfl | (simp; done) | (simp; omega)) ⟨b, K, rfl, Or.inr hK, rfl⟩
  intro q
  exact absurd rfl q
set_option maxRecDepth 65536 in
set_option maxHeartbeats 4000000 in
theorem s_coderlen (l : Launch) {Z : State} {a0 : Array Value} (G : Gl a0 Z) {L : List Ent} {b : Addr} {K : ClassId} {vs : List Value} {f : Bool} (hb' : (b, Ar Z .byte K vs, f) ∈ L) : Ct WD EL0 l Z (⟨"java/lang/StringUTF16", "coderFromArrayLen", "([BI)B"⟩ : MethodName) jdk_52_method_15_code 2 (some .byte) ({ frames := 0, cells := 0, slots := 0, locals := 0 } : Room) #[.ref b, .int (Int32.ofNat vs.length)] L (rvQ (fun v M => v = .int 0 ∧ M = L)) := by
  refine Ct.intro (by decide +kernel) G.2.1 ?_
  intro p e s m below meth c X
  replace X : Cx WD EL0 p Z s m meth c "java/lang/StringUTF16" "coderFromArrayLen" jdk_52_method_15_code 2 (some .byte) := X
  refine Go.cast (g' := mkF m 0 #[.val (.ref b), .val (.int (Int32.ofNat vs.length))] []) (by first | rfl | (simp [entryFrame, mkF, argsToLocals, Value.category, maxLocals]; done)) ?_
  refine Go.iloadN X d16_0 rfl ?_
  refine Go.aloadN X d16_1 rfl rfl ?_
  refine Go.alenA X (fun h H => H.lenM hb') d16_2 ?_
  refine Go.isub X d16_3 ?_
  refine Go.bipush X (v := 31) d16_4 (by decide) ?_
  refine Go.iushr X d16_6 ?_
  refine Go.i2b X d16_7 ?_
  refine Go.bret X d16_8 ?_ (Nat.zero_le _) (Nat.zero_le _) ⟨?_, rfl⟩
  · rw [show Int32.ofNat vs.length - vs.length.toInt32 = 0 from Int32.sub_self _]; decide
  · rw [show Int32.ofNat vs.length - vs.length.toInt32 = 0 from Int32.sub_self _]; congr 1
set_option maxRecDepth 65536 in
set_option maxHeartbeats 4000000 in
theorem s_initV (l : Launch) {Z : State} {a0 : Array Value} (G : Gl a0 Z) {L : List Ent} {a ca : Addr} {Kc : ClassId} {cs : List Value} {f : Bool} {o cap : Nat} {cl : List Nat} (hc : (ca, Ar Z .char Kc cs, f) ∈ L) (hlt : ∀ c ∈ cl, c < 256) (hcs : ∀ (i c : Nat), cl[i]? = some c → cs[o + i]? = some (Value.int (Int32.ofNat c))) (ho : o + cl.length < 2 ^ 31) (hcap : cl.length ≤ cap) (hcap2 : cap ≤ 4096) : Ct WD EL0 l Z (⟨"java/lang/String", "<init>", "([CIILjava/lang/Void;)V"⟩ : MethodName) jdk_42_method_149_code 6 none ({ frames := 2, cells := 4, slots := cap + 8, locals := 35 } : Room) #[.ref a, .ref ca, .int (Int32.ofNat o), .int (Int32.ofNat cl.length), .null] (ow a (Ob Z "java/lang/String" ns0 [.null, .int 0]) :: L) (r0Q (fun M => ∃ b K f, FcB Z cl K ∧ M = (b, Ar Z .byte K (bsOf cl), f) :: ow a (Ob Z "java/lang/String" ns0 [.ref b, .int 0]) :: L)) := by
  refine Ct.intro (by decide +kernel) G.2.1 ?_
  intro p e s m below meth c X
  replace X : Cx WD EL0 p Z s m meth c "java/lang/String" "<init>" jdk_42_method_149_code 6 none := X
  refine Go.cast (g' := mkF m 0 #[.val (.ref a), .val (.ref ca), .val (.int (Int32.ofNat o)), .val (.int (Int32.ofNat cl.length)), .val .null, .unset] []) (by first | rfl | (simp [entryFrame, mkF, argsToLocals, Value.category, maxLocals]; done)) ?_
  refine Go.aloadN X d4_0 rfl rfl ?_
  refine Go.initObj X (w19 G) (w20 G) (w21 G) d4_1 rfl (Nat.le_of_ble_eq_true rfl) (Nat.le_of_ble_eq_true rfl) ?_
  refine Go.iloadN X d4_4 rfl ?_
  obtain ⟨n1, n2, n3⟩ := nat32 (i := cl.length) (by omega)
  refine Go.ifc X d4_5 (pt := 27) ⟨by decide, by decide⟩ ?_ ?_
  rotate_left
  · intro q
    have q : cl.length = 0 := by have := Decidable.of_not_not (ccN (a := cl.length) (b := 0) q n1 rfl); omega
    obtain rfl : cl = [] := List.eq_nil_of_length_eq_zero q
    refine Go.aloadN X d4_8 rfl rfl ?_
    refine Go.ldcS X (text := "") (vs := []) (z := 0) (N := 0) (w22 G) (sAtoms G) (by decide) ⟨by decide, by decide⟩ (by decide) (by decide) d4_9 (by decide) (by decide) (by first | exact Nat.le_of_ble_eq_true rfl | (simp; done) | (simp; omega)) (by first | exact Nat.le_of_ble_eq_true rfl | (simp; done) | (simp; omega)) ?_
    intro a1 b1 K1
    refine Go.getFld X (w28 G) Via.refl (fun h H => (H.ltC (i := 0) rfl).2.2) d4_11 ?_
    refine Go.putFld X (i := 2) rfl (j := 0) rfl (lay0 G) (w28 G) Via.refl (Or.inr ⟨(w24 G), rfl, rfl⟩) (w9 G) pf0 d4_14 (by rfl) (by rfl) ?_
    refine Go.aloadN X d4_17 rfl rfl ?_
    refine Go.ldcS X (text := "") (vs := []) (z := 0) (N := 0) (w22 G) (sAtoms G) (by decide) ⟨by decide, by decide⟩ (by decide) (by decide) d4_18 (by decide) (by decide) (by first | exact Nat.le_of_ble_eq_true rfl | (simp; done) | (simp; omega)) (by first | exact Nat.le_of_ble_eq_true rfl | (simp; done) | (simp; omega)) ?_
    intro a2 b2 K2
    refine Go.getFld X (w29 G) Via.refl (fun h H => (H.ltC (i := 0) rfl).2.1) d4_20 ?_
    refine Go.putFld X (i := 4) rfl (j := 1) rfl (lay0 G) (w29 G) Via.refl (Or.inr ⟨(w25 G), rfl, rfl⟩) (w9 G) pf1 d4_23 (by rfl) (by rfl) ?_
    refine Go.drop (Go.drop (Go.drop ?_))
    exact Go.ret0 X d4_26 (by first | exact Nat.le_of_ble_eq_true rfl | (simp; done) | (simp; omega)) (by first | exact Nat.le_of_ble_eq_true rfl | (simp; done) | (simp; omega)) ⟨b1, K1, false, Or.inl rfl, rfl⟩
  intro q
  have q : cl.length ≠ 0 := by have := ccL (a := cl.length) (b := 0) q n1 rfl; intro z; exact this (by rw [z]; rfl)
  obtain ⟨cst, hcst, Fcst⟩ := g_cs G
  refine Go.getSta X (w44 G) Via.refl Fcst d4_27 ?_
  refine Go.ifc X d4_30 (pt := 58) ⟨by decide, by decide⟩ ?_ ?_
  · intro q; exact absurd q hcst
  intro _
  refine Go.aloadN X d4_33 rfl rfl ?_
  refine Go.iloadN X d4_34 rfl ?_
  refine Go.iloadN X d4_35 rfl ?_
  refine Go.callS X (s_cmp3 l G (o := o) (cap := cap) (cl := cl) (List.mem_cons_of_mem _ hc) hlt hcs ho hcap hcap2) (rest := []) (w75 G) (w76 G) (w77 G) (w78 G) (by decide) pd2 rfl rfl d4_36 rfl (Nat.le_of_ble_eq_true rfl) (Nat.le_of_ble_eq_true rfl) (by first | exact Nat.le_of_ble_eq_true rfl | (simp; done) | (simp; omega)) (by first | exact Nat.le_of_ble_eq_true rfl | (simp; done) | (simp; omega)) (Kv ?_)
  rintro v M ⟨b, K, rfl, hK, rfl⟩
  refine Go.astore X d4_39 rfl rfl ?_
  refine Go.aloadN X d4_41 rfl rfl ?_
  refine Go.aload X d4_42 rfl rfl ?_
  refine Go.iloadN X d4_44 rfl ?_
  refine Go.callS X ((bs_len cl) ▸ s_coderlen l G (L := ow b (Ar Z .byte K (bsOf cl)) :: ow a (Ob Z "java/lang/String" ns0 [.null, .int 0]) :: L) (vs := bsOf cl) (List.mem_cons_self)) (rest := [.ref a]) (w82 G) (w83 G) (w77 G) (w84 G) (by decide) pd3 rfl rfl d4_45 rfl (Nat.le_of_ble_eq_true rfl) (Nat.le_of_ble_eq_true rfl) (by first | exact Nat.le_of_ble_eq_true rfl | (simp; done) | (simp; omega)) (by first | exact Nat.le_of_ble_eq_true rfl | (simp; done) | (simp; omega)) (Kv ?_)
  rintro v M ⟨rfl, rfl⟩
  refine Go.putFld X (i := 1) rfl (j := 1) rfl (lay0 G) (w29 G) Via.refl (Or.inr ⟨(w25 G), rfl, rfl⟩) (w9 G) pf1 d4_48 (by rfl) (by rfl) ?_
  refine Go.aloadN X d4_51 rfl rfl ?_
  refine Go.aload X d4_52 rfl rfl ?_
  refine Go.putFld X (i := 1) rfl (j := 0) rfl (lay0 G) (w28 G) Via.refl (Or.inr ⟨(w24 G), rfl, rfl⟩) (w9 G) pf0 d4_54 (by rfl) (by rfl) ?_
  exact Go.ret0 X d4_57 (by first | exact Nat.le_of_ble_eq_true rfl | (simp; done) | (simp; omega)) (by first | exact Nat.le_of_ble_eq_true rfl | (simp; done) | (simp; omega)) ⟨b, K, true, hK, rfl⟩
set_option maxRecDepth 65536 in
set_option maxHeartbeats 4000000 in
theorem s_initC (l : Launch) {Z : State} {a0 : Array Value} (G : Gl a0 Z) {L : List Ent} {a ca : Addr} {Kc : ClassId} {f : Bool} {cap : Nat} {cl : List Nat} (hc : (ca, Ar Z .char Kc (csOf cl), f) ∈ L) (hlt : ∀ c ∈ cl, c < 256) (hcap : cl.length ≤ cap) (hcap2 : cap ≤ 4096) : Ct WD EL0 l Z (⟨"java/lang/String", "<init>", "([C)V"⟩ : MethodName) jdk_42_method_3_code 2 none ({ frames := 3, cells := 4, slots := cap + 8, locals := 53 } : Room) #[.ref a, .ref ca] (ow a (Ob Z "java/lang/String" ns0 [.null, .int 0]) :: L) (r0Q (fun M => ∃ b K f, FcB Z cl K ∧ M = (b, Ar Z .byte K (bsOf cl), f) :: ow a (Ob Z "java/lang/String" ns0 [.ref b, .int 0]) :: L)) := by
  refine Ct.intro (by decide +kernel) G.2.1 ?_
  intro p e s m below meth c X
  replace X : Cx WD EL0 p Z s m meth c "java/lang/String" "<init>" jdk_42_method_3_code 2 none := X
  refine Go.cast (g' := mkF m 0 #[.val (.ref a), .val (.ref ca)] []) (by first | rfl | (simp [entryFrame, mkF, argsToLocals, Value.category, maxLocals]; done)) ?_
  refine Go.aloadN X d3_0 rfl rfl ?_
  refine Go.aloadN X d3_1 rfl rfl ?_
  refine Go.iconst X (v := 0) d3_2 (by decide) ?_
  refine Go.aloadN X d3_3 rfl rfl ?_
  refine Go.alenA X (fun h H => H.lenM (List.mem_cons_of_mem _ hc)) d3_4 ?_
  rw [show (csOf cl).length.toInt32 = Int32.ofNat cl.length by simp [csOf]]
  refine Go.aconstNull X d3_5 ?_
  refine Go.fact (fun h H => len_small H (List.mem_cons_of_mem _ hc)) fun hM => ?_
  have hM : cl.length < 2 ^ 31 := by simpa [csOf] using hM
  refine Go.callI X (s_initV l G (o := 0) (cap := cap) (cl := cl) hc hlt (fun i c h => by simp [csOf, h]) (by omega) hcap hcap2) rfl (rest := []) (w15 G) (w16 G) (w10 G) (w18 G) (by decide) pd4 rfl rfl d3_6 rfl (by first | exact Nat.le_of_ble_eq_true rfl | (simp; done) | (simp; omega)) (by first | exact Nat.le_of_ble_eq_true rfl | (simp; done) | (simp; omega)) (by first | exact Nat.le_of_ble_eq_true rfl | (simp; done) | (simp; omega)) (by first | exact Nat.le_of_ble_eq_true rfl | (simp; done) | (simp; omega)) (K0 ?_)
  rintro M ⟨b, K, f, hK, rfl⟩
  exact Go.ret0 X d3_9 (by first | exact Nat.le_of_ble_eq_true rfl | (simp; done) | (simp; omega)) (by first | exact Nat.le_of_ble_eq_true rfl | (simp; done) | (simp; omega)) ⟨b, K, f, hK, rfl⟩
-- %%% strings 2
theorem w129 {a0 : Array Value} {Z : State} (G : Gl a0 Z) : (Jvm.Cond.initialized "java/lang/StringLatin1").before a0 Z = true := G.1 _ (List.mem_of_getElem? (i := 129) rfl)
theorem w132 {a0 : Array Value} {Z : State} (G : Gl a0 Z) : (Jvm.Cond.classLink "java/lang/String" (10 : Nat) "java/lang/String").before a0 Z = true := G.1 _ (List.mem_of_getElem? (i := 132) rfl)
theorem w133 {a0 : Array Value} {Z : State} (G : Gl a0 Z) : (Jvm.Cond.methodLink "java/lang/String" (541 : Nat) ({ cls := "java/lang/StringLatin1", name := "equals", desc := "([B[B)Z" } : Jvm.MethodName)).before a0 Z = true := G.1 _ (List.mem_of_getElem? (i := 133) rfl)
theorem w134 {a0 : Array Value} {Z : State} (G : Gl a0 Z) : (Jvm.Cond.static ({ cls := "java/lang/StringLatin1", name := "equals", desc := "([B[B)Z" } : Jvm.MethodName)).before a0 Z = true := G.1 _ (List.mem_of_getElem? (i := 134) rfl)
theorem w135 {a0 : Array Value} {Z : State} (G : Gl a0 Z) : (Jvm.Cond.code ({ cls := "java/lang/StringLatin1", name := "equals", desc := "([B[B)Z" } : Jvm.MethodName) jdk_43_method_13_code (3 : Nat) (Option.some Jvm.ClassFile.FieldType.boolean)).before a0 Z = true := G.1 _ (List.mem_of_getElem? (i := 135) rfl)
theorem d12_0 : D1 jdk_42_method_66_code 0 (.aload_n 0) 1 1 := ⟨by decide +kernel, rfl⟩
theorem d12_1 : D1 jdk_42_method_66_code 1 (.aload_n 1) 1 2 := ⟨by decide +kernel, rfl⟩
theorem d12_2 : D1 jdk_42_method_66_code 2 (.if_acmp .ne 5) 3 5 := ⟨by decide +kernel, rfl⟩
theorem d12_5 : D1 jdk_42_method_66_code 5 (.iconst 1) 1 6 := ⟨by decide +kernel, rfl⟩
theorem d12_6 : D1 jdk_42_method_66_code 6 (.ireturn) 1 7 := ⟨by decide +kernel, rfl⟩
theorem d12_7 : D1 jdk_42_method_66_code 7 (.aload_n 1) 1 8 := ⟨by decide +kernel, rfl⟩
theorem d12_8 : D1 jdk_42_method_66_code 8 (.instanceof 10) 3 11 := ⟨by decide +kernel, rfl⟩
theorem d12_11 : D1 jdk_42_method_66_code 11 (.ifCond .eq 43) 3 14 := ⟨by decide +kernel, rfl⟩
theorem d12_14 : D1 jdk_42_method_66_code 14 (.aload_n 1) 1 15 := ⟨by decide +kernel, rfl⟩
theorem d12_15 : D1 jdk_42_method_66_code 15 (.checkcast 10) 3 18 := ⟨by decide +kernel, rfl⟩
theorem d12_18 : D1 jdk_42_method_66_code 18 (.astore_n 2) 1 19 := ⟨by decide +kernel, rfl⟩
theorem d12_19 : D1 jdk_42_method_66_code 19 (.getstatic 38) 3 22 := ⟨by decide +kernel, rfl⟩
theorem d12_22 : D1 jdk_42_method_66_code 22 (.ifCond .eq 14) 3 25 := ⟨by decide +kernel, rfl⟩
theorem d12_25 : D1 jdk_42_method_66_code 25 (.aload_n 0) 1 26 := ⟨by decide +kernel, rfl⟩
theorem d12_26 : D1 jdk_42_method_66_code 26 (.getfield 15) 3 29 := ⟨by decide +kernel, rfl⟩
theorem d12_29 : D1 jdk_42_method_66_code 29 (.aload_n 2) 1 30 := ⟨by decide +kernel, rfl⟩
theorem d12_30 : D1 jdk_42_method_66_code 30 (.getfield 15) 3 33 := ⟨by decide +kernel, rfl⟩
theorem d12_33 : D1 jdk_42_method_66_code 33 (.if_icmp .ne 21) 3 36 := ⟨by decide +kernel, rfl⟩
theorem d12_36 : D1 jdk_42_method_66_code 36 (.aload_n 0) 1 37 := ⟨by decide +kernel, rfl⟩
theorem d12_37 : D1 jdk_42_method_66_code 37 (.getfield 9) 3 40 := ⟨by decide +kernel, rfl⟩
theorem d12_40 : D1 jdk_42_method_66_code 40 (.aload_n 2) 1 41 := ⟨by decide +kernel, rfl⟩
theorem d12_41 : D1 jdk_42_method_66_code 41 (.getfield 9) 3 44 := ⟨by decide +kernel, rfl⟩
theorem d12_44 : D1 jdk_42_method_66_code 44 (.invokestatic 541) 3 47 := ⟨by decide +kernel, rfl⟩
theorem d12_47 : D1 jdk_42_method_66_code 47 (.ifCond .eq 7) 3 50 := ⟨by decide +kernel, rfl⟩
theorem d12_50 : D1 jdk_42_method_66_code 50 (.iconst 1) 1 51 := ⟨by decide +kernel, rfl⟩
theorem d12_51 : D1 jdk_42_method_66_code 51 (.goto 4) 3 54 := ⟨by decide +kernel, rfl⟩
theorem d12_54 : D1 jdk_42_method_66_code 54 (.iconst 0) 1 55 := ⟨by decide +kernel, rfl⟩
theorem d12_55 : D1 jdk_42_method_66_code 55 (.ireturn) 1 56 := ⟨by decide +kernel, rfl⟩
theorem d25_0 : D1 jdk_42_method_154_code 0 (.getstatic 38) 3 3 := ⟨by decide +kernel, rfl⟩
theorem d25_3 : D1 jdk_42_method_154_code 3 (.ifCond .eq 14) 3 6 := ⟨by decide +kernel, rfl⟩
theorem d25_6 : D1 jdk_42_method_154_code 6 (.aload_n 0) 1 7 := ⟨by decide +kernel, rfl⟩
theorem d25_7 : D1 jdk_42_method_154_code 7 (.getfield 15) 3 10 := ⟨by decide +kernel, rfl⟩
theorem d25_10 : D1 jdk_42_method_154_code 10 (.ifCond .ne 7) 3 13 := ⟨by decide +kernel, rfl⟩
theorem d25_13 : D1 jdk_42_method_154_code 13 (.iconst 1) 1 14 := ⟨by decide +kernel, rfl⟩
theorem d25_14 : D1 jdk_42_method_154_code 14 (.goto 4) 3 17 := ⟨by decide +kernel, rfl⟩
theorem d25_18 : D1 jdk_42_method_154_code 18 (.ireturn) 1 19 := ⟨by decide +kernel, rfl⟩
theorem d27_0 : D1 jdk_43_method_13_code 0 (.aload_n 0) 1 1 := ⟨by decide +kernel, rfl⟩
theorem d27_1 : D1 jdk_43_method_13_code 1 (.arraylength) 1 2 := ⟨by decide +kernel, rfl⟩
theorem d27_2 : D1 jdk_43_method_13_code 2 (.aload_n 1) 1 3 := ⟨by decide +kernel, rfl⟩
theorem d27_3 : D1 jdk_43_method_13_code 3 (.arraylength) 1 4 := ⟨by decide +kernel, rfl⟩
theorem d27_4 : D1 jdk_43_method_13_code 4 (.if_icmp .ne 30) 3 7 := ⟨by decide +kernel, rfl⟩
theorem d27_7 : D1 jdk_43_method_13_code 7 (.iconst 0) 1 8 := ⟨by decide +kernel, rfl⟩
theorem d27_8 : D1 jdk_43_method_13_code 8 (.istore_n 2) 1 9 := ⟨by decide +kernel, rfl⟩
theorem d27_9 : D1 jdk_43_method_13_code 9 (.iload_n 2) 1 10 := ⟨by decide +kernel, rfl⟩
theorem d27_10 : D1 jdk_43_method_13_code 10 (.aload_n 0) 1 11 := ⟨by decide +kernel, rfl⟩
theorem d27_11 : D1 jdk_43_method_13_code 11 (.arraylength) 1 12 := ⟨by decide +kernel, rfl⟩
theorem d27_12 : D1 jdk_43_method_13_code 12 (.if_icmp .ge 20) 3 15 := ⟨by decide +kernel, rfl⟩
theorem d27_15 : D1 jdk_43_method_13_code 15 (.aload_n 0) 1 16 := ⟨by decide +kernel, rfl⟩
theorem d27_16 : D1 jdk_43_method_13_code 16 (.iload_n 2) 1 17 := ⟨by decide +kernel, rfl⟩
theorem d27_17 : D1 jdk_43_method_13_code 17 (.baload) 1 18 := ⟨by decide +kernel, rfl⟩
theorem d27_18 : D1 jdk_43_method_13_code 18 (.aload_n 1) 1 19 := ⟨by decide +kernel, rfl⟩
theorem d27_19 : D1 jdk_43_method_13_code 19 (.iload_n 2) 1 20 := ⟨by decide +kernel, rfl⟩
theorem d27_20 : D1 jdk_43_method_13_code 20 (.baload) 1 21 := ⟨by decide +kernel, rfl⟩
theorem d27_21 : D1 jdk_43_method_13_code 21 (.if_icmp .eq 5) 3 24 := ⟨by decide +kernel, rfl⟩
theorem d27_24 : D1 jdk_43_method_13_code 24 (.iconst 0) 1 25 := ⟨by decide +kernel, rfl⟩
theorem d27_25 : D1 jdk_43_method_13_code 25 (.ireturn) 1 26 := ⟨by decide +kernel, rfl⟩
theorem d27_26 : D1 jdk_43_method_13_code 26 (.iinc 2 1) 3 29 := ⟨by decide +kernel, rfl⟩
theorem d27_29 : D1 jdk_43_method_13_code 29 (.goto (-20)) 3 32 := ⟨by decide +kernel, rfl⟩
theorem d27_32 : D1 jdk_43_method_13_code 32 (.iconst 1) 1 33 := ⟨by decide +kernel, rfl⟩
theorem d27_33 : D1 jdk_43_method_13_code 33 (.ireturn) 1 34 := ⟨by decide +kernel, rfl⟩
theorem d27_34 : D1 jdk_43_method_13_code 34 (.iconst 0) 1 35 := ⟨by decide +kernel, rfl⟩
theorem d27_35 : D1 jdk_43_method_13_code 35 (.ireturn) 1 36 := ⟨by decide +kernel, rfl⟩
theorem pd5 : parseMethodDescriptor "([B[B)Z" = some ⟨[(.array .byte), (.array .byte)], some .boolean⟩ := by decide +kernel

/-- String.hashCode's value -/
def hashOf (cl : List Nat) : Int32 := cl.foldl (fun h c => 31 * h + Int32.ofNat c) 0
theorem byte_back : ∀ c : Nat, c < 256 → (Int32.ofNat c).toInt8.toInt32 &&& 255 = Int32.ofNat c := by decide +kernel
theorem byte_inj {c d : Nat} (hc : c < 256) (hd : d < 256) (q : (Int32.ofNat c).toInt8.toInt32 = (Int32.ofNat d).toInt8.toInt32) : c = d := by
  have := byte_back c hc
  rw [q, byte_back d hd] at this
  have e := congrArg Int32.toInt this
  rw [(nat32 (i := c) (by omega)).1, (nat32 (i := d) (by omega)).1] at e
  omega

def StrP (Z : State) (b : Addr) (cl : List Nat) (c : Cell) : Prop := ∃ hv hz : Int32, (hv = 0 ∨ hv = hashOf cl) ∧ (hz = 0 ∨ (hz = 1 ∧ hashOf cl = 0)) ∧ (Ob Z "java/lang/String" ns0 [.ref b, .int 0]) c
def Sk (Z : State) (L : List Ent) (a b : Addr) (cl : List Nat) : Prop := ow a (StrP Z b cl) ∈ L ∧ (∃ K f, (b, Ar Z .byte K (bsOf cl), f) ∈ L ∧ FcB Z cl K) ∧ ∀ c ∈ cl, c < 256
theorem Sk.cell {Z : State} {L : List Ent} {a b : Addr} {cl : List Nat} (S : Sk Z L a b cl) {h : Heap} (H : Hp Z h L) : ∃ hv hz : Int32, (hv = 0 ∨ hv = hashOf cl) ∧ (hz = 0 ∨ (hz = 1 ∧ hashOf cl = 0)) ∧ Exa Z h a "java/lang/String" ∧ Fld Z h a "java/lang/String" "value" "[B" (.ref b) ∧ Fld Z h a "java/lang/String" "coder" "B" (.int 0) ∧ True := by
  obtain ⟨c, hc, hv, hz, q1, q2, ⟨k, r⟩, hl, F⟩ := H.atM S.1
  have fl : ∀ (j : Nat) (q : Nm) (v : Value), ns0[j]? = some q → ([.ref b, .int 0] : List Value)[j]? = some v → Fld Z h a q.1 q.2.1 q.2.2 v := fun j q v h1 h2 => by
    obtain ⟨cf, k, i, f, r⟩ := F j q v h1 h2
    exact ⟨c, cf, k, i, f, hc, r⟩
  exact ⟨hv, hz, q1, q2, ⟨c, k, hc, r⟩, fl 0 _ _ rfl rfl, fl 1 _ _ rfl rfl, trivial⟩
theorem Sk.sx {Z : State} {L : List Ent} {a b : Addr} {cl : List Nat} (S : Sk Z L a b cl) : Sx Z L a b cl := ⟨by obtain ⟨K, f, q, -⟩ := S.2.1; exact ⟨K, f, q⟩, fun h H => by obtain ⟨hv, hz, -, -, r1, r2, r3, -⟩ := S.cell H; exact ⟨r1, r2, r3⟩⟩
theorem Sk.up {Z : State} {L : List Ent} {a b : Addr} {cl : List Nat} {x : Ent} (S : Sk Z L a b cl) : Sk Z (x :: L) a b cl := ⟨List.mem_cons_of_mem _ S.1, by obtain ⟨K, f, q, r⟩ := S.2.1; exact ⟨K, f, List.mem_cons_of_mem _ q, r⟩, S.2.2⟩

set_option maxRecDepth 65536 in
set_option maxHeartbeats 4000000 in
theorem s_latin1 (l : Launch) {Z : State} {a0 : Array Value} (G : Gl a0 Z) {L : List Ent} {a b : Addr} {cl : List Nat} (hS : Sx Z L a b cl) : Ct WD EL0 l Z (⟨"java/lang/String", "isLatin1", "()Z"⟩ : MethodName) jdk_42_method_154_code 1 (some .boolean) ({ frames := 0, cells := 0, slots := 0, locals := 0 } : Room) #[.ref a] L (rvQ (fun v M => v = .int 1 ∧ M = L)) := by
  refine Ct.intro (by decide +kernel) G.2.1 ?_
  intro p e s m below meth c X
  replace X : Cx WD EL0 p Z s m meth c "java/lang/String" "isLatin1" jdk_42_method_154_code 1 (some .boolean) := X
  refine Go.cast (g' := mkF m 0 #[.val (.ref a)] []) (by first | rfl | (simp [entryFrame, mkF, argsToLocals, Value.category, maxLocals]; done)) ?_
  obtain ⟨cst, hcst, Fcst⟩ := g_cs G
  refine Go.getSta X (w44 G) Via.refl Fcst d25_0 ?_
  refine Go.ifc X d25_3 (pt := 17) ⟨by decide, by decide⟩ ?_ ?_
  · intro q; exact absurd q hcst
  intro _
  refine Go.aloadN X d25_6 rfl rfl ?_
  refine Go.getFld X (w29 G) Via.refl (fun h H => (hS.2 h H).2.2) d25_7 ?_
  refine Go.ifc X d25_10 (pt := 17) ⟨by decide, by decide⟩ ?_ ?_
  · intro q; exact absurd rfl q
  intro _
  refine Go.iconst X (v := 1) d25_13 (by decide) ?_
  refine Go.goto X d25_14 (pt := 18) ⟨by decide, by decide⟩ ?_
  exact Go.zret X d25_18 (Or.inr rfl) (Nat.zero_le _) (Nat.zero_le _) ⟨rfl, rfl⟩
set_option maxRecDepth 65536 in
set_option maxHeartbeats 4000000 in
theorem s_eq_loop {p : Program} {l : Launch} {e : Env} {R : Room} {Z s : State} {m : MethodId} {args : Array Value} {below : List Frame} {meth : Method} {c : Code} {L : List Ent} {b1 b2 : Addr} {K1 K2 : ClassId} {f1 f2 : Bool} {c1 c2 : List Nat} (h1 : (b1, Ar Z .byte K1 (bsOf c1), f1) ∈ L) (h2 : (b2, Ar Z .byte K2 (bsOf c2), f2) ∈ L) (hl : c1.length = c2.length) (hs : c1.length < 2 ^ 31) (l1 : ∀ c ∈ c1, c < 256) (l2 : ∀ c ∈ c2, c < 256)
    (X : Cx WD EL0 p Z s m meth c "java/lang/StringLatin1" "equals" jdk_43_method_13_code 3 (some .boolean)) : ∀ (s1 s2 pre : List Nat), pre ++ s1 = c1 → pre ++ s2 = c2 →
    Go WD EL0 p l e R Z s m args below meth c (rvQ fun v M => v = .int (if c1 = c2 then 1 else 0) ∧ M = L) L 0 0 (mkF m 9 #[.val (.ref b1), .val (.ref b2), .val (.int (Int32.ofNat pre.length))] []) := by
  intro s1
  induction s1 with
  | nil =>
    intro s2 pre hp hq
    have hp : pre = c1 := by simpa using hp
    have e2 : s2 = [] := by apply List.eq_nil_of_length_eq_zero; have := congrArg List.length hq; rw [hp] at this; simp at this; omega
    subst e2
    have e3 : c1 = c2 := by rw [← hp, ← hq]; simp
    refine Go.iloadN X d27_9 rfl ?_
    refine Go.aloadN X d27_10 rfl rfl ?_
    refine Go.alenA X (fun h H => H.lenM h1) d27_11 ?_
    rw [bs_len]
    refine Go.icmp X d27_12 (pt := 32) ⟨by decide, by decide⟩ ?_ ?_
    · intro _
      refine Go.iconst X (v := 1) d27_32 (by decide) ?_
      exact Go.zret X d27_33 (Or.inr rfl) (Nat.zero_le _) (Nat.zero_le _) ⟨by rw [if_pos e3], rfl⟩
    intro q
    exact absurd (show c1.length.toInt32 ≤ Int32.ofNat pre.length by rw [hp]; exact Int32.le_refl _) q
  | cons x s1 ih =>
    intro s2 pre hp hq
    obtain ⟨y, s2, rfl⟩ : ∃ y t, s2 = y :: t := by
      cases s2 with
      | nil => exfalso; have a1 := congrArg List.length hp; have a2 := congrArg List.length hq; simp at a1 a2; omega
      | cons y t => exact ⟨y, t, rfl⟩
    have hx : x < 256 := l1 x (by rw [← hp]; simp)
    have hy : y < 256 := l2 y (by rw [← hq]; simp)
    have ax : c1[pre.length]? = some x := by rw [← hp]; simp
    have ay : c2[pre.length]? = some y := by rw [← hq]; simp
    have hlen : pre.length < c1.length := (List.getElem?_eq_some_iff.mp ax).1
    obtain ⟨n1, n2, n3⟩ := nat32 (i := pre.length) (by omega)
    obtain ⟨k1, k2, k3⟩ := nat32 (i := c1.length) hs
    refine Go.iloadN X d27_9 rfl ?_
    refine Go.aloadN X d27_10 rfl rfl ?_
    refine Go.alenA X (fun h H => H.lenM h1) d27_11 ?_
    rw [bs_len]
    refine Go.icmp X d27_12 (pt := 32) ⟨by decide, by decide⟩ ?_ ?_
    · intro q
      have q : (c1.length : Int) ≤ pre.length := ccL q n1 k1
      omega
    intro _
    refine Go.aloadN X d27_15 rfl rfl ?_
    refine Go.iloadN X d27_16 rfl ?_
    refine Go.bald X n2 (x := (Int32.ofNat x).toInt8.toInt32) (fun h H => H.elM h1 (by rw [n3]; exact bs_at ax)) d27_17 ?_
    refine Go.aloadN X d27_18 rfl rfl ?_
    refine Go.iloadN X d27_19 rfl ?_
    refine Go.bald X n2 (x := (Int32.ofNat y).toInt8.toInt32) (fun h H => H.elM h2 (by rw [n3]; exact bs_at ay)) d27_20 ?_
    refine Go.icmp X d27_21 (pt := 26) ⟨by decide, by decide⟩ ?_ ?_
    · intro q
      have q : x = y := byte_inj hx hy q
      subst q
      refine Go.iinc X d27_26 rfl rfl ?_
      refine Go.goto X d27_29 (pt := 9) ⟨by decide, by decide⟩ ?_
      have a2 : Int32.ofNat pre.length + Int32.ofInt 1 = Int32.ofNat (pre ++ [x]).length := by
        rw [show (pre ++ [x]).length = pre.length + 1 by simp]; exact (inc_ofNat _).symm
      rw [a2]
      exact ih s2 (pre ++ [x]) (by rw [← hp]; simp) (by rw [← hq]; simp)
    intro q
    have ne : c1 ≠ c2 := fun z => by rw [z, ay] at ax; cases ax; exact q rfl
    refine Go.iconst X (v := 0) d27_24 (by decide) ?_
    exact Go.zret X d27_25 (Or.inl rfl) (Nat.zero_le _) (Nat.zero_le _) ⟨by rw [if_neg ne], rfl⟩
set_option maxRecDepth 65536 in
set_option maxHeartbeats 4000000 in
theorem s_l1eq (l : Launch) {Z : State} {a0 : Array Value} (G : Gl a0 Z) {L : List Ent} {b1 b2 : Addr} {K1 K2 : ClassId} {f1 f2 : Bool} {c1 c2 : List Nat} (h1 : (b1, Ar Z .byte K1 (bsOf c1), f1) ∈ L) (h2 : (b2, Ar Z .byte K2 (bsOf c2), f2) ∈ L) (l1 : ∀ c ∈ c1, c < 256) (l2 : ∀ c ∈ c2, c < 256) : Ct WD EL0 l Z (⟨"java/lang/StringLatin1", "equals", "([B[B)Z"⟩ : MethodName) jdk_43_method_13_code 3 (some .boolean) ({ frames := 0, cells := 0, slots := 0, locals := 0 } : Room) #[.ref b1, .ref b2] L (rvQ (fun v M => v = .int (if c1 = c2 then 1 else 0) ∧ M = L)) := by
  refine Ct.intro (by decide +kernel) G.2.1 ?_
  intro p e s m below meth c X
  replace X : Cx WD EL0 p Z s m meth c "java/lang/StringLatin1" "equals" jdk_43_method_13_code 3 (some .boolean) := X
  refine Go.cast (g' := mkF m 0 #[.val (.ref b1), .val (.ref b2), .unset] []) (by first | rfl | (simp [entryFrame, mkF, argsToLocals, Value.category, maxLocals]; done)) ?_
  refine Go.fact (fun h H => And.intro (len_small H h1) (len_small H h2)) fun hM => ?_
  rw [bs_len, bs_len] at hM
  obtain ⟨n1, n2, n3⟩ := nat32 (i := c1.length) hM.1
  obtain ⟨m1, m2, m3⟩ := nat32 (i := c2.length) hM.2
  refine Go.aloadN X d27_0 rfl rfl ?_
  refine Go.alenA X (fun h H => H.lenM h1) d27_1 ?_
  rw [bs_len]
  refine Go.aloadN X d27_2 rfl rfl ?_
  refine Go.alenA X (fun h H => H.lenM h2) d27_3 ?_
  rw [bs_len]
  refine Go.icmp X d27_4 (pt := 34) ⟨by decide, by decide⟩ ?_ ?_
  · intro q
    have q : ¬ (c1.length : Int) = c2.length := ccL q n1 m1
    have ne : c1 ≠ c2 := fun z => q (by rw [z])
    refine Go.iconst X (v := 0) d27_34 (by decide) ?_
    exact Go.zret X d27_35 (Or.inl rfl) (Nat.zero_le _) (Nat.zero_le _) ⟨by rw [if_neg ne], rfl⟩
  intro q
  have q : (c1.length : Int) = c2.length := Decidable.of_not_not (ccN q n1 m1)
  refine Go.iconst X (v := 0) d27_7 (by decide) ?_
  refine Go.istoreN X d27_8 rfl ?_
  exact s_eq_loop h1 h2 (by omega) hM.1 l1 l2 X c1 c2 [] rfl rfl
set_option maxRecDepth 65536 in
set_option maxHeartbeats 4000000 in
theorem s_equals (l : Launch) {Z : State} {a0 : Array Value} (G : Gl a0 Z) {L : List Ent} {a1 a2 b1 b2 : Addr} {c1 c2 : List Nat} (hA : Sx Z L a1 b1 c1) (hB : Sx Z L a2 b2 c2) (l1 : ∀ c ∈ c1, c < 256) (l2 : ∀ c ∈ c2, c < 256) (hE : a1 = a2 → c1 = c2) : Ct WD EL0 l Z (⟨"java/lang/String", "equals", "(Ljava/lang/Object;)Z"⟩ : MethodName) jdk_42_method_66_code 3 (some .boolean) ({ frames := 1, cells := 0, slots := 0, locals := 14 } : Room) #[.ref a1, .ref a2] L (rvQ (fun v M => v = .int (if c1 = c2 then 1 else 0) ∧ M = L)) := by
  refine Ct.intro (by decide +kernel) G.2.1 ?_
  intro p e s m below meth c X
  replace X : Cx WD EL0 p Z s m meth c "java/lang/String" "equals" jdk_42_method_66_code 3 (some .boolean) := X
  refine Go.cast (g' := mkF m 0 #[.val (.ref a1), .val (.ref a2), .unset] []) (by first | rfl | (simp [entryFrame, mkF, argsToLocals, Value.category, maxLocals]; done)) ?_
  obtain ⟨K1, f1, h1⟩ := hA.1
  obtain ⟨K2, f2, h2⟩ := hB.1
  refine Go.aloadN X d12_0 rfl rfl ?_
  refine Go.aloadN X d12_1 rfl rfl ?_
  refine Go.acmp X d12_2 (pt := 7) ⟨by decide, by decide⟩ (by rfl) (by rfl) ?_ ?_
  rotate_left
  · intro q
    have q : c1 = c2 := hE (Value.ref.inj (Decidable.of_not_not q))
    refine Go.iconst X (v := 1) d12_5 (by decide) ?_
    exact Go.zret X d12_6 (Or.inr rfl) (Nat.zero_le _) (Nat.zero_le _) ⟨by rw [if_pos q], rfl⟩
  intro _
  refine Go.aloadN X d12_7 rfl rfl ?_
  refine Go.inst1 X (w132 G) (fun h H => Ins.self (hB.2 h H).1) d12_8 ?_
  refine Go.ifc X d12_11 (pt := 54) ⟨by decide, by decide⟩ ?_ ?_
  · intro q; exact absurd (show (1 : Int32) = 0 from q) (by decide)
  intro _
  refine Go.aloadN X d12_14 rfl rfl ?_
  refine Go.ccast X (w132 G) (fun h H => Ins.self (hB.2 h H).1) d12_15 ?_
  refine Go.astoreN X d12_18 rfl rfl ?_
  obtain ⟨cst, hcst, Fcst⟩ := g_cs G
  refine Go.getSta X (w44 G) Via.refl Fcst d12_19 ?_
  refine Go.ifc X d12_22 (pt := 36) ⟨by decide, by decide⟩ ?_ ?_
  · intro q; exact absurd q hcst
  intro _
  refine Go.aloadN X d12_25 rfl rfl ?_
  refine Go.getFld X (w29 G) Via.refl (fun h H => (hA.2 h H).2.2) d12_26 ?_
  refine Go.aloadN X d12_29 rfl rfl ?_
  refine Go.getFld X (w29 G) Via.refl (fun h H => (hB.2 h H).2.2) d12_30 ?_
  refine Go.icmp X d12_33 (pt := 54) ⟨by decide, by decide⟩ ?_ ?_
  · intro q; exact absurd rfl q
  intro _
  refine Go.aloadN X d12_36 rfl rfl ?_
  refine Go.getFld X (w28 G) Via.refl (fun h H => (hA.2 h H).2.1) d12_37 ?_
  refine Go.aloadN X d12_40 rfl rfl ?_
  refine Go.getFld X (w28 G) Via.refl (fun h H => (hB.2 h H).2.1) d12_41 ?_
  refine Go.callS X (s_l1eq l G h1 h2 l1 l2) (rest := []) (w133 G) (w134 G) (w129 G) (w135 G) (by decide) pd5 rfl rfl d12_44 rfl (Nat.le_of_ble_eq_true rfl) (Nat.le_of_ble_eq_true rfl) (Nat.le_of_ble_eq_true rfl) (Nat.le_of_ble_eq_true rfl) (Kv ?_)
  rintro v M ⟨rfl, rfl⟩
  refine Go.ifc X d12_47 (pt := 54) ⟨by decide, by decide⟩ ?_ ?_
  · intro q
    have q := ite_0 q
    refine Go.iconst X (v := 0) d12_54 (by decide) ?_
    exact Go.zret X d12_55 (Or.inl rfl) (Nat.zero_le _) (Nat.zero_le _) ⟨by rw [if_neg q], rfl⟩
  intro q
  have q := ite_n0 q
  refine Go.iconst X (v := 1) d12_50 (by decide) ?_
  refine Go.goto X d12_51 (pt := 55) ⟨by decide, by decide⟩ ?_
  exact Go.zret X d12_55 (Or.inr rfl) (Nat.zero_le _) (Nat.zero_le _) ⟨by rw [if_pos q], rfl⟩
-- %%% startsWith
theorem w35 {a0 : Array Value} {Z : State} (G : Gl a0 Z) : (Jvm.Cond.declares ({ cls := "java/lang/String", name := "length", desc := "()I" } : Jvm.MethodName)).before a0 Z = true := G.1 _ (List.mem_of_getElem? (i := 35) rfl)
theorem w36 {a0 : Array Value} {Z : State} (G : Gl a0 Z) : (Jvm.Cond.instanceMethod ({ cls := "java/lang/String", name := "length", desc := "()I" } : Jvm.MethodName)).before a0 Z = true := G.1 _ (List.mem_of_getElem? (i := 36) rfl)
theorem w37 {a0 : Array Value} {Z : State} (G : Gl a0 Z) : (Jvm.Cond.selects "java/lang/String" ({ cls := "java/lang/String", name := "length", desc := "()I" } : Jvm.MethodName) ({ cls := "java/lang/String", name := "length", desc := "()I" } : Jvm.MethodName)).before a0 Z = true := G.1 _ (List.mem_of_getElem? (i := 37) rfl)
theorem w38 {a0 : Array Value} {Z : State} (G : Gl a0 Z) : (Jvm.Cond.code ({ cls := "java/lang/String", name := "length", desc := "()I" } : Jvm.MethodName) jdk_42_method_54_code (1 : Nat) (Option.some Jvm.ClassFile.FieldType.int)).before a0 Z = true := G.1 _ (List.mem_of_getElem? (i := 38) rfl)
theorem w91 {a0 : Array Value} {Z : State} (G : Gl a0 Z) : (Jvm.Cond.methodLink "java/lang/String" (624 : Nat) ({ cls := "java/lang/String", name := "startsWith", desc := "(Ljava/lang/String;I)Z" } : Jvm.MethodName)).before a0 Z = true := G.1 _ (List.mem_of_getElem? (i := 91) rfl)
theorem w92 {a0 : Array Value} {Z : State} (G : Gl a0 Z) : (Jvm.Cond.declares ({ cls := "java/lang/String", name := "startsWith", desc := "(Ljava/lang/String;I)Z" } : Jvm.MethodName)).before a0 Z = true := G.1 _ (List.mem_of_getElem? (i := 92) rfl)
theorem w93 {a0 : Array Value} {Z : State} (G : Gl a0 Z) : (Jvm.Cond.instanceMethod ({ cls := "java/lang/String", name := "startsWith", desc := "(Ljava/lang/String;I)Z" } : Jvm.MethodName)).before a0 Z = true := G.1 _ (List.mem_of_getElem? (i := 93) rfl)
theorem w94 {a0 : Array Value} {Z : State} (G : Gl a0 Z) : (Jvm.Cond.selects "java/lang/String" ({ cls := "java/lang/String", name := "startsWith", desc := "(Ljava/lang/String;I)Z" } : Jvm.MethodName) ({ cls := "java/lang/String", name := "startsWith", desc := "(Ljava/lang/String;I)Z" } : Jvm.MethodName)).before a0 Z = true := G.1 _ (List.mem_of_getElem? (i := 94) rfl)
theorem w95 {a0 : Array Value} {Z : State} (G : Gl a0 Z) : (Jvm.Cond.code ({ cls := "java/lang/String", name := "startsWith", desc := "(Ljava/lang/String;I)Z" } : Jvm.MethodName) jdk_42_method_75_code (8 : Nat) (Option.some Jvm.ClassFile.FieldType.boolean)).before a0 Z = true := G.1 _ (List.mem_of_getElem? (i := 95) rfl)
theorem w96 {a0 : Array Value} {Z : State} (G : Gl a0 Z) : (Jvm.Cond.methodLink "java/lang/String" (505 : Nat) ({ cls := "java/lang/String", name := "length", desc := "()I" } : Jvm.MethodName)).before a0 Z = true := G.1 _ (List.mem_of_getElem? (i := 96) rfl)
theorem w97 {a0 : Array Value} {Z : State} (G : Gl a0 Z) : (Jvm.Cond.methodLink "java/lang/String" (607 : Nat) ({ cls := "jdk/internal/util/ArraysSupport", name := "mismatch", desc := "([BI[BII)I" } : Jvm.MethodName)).before a0 Z = true := G.1 _ (List.mem_of_getElem? (i := 97) rfl)
theorem w98 {a0 : Array Value} {Z : State} (G : Gl a0 Z) : (Jvm.Cond.static ({ cls := "jdk/internal/util/ArraysSupport", name := "mismatch", desc := "([BI[BII)I" } : Jvm.MethodName)).before a0 Z = true := G.1 _ (List.mem_of_getElem? (i := 98) rfl)
theorem w99 {a0 : Array Value} {Z : State} (G : Gl a0 Z) : (Jvm.Cond.initialized "jdk/internal/util/ArraysSupport").before a0 Z = true := G.1 _ (List.mem_of_getElem? (i := 99) rfl)
theorem w100 {a0 : Array Value} {Z : State} (G : Gl a0 Z) : (Jvm.Cond.code ({ cls := "jdk/internal/util/ArraysSupport", name := "mismatch", desc := "([BI[BII)I" } : Jvm.MethodName) jdk_48_method_14_code (8 : Nat) (Option.some Jvm.ClassFile.FieldType.int)).before a0 Z = true := G.1 _ (List.mem_of_getElem? (i := 100) rfl)
theorem d17_0 : D1 jdk_42_method_76_code 0 (.aload_n 0) 1 1 := ⟨by decide +kernel, rfl⟩
theorem d17_1 : D1 jdk_42_method_76_code 1 (.aload_n 1) 1 2 := ⟨by decide +kernel, rfl⟩
theorem d17_2 : D1 jdk_42_method_76_code 2 (.iconst 0) 1 3 := ⟨by decide +kernel, rfl⟩
theorem d17_3 : D1 jdk_42_method_76_code 3 (.invokevirtual 624) 3 6 := ⟨by decide +kernel, rfl⟩
theorem d17_6 : D1 jdk_42_method_76_code 6 (.ireturn) 1 7 := ⟨by decide +kernel, rfl⟩
theorem d18_0 : D1 jdk_42_method_75_code 0 (.iload_n 2) 1 1 := ⟨by decide +kernel, rfl⟩
theorem d18_1 : D1 jdk_42_method_75_code 1 (.ifCond .lt 16) 3 4 := ⟨by decide +kernel, rfl⟩
theorem d18_4 : D1 jdk_42_method_75_code 4 (.iload_n 2) 1 5 := ⟨by decide +kernel, rfl⟩
theorem d18_5 : D1 jdk_42_method_75_code 5 (.aload_n 0) 1 6 := ⟨by decide +kernel, rfl⟩
theorem d18_6 : D1 jdk_42_method_75_code 6 (.invokevirtual 505) 3 9 := ⟨by decide +kernel, rfl⟩
theorem d18_9 : D1 jdk_42_method_75_code 9 (.aload_n 1) 1 10 := ⟨by decide +kernel, rfl⟩
theorem d18_10 : D1 jdk_42_method_75_code 10 (.invokevirtual 505) 3 13 := ⟨by decide +kernel, rfl⟩
theorem d18_13 : D1 jdk_42_method_75_code 13 (.isub) 1 14 := ⟨by decide +kernel, rfl⟩
theorem d18_14 : D1 jdk_42_method_75_code 14 (.if_icmp .le 5) 3 17 := ⟨by decide +kernel, rfl⟩
theorem d18_19 : D1 jdk_42_method_75_code 19 (.aload_n 0) 1 20 := ⟨by decide +kernel, rfl⟩
theorem d18_20 : D1 jdk_42_method_75_code 20 (.getfield 9) 3 23 := ⟨by decide +kernel, rfl⟩
theorem d18_23 : D1 jdk_42_method_75_code 23 (.astore_n 3) 1 24 := ⟨by decide +kernel, rfl⟩
theorem d18_24 : D1 jdk_42_method_75_code 24 (.aload_n 1) 1 25 := ⟨by decide +kernel, rfl⟩
theorem d18_25 : D1 jdk_42_method_75_code 25 (.getfield 9) 3 28 := ⟨by decide +kernel, rfl⟩
theorem d18_28 : D1 jdk_42_method_75_code 28 (.astore 4) 2 30 := ⟨by decide +kernel, rfl⟩
theorem d18_30 : D1 jdk_42_method_75_code 30 (.iconst 0) 1 31 := ⟨by decide +kernel, rfl⟩
theorem d18_31 : D1 jdk_42_method_75_code 31 (.istore 5) 2 33 := ⟨by decide +kernel, rfl⟩
theorem d18_33 : D1 jdk_42_method_75_code 33 (.aload 4) 2 35 := ⟨by decide +kernel, rfl⟩
theorem d18_35 : D1 jdk_42_method_75_code 35 (.arraylength) 1 36 := ⟨by decide +kernel, rfl⟩
theorem d18_36 : D1 jdk_42_method_75_code 36 (.istore 6) 2 38 := ⟨by decide +kernel, rfl⟩
theorem d18_38 : D1 jdk_42_method_75_code 38 (.aload_n 0) 1 39 := ⟨by decide +kernel, rfl⟩
theorem d18_39 : D1 jdk_42_method_75_code 39 (.invokevirtual 335) 3 42 := ⟨by decide +kernel, rfl⟩
theorem d18_42 : D1 jdk_42_method_75_code 42 (.istore 7) 2 44 := ⟨by decide +kernel, rfl⟩
theorem d18_44 : D1 jdk_42_method_75_code 44 (.iload 7) 2 46 := ⟨by decide +kernel, rfl⟩
theorem d18_46 : D1 jdk_42_method_75_code 46 (.aload_n 1) 1 47 := ⟨by decide +kernel, rfl⟩
theorem d18_47 : D1 jdk_42_method_75_code 47 (.invokevirtual 335) 3 50 := ⟨by decide +kernel, rfl⟩
theorem d18_50 : D1 jdk_42_method_75_code 50 (.if_icmp .ne 32) 3 53 := ⟨by decide +kernel, rfl⟩
theorem d18_53 : D1 jdk_42_method_75_code 53 (.iload 7) 2 55 := ⟨by decide +kernel, rfl⟩
theorem d18_55 : D1 jdk_42_method_75_code 55 (.iconst 1) 1 56 := ⟨by decide +kernel, rfl⟩
theorem d18_56 : D1 jdk_42_method_75_code 56 (.if_icmp .ne 7) 3 59 := ⟨by decide +kernel, rfl⟩
theorem d18_63 : D1 jdk_42_method_75_code 63 (.aload_n 3) 1 64 := ⟨by decide +kernel, rfl⟩
theorem d18_64 : D1 jdk_42_method_75_code 64 (.iload_n 2) 1 65 := ⟨by decide +kernel, rfl⟩
theorem d18_65 : D1 jdk_42_method_75_code 65 (.aload 4) 2 67 := ⟨by decide +kernel, rfl⟩
theorem d18_67 : D1 jdk_42_method_75_code 67 (.iconst 0) 1 68 := ⟨by decide +kernel, rfl⟩
theorem d18_68 : D1 jdk_42_method_75_code 68 (.iload 6) 2 70 := ⟨by decide +kernel, rfl⟩
theorem d18_70 : D1 jdk_42_method_75_code 70 (.invokestatic 607) 3 73 := ⟨by decide +kernel, rfl⟩
theorem d18_73 : D1 jdk_42_method_75_code 73 (.ifCond .ge 7) 3 76 := ⟨by decide +kernel, rfl⟩
theorem d18_76 : D1 jdk_42_method_75_code 76 (.iconst 1) 1 77 := ⟨by decide +kernel, rfl⟩
theorem d18_77 : D1 jdk_42_method_75_code 77 (.goto 4) 3 80 := ⟨by decide +kernel, rfl⟩
theorem d18_80 : D1 jdk_42_method_75_code 80 (.iconst 0) 1 81 := ⟨by decide +kernel, rfl⟩
theorem d18_81 : D1 jdk_42_method_75_code 81 (.ireturn) 1 82 := ⟨by decide +kernel, rfl⟩
theorem d19_0 : D1 jdk_48_method_14_code 0 (.iconst 0) 1 1 := ⟨by decide +kernel, rfl⟩
theorem d19_1 : D1 jdk_48_method_14_code 1 (.istore 5) 2 3 := ⟨by decide +kernel, rfl⟩
theorem d19_3 : D1 jdk_48_method_14_code 3 (.iload 4) 2 5 := ⟨by decide +kernel, rfl⟩
theorem d19_5 : D1 jdk_48_method_14_code 5 (.bipush 7) 2 7 := ⟨by decide +kernel, rfl⟩
theorem d19_7 : D1 jdk_48_method_14_code 7 (.if_icmp .le 63) 3 10 := ⟨by decide +kernel, rfl⟩
theorem d19_70 : D1 jdk_48_method_14_code 70 (.iload 5) 2 72 := ⟨by decide +kernel, rfl⟩
theorem d19_72 : D1 jdk_48_method_14_code 72 (.iload 4) 2 74 := ⟨by decide +kernel, rfl⟩
theorem d19_74 : D1 jdk_48_method_14_code 74 (.if_icmp .ge 27) 3 77 := ⟨by decide +kernel, rfl⟩
theorem d19_77 : D1 jdk_48_method_14_code 77 (.aload_n 0) 1 78 := ⟨by decide +kernel, rfl⟩
theorem d19_78 : D1 jdk_48_method_14_code 78 (.iload_n 1) 1 79 := ⟨by decide +kernel, rfl⟩
theorem d19_79 : D1 jdk_48_method_14_code 79 (.iload 5) 2 81 := ⟨by decide +kernel, rfl⟩
theorem d19_81 : D1 jdk_48_method_14_code 81 (.iadd) 1 82 := ⟨by decide +kernel, rfl⟩
theorem d19_82 : D1 jdk_48_method_14_code 82 (.baload) 1 83 := ⟨by decide +kernel, rfl⟩
theorem d19_83 : D1 jdk_48_method_14_code 83 (.aload_n 2) 1 84 := ⟨by decide +kernel, rfl⟩
theorem d19_84 : D1 jdk_48_method_14_code 84 (.iload_n 3) 1 85 := ⟨by decide +kernel, rfl⟩
theorem d19_85 : D1 jdk_48_method_14_code 85 (.iload 5) 2 87 := ⟨by decide +kernel, rfl⟩
theorem d19_87 : D1 jdk_48_method_14_code 87 (.iadd) 1 88 := ⟨by decide +kernel, rfl⟩
theorem d19_88 : D1 jdk_48_method_14_code 88 (.baload) 1 89 := ⟨by decide +kernel, rfl⟩
theorem d19_89 : D1 jdk_48_method_14_code 89 (.if_icmp .eq 6) 3 92 := ⟨by decide +kernel, rfl⟩
theorem d19_92 : D1 jdk_48_method_14_code 92 (.iload 5) 2 94 := ⟨by decide +kernel, rfl⟩
theorem d19_94 : D1 jdk_48_method_14_code 94 (.ireturn) 1 95 := ⟨by decide +kernel, rfl⟩
theorem d19_95 : D1 jdk_48_method_14_code 95 (.iinc 5 1) 3 98 := ⟨by decide +kernel, rfl⟩
theorem d19_98 : D1 jdk_48_method_14_code 98 (.goto (-28)) 3 101 := ⟨by decide +kernel, rfl⟩
theorem d19_101 : D1 jdk_48_method_14_code 101 (.iconst (-1)) 1 102 := ⟨by decide +kernel, rfl⟩
theorem d19_102 : D1 jdk_48_method_14_code 102 (.ireturn) 1 103 := ⟨by decide +kernel, rfl⟩
theorem d21_0 : D1 jdk_42_method_77_code 0 (.aload_n 0) 1 1 := ⟨by decide +kernel, rfl⟩
theorem d21_1 : D1 jdk_42_method_77_code 1 (.aload_n 1) 1 2 := ⟨by decide +kernel, rfl⟩
theorem d21_2 : D1 jdk_42_method_77_code 2 (.aload_n 0) 1 3 := ⟨by decide +kernel, rfl⟩
theorem d21_3 : D1 jdk_42_method_77_code 3 (.invokevirtual 505) 3 6 := ⟨by decide +kernel, rfl⟩
theorem d21_6 : D1 jdk_42_method_77_code 6 (.aload_n 1) 1 7 := ⟨by decide +kernel, rfl⟩
theorem d21_7 : D1 jdk_42_method_77_code 7 (.invokevirtual 505) 3 10 := ⟨by decide +kernel, rfl⟩
theorem d21_10 : D1 jdk_42_method_77_code 10 (.isub) 1 11 := ⟨by decide +kernel, rfl⟩
theorem d21_11 : D1 jdk_42_method_77_code 11 (.invokevirtual 624) 3 14 := ⟨by decide +kernel, rfl⟩
theorem d21_14 : D1 jdk_42_method_77_code 14 (.ireturn) 1 15 := ⟨by decide +kernel, rfl⟩
theorem pd6 : parseMethodDescriptor "()I" = some ⟨[], some .int⟩ := by decide +kernel
theorem pd7 : parseMethodDescriptor "([BI[BII)I" = some ⟨[(.array .byte), .int, (.array .byte), .int, .int], some .int⟩ := by decide +kernel
theorem pd8 : parseMethodDescriptor "(Ljava/lang/String;I)Z" = some ⟨[(.object "java/lang/String"), .int], some .boolean⟩ := by decide +kernel

theorem Sx.sub {Z : State} {L L' : List Ent} {a b : Addr} {cl : List Nat} (q : L.Sublist L') (S : Sx Z L a b cl) : Sx Z L' a b cl := ⟨by obtain ⟨K, f, r⟩ := S.1; exact ⟨K, f, q.subset r⟩, fun h H => S.2 h (H.sub q)⟩
theorem Sx.up {Z : State} {L : List Ent} {x : Ent} {a b : Addr} {cl : List Nat} (S : Sx Z L a b cl) : Sx Z (x :: L) a b cl := S.sub (List.sublist_cons_self _ _)
theorem Sx.lit {Z : State} {L : List Ent} {a b : Addr} {K : ClassId} {cl : List Nat} : Sx Z (ro a (Lt Z b) :: ro b (Ar Z .byte K (bsOf cl)) :: L) a b cl := ⟨⟨K, false, List.mem_of_getElem? (i := 1) rfl⟩, fun h H => ⟨(H.ltC (i := 0) rfl).1, (H.ltC (i := 0) rfl).2.2, (H.ltC (i := 0) rfl).2.1⟩⟩
theorem sub1 {n : Nat} (h0 : 0 < n) (h : n < 2 ^ 31) : Int32.ofNat n - 1 = Int32.ofNat (n - 1) := by
  apply Int32.toInt_inj.mp
  rw [Int32.toInt_sub, (nat32 (i := n) h).1, (nat32 (i := n - 1) (by omega)).1, show (1 : Int32).toInt = 1 from rfl, Int.bmod_eq_of_le (by omega) (by omega)]
  omega
theorem subN {n k : Nat} (h0 : k ≤ n) (h : n < 2 ^ 31) : Int32.ofNat n - Int32.ofNat k = Int32.ofNat (n - k) := by
  apply Int32.toInt_inj.mp
  rw [Int32.toInt_sub, (nat32 (i := n) h).1, (nat32 (i := k) (by omega)).1, (nat32 (i := n - k) (by omega)).1, Int.bmod_eq_of_le (by omega) (by omega)]
  omega
theorem drop_range {vs : List Value} {F N : Nat} (h : F + N ≤ vs.length) : (List.range N).map (fun i => vs.getD (F + i) .null) = (vs.drop F).take N := by
  apply List.ext_getElem
  · simp; omega
  · intro i h1 h2
    have : F + i < vs.length := by simp at h1; omega
    simp [List.getD_eq_getElem?_getD, this]
theorem bs_drop (cl : List Nat) (F N : Nat) : ((bsOf cl).drop F).take N = bsOf ((cl.drop F).take N) := by simp [bsOf, List.map_drop, List.map_take]
theorem app_copy {t u : List Nat} (h : t.length + u.length ≤ 16) : (bsOf t ++ List.replicate (16 - t.length) (Value.int 0)).take t.length ++ bsOf u ++ (bsOf t ++ List.replicate (16 - t.length) (Value.int 0)).drop (t.length + u.length) = bsOf (t ++ u) ++ List.replicate (16 - (t ++ u).length) (Value.int 0) := by
  have e1 : (bsOf t ++ List.replicate (16 - t.length) (Value.int 0)).take t.length = bsOf t := List.take_left' (bs_len t)
  have e2 : (bsOf t ++ List.replicate (16 - t.length) (Value.int 0)).drop (t.length + u.length) = List.replicate (16 - (t ++ u).length) (Value.int 0) := by
    rw [← List.drop_drop, List.drop_left' (bs_len t), List.drop_replicate, List.length_append, Nat.sub_sub]
  rw [e1, e2]
  simp [bsOf]
theorem shl0 (x : Int32) : x <<< ((0 : Int32) &&& 31) = x := by
  have : (0 : Int32) &&& 31 = 0 := by decide
  rw [this]; simp

set_option maxRecDepth 65536 in
set_option maxHeartbeats 4000000 in
theorem s_mis1 (l : Launch) {Z : State} {a0 : Array Value} (G : Gl a0 Z) {L : List Ent} {b1 b2 : Addr} {K1 K2 : ClassId} {f1 f2 : Bool} {c1 : List Nat} {o x : Nat} (h1 : (b1, Ar Z .byte K1 (bsOf c1), f1) ∈ L) (h2 : (b2, Ar Z .byte K2 (bsOf [34]), f2) ∈ L) (hx : c1[o]? = some x) (hx2 : x < 256) (ho2 : o < 2 ^ 31) : Ct WD EL0 l Z (⟨"jdk/internal/util/ArraysSupport", "mismatch", "([BI[BII)I"⟩ : MethodName) jdk_48_method_14_code 8 (some .int) ({ frames := 0, cells := 0, slots := 0, locals := 0 } : Room) #[.ref b1, .int (Int32.ofNat o), .ref b2, .int 0, .int 1] L (rvQ (fun v M => v = .int (if x = 34 then -1 else 0) ∧ M = L)) := by
  refine Ct.intro (by decide +kernel) G.2.1 ?_
  intro p e s m below meth c X
  replace X : Cx WD EL0 p Z s m meth c "jdk/internal/util/ArraysSupport" "mismatch" jdk_48_method_14_code 8 (some .int) := X
  refine Go.cast (g' := mkF m 0 #[.val (.ref b1), .val (.int (Int32.ofNat o)), .val (.ref b2), .val (.int 0), .val (.int 1), .unset, .unset, .unset] []) (by first | rfl | (simp [entryFrame, mkF, argsToLocals, Value.category, maxLocals]; done)) ?_
  obtain ⟨n1, n2, n3⟩ := nat32 (i := o) ho2
  refine Go.iconst X (v := 0) d19_0 (by decide) ?_
  refine Go.istore X d19_1 rfl ?_
  refine Go.iload X d19_3 rfl ?_
  refine Go.bipush X (v := 7) d19_5 (by decide) ?_
  refine Go.icmp X d19_7 (pt := 70) ⟨by decide, by decide⟩ ?_ ?_
  rotate_left
  · intro q; exact absurd (show (1 : Int32) ≤ 7 by decide) q
  intro _
  refine Go.iload X d19_70 rfl ?_
  refine Go.iload X d19_72 rfl ?_
  refine Go.icmp X d19_74 (pt := 101) ⟨by decide, by decide⟩ ?_ ?_
  · intro q; exact absurd (show (1 : Int32) ≤ 0 from q) (by decide)
  intro _
  refine Go.aloadN X d19_77 rfl rfl ?_
  refine Go.iloadN X d19_78 rfl ?_
  refine Go.iload X d19_79 rfl ?_
  refine Go.iadd X d19_81 ?_
  rw [Int32.add_zero]
  refine Go.bald X n2 (x := (Int32.ofNat x).toInt8.toInt32) (fun h H => H.elM h1 (by rw [n3]; exact bs_at hx)) d19_82 ?_
  refine Go.aloadN X d19_83 rfl rfl ?_
  refine Go.iloadN X d19_84 rfl ?_
  refine Go.iload X d19_85 rfl ?_
  refine Go.iadd X d19_87 ?_
  rw [show (0 : Int32) + 0 = 0 from by decide]
  refine Go.bald X (by decide) (x := (Int32.ofNat 34).toInt8.toInt32) (fun h H => H.elM h2 (by exact bs_at (cl := [34]) rfl)) d19_88 ?_
  refine Go.icmp X d19_89 (pt := 95) ⟨by decide, by decide⟩ ?_ ?_
  · intro q
    have q : x = 34 := byte_inj hx2 (by decide) q
    refine Go.iinc X d19_95 rfl rfl ?_
    refine Go.goto X d19_98 (pt := 70) ⟨by decide, by decide⟩ ?_
    refine Go.iload X d19_70 rfl ?_
    refine Go.iload X d19_72 rfl ?_
    refine Go.icmp X d19_74 (pt := 101) ⟨by decide, by decide⟩ ?_ ?_
    rotate_left
    · intro z; exact absurd (show (1 : Int32) ≤ 0 + Int32.ofInt 1 by decide) z
    intro _
    refine Go.iconst X (v := (-1)) d19_101 (by decide) ?_
    exact Go.iret X d19_102 (by first | exact Nat.le_of_ble_eq_true rfl | (simp; done) | (simp; omega)) (by first | exact Nat.le_of_ble_eq_true rfl | (simp; done) | (simp; omega)) ⟨by rw [if_pos q], rfl⟩
  intro q
  have q : ¬ x = 34 := fun z => q (by rw [z]; rfl)
  refine Go.iload X d19_92 rfl ?_
  exact Go.iret X d19_94 (by first | exact Nat.le_of_ble_eq_true rfl | (simp; done) | (simp; omega)) (by first | exact Nat.le_of_ble_eq_true rfl | (simp; done) | (simp; omega)) ⟨by rw [if_neg q], rfl⟩
set_option maxRecDepth 65536 in
set_option maxHeartbeats 4000000 in
theorem s_sw2 (l : Launch) {Z : State} {a0 : Array Value} (G : Gl a0 Z) {L : List Ent} {a b a2 b2 : Addr} {c1 : List Nat} (hS : Sx Z L a b c1) (hQ : Sx Z L a2 b2 [34]) (hlt : ∀ c ∈ c1, c < 256) {o : Nat} (ho : o < c1.length) : Ct WD EL0 l Z (⟨"java/lang/String", "startsWith", "(Ljava/lang/String;I)Z"⟩ : MethodName) jdk_42_method_75_code 8 (some .boolean) ({ frames := 2, cells := 0, slots := 0, locals := 28 } : Room) #[.ref a, .ref a2, .int (Int32.ofNat o)] L (rvQ (fun v M => v = .int (if c1[o]? = some 34 then 1 else 0) ∧ M = L)) := by
  refine Ct.intro (by decide +kernel) G.2.1 ?_
  intro p e s m below meth c X
  replace X : Cx WD EL0 p Z s m meth c "java/lang/String" "startsWith" jdk_42_method_75_code 8 (some .boolean) := X
  refine Go.cast (g' := mkF m 0 #[.val (.ref a), .val (.ref a2), .val (.int (Int32.ofNat o)), .unset, .unset, .unset, .unset, .unset] []) (by first | rfl | (simp [entryFrame, mkF, argsToLocals, Value.category, maxLocals]; done)) ?_
  obtain ⟨K1, f1, h1⟩ := hS.1
  obtain ⟨K2, f2, h2⟩ := hQ.1
  refine Go.fact (fun h H => len_small H h1) fun hM => ?_
  rw [bs_len] at hM
  obtain ⟨x, hx⟩ : ∃ x, c1[o]? = some x := ⟨_, List.getElem?_eq_getElem ho⟩
  have hx2 : x < 256 := hlt x (List.mem_of_getElem? hx)
  obtain ⟨n1, n2, n3⟩ := nat32 (i := o) (by omega)
  obtain ⟨m1, m2, m3⟩ := nat32 (i := c1.length - 1) (by omega)
  refine Go.iloadN X d18_0 rfl ?_
  refine Go.ifc X d18_1 (pt := 17) ⟨by decide, by decide⟩ ?_ ?_
  · intro q; exact absurd q n2
  intro _
  refine Go.iloadN X d18_4 rfl ?_
  refine Go.aloadN X d18_5 rfl rfl ?_
  refine Go.callV X (fun h H => (hS.2 h H).1) (s_length l G hS) (rest := [.int (Int32.ofNat o)]) (w96 G) (w35 G) (nfS (w37 G)) (w37 G) (w36 G) (w10 G) (w38 G) (by decide) pd6 rfl rfl d18_6 rfl (by first | exact Nat.le_of_ble_eq_true rfl | (simp; done) | (simp; omega)) (by first | exact Nat.le_of_ble_eq_true rfl | (simp; done) | (simp; omega)) (by first | exact Nat.le_of_ble_eq_true rfl | (simp; done) | (simp; omega)) (by first | exact Nat.le_of_ble_eq_true rfl | (simp; done) | (simp; omega)) (Kv ?_)
  rintro v M ⟨rfl, rfl⟩
  refine Go.aloadN X d18_9 rfl rfl ?_
  refine Go.callV X (fun h H => (hQ.2 h H).1) (s_length l G hQ) (rest := [.int c1.length.toInt32, .int (Int32.ofNat o)]) (w96 G) (w35 G) (nfS (w37 G)) (w37 G) (w36 G) (w10 G) (w38 G) (by decide) pd6 rfl rfl d18_10 rfl (by first | exact Nat.le_of_ble_eq_true rfl | (simp; done) | (simp; omega)) (by first | exact Nat.le_of_ble_eq_true rfl | (simp; done) | (simp; omega)) (by first | exact Nat.le_of_ble_eq_true rfl | (simp; done) | (simp; omega)) (by first | exact Nat.le_of_ble_eq_true rfl | (simp; done) | (simp; omega)) (Kv ?_)
  rintro v M ⟨rfl, rfl⟩
  refine Go.isub X d18_13 ?_
  rw [show c1.length.toInt32 - ([34] : List Nat).length.toInt32 = Int32.ofNat (c1.length - 1) from sub1 (by omega) hM]
  refine Go.icmp X d18_14 (pt := 19) ⟨by decide, by decide⟩ ?_ ?_
  rotate_left
  · intro q
    have q : ¬ (o : Int) ≤ ((c1.length - 1 : Nat) : Int) := ccN q n1 m1
    omega
  intro _
  refine Go.aloadN X d18_19 rfl rfl ?_
  refine Go.getFld X (w28 G) Via.refl (fun h H => (hS.2 h H).2.1) d18_20 ?_
  refine Go.astoreN X d18_23 rfl rfl ?_
  refine Go.aloadN X d18_24 rfl rfl ?_
  refine Go.getFld X (w28 G) Via.refl (fun h H => (hQ.2 h H).2.1) d18_25 ?_
  refine Go.astore X d18_28 rfl rfl ?_
  refine Go.iconst X (v := 0) d18_30 (by decide) ?_
  refine Go.istore X d18_31 rfl ?_
  refine Go.aload X d18_33 rfl rfl ?_
  refine Go.alenA X (fun h H => H.lenM h2) d18_35 ?_
  rw [show (bsOf [34]).length.toInt32 = 1 from rfl]
  refine Go.istore X d18_36 rfl ?_
  refine Go.aloadN X d18_38 rfl rfl ?_
  refine Go.callV X (fun h H => (hS.2 h H).1) (s_coder l G hS) (rest := []) (w39 G) (w40 G) (nfS (w42 G)) (w42 G) (w41 G) (w10 G) (w43 G) (by decide) pd0 rfl rfl d18_39 rfl (by first | exact Nat.le_of_ble_eq_true rfl | (simp; done) | (simp; omega)) (by first | exact Nat.le_of_ble_eq_true rfl | (simp; done) | (simp; omega)) (by first | exact Nat.le_of_ble_eq_true rfl | (simp; done) | (simp; omega)) (by first | exact Nat.le_of_ble_eq_true rfl | (simp; done) | (simp; omega)) (Kv ?_)
  rintro v M ⟨rfl, rfl⟩
  refine Go.istore X d18_42 rfl ?_
  refine Go.iload X d18_44 rfl ?_
  refine Go.aloadN X d18_46 rfl rfl ?_
  refine Go.callV X (fun h H => (hQ.2 h H).1) (s_coder l G hQ) (rest := [.int 0]) (w39 G) (w40 G) (nfS (w42 G)) (w42 G) (w41 G) (w10 G) (w43 G) (by decide) pd0 rfl rfl d18_47 rfl (by first | exact Nat.le_of_ble_eq_true rfl | (simp; done) | (simp; omega)) (by first | exact Nat.le_of_ble_eq_true rfl | (simp; done) | (simp; omega)) (by first | exact Nat.le_of_ble_eq_true rfl | (simp; done) | (simp; omega)) (by first | exact Nat.le_of_ble_eq_true rfl | (simp; done) | (simp; omega)) (Kv ?_)
  rintro v M ⟨rfl, rfl⟩
  refine Go.icmp X d18_50 (pt := 82) ⟨by decide, by decide⟩ ?_ ?_
  · intro q; exact absurd rfl q
  intro _
  refine Go.iload X d18_53 rfl ?_
  refine Go.iconst X (v := 1) d18_55 (by decide) ?_
  refine Go.icmp X d18_56 (pt := 63) ⟨by decide, by decide⟩ ?_ ?_
  rotate_left
  · intro q; exact absurd (show (0 : Int32) ≠ 1 by decide) q
  intro _
  refine Go.aloadN X d18_63 rfl rfl ?_
  refine Go.iloadN X d18_64 rfl ?_
  refine Go.aload X d18_65 rfl rfl ?_
  refine Go.iconst X (v := 0) d18_67 (by decide) ?_
  refine Go.iload X d18_68 rfl ?_
  refine Go.callS X (s_mis1 l G h1 h2 hx hx2 (by omega)) (rest := []) (w97 G) (w98 G) (w99 G) (w100 G) (by decide) pd7 rfl rfl d18_70 rfl (by first | exact Nat.le_of_ble_eq_true rfl | (simp; done) | (simp; omega)) (by first | exact Nat.le_of_ble_eq_true rfl | (simp; done) | (simp; omega)) (by first | exact Nat.le_of_ble_eq_true rfl | (simp; done) | (simp; omega)) (by first | exact Nat.le_of_ble_eq_true rfl | (simp; done) | (simp; omega)) (Kv ?_)
  rintro v M ⟨rfl, rfl⟩
  by_cases q34 : x = 34
  · rw [if_pos q34]
    refine Go.ifc X d18_73 (pt := 80) ⟨by decide, by decide⟩ ?_ ?_
    · intro q; exact absurd (show (0 : Int32) ≤ -1 from q) (by decide)
    intro _
    refine Go.iconst X (v := 1) d18_76 (by decide) ?_
    refine Go.goto X d18_77 (pt := 81) ⟨by decide, by decide⟩ ?_
    exact Go.zret X d18_81 (Or.inr rfl) (by first | exact Nat.le_of_ble_eq_true rfl | (simp; done) | (simp; omega)) (by first | exact Nat.le_of_ble_eq_true rfl | (simp; done) | (simp; omega)) ⟨by rw [if_pos (by rw [hx, q34])], rfl⟩
  rw [if_neg q34]
  refine Go.ifc X d18_73 (pt := 80) ⟨by decide, by decide⟩ ?_ ?_
  rotate_left
  · intro q; exact absurd (show (0 : Int32) ≤ 0 by decide) q
  intro _
  refine Go.iconst X (v := 0) d18_80 (by decide) ?_
  exact Go.zret X d18_81 (Or.inl rfl) (by first | exact Nat.le_of_ble_eq_true rfl | (simp; done) | (simp; omega)) (by first | exact Nat.le_of_ble_eq_true rfl | (simp; done) | (simp; omega)) ⟨by rw [if_neg (by rw [hx]; exact fun z => q34 (Option.some.inj z))], rfl⟩
set_option maxRecDepth 65536 in
set_option maxHeartbeats 4000000 in
theorem s_sw (l : Launch) {Z : State} {a0 : Array Value} (G : Gl a0 Z) {L : List Ent} {a b a2 b2 : Addr} {c1 : List Nat} (hS : Sx Z L a b c1) (hQ : Sx Z L a2 b2 [34]) (hlt : ∀ c ∈ c1, c < 256) (h0 : 0 < c1.length) : Ct WD EL0 l Z (⟨"java/lang/String", "startsWith", "(Ljava/lang/String;)Z"⟩ : MethodName) jdk_42_method_76_code 2 (some .boolean) ({ frames := 3, cells := 0, slots := 0, locals := 47 } : Room) #[.ref a, .ref a2] L (rvQ (fun v M => v = .int (if c1[0]? = some 34 then 1 else 0) ∧ M = L)) := by
  refine Ct.intro (by decide +kernel) G.2.1 ?_
  intro p e s m below meth c X
  replace X : Cx WD EL0 p Z s m meth c "java/lang/String" "startsWith" jdk_42_method_76_code 2 (some .boolean) := X
  refine Go.cast (g' := mkF m 0 #[.val (.ref a), .val (.ref a2)] []) (by first | rfl | (simp [entryFrame, mkF, argsToLocals, Value.category, maxLocals]; done)) ?_
  refine Go.aloadN X d17_0 rfl rfl ?_
  refine Go.aloadN X d17_1 rfl rfl ?_
  refine Go.iconst X (v := 0) d17_2 (by decide) ?_
  refine Go.callV X (fun h H => (hS.2 h H).1) (s_sw2 l G hS hQ hlt (o := 0) h0) (rest := []) (w91 G) (w92 G) (nfS (w94 G)) (w94 G) (w93 G) (w10 G) (w95 G) (by decide) pd8 rfl rfl d17_3 rfl (by first | exact Nat.le_of_ble_eq_true rfl | (simp; done) | (simp; omega)) (by first | exact Nat.le_of_ble_eq_true rfl | (simp; done) | (simp; omega)) (by first | exact Nat.le_of_ble_eq_true rfl | (simp; done) | (simp; omega)) (by first | exact Nat.le_of_ble_eq_true rfl | (simp; done) | (simp; omega)) (Kv ?_)
  rintro v M ⟨rfl, rfl⟩
  exact Go.zret X d17_6 ite_01 (by first | exact Nat.le_of_ble_eq_true rfl | (simp; done) | (simp; omega)) (by first | exact Nat.le_of_ble_eq_true rfl | (simp; done) | (simp; omega)) ⟨rfl, rfl⟩
set_option maxRecDepth 65536 in
set_option maxHeartbeats 4000000 in
theorem s_ew (l : Launch) {Z : State} {a0 : Array Value} (G : Gl a0 Z) {L : List Ent} {a b a2 b2 : Addr} {c1 : List Nat} (hS : Sx Z L a b c1) (hQ : Sx Z L a2 b2 [34]) (hlt : ∀ c ∈ c1, c < 256) (h0 : 0 < c1.length) : Ct WD EL0 l Z (⟨"java/lang/String", "endsWith", "(Ljava/lang/String;)Z"⟩ : MethodName) jdk_42_method_77_code 2 (some .boolean) ({ frames := 3, cells := 0, slots := 0, locals := 47 } : Room) #[.ref a, .ref a2] L (rvQ (fun v M => v = .int (if c1[c1.length - 1]? = some 34 then 1 else 0) ∧ M = L)) := by
  refine Ct.intro (by decide +kernel) G.2.1 ?_
  intro p e s m below meth c X
  replace X : Cx WD EL0 p Z s m meth c "java/lang/String" "endsWith" jdk_42_method_77_code 2 (some .boolean) := X
  refine Go.cast (g' := mkF m 0 #[.val (.ref a), .val (.ref a2)] []) (by first | rfl | (simp [entryFrame, mkF, argsToLocals, Value.category, maxLocals]; done)) ?_
  obtain ⟨K1, f1, h1⟩ := hS.1
  refine Go.fact (fun h H => len_small H h1) fun hM => ?_
  rw [bs_len] at hM
  refine Go.aloadN X d21_0 rfl rfl ?_
  refine Go.aloadN X d21_1 rfl rfl ?_
  refine Go.aloadN X d21_2 rfl rfl ?_
  refine Go.callV X (fun h H => (hS.2 h H).1) (s_length l G hS) (rest := [.ref a2, .ref a]) (w96 G) (w35 G) (nfS (w37 G)) (w37 G) (w36 G) (w10 G) (w38 G) (by decide) pd6 rfl rfl d21_3 rfl (by first | exact Nat.le_of_ble_eq_true rfl | (simp; done) | (simp; omega)) (by first | exact Nat.le_of_ble_eq_true rfl | (simp; done) | (simp; omega)) (by first | exact Nat.le_of_ble_eq_true rfl | (simp; done) | (simp; omega)) (by first | exact Nat.le_of_ble_eq_true rfl | (simp; done) | (simp; omega)) (Kv ?_)
  rintro v M ⟨rfl, rfl⟩
  refine Go.aloadN X d21_6 rfl rfl ?_
  refine Go.callV X (fun h H => (hQ.2 h H).1) (s_length l G hQ) (rest := [.int c1.length.toInt32, .ref a2, .ref a]) (w96 G) (w35 G) (nfS (w37 G)) (w37 G) (w36 G) (w10 G) (w38 G) (by decide) pd6 rfl rfl d21_7 rfl (by first | exact Nat.le_of_ble_eq_true rfl | (simp; done) | (simp; omega)) (by first | exact Nat.le_of_ble_eq_true rfl | (simp; done) | (simp; omega)) (by first | exact Nat.le_of_ble_eq_true rfl | (simp; done) | (simp; omega)) (by first | exact Nat.le_of_ble_eq_true rfl | (simp; done) | (simp; omega)) (Kv ?_)
  rintro v M ⟨rfl, rfl⟩
  refine Go.isub X d21_10 ?_
  rw [show c1.length.toInt32 - ([34] : List Nat).length.toInt32 = Int32.ofNat (c1.length - 1) from sub1 (by omega) hM]
  refine Go.callV X (fun h H => (hS.2 h H).1) (s_sw2 l G hS hQ hlt (o := c1.length - 1) (by omega)) (rest := []) (w91 G) (w92 G) (nfS (w94 G)) (w94 G) (w93 G) (w10 G) (w95 G) (by decide) pd8 rfl rfl d21_11 rfl (by first | exact Nat.le_of_ble_eq_true rfl | (simp; done) | (simp; omega)) (by first | exact Nat.le_of_ble_eq_true rfl | (simp; done) | (simp; omega)) (by first | exact Nat.le_of_ble_eq_true rfl | (simp; done) | (simp; omega)) (by first | exact Nat.le_of_ble_eq_true rfl | (simp; done) | (simp; omega)) (Kv ?_)
  rintro v M ⟨rfl, rfl⟩
  exact Go.zret X d21_14 ite_01 (by first | exact Nat.le_of_ble_eq_true rfl | (simp; done) | (simp; omega)) (by first | exact Nat.le_of_ble_eq_true rfl | (simp; done) | (simp; omega)) ⟨rfl, rfl⟩
-- %%% copyOfRange
theorem w189 {a0 : Array Value} {Z : State} (G : Gl a0 Z) : (Jvm.Cond.static ({ cls := "java/lang/System", name := "arraycopy", desc := "(Ljava/lang/Object;ILjava/lang/Object;II)V" } : Jvm.MethodName)).before a0 Z = true := G.1 _ (List.mem_of_getElem? (i := 189) rfl)
theorem w190 {a0 : Array Value} {Z : State} (G : Gl a0 Z) : (Jvm.Cond.initialized "java/lang/System").before a0 Z = true := G.1 _ (List.mem_of_getElem? (i := 190) rfl)
theorem w191 {a0 : Array Value} {Z : State} (G : Gl a0 Z) : (Jvm.Cond.native ({ cls := "java/lang/System", name := "arraycopy", desc := "(Ljava/lang/Object;ILjava/lang/Object;II)V" } : Jvm.MethodName)).before a0 Z = true := G.1 _ (List.mem_of_getElem? (i := 191) rfl)
theorem w224 {a0 : Array Value} {Z : State} (G : Gl a0 Z) : (Jvm.Cond.initialized "java/util/Arrays").before a0 Z = true := G.1 _ (List.mem_of_getElem? (i := 224) rfl)
theorem w226 {a0 : Array Value} {Z : State} (G : Gl a0 Z) : (Jvm.Cond.methodLink "java/util/Arrays" (339 : Nat) ({ cls := "java/util/Arrays", name := "copyOfRangeByte", desc := "([BII)[B" } : Jvm.MethodName)).before a0 Z = true := G.1 _ (List.mem_of_getElem? (i := 226) rfl)
theorem w227 {a0 : Array Value} {Z : State} (G : Gl a0 Z) : (Jvm.Cond.static ({ cls := "java/util/Arrays", name := "copyOfRangeByte", desc := "([BII)[B" } : Jvm.MethodName)).before a0 Z = true := G.1 _ (List.mem_of_getElem? (i := 227) rfl)
theorem w228 {a0 : Array Value} {Z : State} (G : Gl a0 Z) : (Jvm.Cond.code ({ cls := "java/util/Arrays", name := "copyOfRangeByte", desc := "([BII)[B" } : Jvm.MethodName) jdk_65_method_133_code (5 : Nat) (Option.some (Jvm.ClassFile.FieldType.array Jvm.ClassFile.FieldType.byte))).before a0 Z = true := G.1 _ (List.mem_of_getElem? (i := 228) rfl)
theorem w229 {a0 : Array Value} {Z : State} (G : Gl a0 Z) : (Jvm.Cond.methodLink "java/util/Arrays" (343 : Nat) ({ cls := "java/util/Arrays", name := "checkLength", desc := "(II)V" } : Jvm.MethodName)).before a0 Z = true := G.1 _ (List.mem_of_getElem? (i := 229) rfl)
theorem w230 {a0 : Array Value} {Z : State} (G : Gl a0 Z) : (Jvm.Cond.static ({ cls := "java/util/Arrays", name := "checkLength", desc := "(II)V" } : Jvm.MethodName)).before a0 Z = true := G.1 _ (List.mem_of_getElem? (i := 230) rfl)
theorem w231 {a0 : Array Value} {Z : State} (G : Gl a0 Z) : (Jvm.Cond.code ({ cls := "java/util/Arrays", name := "checkLength", desc := "(II)V" } : Jvm.MethodName) jdk_65_method_131_code (2 : Nat) (Option.none : Option Jvm.ClassFile.FieldType)).before a0 Z = true := G.1 _ (List.mem_of_getElem? (i := 231) rfl)
theorem w232 {a0 : Array Value} {Z : State} (G : Gl a0 Z) : (Jvm.Cond.methodLink "java/util/Arrays" (304 : Nat) ({ cls := "java/lang/Math", name := "min", desc := "(II)I" } : Jvm.MethodName)).before a0 Z = true := G.1 _ (List.mem_of_getElem? (i := 232) rfl)
theorem w233 {a0 : Array Value} {Z : State} (G : Gl a0 Z) : (Jvm.Cond.static ({ cls := "java/lang/Math", name := "min", desc := "(II)I" } : Jvm.MethodName)).before a0 Z = true := G.1 _ (List.mem_of_getElem? (i := 233) rfl)
theorem w234 {a0 : Array Value} {Z : State} (G : Gl a0 Z) : (Jvm.Cond.initialized "java/lang/Math").before a0 Z = true := G.1 _ (List.mem_of_getElem? (i := 234) rfl)
theorem w235 {a0 : Array Value} {Z : State} (G : Gl a0 Z) : (Jvm.Cond.code ({ cls := "java/lang/Math", name := "min", desc := "(II)I" } : Jvm.MethodName) jdk_29_method_69_code (2 : Nat) (Option.some Jvm.ClassFile.FieldType.int)).before a0 Z = true := G.1 _ (List.mem_of_getElem? (i := 235) rfl)
theorem w236 {a0 : Array Value} {Z : State} (G : Gl a0 Z) : (Jvm.Cond.methodLink "java/util/Arrays" (150 : Nat) ({ cls := "java/lang/System", name := "arraycopy", desc := "(Ljava/lang/Object;ILjava/lang/Object;II)V" } : Jvm.MethodName)).before a0 Z = true := G.1 _ (List.mem_of_getElem? (i := 236) rfl)
theorem d43_0 : D1 jdk_65_method_132_code 0 (.iload_n 1) 1 1 := ⟨by decide +kernel, rfl⟩
theorem d43_1 : D1 jdk_65_method_132_code 1 (.ifCond .ne 9) 3 4 := ⟨by decide +kernel, rfl⟩
theorem d43_4 : D1 jdk_65_method_132_code 4 (.iload_n 2) 1 5 := ⟨by decide +kernel, rfl⟩
theorem d43_5 : D1 jdk_65_method_132_code 5 (.aload_n 0) 1 6 := ⟨by decide +kernel, rfl⟩
theorem d43_6 : D1 jdk_65_method_132_code 6 (.arraylength) 1 7 := ⟨by decide +kernel, rfl⟩
theorem d43_7 : D1 jdk_65_method_132_code 7 (.if_icmp .eq 10) 3 10 := ⟨by decide +kernel, rfl⟩
theorem d43_10 : D1 jdk_65_method_132_code 10 (.aload_n 0) 1 11 := ⟨by decide +kernel, rfl⟩
theorem d43_11 : D1 jdk_65_method_132_code 11 (.iload_n 1) 1 12 := ⟨by decide +kernel, rfl⟩
theorem d43_12 : D1 jdk_65_method_132_code 12 (.iload_n 2) 1 13 := ⟨by decide +kernel, rfl⟩
theorem d43_13 : D1 jdk_65_method_132_code 13 (.invokestatic 339) 3 16 := ⟨by decide +kernel, rfl⟩
theorem d43_16 : D1 jdk_65_method_132_code 16 (.areturn) 1 17 := ⟨by decide +kernel, rfl⟩
theorem d44_0 : D1 jdk_65_method_133_code 0 (.iload_n 1) 1 1 := ⟨by decide +kernel, rfl⟩
theorem d44_1 : D1 jdk_65_method_133_code 1 (.iload_n 2) 1 2 := ⟨by decide +kernel, rfl⟩
theorem d44_2 : D1 jdk_65_method_133_code 2 (.invokestatic 343) 3 5 := ⟨by decide +kernel, rfl⟩
theorem d44_5 : D1 jdk_65_method_133_code 5 (.iload_n 2) 1 6 := ⟨by decide +kernel, rfl⟩
theorem d44_6 : D1 jdk_65_method_133_code 6 (.iload_n 1) 1 7 := ⟨by decide +kernel, rfl⟩
theorem d44_7 : D1 jdk_65_method_133_code 7 (.isub) 1 8 := ⟨by decide +kernel, rfl⟩
theorem d44_8 : D1 jdk_65_method_133_code 8 (.istore_n 3) 1 9 := ⟨by decide +kernel, rfl⟩
theorem d44_9 : D1 jdk_65_method_133_code 9 (.iload_n 3) 1 10 := ⟨by decide +kernel, rfl⟩
theorem d44_10 : D1 jdk_65_method_133_code 10 (.newarray .byte) 2 12 := ⟨by decide +kernel, rfl⟩
theorem d44_12 : D1 jdk_65_method_133_code 12 (.astore 4) 2 14 := ⟨by decide +kernel, rfl⟩
theorem d44_14 : D1 jdk_65_method_133_code 14 (.aload_n 0) 1 15 := ⟨by decide +kernel, rfl⟩
theorem d44_15 : D1 jdk_65_method_133_code 15 (.iload_n 1) 1 16 := ⟨by decide +kernel, rfl⟩
theorem d44_16 : D1 jdk_65_method_133_code 16 (.aload 4) 2 18 := ⟨by decide +kernel, rfl⟩
theorem d44_18 : D1 jdk_65_method_133_code 18 (.iconst 0) 1 19 := ⟨by decide +kernel, rfl⟩
theorem d44_19 : D1 jdk_65_method_133_code 19 (.aload_n 0) 1 20 := ⟨by decide +kernel, rfl⟩
theorem d44_20 : D1 jdk_65_method_133_code 20 (.arraylength) 1 21 := ⟨by decide +kernel, rfl⟩
theorem d44_21 : D1 jdk_65_method_133_code 21 (.iload_n 1) 1 22 := ⟨by decide +kernel, rfl⟩
theorem d44_22 : D1 jdk_65_method_133_code 22 (.isub) 1 23 := ⟨by decide +kernel, rfl⟩
theorem d44_23 : D1 jdk_65_method_133_code 23 (.iload_n 3) 1 24 := ⟨by decide +kernel, rfl⟩
theorem d44_24 : D1 jdk_65_method_133_code 24 (.invokestatic 304) 3 27 := ⟨by decide +kernel, rfl⟩
theorem d44_27 : D1 jdk_65_method_133_code 27 (.invokestatic 150) 3 30 := ⟨by decide +kernel, rfl⟩
theorem d44_30 : D1 jdk_65_method_133_code 30 (.aload 4) 2 32 := ⟨by decide +kernel, rfl⟩
theorem d44_32 : D1 jdk_65_method_133_code 32 (.areturn) 1 33 := ⟨by decide +kernel, rfl⟩
theorem d45_0 : D1 jdk_65_method_131_code 0 (.iload_n 1) 1 1 := ⟨by decide +kernel, rfl⟩
theorem d45_1 : D1 jdk_65_method_131_code 1 (.iload_n 0) 1 2 := ⟨by decide +kernel, rfl⟩
theorem d45_2 : D1 jdk_65_method_131_code 2 (.if_icmp .ge 35) 3 5 := ⟨by decide +kernel, rfl⟩
theorem d45_37 : D1 jdk_65_method_131_code 37 (.return_) 1 38 := ⟨by decide +kernel, rfl⟩
theorem d46_0 : D1 jdk_29_method_69_code 0 (.iload_n 0) 1 1 := ⟨by decide +kernel, rfl⟩
theorem d46_1 : D1 jdk_29_method_69_code 1 (.iload_n 1) 1 2 := ⟨by decide +kernel, rfl⟩
theorem d46_2 : D1 jdk_29_method_69_code 2 (.if_icmp .gt 7) 3 5 := ⟨by decide +kernel, rfl⟩
theorem d46_5 : D1 jdk_29_method_69_code 5 (.iload_n 0) 1 6 := ⟨by decide +kernel, rfl⟩
theorem d46_6 : D1 jdk_29_method_69_code 6 (.goto 4) 3 9 := ⟨by decide +kernel, rfl⟩
theorem d46_9 : D1 jdk_29_method_69_code 9 (.iload_n 1) 1 10 := ⟨by decide +kernel, rfl⟩
theorem d46_10 : D1 jdk_29_method_69_code 10 (.ireturn) 1 11 := ⟨by decide +kernel, rfl⟩
theorem d47_0 : D1 jdk_42_method_151_code 0 (.aload_n 0) 1 1 := ⟨by decide +kernel, rfl⟩
theorem d47_1 : D1 jdk_42_method_151_code 1 (.invokespecial 1) 3 4 := ⟨by decide +kernel, rfl⟩
theorem d47_4 : D1 jdk_42_method_151_code 4 (.aload_n 0) 1 5 := ⟨by decide +kernel, rfl⟩
theorem d47_5 : D1 jdk_42_method_151_code 5 (.aload_n 1) 1 6 := ⟨by decide +kernel, rfl⟩
theorem d47_6 : D1 jdk_42_method_151_code 6 (.putfield 9) 3 9 := ⟨by decide +kernel, rfl⟩
theorem d47_9 : D1 jdk_42_method_151_code 9 (.aload_n 0) 1 10 := ⟨by decide +kernel, rfl⟩
theorem d47_10 : D1 jdk_42_method_151_code 10 (.iload_n 2) 1 11 := ⟨by decide +kernel, rfl⟩
theorem d47_11 : D1 jdk_42_method_151_code 11 (.putfield 15) 3 14 := ⟨by decide +kernel, rfl⟩
theorem d47_14 : D1 jdk_42_method_151_code 14 (.return_) 1 15 := ⟨by decide +kernel, rfl⟩
theorem pd9 : parseMethodDescriptor "(II)V" = some ⟨[.int, .int], none⟩ := by decide +kernel
theorem pd10 : parseMethodDescriptor "(II)I" = some ⟨[.int, .int], some .int⟩ := by decide +kernel
theorem pd11 : parseMethodDescriptor "([BII)[B" = some ⟨[(.array .byte), .int, .int], some (.array .byte)⟩ := by decide +kernel
set_option maxRecDepth 65536 in
set_option maxHeartbeats 4000000 in
theorem m_min (l : Launch) {Z : State} {a0 : Array Value} (G : Gl a0 Z) {L : List Ent} (x y : Int32) : Ct WD EL0 l Z (⟨"java/lang/Math", "min", "(II)I"⟩ : MethodName) jdk_29_method_69_code 2 (some .int) ({ frames := 0, cells := 0, slots := 0, locals := 0 } : Room) #[.int x, .int y] L (rvQ (fun v M => v = .int (if y < x then y else x) ∧ M = L)) := by
  refine Ct.intro (by decide +kernel) G.2.1 ?_
  intro p e s m below meth c X
  replace X : Cx WD EL0 p Z s m meth c "java/lang/Math" "min" jdk_29_method_69_code 2 (some .int) := X
  refine Go.cast (g' := mkF m 0 #[.val (.int x), .val (.int y)] []) (by first | rfl | (simp [entryFrame, mkF, argsToLocals, Value.category, maxLocals]; done)) ?_
  refine Go.iloadN X d46_0 rfl ?_
  refine Go.iloadN X d46_1 rfl ?_
  refine Go.icmp X d46_2 (pt := 9) ⟨by decide, by decide⟩ ?_ ?_
  · intro q
    refine Go.iloadN X d46_9 rfl ?_
    exact Go.iret X d46_10 (by first | exact Nat.le_of_ble_eq_true rfl | (simp; done) | (simp; omega)) (by first | exact Nat.le_of_ble_eq_true rfl | (simp; done) | (simp; omega)) ⟨by rw [if_pos (show y < x from q)], rfl⟩
  intro q
  refine Go.iloadN X d46_5 rfl ?_
  refine Go.goto X d46_6 (pt := 10) ⟨by decide, by decide⟩ ?_
  exact Go.iret X d46_10 (by first | exact Nat.le_of_ble_eq_true rfl | (simp; done) | (simp; omega)) (by first | exact Nat.le_of_ble_eq_true rfl | (simp; done) | (simp; omega)) ⟨by rw [if_neg (show ¬ y < x from q)], rfl⟩
set_option maxRecDepth 65536 in
set_option maxHeartbeats 4000000 in
theorem r_chk (l : Launch) {Z : State} {a0 : Array Value} (G : Gl a0 Z) {L : List Ent} {F E : Nat} (hF : F ≤ E) (hE : E < 2 ^ 31) : Ct WD EL0 l Z (⟨"java/util/Arrays", "checkLength", "(II)V"⟩ : MethodName) jdk_65_method_131_code 2 none ({ frames := 0, cells := 0, slots := 0, locals := 0 } : Room) #[.int (Int32.ofNat F), .int (Int32.ofNat E)] L (r0Q (fun M => M = L)) := by
  refine Ct.intro (by decide +kernel) G.2.1 ?_
  intro p e s m below meth c X
  replace X : Cx WD EL0 p Z s m meth c "java/util/Arrays" "checkLength" jdk_65_method_131_code 2 none := X
  refine Go.cast (g' := mkF m 0 #[.val (.int (Int32.ofNat F)), .val (.int (Int32.ofNat E))] []) (by first | rfl | (simp [entryFrame, mkF, argsToLocals, Value.category, maxLocals]; done)) ?_
  obtain ⟨n1, n2, n3⟩ := nat32 (i := F) (by omega)
  obtain ⟨m1, m2, m3⟩ := nat32 (i := E) hE
  refine Go.iloadN X d45_0 rfl ?_
  refine Go.iloadN X d45_1 rfl ?_
  refine Go.icmp X d45_2 (pt := 37) ⟨by decide, by decide⟩ ?_ ?_
  rotate_left
  · intro q
    have q : ¬ (F : Int) ≤ E := ccN (a := (E : Int)) (b := (F : Int)) q m1 n1
    omega
  intro _
  exact Go.ret0 X d45_37 (by first | exact Nat.le_of_ble_eq_true rfl | (simp; done) | (simp; omega)) (by first | exact Nat.le_of_ble_eq_true rfl | (simp; done) | (simp; omega)) rfl
set_option maxRecDepth 65536 in
set_option maxHeartbeats 4000000 in
theorem r_copyB (l : Launch) {Z : State} {a0 : Array Value} (G : Gl a0 Z) {L : List Ent} {b : Addr} {K : ClassId} {vs : List Value} {f : Bool} {F E cap : Nat} (hb' : (b, Ar Z .byte K vs, f) ∈ L) (hF : F ≤ E) (hE : E ≤ vs.length) (hcap : E - F ≤ cap) (hc2 : cap ≤ 4096) : Ct WD EL0 l Z (⟨"java/util/Arrays", "copyOfRangeByte", "([BII)[B"⟩ : MethodName) jdk_65_method_133_code 5 (some (.array .byte)) ({ frames := 1, cells := 1, slots := cap, locals := 18 } : Room) #[.ref b, .int (Int32.ofNat F), .int (Int32.ofNat E)] L (rvQ (fun v M => ∃ d K', v = .ref d ∧ M = ow d (Ar Z .byte K' ((vs.drop F).take (E - F))) :: L)) := by
  refine Ct.intro (by decide +kernel) G.2.1 ?_
  intro p e s m below meth c X
  replace X : Cx WD EL0 p Z s m meth c "java/util/Arrays" "copyOfRangeByte" jdk_65_method_133_code 5 (some (.array .byte)) := X
  refine Go.cast (g' := mkF m 0 #[.val (.ref b), .val (.int (Int32.ofNat F)), .val (.int (Int32.ofNat E)), .unset, .unset] []) (by first | rfl | (simp [entryFrame, mkF, argsToLocals, Value.category, maxLocals]; done)) ?_
  refine Go.fact (fun h H => len_small H hb') fun hM => ?_
  obtain ⟨n1, n2, n3⟩ := nat32 (i := F) (by omega)
  obtain ⟨m1, m2, m3⟩ := nat32 (i := E) (by omega)
  obtain ⟨d1, d2, d3⟩ := nat32 (i := E - F) (by omega)
  obtain ⟨u1, u2, u3⟩ := nat32 (i := vs.length - F) (by omega)
  refine Go.iloadN X d44_0 rfl ?_
  refine Go.iloadN X d44_1 rfl ?_
  refine Go.callS X (r_chk l G hF (by omega)) (rest := []) (w229 G) (w230 G) (w224 G) (w231 G) (by decide) pd9 rfl rfl d44_2 rfl (by first | exact Nat.le_of_ble_eq_true rfl | (simp; done) | (simp; omega)) (by first | exact Nat.le_of_ble_eq_true rfl | (simp; done) | (simp; omega)) (by first | exact Nat.le_of_ble_eq_true rfl | (simp; done) | (simp; omega)) (by first | exact Nat.le_of_ble_eq_true rfl | (simp; done) | (simp; omega)) (K0 ?_)
  rintro M rfl
  refine Go.iloadN X d44_5 rfl ?_
  refine Go.iloadN X d44_6 rfl ?_
  refine Go.isub X d44_7 ?_
  rw [subN hF (by omega)]
  refine Go.istoreN X d44_8 rfl ?_
  refine Go.iloadN X d44_9 rfl ?_
  refine Go.newarr X (aty := .byte) (N := E - F) (cap := cap) (w23 G) d2 d3 hcap (by omega) d44_10 (by first | exact Nat.le_of_ble_eq_true rfl | (simp; done) | (simp; omega)) (by first | exact Nat.le_of_ble_eq_true rfl | (simp; done) | (simp; omega)) ?_
  intro d K'
  refine Go.astore X d44_12 rfl rfl ?_
  refine Go.aloadN X d44_14 rfl rfl ?_
  refine Go.iloadN X d44_15 rfl ?_
  refine Go.aload X d44_16 rfl rfl ?_
  refine Go.iconst X (v := 0) d44_18 (by decide) ?_
  refine Go.aloadN X d44_19 rfl rfl ?_
  refine Go.alenA X (fun h H => H.lenM (List.mem_cons_of_mem _ hb')) d44_20 ?_
  refine Go.iloadN X d44_21 rfl ?_
  refine Go.isub X d44_22 ?_
  rw [show vs.length.toInt32 - Int32.ofNat F = Int32.ofNat (vs.length - F) from subN (by omega) hM]
  refine Go.iloadN X d44_23 rfl ?_
  refine Go.callS X (m_min l G (Int32.ofNat (vs.length - F)) (Int32.ofNat (E - F))) (rest := [.int 0, .ref d, .int (Int32.ofNat F), .ref b]) (w232 G) (w233 G) (w234 G) (w235 G) (by decide) pd10 rfl rfl d44_24 rfl (by first | exact Nat.le_of_ble_eq_true rfl | (simp; done) | (simp; omega)) (by first | exact Nat.le_of_ble_eq_true rfl | (simp; done) | (simp; omega)) (by first | exact Nat.le_of_ble_eq_true rfl | (simp; done) | (simp; omega)) (by first | exact Nat.le_of_ble_eq_true rfl | (simp; done) | (simp; omega)) (Kv ?_)
  rintro v M ⟨rfl, rfl⟩
  rw [show (if Int32.ofNat (E - F) < Int32.ofNat (vs.length - F) then Int32.ofNat (E - F) else Int32.ofNat (vs.length - F)) = Int32.ofNat (E - F) from by
    split
    · rfl
    · rename_i q
      have q : ¬ (Int32.ofNat (E - F)).toInt < (Int32.ofNat (vs.length - F)).toInt := fun z => q (Int32.lt_iff_toInt_lt.mpr z)
      rw [d1, u1] at q
      rw [show vs.length - F = E - F by omega]]
  refine Go.acopy X (w236 G) (w191 G) (w189 G) (w190 G) (j := 0) (sN := F) (dN := 0) (nN := E - F) (r := (vs.drop F).take (E - F)) rfl (List.mem_cons_of_mem _ hb') rfl n2 (by decide) d2 n3 rfl d3 (by omega) (by simp) (by rw [drop_range (by omega)]; simp) d44_27 rfl (by first | exact Nat.le_of_ble_eq_true rfl | (simp; done) | (simp; omega)) (by first | exact Nat.le_of_ble_eq_true rfl | (simp; done) | (simp; omega)) ?_
  refine Go.aload X d44_30 rfl rfl ?_
  exact Go.aret X d44_32 (by rfl) (by rfl) (by rfl) (by first | exact Nat.le_of_ble_eq_true rfl | (simp; done) | (simp; omega)) (by first | exact Nat.le_of_ble_eq_true rfl | (simp; done) | (simp; omega)) ⟨d, K', rfl, rfl⟩
set_option maxRecDepth 65536 in
set_option maxHeartbeats 4000000 in
theorem r_copy (l : Launch) {Z : State} {a0 : Array Value} (G : Gl a0 Z) {L : List Ent} {b : Addr} {K : ClassId} {vs : List Value} {f : Bool} {F E cap : Nat} (hb' : (b, Ar Z .byte K vs, f) ∈ L) (hF : F ≤ E) (hE : E ≤ vs.length) (hcap : E - F ≤ cap) (hc2 : cap ≤ 4096) (hne : F ≠ 0 ∨ E ≠ vs.length) : Ct WD EL0 l Z (⟨"java/util/Arrays", "copyOfRange", "([BII)[B"⟩ : MethodName) jdk_65_method_132_code 3 (some (.array .byte)) ({ frames := 2, cells := 1, slots := cap, locals := 34 } : Room) #[.ref b, .int (Int32.ofNat F), .int (Int32.ofNat E)] L (rvQ (fun v M => ∃ d K', v = .ref d ∧ M = ow d (Ar Z .byte K' ((vs.drop F).take (E - F))) :: L)) := by
  refine Ct.intro (by decide +kernel) G.2.1 ?_
  intro p e s m below meth c X
  replace X : Cx WD EL0 p Z s m meth c "java/util/Arrays" "copyOfRange" jdk_65_method_132_code 3 (some (.array .byte)) := X
  refine Go.cast (g' := mkF m 0 #[.val (.ref b), .val (.int (Int32.ofNat F)), .val (.int (Int32.ofNat E))] []) (by first | rfl | (simp [entryFrame, mkF, argsToLocals, Value.category, maxLocals]; done)) ?_
  refine Go.fact (fun h H => len_small H hb') fun hM => ?_
  obtain ⟨n1, n2, n3⟩ := nat32 (i := F) (by omega)
  obtain ⟨m1, m2, m3⟩ := nat32 (i := E) (by omega)
  obtain ⟨u1, u2, u3⟩ := nat32 (i := vs.length) hM
  refine Go.iloadN X d43_0 rfl ?_
  refine Go.ifc X d43_1 (pt := 10) ⟨by decide, by decide⟩ ?_ ?_
  · intro _
    refine Go.aloadN X d43_10 rfl rfl ?_
    refine Go.iloadN X d43_11 rfl ?_
    refine Go.iloadN X d43_12 rfl ?_
    refine Go.callS X (r_copyB l G hb' hF hE hcap hc2) (rest := []) (w226 G) (w227 G) (w224 G) (w228 G) (by decide) pd11 rfl rfl d43_13 rfl (by first | exact Nat.le_of_ble_eq_true rfl | (simp; done) | (simp; omega)) (by first | exact Nat.le_of_ble_eq_true rfl | (simp; done) | (simp; omega)) (by first | exact Nat.le_of_ble_eq_true rfl | (simp; done) | (simp; omega)) (by first | exact Nat.le_of_ble_eq_true rfl | (simp; done) | (simp; omega)) (Kv ?_)
    rintro v M ⟨d, K', rfl, rfl⟩
    exact Go.aret X d43_16 (by rfl) (by rfl) (by rfl) (by first | exact Nat.le_of_ble_eq_true rfl | (simp; done) | (simp; omega)) (by first | exact Nat.le_of_ble_eq_true rfl | (simp; done) | (simp; omega)) ⟨d, K', rfl, rfl⟩
  intro q
  have q : (F : Int) = 0 := Decidable.of_not_not (ccN (a := (F : Int)) (b := 0) q n1 rfl)
  refine Go.iloadN X d43_4 rfl ?_
  refine Go.aloadN X d43_5 rfl rfl ?_
  refine Go.alenA X (fun h H => H.lenM hb') d43_6 ?_
  refine Go.icmp X d43_7 (pt := 17) ⟨by decide, by decide⟩ ?_ ?_
  · intro z
    have z : (E : Int) = vs.length := ccL (a := (E : Int)) (b := (vs.length : Int)) z m1 u1
    omega
  intro _
  refine Go.aloadN X d43_10 rfl rfl ?_
  refine Go.iloadN X d43_11 rfl ?_
  refine Go.iloadN X d43_12 rfl ?_
  refine Go.callS X (r_copyB l G hb' hF hE hcap hc2) (rest := []) (w226 G) (w227 G) (w224 G) (w228 G) (by decide) pd11 rfl rfl d43_13 rfl (by first | exact Nat.le_of_ble_eq_true rfl | (simp; done) | (simp; omega)) (by first | exact Nat.le_of_ble_eq_true rfl | (simp; done) | (simp; omega)) (by first | exact Nat.le_of_ble_eq_true rfl | (simp; done) | (simp; omega)) (by first | exact Nat.le_of_ble_eq_true rfl | (simp; done) | (simp; omega)) (Kv ?_)
  rintro v M ⟨d, K', rfl, rfl⟩
  exact Go.aret X d43_16 (by rfl) (by rfl) (by rfl) (by first | exact Nat.le_of_ble_eq_true rfl | (simp; done) | (simp; omega)) (by first | exact Nat.le_of_ble_eq_true rfl | (simp; done) | (simp; omega)) ⟨d, K', rfl, rfl⟩
set_option maxRecDepth 65536 in
set_option maxHeartbeats 4000000 in
theorem s_initB (l : Launch) {Z : State} {a0 : Array Value} (G : Gl a0 Z) {L : List Ent} {a b : Addr} : Ct WD EL0 l Z (⟨"java/lang/String", "<init>", "([BB)V"⟩ : MethodName) jdk_42_method_151_code 3 none ({ frames := 1, cells := 0, slots := 0, locals := 12 } : Room) #[.ref a, .ref b, .int 0] (ow a (Ob Z "java/lang/String" ns0 [.null, .int 0]) :: L) (r0Q (fun M => M = ow a (Ob Z "java/lang/String" ns0 [.ref b, .int 0]) :: L)) := by
  refine Ct.intro (by decide +kernel) G.2.1 ?_
  intro p e s m below meth c X
  replace X : Cx WD EL0 p Z s m meth c "java/lang/String" "<init>" jdk_42_method_151_code 3 none := X
  refine Go.cast (g' := mkF m 0 #[.val (.ref a), .val (.ref b), .val (.int 0)] []) (by first | rfl | (simp [entryFrame, mkF, argsToLocals, Value.category, maxLocals]; done)) ?_
  refine Go.aloadN X d47_0 rfl rfl ?_
  refine Go.initObj X (w19 G) (w20 G) (w21 G) d47_1 rfl (Nat.le_of_ble_eq_true rfl) (Nat.le_of_ble_eq_true rfl) ?_
  refine Go.aloadN X d47_4 rfl rfl ?_
  refine Go.aloadN X d47_5 rfl rfl ?_
  refine Go.putFld X (i := 0) rfl (j := 0) rfl (lay0 G) (w28 G) Via.refl (Or.inr ⟨(w24 G), rfl, rfl⟩) (w9 G) pf0 d47_6 (by rfl) (by rfl) ?_
  refine Go.aloadN X d47_9 rfl rfl ?_
  refine Go.iloadN X d47_10 rfl ?_
  refine Go.putFld X (i := 0) rfl (j := 1) rfl (lay0 G) (w29 G) Via.refl (Or.inr ⟨(w25 G), rfl, rfl⟩) (w9 G) pf1 d47_11 (by rfl) (by rfl) ?_
  exact Go.ret0 X d47_14 (by first | exact Nat.le_of_ble_eq_true rfl | (simp; done) | (simp; omega)) (by first | exact Nat.le_of_ble_eq_true rfl | (simp; done) | (simp; omega)) rfl
-- %%% substring
theorem w114 {a0 : Array Value} {Z : State} (G : Gl a0 Z) : (Jvm.Cond.methodLink "java/lang/String" (521 : Nat) ({ cls := "java/lang/String", name := "checkBoundsBeginEnd", desc := "(III)V" } : Jvm.MethodName)).before a0 Z = true := G.1 _ (List.mem_of_getElem? (i := 114) rfl)
theorem w115 {a0 : Array Value} {Z : State} (G : Gl a0 Z) : (Jvm.Cond.static ({ cls := "java/lang/String", name := "checkBoundsBeginEnd", desc := "(III)V" } : Jvm.MethodName)).before a0 Z = true := G.1 _ (List.mem_of_getElem? (i := 115) rfl)
theorem w116 {a0 : Array Value} {Z : State} (G : Gl a0 Z) : (Jvm.Cond.code ({ cls := "java/lang/String", name := "checkBoundsBeginEnd", desc := "(III)V" } : Jvm.MethodName) jdk_42_method_158_code (3 : Nat) (Option.none : Option Jvm.ClassFile.FieldType)).before a0 Z = true := G.1 _ (List.mem_of_getElem? (i := 116) rfl)
theorem w117 {a0 : Array Value} {Z : State} (G : Gl a0 Z) : (Jvm.Cond.fieldLink "java/lang/String" (1053 : Nat) "jdk/internal/util/Preconditions" "SIOOBE_FORMATTER" "Ljava/util/function/BiFunction;").before a0 Z = true := G.1 _ (List.mem_of_getElem? (i := 117) rfl)
theorem w118 {a0 : Array Value} {Z : State} (G : Gl a0 Z) : (Jvm.Cond.initialized "jdk/internal/util/Preconditions").before a0 Z = true := G.1 _ (List.mem_of_getElem? (i := 118) rfl)
theorem w119 {a0 : Array Value} {Z : State} (G : Gl a0 Z) : (Jvm.Cond.methodLink "java/lang/String" (1062 : Nat) ({ cls := "jdk/internal/util/Preconditions", name := "checkFromToIndex", desc := "(IIILjava/util/function/BiFunction;)I" } : Jvm.MethodName)).before a0 Z = true := G.1 _ (List.mem_of_getElem? (i := 119) rfl)
theorem w120 {a0 : Array Value} {Z : State} (G : Gl a0 Z) : (Jvm.Cond.static ({ cls := "jdk/internal/util/Preconditions", name := "checkFromToIndex", desc := "(IIILjava/util/function/BiFunction;)I" } : Jvm.MethodName)).before a0 Z = true := G.1 _ (List.mem_of_getElem? (i := 120) rfl)
theorem w121 {a0 : Array Value} {Z : State} (G : Gl a0 Z) : (Jvm.Cond.code ({ cls := "jdk/internal/util/Preconditions", name := "checkFromToIndex", desc := "(IIILjava/util/function/BiFunction;)I" } : Jvm.MethodName) jdk_41_method_12_code (4 : Nat) (Option.some Jvm.ClassFile.FieldType.int)).before a0 Z = true := G.1 _ (List.mem_of_getElem? (i := 121) rfl)
theorem w122 {a0 : Array Value} {Z : State} (G : Gl a0 Z) : (Jvm.Cond.methodLink "java/lang/String" (492 : Nat) ({ cls := "java/lang/String", name := "isLatin1", desc := "()Z" } : Jvm.MethodName)).before a0 Z = true := G.1 _ (List.mem_of_getElem? (i := 122) rfl)
theorem w123 {a0 : Array Value} {Z : State} (G : Gl a0 Z) : (Jvm.Cond.declares ({ cls := "java/lang/String", name := "isLatin1", desc := "()Z" } : Jvm.MethodName)).before a0 Z = true := G.1 _ (List.mem_of_getElem? (i := 123) rfl)
theorem w124 {a0 : Array Value} {Z : State} (G : Gl a0 Z) : (Jvm.Cond.instanceMethod ({ cls := "java/lang/String", name := "isLatin1", desc := "()Z" } : Jvm.MethodName)).before a0 Z = true := G.1 _ (List.mem_of_getElem? (i := 124) rfl)
theorem w125 {a0 : Array Value} {Z : State} (G : Gl a0 Z) : (Jvm.Cond.selects "java/lang/String" ({ cls := "java/lang/String", name := "isLatin1", desc := "()Z" } : Jvm.MethodName) ({ cls := "java/lang/String", name := "isLatin1", desc := "()Z" } : Jvm.MethodName)).before a0 Z = true := G.1 _ (List.mem_of_getElem? (i := 125) rfl)
theorem w126 {a0 : Array Value} {Z : State} (G : Gl a0 Z) : (Jvm.Cond.code ({ cls := "java/lang/String", name := "isLatin1", desc := "()Z" } : Jvm.MethodName) jdk_42_method_154_code (1 : Nat) (Option.some Jvm.ClassFile.FieldType.boolean)).before a0 Z = true := G.1 _ (List.mem_of_getElem? (i := 126) rfl)
theorem w127 {a0 : Array Value} {Z : State} (G : Gl a0 Z) : (Jvm.Cond.methodLink "java/lang/String" (685 : Nat) ({ cls := "java/lang/StringLatin1", name := "newString", desc := "([BII)Ljava/lang/String;" } : Jvm.MethodName)).before a0 Z = true := G.1 _ (List.mem_of_getElem? (i := 127) rfl)
theorem w128 {a0 : Array Value} {Z : State} (G : Gl a0 Z) : (Jvm.Cond.static ({ cls := "java/lang/StringLatin1", name := "newString", desc := "([BII)Ljava/lang/String;" } : Jvm.MethodName)).before a0 Z = true := G.1 _ (List.mem_of_getElem? (i := 128) rfl)
theorem w130 {a0 : Array Value} {Z : State} (G : Gl a0 Z) : (Jvm.Cond.code ({ cls := "java/lang/StringLatin1", name := "newString", desc := "([BII)Ljava/lang/String;" } : Jvm.MethodName) jdk_43_method_47_code (3 : Nat) (Option.some (Jvm.ClassFile.FieldType.object "java/lang/String"))).before a0 Z = true := G.1 _ (List.mem_of_getElem? (i := 130) rfl)
theorem w131 {a0 : Array Value} {Z : State} (G : Gl a0 Z) : (Jvm.Cond.stringLink "java/lang/StringLatin1" (151 : Nat) "").before a0 Z = true := G.1 _ (List.mem_of_getElem? (i := 131) rfl)
theorem w223 {a0 : Array Value} {Z : State} (G : Gl a0 Z) : (Jvm.Cond.static ({ cls := "java/util/Arrays", name := "copyOfRange", desc := "([BII)[B" } : Jvm.MethodName)).before a0 Z = true := G.1 _ (List.mem_of_getElem? (i := 223) rfl)
theorem w225 {a0 : Array Value} {Z : State} (G : Gl a0 Z) : (Jvm.Cond.code ({ cls := "java/util/Arrays", name := "copyOfRange", desc := "([BII)[B" } : Jvm.MethodName) jdk_65_method_132_code (3 : Nat) (Option.some (Jvm.ClassFile.FieldType.array Jvm.ClassFile.FieldType.byte))).before a0 Z = true := G.1 _ (List.mem_of_getElem? (i := 225) rfl)
theorem w237 {a0 : Array Value} {Z : State} (G : Gl a0 Z) : (Jvm.Cond.classLink "java/lang/StringLatin1" (1 : Nat) "java/lang/String").before a0 Z = true := G.1 _ (List.mem_of_getElem? (i := 237) rfl)
theorem w238 {a0 : Array Value} {Z : State} (G : Gl a0 Z) : (Jvm.Cond.methodLink "java/lang/StringLatin1" (232 : Nat) ({ cls := "java/util/Arrays", name := "copyOfRange", desc := "([BII)[B" } : Jvm.MethodName)).before a0 Z = true := G.1 _ (List.mem_of_getElem? (i := 238) rfl)
theorem w239 {a0 : Array Value} {Z : State} (G : Gl a0 Z) : (Jvm.Cond.methodLink "java/lang/StringLatin1" (112 : Nat) ({ cls := "java/lang/String", name := "<init>", desc := "([BB)V" } : Jvm.MethodName)).before a0 Z = true := G.1 _ (List.mem_of_getElem? (i := 239) rfl)
theorem w240 {a0 : Array Value} {Z : State} (G : Gl a0 Z) : (Jvm.Cond.instanceMethod ({ cls := "java/lang/String", name := "<init>", desc := "([BB)V" } : Jvm.MethodName)).before a0 Z = true := G.1 _ (List.mem_of_getElem? (i := 240) rfl)
theorem w241 {a0 : Array Value} {Z : State} (G : Gl a0 Z) : (Jvm.Cond.code ({ cls := "java/lang/String", name := "<init>", desc := "([BB)V" } : Jvm.MethodName) jdk_42_method_151_code (3 : Nat) (Option.none : Option Jvm.ClassFile.FieldType)).before a0 Z = true := G.1 _ (List.mem_of_getElem? (i := 241) rfl)
theorem d22_0 : D1 jdk_42_method_92_code 0 (.aload_n 0) 1 1 := ⟨by decide +kernel, rfl⟩
theorem d22_1 : D1 jdk_42_method_92_code 1 (.invokevirtual 505) 3 4 := ⟨by decide +kernel, rfl⟩
theorem d22_4 : D1 jdk_42_method_92_code 4 (.istore_n 3) 1 5 := ⟨by decide +kernel, rfl⟩
theorem d22_5 : D1 jdk_42_method_92_code 5 (.iload_n 1) 1 6 := ⟨by decide +kernel, rfl⟩
theorem d22_6 : D1 jdk_42_method_92_code 6 (.iload_n 2) 1 7 := ⟨by decide +kernel, rfl⟩
theorem d22_7 : D1 jdk_42_method_92_code 7 (.iload_n 3) 1 8 := ⟨by decide +kernel, rfl⟩
theorem d22_8 : D1 jdk_42_method_92_code 8 (.invokestatic 521) 3 11 := ⟨by decide +kernel, rfl⟩
theorem d22_11 : D1 jdk_42_method_92_code 11 (.iload_n 1) 1 12 := ⟨by decide +kernel, rfl⟩
theorem d22_12 : D1 jdk_42_method_92_code 12 (.ifCond .ne 10) 3 15 := ⟨by decide +kernel, rfl⟩
theorem d22_22 : D1 jdk_42_method_92_code 22 (.iload_n 2) 1 23 := ⟨by decide +kernel, rfl⟩
theorem d22_23 : D1 jdk_42_method_92_code 23 (.iload_n 1) 1 24 := ⟨by decide +kernel, rfl⟩
theorem d22_24 : D1 jdk_42_method_92_code 24 (.isub) 1 25 := ⟨by decide +kernel, rfl⟩
theorem d22_25 : D1 jdk_42_method_92_code 25 (.istore 4) 2 27 := ⟨by decide +kernel, rfl⟩
theorem d22_27 : D1 jdk_42_method_92_code 27 (.aload_n 0) 1 28 := ⟨by decide +kernel, rfl⟩
theorem d22_28 : D1 jdk_42_method_92_code 28 (.invokevirtual 492) 3 31 := ⟨by decide +kernel, rfl⟩
theorem d22_31 : D1 jdk_42_method_92_code 31 (.ifCond .eq 16) 3 34 := ⟨by decide +kernel, rfl⟩
theorem d22_34 : D1 jdk_42_method_92_code 34 (.aload_n 0) 1 35 := ⟨by decide +kernel, rfl⟩
theorem d22_35 : D1 jdk_42_method_92_code 35 (.getfield 9) 3 38 := ⟨by decide +kernel, rfl⟩
theorem d22_38 : D1 jdk_42_method_92_code 38 (.iload_n 1) 1 39 := ⟨by decide +kernel, rfl⟩
theorem d22_39 : D1 jdk_42_method_92_code 39 (.iload 4) 2 41 := ⟨by decide +kernel, rfl⟩
theorem d22_41 : D1 jdk_42_method_92_code 41 (.invokestatic 685) 3 44 := ⟨by decide +kernel, rfl⟩
theorem d22_44 : D1 jdk_42_method_92_code 44 (.goto 13) 3 47 := ⟨by decide +kernel, rfl⟩
theorem d22_57 : D1 jdk_42_method_92_code 57 (.areturn) 1 58 := ⟨by decide +kernel, rfl⟩
theorem d23_0 : D1 jdk_42_method_158_code 0 (.iload_n 0) 1 1 := ⟨by decide +kernel, rfl⟩
theorem d23_1 : D1 jdk_42_method_158_code 1 (.iload_n 1) 1 2 := ⟨by decide +kernel, rfl⟩
theorem d23_2 : D1 jdk_42_method_158_code 2 (.iload_n 2) 1 3 := ⟨by decide +kernel, rfl⟩
theorem d23_3 : D1 jdk_42_method_158_code 3 (.getstatic 1053) 3 6 := ⟨by decide +kernel, rfl⟩
theorem d23_6 : D1 jdk_42_method_158_code 6 (.invokestatic 1062) 3 9 := ⟨by decide +kernel, rfl⟩
theorem d23_9 : D1 jdk_42_method_158_code 9 (.pop) 1 10 := ⟨by decide +kernel, rfl⟩
theorem d23_10 : D1 jdk_42_method_158_code 10 (.return_) 1 11 := ⟨by decide +kernel, rfl⟩
theorem d24_0 : D1 jdk_41_method_12_code 0 (.iload_n 0) 1 1 := ⟨by decide +kernel, rfl⟩
theorem d24_1 : D1 jdk_41_method_12_code 1 (.ifCond .lt 13) 3 4 := ⟨by decide +kernel, rfl⟩
theorem d24_4 : D1 jdk_41_method_12_code 4 (.iload_n 0) 1 5 := ⟨by decide +kernel, rfl⟩
theorem d24_5 : D1 jdk_41_method_12_code 5 (.iload_n 1) 1 6 := ⟨by decide +kernel, rfl⟩
theorem d24_6 : D1 jdk_41_method_12_code 6 (.if_icmp .gt 8) 3 9 := ⟨by decide +kernel, rfl⟩
theorem d24_9 : D1 jdk_41_method_12_code 9 (.iload_n 1) 1 10 := ⟨by decide +kernel, rfl⟩
theorem d24_10 : D1 jdk_41_method_12_code 10 (.iload_n 2) 1 11 := ⟨by decide +kernel, rfl⟩
theorem d24_11 : D1 jdk_41_method_12_code 11 (.if_icmp .le 11) 3 14 := ⟨by decide +kernel, rfl⟩
theorem d24_22 : D1 jdk_41_method_12_code 22 (.iload_n 0) 1 23 := ⟨by decide +kernel, rfl⟩
theorem d24_23 : D1 jdk_41_method_12_code 23 (.ireturn) 1 24 := ⟨by decide +kernel, rfl⟩
theorem d26_0 : D1 jdk_43_method_47_code 0 (.iload_n 2) 1 1 := ⟨by decide +kernel, rfl⟩
theorem d26_1 : D1 jdk_43_method_47_code 1 (.ifCond .ne 6) 3 4 := ⟨by decide +kernel, rfl⟩
theorem d26_4 : D1 jdk_43_method_47_code 4 (.ldc 151) 2 6 := ⟨by decide +kernel, rfl⟩
theorem d26_6 : D1 jdk_43_method_47_code 6 (.areturn) 1 7 := ⟨by decide +kernel, rfl⟩
theorem d26_7 : D1 jdk_43_method_47_code 7 (.new 1) 3 10 := ⟨by decide +kernel, rfl⟩
theorem d26_10 : D1 jdk_43_method_47_code 10 (.dup) 1 11 := ⟨by decide +kernel, rfl⟩
theorem d26_11 : D1 jdk_43_method_47_code 11 (.aload_n 0) 1 12 := ⟨by decide +kernel, rfl⟩
theorem d26_12 : D1 jdk_43_method_47_code 12 (.iload_n 1) 1 13 := ⟨by decide +kernel, rfl⟩
theorem d26_13 : D1 jdk_43_method_47_code 13 (.iload_n 1) 1 14 := ⟨by decide +kernel, rfl⟩
theorem d26_14 : D1 jdk_43_method_47_code 14 (.iload_n 2) 1 15 := ⟨by decide +kernel, rfl⟩
theorem d26_15 : D1 jdk_43_method_47_code 15 (.iadd) 1 16 := ⟨by decide +kernel, rfl⟩
theorem d26_16 : D1 jdk_43_method_47_code 16 (.invokestatic 232) 3 19 := ⟨by decide +kernel, rfl⟩
theorem d26_19 : D1 jdk_43_method_47_code 19 (.iconst 0) 1 20 := ⟨by decide +kernel, rfl⟩
theorem d26_20 : D1 jdk_43_method_47_code 20 (.invokespecial 112) 3 23 := ⟨by decide +kernel, rfl⟩
theorem d26_23 : D1 jdk_43_method_47_code 23 (.areturn) 1 24 := ⟨by decide +kernel, rfl⟩
theorem pd12 : parseMethodDescriptor "([BB)V" = some ⟨[(.array .byte), .byte], none⟩ := by decide +kernel
theorem pd13 : parseMethodDescriptor "(IIILjava/util/function/BiFunction;)I" = some ⟨[.int, .int, .int, (.object "java/util/function/BiFunction")], some .int⟩ := by decide +kernel
theorem pd14 : parseMethodDescriptor "(III)V" = some ⟨[.int, .int, .int], none⟩ := by decide +kernel
theorem pd15 : parseMethodDescriptor "()Z" = some ⟨[], some .boolean⟩ := by decide +kernel
theorem pd16 : parseMethodDescriptor "([BII)Ljava/lang/String;" = some ⟨[(.array .byte), .int, .int], some (.object "java/lang/String")⟩ := by decide +kernel
set_option maxRecDepth 65536 in
set_option maxHeartbeats 4000000 in
theorem s_new1 (l : Launch) {Z : State} {a0 : Array Value} (G : Gl a0 Z) {L : List Ent} {b : Addr} {K : ClassId} {f : Bool} {c1 : List Nat} {M0 : Nat} (hb' : (b, Ar Z .byte K (bsOf c1), f) ∈ L) (hM : 1 + M0 < c1.length) (h4 : M0 ≤ 2) : Ct WD EL0 l Z (⟨"java/lang/StringLatin1", "newString", "([BII)Ljava/lang/String;"⟩ : MethodName) jdk_43_method_47_code 3 (some (.object "java/lang/String")) ({ frames := 3, cells := 2, slots := 6, locals := 50 } : Room) #[.ref b, .int 1, .int (Int32.ofNat M0)] L (rvQ (fun v M => ∃ t pt N, v = .ref t ∧ M = N ++ L ∧ ∀ L', Sx Z (N ++ L') t pt ((c1.drop 1).take M0))) := by
  refine Ct.intro (by decide +kernel) G.2.1 ?_
  intro p e s m below meth c X
  replace X : Cx WD EL0 p Z s m meth c "java/lang/StringLatin1" "newString" jdk_43_method_47_code 3 (some (.object "java/lang/String")) := X
  refine Go.cast (g' := mkF m 0 #[.val (.ref b), .val (.int 1), .val (.int (Int32.ofNat M0))] []) (by first | rfl | (simp [entryFrame, mkF, argsToLocals, Value.category, maxLocals]; done)) ?_
  obtain ⟨n1, n2, n3⟩ := nat32 (i := M0) (by omega)
  refine Go.iloadN X d26_0 rfl ?_
  refine Go.ifc X d26_1 (pt := 7) ⟨by decide, by decide⟩ ?_ ?_
  rotate_left
  · intro q
    have q : (M0 : Int) = 0 := Decidable.of_not_not (ccN (a := (M0 : Int)) (b := 0) q n1 rfl)
    obtain rfl : M0 = 0 := by omega
    refine Go.ldcS X (text := "") (vs := bsOf []) (z := 0) (N := 0) (w131 G) (sAtoms G) (by decide) ⟨by decide, by first | rfl | decide +kernel⟩ (by decide) (by decide) d26_4 (by decide) (by decide) (by first | exact Nat.le_of_ble_eq_true rfl | (simp; done) | (simp; omega)) (by first | exact Nat.le_of_ble_eq_true rfl | (simp; done) | (simp; omega)) ?_
    intro t pt K1
    exact Go.aret X d26_6 (by rfl) (by rfl) (by rfl) (by first | exact Nat.le_of_ble_eq_true rfl | (simp; done) | (simp; omega)) (by first | exact Nat.le_of_ble_eq_true rfl | (simp; done) | (simp; omega)) ⟨t, pt, [ro t (Lt Z pt), ro pt (Ar Z .byte K1 (bsOf []))], rfl, rfl, fun L' => Sx.lit⟩
  intro q
  have q : M0 ≠ 0 := fun z => (ccL (a := (M0 : Int)) (b := 0) q n1 rfl : ¬ (M0 : Int) = 0) (by omega)
  refine Go.new X (w237 G) (w9 G) (w10 G) (lay0 G) df0 d26_7 (by first | exact Nat.le_of_ble_eq_true rfl | (simp; done) | (simp; omega)) (by first | exact Nat.le_of_ble_eq_true rfl | (simp; done) | (simp; omega)) ?_
  intro t
  refine Go.dup X d26_10 rfl ?_
  refine Go.aloadN X d26_11 rfl rfl ?_
  refine Go.iloadN X d26_12 rfl ?_
  refine Go.iloadN X d26_13 rfl ?_
  refine Go.iloadN X d26_14 rfl ?_
  refine Go.iadd X d26_15 ?_
  rw [show (1 : Int32) + Int32.ofNat M0 = Int32.ofNat (1 + M0) from (Int32.ofNat_add 1 M0).symm]
  have r := r_copy l G (L := ow t (Ob Z "java/lang/String" ns0 [.null, .int 0]) :: L) (b := b) (vs := bsOf c1) (F := 1) (E := 1 + M0) (cap := 2) (List.mem_cons_of_mem _ hb') (by omega) (by rw [bs_len]; omega) (by omega) (by omega) (Or.inl (by omega))
  refine Go.callS X (r) (rest := [.ref t, .ref t]) (w238 G) (w223 G) (w224 G) (w225 G) (by decide) pd11 rfl rfl d26_16 rfl (by first | exact Nat.le_of_ble_eq_true rfl | (simp; done) | (simp; omega)) (by first | exact Nat.le_of_ble_eq_true rfl | (simp; done) | (simp; omega)) (by first | exact Nat.le_of_ble_eq_true rfl | (simp; done) | (simp; omega)) (by first | exact Nat.le_of_ble_eq_true rfl | (simp; done) | (simp; omega)) (Kv ?_)
  rintro v M ⟨pt, K', rfl, rfl⟩
  rw [bs_drop, show 1 + M0 - 1 = M0 by omega]
  refine Go.iconst X (v := 0) d26_19 (by decide) ?_
  refine Go.perm (L' := ow t (Ob Z "java/lang/String" ns0 [.null, .int 0]) :: ow pt (Ar Z .byte K' (bsOf ((c1.drop 1).take M0))) :: L) (List.Perm.swap _ _ _) ?_
  refine Go.callI X (s_initB l G (a := t) (b := pt)) rfl (rest := [.ref t]) (w239 G) (w240 G) (w10 G) (w241 G) (by decide) pd12 rfl rfl d26_20 rfl (by first | exact Nat.le_of_ble_eq_true rfl | (simp; done) | (simp; omega)) (by first | exact Nat.le_of_ble_eq_true rfl | (simp; done) | (simp; omega)) (by first | exact Nat.le_of_ble_eq_true rfl | (simp; done) | (simp; omega)) (by first | exact Nat.le_of_ble_eq_true rfl | (simp; done) | (simp; omega)) (K0 ?_)
  rintro M rfl
  exact Go.aret X d26_23 (by rfl) (by rfl) (by rfl) (by first | exact Nat.le_of_ble_eq_true rfl | (simp; done) | (simp; omega)) (by first | exact Nat.le_of_ble_eq_true rfl | (simp; done) | (simp; omega)) ⟨t, pt, [ow t (Ob Z "java/lang/String" ns0 [.ref pt, .int 0]), ow pt (Ar Z .byte K' (bsOf ((c1.drop 1).take M0)))], rfl, rfl, fun L' => ⟨⟨K', true, List.mem_of_getElem? (i := 1) rfl⟩, fun h H => ⟨H.exa (i := 0) rfl, H.fld (i := 0) rfl (j := 0) rfl rfl, H.fld (i := 0) rfl (j := 1) rfl rfl⟩⟩⟩
set_option maxRecDepth 65536 in
set_option maxHeartbeats 4000000 in
theorem s_cfti (l : Launch) {Z : State} {a0 : Array Value} (G : Gl a0 Z) {L : List Ent} {v3 : Value} (h3 : v3.category = 1) {E N : Nat} (h1 : 1 ≤ E) (h2 : E ≤ N) (hN : N < 2 ^ 31) : Ct WD EL0 l Z (⟨"jdk/internal/util/Preconditions", "checkFromToIndex", "(IIILjava/util/function/BiFunction;)I"⟩ : MethodName) jdk_41_method_12_code 4 (some .int) ({ frames := 0, cells := 0, slots := 0, locals := 0 } : Room) #[.int 1, .int (Int32.ofNat E), .int (Int32.ofNat N), v3] L (rvQ (fun v W => v = .int 1 ∧ W = L)) := by
  refine Ct.intro (by decide +kernel) G.2.1 ?_
  intro p e s m below meth c X
  replace X : Cx WD EL0 p Z s m meth c "jdk/internal/util/Preconditions" "checkFromToIndex" jdk_41_method_12_code 4 (some .int) := X
  refine Go.cast (g' := mkF m 0 #[.val (.int 1), .val (.int (Int32.ofNat E)), .val (.int (Int32.ofNat N)), .val v3] []) (by first | rfl | (cases v3 <;> first | rfl | (simp [Value.category] at h3; done)) | (simp [entryFrame, mkF, argsToLocals, Value.category, maxLocals]; done)) ?_
  obtain ⟨n1, n2, n3⟩ := nat32 (i := E) (by omega)
  obtain ⟨m1, m2, m3⟩ := nat32 (i := N) hN
  refine Go.iloadN X d24_0 rfl ?_
  refine Go.ifc X d24_1 (pt := 14) ⟨by decide, by decide⟩ ?_ ?_
  · intro q; exact absurd (show (1 : Int32) < 0 from q) (by decide)
  intro _
  refine Go.iloadN X d24_4 rfl ?_
  refine Go.iloadN X d24_5 rfl ?_
  refine Go.icmp X d24_6 (pt := 14) ⟨by decide, by decide⟩ ?_ ?_
  · intro q
    have q : (E : Int) < 1 := ccL (a := 1) (b := (E : Int)) q rfl n1
    omega
  intro _
  refine Go.iloadN X d24_9 rfl ?_
  refine Go.iloadN X d24_10 rfl ?_
  refine Go.icmp X d24_11 (pt := 22) ⟨by decide, by decide⟩ ?_ ?_
  rotate_left
  · intro q
    have q : ¬ (E : Int) ≤ N := ccN q n1 m1
    omega
  intro _
  refine Go.iloadN X d24_22 rfl ?_
  exact Go.iret X d24_23 (by first | exact Nat.le_of_ble_eq_true rfl | (simp; done) | (simp; omega)) (by first | exact Nat.le_of_ble_eq_true rfl | (simp; done) | (simp; omega)) ⟨rfl, rfl⟩
set_option maxRecDepth 65536 in
set_option maxHeartbeats 4000000 in
theorem s_cbbe (l : Launch) {Z : State} {a0 : Array Value} (G : Gl a0 Z) {L : List Ent} {E N : Nat} (h1 : 1 ≤ E) (h2 : E ≤ N) (hN : N < 2 ^ 31) : Ct WD EL0 l Z (⟨"java/lang/String", "checkBoundsBeginEnd", "(III)V"⟩ : MethodName) jdk_42_method_158_code 3 none ({ frames := 1, cells := 0, slots := 0, locals := 15 } : Room) #[.int 1, .int (Int32.ofNat E), .int (Int32.ofNat N)] L (r0Q (fun W => W = L)) := by
  refine Ct.intro (by decide +kernel) G.2.1 ?_
  intro p e s m below meth c X
  replace X : Cx WD EL0 p Z s m meth c "java/lang/String" "checkBoundsBeginEnd" jdk_42_method_158_code 3 none := X
  refine Go.cast (g' := mkF m 0 #[.val (.int 1), .val (.int (Int32.ofNat E)), .val (.int (Int32.ofNat N))] []) (by first | rfl | (simp [entryFrame, mkF, argsToLocals, Value.category, maxLocals]; done)) ?_
  obtain ⟨v3, h3, F3⟩ := g_sf G
  refine Go.iloadN X d23_0 rfl ?_
  refine Go.iloadN X d23_1 rfl ?_
  refine Go.iloadN X d23_2 rfl ?_
  refine Go.getSta X (w117 G) Via.refl F3 d23_3 ?_
  refine Go.callS X (s_cfti l G (v3 := v3) h3 h1 h2 hN) (rest := []) (w119 G) (w120 G) (w118 G) (w121 G) (by decide) pd13 rfl rfl d23_6 rfl (Nat.le_of_ble_eq_true rfl) (Nat.le_of_ble_eq_true rfl) (Nat.le_of_ble_eq_true rfl) (Nat.le_of_ble_eq_true rfl) (Kv ?_)
  rintro v W ⟨rfl, rfl⟩
  refine Go.pop X d23_9 rfl ?_
  exact Go.ret0 X d23_10 (by first | exact Nat.le_of_ble_eq_true rfl | (simp; done) | (simp; omega)) (by first | exact Nat.le_of_ble_eq_true rfl | (simp; done) | (simp; omega)) rfl
set_option maxRecDepth 65536 in
set_option maxHeartbeats 4000000 in
theorem s_sub (l : Launch) {Z : State} {a0 : Array Value} (G : Gl a0 Z) {L : List Ent} {a b : Addr} {c1 : List Nat} (hS : Sx Z L a b c1) (h2 : 2 ≤ c1.length) (h4 : c1.length ≤ 4) : Ct WD EL0 l Z (⟨"java/lang/String", "substring", "(II)Ljava/lang/String;"⟩ : MethodName) jdk_42_method_92_code 5 (some (.object "java/lang/String")) ({ frames := 4, cells := 2, slots := 6, locals := 64 } : Room) #[.ref a, .int 1, .int (Int32.ofNat (c1.length - 1))] L (rvQ (fun v M => ∃ t pt N, v = .ref t ∧ M = N ++ L ∧ ∀ L', Sx Z (N ++ L') t pt ((c1.drop 1).take (c1.length - 2)))) := by
  refine Ct.intro (by decide +kernel) G.2.1 ?_
  intro p e s m below meth c X
  replace X : Cx WD EL0 p Z s m meth c "java/lang/String" "substring" jdk_42_method_92_code 5 (some (.object "java/lang/String")) := X
  refine Go.cast (g' := mkF m 0 #[.val (.ref a), .val (.int 1), .val (.int (Int32.ofNat (c1.length - 1))), .unset, .unset] []) (by first | rfl | (simp [entryFrame, mkF, argsToLocals, Value.category, maxLocals]; done)) ?_
  obtain ⟨K1, f1, h1⟩ := hS.1
  have hM : c1.length < 2 ^ 31 := by omega
  refine Go.aloadN X d22_0 rfl rfl ?_
  refine Go.callV X (fun h H => (hS.2 h H).1) (s_length l G hS) (rest := []) (w96 G) (w35 G) (nfS (w37 G)) (w37 G) (w36 G) (w10 G) (w38 G) (by decide) pd6 rfl rfl d22_1 rfl (by first | exact Nat.le_of_ble_eq_true rfl | (simp; done) | (simp; omega)) (by first | exact Nat.le_of_ble_eq_true rfl | (simp; done) | (simp; omega)) (by first | exact Nat.le_of_ble_eq_true rfl | (simp; done) | (simp; omega)) (by first | exact Nat.le_of_ble_eq_true rfl | (simp; done) | (simp; omega)) (Kv ?_)
  rintro v M ⟨rfl, rfl⟩
  refine Go.istoreN X d22_4 rfl ?_
  refine Go.iloadN X d22_5 rfl ?_
  refine Go.iloadN X d22_6 rfl ?_
  refine Go.iloadN X d22_7 rfl ?_
  refine Go.callS X (s_cbbe l G (E := c1.length - 1) (N := c1.length) (by omega) (by omega) hM) (rest := []) (w114 G) (w115 G) (w10 G) (w116 G) (by decide) pd14 rfl rfl d22_8 rfl (by first | exact Nat.le_of_ble_eq_true rfl | (simp; done) | (simp; omega)) (by first | exact Nat.le_of_ble_eq_true rfl | (simp; done) | (simp; omega)) (by first | exact Nat.le_of_ble_eq_true rfl | (simp; done) | (simp; omega)) (by first | exact Nat.le_of_ble_eq_true rfl | (simp; done) | (simp; omega)) (K0 ?_)
  rintro M rfl
  refine Go.iloadN X d22_11 rfl ?_
  refine Go.ifc X d22_12 (pt := 22) ⟨by decide, by decide⟩ ?_ ?_
  rotate_left
  · intro q; exact absurd (show (1 : Int32) ≠ 0 by decide) q
  intro _
  refine Go.iloadN X d22_22 rfl ?_
  refine Go.iloadN X d22_23 rfl ?_
  refine Go.isub X d22_24 ?_
  rw [sub1 (n := c1.length - 1) (by omega) (by omega), show c1.length - 1 - 1 = c1.length - 2 by omega]
  refine Go.istore X d22_25 rfl ?_
  refine Go.aloadN X d22_27 rfl rfl ?_
  refine Go.callV X (fun h H => (hS.2 h H).1) (s_latin1 l G hS) (rest := []) (w122 G) (w123 G) (nfS (w125 G)) (w125 G) (w124 G) (w10 G) (w126 G) (by decide) pd15 rfl rfl d22_28 rfl (by first | exact Nat.le_of_ble_eq_true rfl | (simp; done) | (simp; omega)) (by first | exact Nat.le_of_ble_eq_true rfl | (simp; done) | (simp; omega)) (by first | exact Nat.le_of_ble_eq_true rfl | (simp; done) | (simp; omega)) (by first | exact Nat.le_of_ble_eq_true rfl | (simp; done) | (simp; omega)) (Kv ?_)
  rintro v M ⟨rfl, rfl⟩
  refine Go.ifc X d22_31 (pt := 47) ⟨by decide, by decide⟩ ?_ ?_
  · intro q; exact absurd (show (1 : Int32) = 0 from q) (by decide)
  intro _
  refine Go.aloadN X d22_34 rfl rfl ?_
  refine Go.getFld X (w28 G) Via.refl (fun h H => (hS.2 h H).2.1) d22_35 ?_
  refine Go.iloadN X d22_38 rfl ?_
  refine Go.iload X d22_39 rfl ?_
  refine Go.callS X (s_new1 l G (c1 := c1) (M0 := c1.length - 2) h1 (by omega) (by omega)) (rest := []) (w127 G) (w128 G) (w129 G) (w130 G) (by decide) pd16 rfl rfl d22_41 rfl (by first | exact Nat.le_of_ble_eq_true rfl | (simp; done) | (simp; omega)) (by first | exact Nat.le_of_ble_eq_true rfl | (simp; done) | (simp; omega)) (by first | exact Nat.le_of_ble_eq_true rfl | (simp; done) | (simp; omega)) (by first | exact Nat.le_of_ble_eq_true rfl | (simp; done) | (simp; omega)) (Kv ?_)
  rintro v M ⟨t, pt, N, rfl, rfl, hT⟩
  refine Go.goto X d22_44 (pt := 57) ⟨by decide, by decide⟩ ?_
  exact Go.aret X d22_57 (by rfl) (by rfl) (by rfl) (by first | exact Nat.le_of_ble_eq_true rfl | (simp; done) | (simp; omega)) (by first | exact Nat.le_of_ble_eq_true rfl | (simp; done) | (simp; omega)) ⟨t, pt, N, rfl, rfl, hT⟩
-- %%% builder
theorem w137 {a0 : Array Value} {Z : State} (G : Gl a0 Z) : (Jvm.Cond.instantiable "java/lang/StringBuilder" (4 : Nat)).before a0 Z = true := G.1 _ (List.mem_of_getElem? (i := 137) rfl)
theorem w142 {a0 : Array Value} {Z : State} (G : Gl a0 Z) : (Jvm.Cond.methodLink "java/lang/StringBuilder" (1 : Nat) ({ cls := "java/lang/AbstractStringBuilder", name := "<init>", desc := "(I)V" } : Jvm.MethodName)).before a0 Z = true := G.1 _ (List.mem_of_getElem? (i := 142) rfl)
theorem w143 {a0 : Array Value} {Z : State} (G : Gl a0 Z) : (Jvm.Cond.instanceMethod ({ cls := "java/lang/AbstractStringBuilder", name := "<init>", desc := "(I)V" } : Jvm.MethodName)).before a0 Z = true := G.1 _ (List.mem_of_getElem? (i := 143) rfl)
theorem w146 {a0 : Array Value} {Z : State} (G : Gl a0 Z) : (Jvm.Cond.initialized "java/lang/AbstractStringBuilder").before a0 Z = true := G.1 _ (List.mem_of_getElem? (i := 146) rfl)
theorem w147 {a0 : Array Value} {Z : State} (G : Gl a0 Z) : (Jvm.Cond.code ({ cls := "java/lang/AbstractStringBuilder", name := "<init>", desc := "(I)V" } : Jvm.MethodName) jdk_68_method_2_code (2 : Nat) (Option.none : Option Jvm.ClassFile.FieldType)).before a0 Z = true := G.1 _ (List.mem_of_getElem? (i := 147) rfl)
theorem w148 {a0 : Array Value} {Z : State} (G : Gl a0 Z) : (Jvm.Cond.methodLink "java/lang/AbstractStringBuilder" (3 : Nat) ({ cls := "java/lang/Object", name := "<init>", desc := "()V" } : Jvm.MethodName)).before a0 Z = true := G.1 _ (List.mem_of_getElem? (i := 148) rfl)
theorem w149 {a0 : Array Value} {Z : State} (G : Gl a0 Z) : (Jvm.Cond.fieldLink "java/lang/AbstractStringBuilder" (18 : Nat) "java/lang/String" "COMPACT_STRINGS" "Z").before a0 Z = true := G.1 _ (List.mem_of_getElem? (i := 149) rfl)
theorem w150 {a0 : Array Value} {Z : State} (G : Gl a0 Z) : (Jvm.Cond.fieldLink "java/lang/AbstractStringBuilder" (15 : Nat) "java/lang/AbstractStringBuilder" "value" "[B").before a0 Z = true := G.1 _ (List.mem_of_getElem? (i := 150) rfl)
theorem w151 {a0 : Array Value} {Z : State} (G : Gl a0 Z) : (Jvm.Cond.lays "java/lang/StringBuilder" "java/lang/AbstractStringBuilder" "value" "[B").before a0 Z = true := G.1 _ (List.mem_of_getElem? (i := 151) rfl)
theorem w152 {a0 : Array Value} {Z : State} (G : Gl a0 Z) : (Jvm.Cond.fieldLink "java/lang/AbstractStringBuilder" (22 : Nat) "java/lang/AbstractStringBuilder" "coder" "B").before a0 Z = true := G.1 _ (List.mem_of_getElem? (i := 152) rfl)
theorem w153 {a0 : Array Value} {Z : State} (G : Gl a0 Z) : (Jvm.Cond.lays "java/lang/StringBuilder" "java/lang/AbstractStringBuilder" "coder" "B").before a0 Z = true := G.1 _ (List.mem_of_getElem? (i := 153) rfl)
theorem w182 {a0 : Array Value} {Z : State} (G : Gl a0 Z) : (Jvm.Cond.methodLink "java/lang/AbstractStringBuilder" (40 : Nat) ({ cls := "java/lang/String", name := "coder", desc := "()B" } : Jvm.MethodName)).before a0 Z = true := G.1 _ (List.mem_of_getElem? (i := 182) rfl)
theorem w188 {a0 : Array Value} {Z : State} (G : Gl a0 Z) : (Jvm.Cond.methodLink "java/lang/String" (212 : Nat) ({ cls := "java/lang/System", name := "arraycopy", desc := "(Ljava/lang/Object;ILjava/lang/Object;II)V" } : Jvm.MethodName)).before a0 Z = true := G.1 _ (List.mem_of_getElem? (i := 188) rfl)
theorem d28_0 : D1 jdk_67_method_1_code 0 (.aload_n 0) 1 1 := ⟨by decide +kernel, rfl⟩
theorem d28_1 : D1 jdk_67_method_1_code 1 (.bipush 16) 2 3 := ⟨by decide +kernel, rfl⟩
theorem d28_3 : D1 jdk_67_method_1_code 3 (.invokespecial 1) 3 6 := ⟨by decide +kernel, rfl⟩
theorem d28_6 : D1 jdk_67_method_1_code 6 (.return_) 1 7 := ⟨by decide +kernel, rfl⟩
theorem d29_0 : D1 jdk_68_method_2_code 0 (.aload_n 0) 1 1 := ⟨by decide +kernel, rfl⟩
theorem d29_1 : D1 jdk_68_method_2_code 1 (.invokespecial 3) 3 4 := ⟨by decide +kernel, rfl⟩
theorem d29_4 : D1 jdk_68_method_2_code 4 (.getstatic 18) 3 7 := ⟨by decide +kernel, rfl⟩
theorem d29_7 : D1 jdk_68_method_2_code 7 (.ifCond .eq 18) 3 10 := ⟨by decide +kernel, rfl⟩
theorem d29_10 : D1 jdk_68_method_2_code 10 (.aload_n 0) 1 11 := ⟨by decide +kernel, rfl⟩
theorem d29_11 : D1 jdk_68_method_2_code 11 (.iload_n 1) 1 12 := ⟨by decide +kernel, rfl⟩
theorem d29_12 : D1 jdk_68_method_2_code 12 (.newarray .byte) 2 14 := ⟨by decide +kernel, rfl⟩
theorem d29_14 : D1 jdk_68_method_2_code 14 (.putfield 15) 3 17 := ⟨by decide +kernel, rfl⟩
theorem d29_17 : D1 jdk_68_method_2_code 17 (.aload_n 0) 1 18 := ⟨by decide +kernel, rfl⟩
theorem d29_18 : D1 jdk_68_method_2_code 18 (.iconst 0) 1 19 := ⟨by decide +kernel, rfl⟩
theorem d29_19 : D1 jdk_68_method_2_code 19 (.putfield 22) 3 22 := ⟨by decide +kernel, rfl⟩
theorem d29_22 : D1 jdk_68_method_2_code 22 (.goto 16) 3 25 := ⟨by decide +kernel, rfl⟩
theorem d29_38 : D1 jdk_68_method_2_code 38 (.return_) 1 39 := ⟨by decide +kernel, rfl⟩
theorem d32_0 : D1 jdk_68_method_9_code 0 (.aload_n 0) 1 1 := ⟨by decide +kernel, rfl⟩
theorem d32_1 : D1 jdk_68_method_9_code 1 (.getfield 15) 3 4 := ⟨by decide +kernel, rfl⟩
theorem d32_4 : D1 jdk_68_method_9_code 4 (.arraylength) 1 5 := ⟨by decide +kernel, rfl⟩
theorem d32_5 : D1 jdk_68_method_9_code 5 (.aload_n 0) 1 6 := ⟨by decide +kernel, rfl⟩
theorem d32_6 : D1 jdk_68_method_9_code 6 (.getfield 22) 3 9 := ⟨by decide +kernel, rfl⟩
theorem d32_9 : D1 jdk_68_method_9_code 9 (.ishr) 1 10 := ⟨by decide +kernel, rfl⟩
theorem d32_10 : D1 jdk_68_method_9_code 10 (.istore_n 2) 1 11 := ⟨by decide +kernel, rfl⟩
theorem d32_11 : D1 jdk_68_method_9_code 11 (.iload_n 1) 1 12 := ⟨by decide +kernel, rfl⟩
theorem d32_12 : D1 jdk_68_method_9_code 12 (.iload_n 2) 1 13 := ⟨by decide +kernel, rfl⟩
theorem d32_13 : D1 jdk_68_method_9_code 13 (.isub) 1 14 := ⟨by decide +kernel, rfl⟩
theorem d32_14 : D1 jdk_68_method_9_code 14 (.ifCond .le 24) 3 17 := ⟨by decide +kernel, rfl⟩
theorem d32_38 : D1 jdk_68_method_9_code 38 (.return_) 1 39 := ⟨by decide +kernel, rfl⟩
theorem d34_0 : D1 jdk_68_method_71_code 0 (.getstatic 18) 3 3 := ⟨by decide +kernel, rfl⟩
theorem d34_3 : D1 jdk_68_method_71_code 3 (.ifCond .eq 18) 3 6 := ⟨by decide +kernel, rfl⟩
theorem d34_6 : D1 jdk_68_method_71_code 6 (.aload_n 0) 1 7 := ⟨by decide +kernel, rfl⟩
theorem d34_7 : D1 jdk_68_method_71_code 7 (.getfield 22) 3 10 := ⟨by decide +kernel, rfl⟩
theorem d34_10 : D1 jdk_68_method_71_code 10 (.aload_n 1) 1 11 := ⟨by decide +kernel, rfl⟩
theorem d34_11 : D1 jdk_68_method_71_code 11 (.invokevirtual 40) 3 14 := ⟨by decide +kernel, rfl⟩
theorem d34_14 : D1 jdk_68_method_71_code 14 (.if_icmp .eq 7) 3 17 := ⟨by decide +kernel, rfl⟩
theorem d34_21 : D1 jdk_68_method_71_code 21 (.return_) 1 22 := ⟨by decide +kernel, rfl⟩
theorem d35_0 : D1 jdk_42_method_147_code 0 (.aload_n 0) 1 1 := ⟨by decide +kernel, rfl⟩
theorem d35_1 : D1 jdk_42_method_147_code 1 (.invokevirtual 335) 3 4 := ⟨by decide +kernel, rfl⟩
theorem d35_4 : D1 jdk_42_method_147_code 4 (.iload_n 3) 1 5 := ⟨by decide +kernel, rfl⟩
theorem d35_5 : D1 jdk_42_method_147_code 5 (.if_icmp .ne 23) 3 8 := ⟨by decide +kernel, rfl⟩
theorem d35_8 : D1 jdk_42_method_147_code 8 (.aload_n 0) 1 9 := ⟨by decide +kernel, rfl⟩
theorem d35_9 : D1 jdk_42_method_147_code 9 (.getfield 9) 3 12 := ⟨by decide +kernel, rfl⟩
theorem d35_12 : D1 jdk_42_method_147_code 12 (.iconst 0) 1 13 := ⟨by decide +kernel, rfl⟩
theorem d35_13 : D1 jdk_42_method_147_code 13 (.aload_n 1) 1 14 := ⟨by decide +kernel, rfl⟩
theorem d35_14 : D1 jdk_42_method_147_code 14 (.iload_n 2) 1 15 := ⟨by decide +kernel, rfl⟩
theorem d35_15 : D1 jdk_42_method_147_code 15 (.iload_n 3) 1 16 := ⟨by decide +kernel, rfl⟩
theorem d35_16 : D1 jdk_42_method_147_code 16 (.ishl) 1 17 := ⟨by decide +kernel, rfl⟩
theorem d35_17 : D1 jdk_42_method_147_code 17 (.aload_n 0) 1 18 := ⟨by decide +kernel, rfl⟩
theorem d35_18 : D1 jdk_42_method_147_code 18 (.getfield 9) 3 21 := ⟨by decide +kernel, rfl⟩
theorem d35_21 : D1 jdk_42_method_147_code 21 (.arraylength) 1 22 := ⟨by decide +kernel, rfl⟩
theorem d35_22 : D1 jdk_42_method_147_code 22 (.invokestatic 212) 3 25 := ⟨by decide +kernel, rfl⟩
theorem d35_25 : D1 jdk_42_method_147_code 25 (.goto 18) 3 28 := ⟨by decide +kernel, rfl⟩
theorem d35_43 : D1 jdk_42_method_147_code 43 (.return_) 1 44 := ⟨by decide +kernel, rfl⟩
def ns1 : List Nm := [("java/lang/AbstractStringBuilder", "value", "[B"), ("java/lang/AbstractStringBuilder", "coder", "B"), ("java/lang/AbstractStringBuilder", "count", "I")]
theorem lay1 {a0 : Array Value} {Z : State} (G : Gl a0 Z) : LayC Z a0 "java/lang/StringBuilder" ns1 := LayC.of (fun q hq => by
  simp only [ns1, List.mem_cons, List.not_mem_nil, or_false] at hq
  rcases hq with rfl | rfl | rfl
  · exact Or.inl (G.1 _ (List.mem_of_getElem? (i := 151) rfl))
  · exact Or.inl (G.1 _ (List.mem_of_getElem? (i := 153) rfl))
  · exact Or.inl (G.1 _ (List.mem_of_getElem? (i := 166) rfl))) (by decide +kernel) (fun q hq => by
  simp only [ns1, List.mem_cons, List.not_mem_nil, or_false] at hq
  rcases hq with rfl | rfl | rfl
  · exact ⟨(.array .byte), by decide +kernel⟩
  · exact ⟨.byte, by decide +kernel⟩
  · exact ⟨.int, by decide +kernel⟩)
theorem df1 : dfl ns1 = ([.null, .int 0, .int 0] : List Value).map some := by decide +kernel
theorem pd17 : parseMethodDescriptor "(I)V" = some ⟨[.int], none⟩ := by decide +kernel
set_option maxRecDepth 65536 in
set_option maxHeartbeats 4000000 in
theorem b_init1 (l : Launch) {Z : State} {a0 : Array Value} (G : Gl a0 Z) {L : List Ent} {a : Addr} : Ct WD EL0 l Z (⟨"java/lang/AbstractStringBuilder", "<init>", "(I)V"⟩ : MethodName) jdk_68_method_2_code 2 none ({ frames := 1, cells := 1, slots := 16, locals := 12 } : Room) #[.ref a, .int 16] (ow a (Ob Z "java/lang/StringBuilder" ns1 [.null, .int 0, .int 0]) :: L) (r0Q (fun M => ∃ vb K, M = ow vb (Ar Z .byte K (List.replicate 16 (.int 0))) :: ow a (Ob Z "java/lang/StringBuilder" ns1 [.ref vb, .int 0, .int 0]) :: L)) := by
  refine Ct.intro (by decide +kernel) G.2.1 ?_
  intro p e s m below meth c X
  replace X : Cx WD EL0 p Z s m meth c "java/lang/AbstractStringBuilder" "<init>" jdk_68_method_2_code 2 none := X
  refine Go.cast (g' := mkF m 0 #[.val (.ref a), .val (.int 16)] []) (by first | rfl | (simp [entryFrame, mkF, argsToLocals, Value.category, maxLocals]; done)) ?_
  refine Go.aloadN X d29_0 rfl rfl ?_
  refine Go.initObj X (w148 G) (w20 G) (w21 G) d29_1 rfl (Nat.le_of_ble_eq_true rfl) (Nat.le_of_ble_eq_true rfl) ?_
  obtain ⟨cst, hcst, Fcst⟩ := g_cs G
  refine Go.getSta X (w149 G) Via.refl Fcst d29_4 ?_
  refine Go.ifc X d29_7 (pt := 25) ⟨by decide, by decide⟩ ?_ ?_
  · intro q; exact absurd q hcst
  intro _
  refine Go.aloadN X d29_10 rfl rfl ?_
  refine Go.iloadN X d29_11 rfl ?_
  refine Go.newarr X (aty := .byte) (N := 16) (cap := 16) (w23 G) (by decide) (by decide) (by decide) (by decide) d29_12 (by first | exact Nat.le_of_ble_eq_true rfl | (simp; done) | (simp; omega)) (by first | exact Nat.le_of_ble_eq_true rfl | (simp; done) | (simp; omega)) ?_
  intro vb K
  refine Go.putFld X (i := 1) rfl (j := 0) rfl (lay1 G) (w150 G) Via.refl (Or.inl (w151 G)) (w137 G) pf0 d29_14 (by rfl) (by rfl) ?_
  refine Go.aloadN X d29_17 rfl rfl ?_
  refine Go.iconst X (v := 0) d29_18 (by decide) ?_
  refine Go.putFld X (i := 1) rfl (j := 1) rfl (lay1 G) (w152 G) Via.refl (Or.inl (w153 G)) (w137 G) pf1 d29_19 (by rfl) (by rfl) ?_
  refine Go.goto X d29_22 (pt := 38) ⟨by decide, by decide⟩ ?_
  exact Go.ret0 X d29_38 (by first | exact Nat.le_of_ble_eq_true rfl | (simp; done) | (simp; omega)) (by first | exact Nat.le_of_ble_eq_true rfl | (simp; done) | (simp; omega)) ⟨vb, K, rfl⟩
set_option maxRecDepth 65536 in
set_option maxHeartbeats 4000000 in
theorem b_init (l : Launch) {Z : State} {a0 : Array Value} (G : Gl a0 Z) {L : List Ent} {a : Addr} : Ct WD EL0 l Z (⟨"java/lang/StringBuilder", "<init>", "()V"⟩ : MethodName) jdk_67_method_1_code 1 none ({ frames := 2, cells := 1, slots := 16, locals := 25 } : Room) #[.ref a] (ow a (Ob Z "java/lang/StringBuilder" ns1 [.null, .int 0, .int 0]) :: L) (r0Q (fun M => ∃ vb K, M = ow vb (Ar Z .byte K (List.replicate 16 (.int 0))) :: ow a (Ob Z "java/lang/StringBuilder" ns1 [.ref vb, .int 0, .int 0]) :: L)) := by
  refine Ct.intro (by decide +kernel) G.2.1 ?_
  intro p e s m below meth c X
  replace X : Cx WD EL0 p Z s m meth c "java/lang/StringBuilder" "<init>" jdk_67_method_1_code 1 none := X
  refine Go.cast (g' := mkF m 0 #[.val (.ref a)] []) (by first | rfl | (simp [entryFrame, mkF, argsToLocals, Value.category, maxLocals]; done)) ?_
  refine Go.aloadN X d28_0 rfl rfl ?_
  refine Go.bipush X (v := 16) d28_1 (by decide) ?_
  refine Go.callI X (b_init1 l G (a := a)) rfl (rest := []) (w142 G) (w143 G) (w146 G) (w147 G) (by decide) pd17 rfl rfl d28_3 rfl (by first | exact Nat.le_of_ble_eq_true rfl | (simp; done) | (simp; omega)) (by first | exact Nat.le_of_ble_eq_true rfl | (simp; done) | (simp; omega)) (by first | exact Nat.le_of_ble_eq_true rfl | (simp; done) | (simp; omega)) (by first | exact Nat.le_of_ble_eq_true rfl | (simp; done) | (simp; omega)) (K0 ?_)
  rintro M ⟨vb, K, rfl⟩
  exact Go.ret0 X d28_6 (by first | exact Nat.le_of_ble_eq_true rfl | (simp; done) | (simp; omega)) (by first | exact Nat.le_of_ble_eq_true rfl | (simp; done) | (simp; omega)) ⟨vb, K, rfl⟩
theorem cap_ok : ∀ k : Nat, k < 17 → Int32.ofNat k - 16 ≤ 0 := by decide +kernel
set_option maxRecDepth 65536 in
set_option maxHeartbeats 4000000 in
theorem b_ens (l : Launch) {Z : State} {a0 : Array Value} (G : Gl a0 Z) {L : List Ent} {sb vb : Addr} {K : ClassId} {t : List Nat} (ht : t.length ≤ 16) (k : Nat) (hk : k < 17) : Ct WD EL0 l Z (⟨"java/lang/AbstractStringBuilder", "ensureCapacityInternal", "(I)V"⟩ : MethodName) jdk_68_method_9_code 3 none ({ frames := 0, cells := 0, slots := 0, locals := 0 } : Room) #[.ref sb, .int (Int32.ofNat k)] (ow sb (Ob Z "java/lang/StringBuilder" ns1 [.ref vb, .int 0, .int (Int32.ofNat t.length)]) :: ow vb (Ar Z .byte K (bsOf t ++ List.replicate (16 - t.length) (.int 0))) :: L) (r0Q (fun M => M = (ow sb (Ob Z "java/lang/StringBuilder" ns1 [.ref vb, .int 0, .int (Int32.ofNat t.length)]) :: ow vb (Ar Z .byte K (bsOf t ++ List.replicate (16 - t.length) (.int 0))) :: L))) := by
  refine Ct.intro (by decide +kernel) G.2.1 ?_
  intro p e s m below meth c X
  replace X : Cx WD EL0 p Z s m meth c "java/lang/AbstractStringBuilder" "ensureCapacityInternal" jdk_68_method_9_code 3 none := X
  refine Go.cast (g' := mkF m 0 #[.val (.ref sb), .val (.int (Int32.ofNat k)), .unset] []) (by first | rfl | (simp [entryFrame, mkF, argsToLocals, Value.category, maxLocals]; done)) ?_
  refine Go.aloadN X d32_0 rfl rfl ?_
  refine Go.getFld X (w150 G) Via.refl (fun h H => H.fld (i := 0) rfl (j := 0) rfl rfl) d32_1 ?_
  refine Go.alenA X (fun h H => H.len (i := 1) rfl) d32_4 ?_
  refine Go.aloadN X d32_5 rfl rfl ?_
  refine Go.getFld X (w152 G) Via.refl (fun h H => H.fld (i := 0) rfl (j := 1) rfl rfl) d32_6 ?_
  refine Go.ishr X d32_9 ?_
  rw [shr0, show (bsOf t ++ List.replicate (16 - t.length) (Value.int 0)).length.toInt32 = 16 from by rw [List.length_append, bs_len, List.length_replicate, show t.length + (16 - t.length) = 16 by omega]; rfl]
  refine Go.istoreN X d32_10 rfl ?_
  refine Go.iloadN X d32_11 rfl ?_
  refine Go.iloadN X d32_12 rfl ?_
  refine Go.isub X d32_13 ?_
  refine Go.ifc X d32_14 (pt := 38) ⟨by decide, by decide⟩ ?_ ?_
  rotate_left
  · intro q; exact absurd (cap_ok k hk) q
  intro _
  exact Go.ret0 X d32_38 (by first | exact Nat.le_of_ble_eq_true rfl | (simp; done) | (simp; omega)) (by first | exact Nat.le_of_ble_eq_true rfl | (simp; done) | (simp; omega)) rfl
set_option maxRecDepth 65536 in
set_option maxHeartbeats 4000000 in
theorem b_infl (l : Launch) {Z : State} {a0 : Array Value} (G : Gl a0 Z) {L : List Ent} {sb vb a b : Addr} {K : ClassId} {t u : List Nat} (hS : Sx Z L a b u) : Ct WD EL0 l Z (⟨"java/lang/AbstractStringBuilder", "inflateIfNeededFor", "(Ljava/lang/String;)V"⟩ : MethodName) jdk_68_method_71_code 2 none ({ frames := 1, cells := 0, slots := 0, locals := 13 } : Room) #[.ref sb, .ref a] (ow sb (Ob Z "java/lang/StringBuilder" ns1 [.ref vb, .int 0, .int (Int32.ofNat t.length)]) :: ow vb (Ar Z .byte K (bsOf t ++ List.replicate (16 - t.length) (.int 0))) :: L) (r0Q (fun M => M = (ow sb (Ob Z "java/lang/StringBuilder" ns1 [.ref vb, .int 0, .int (Int32.ofNat t.length)]) :: ow vb (Ar Z .byte K (bsOf t ++ List.replicate (16 - t.length) (.int 0))) :: L))) := by
  refine Ct.intro (by decide +kernel) G.2.1 ?_
  intro p e s m below meth c X
  replace X : Cx WD EL0 p Z s m meth c "java/lang/AbstractStringBuilder" "inflateIfNeededFor" jdk_68_method_71_code 2 none := X
  refine Go.cast (g' := mkF m 0 #[.val (.ref sb), .val (.ref a)] []) (by first | rfl | (simp [entryFrame, mkF, argsToLocals, Value.category, maxLocals]; done)) ?_
  obtain ⟨cst, hcst, Fcst⟩ := g_cs G
  refine Go.getSta X (w149 G) Via.refl Fcst d34_0 ?_
  refine Go.ifc X d34_3 (pt := 21) ⟨by decide, by decide⟩ ?_ ?_
  · intro q; exact absurd q hcst
  intro _
  refine Go.aloadN X d34_6 rfl rfl ?_
  refine Go.getFld X (w152 G) Via.refl (fun h H => H.fld (i := 0) rfl (j := 1) rfl rfl) d34_7 ?_
  refine Go.aloadN X d34_10 rfl rfl ?_
  refine Go.callV X (fun h H => (hS.up.up.2 h H).1) (s_coder l G hS.up.up) (rest := [.int 0]) (w182 G) (w40 G) (nfS (w42 G)) (w42 G) (w41 G) (w10 G) (w43 G) (by decide) pd0 rfl rfl d34_11 rfl (by first | exact Nat.le_of_ble_eq_true rfl | (simp; done) | (simp; omega)) (by first | exact Nat.le_of_ble_eq_true rfl | (simp; done) | (simp; omega)) (by first | exact Nat.le_of_ble_eq_true rfl | (simp; done) | (simp; omega)) (by first | exact Nat.le_of_ble_eq_true rfl | (simp; done) | (simp; omega)) (Kv ?_)
  rintro v M ⟨rfl, rfl⟩
  refine Go.icmp X d34_14 (pt := 21) ⟨by decide, by decide⟩ ?_ ?_
  rotate_left
  · intro q; exact absurd rfl q
  intro _
  exact Go.ret0 X d34_21 (by first | exact Nat.le_of_ble_eq_true rfl | (simp; done) | (simp; omega)) (by first | exact Nat.le_of_ble_eq_true rfl | (simp; done) | (simp; omega)) rfl
set_option maxRecDepth 65536 in
set_option maxHeartbeats 4000000 in
theorem b_getB (l : Launch) {Z : State} {a0 : Array Value} (G : Gl a0 Z) {L : List Ent} {vb a b : Addr} {K : ClassId} {t u : List Nat} (hS : Sx Z L a b u) (htu : t.length + u.length ≤ 16) : Ct WD EL0 l Z (⟨"java/lang/String", "getBytes", "([BIB)V"⟩ : MethodName) jdk_42_method_147_code 4 none ({ frames := 1, cells := 0, slots := 0, locals := 18 } : Room) #[.ref a, .ref vb, .int (Int32.ofNat t.length), .int 0] (ow vb (Ar Z .byte K (bsOf t ++ List.replicate (16 - t.length) (.int 0))) :: L) (r0Q (fun M => M = (ow vb (Ar Z .byte K (bsOf (t ++ u) ++ List.replicate (16 - (t ++ u).length) (.int 0))) :: L))) := by
  refine Ct.intro (by decide +kernel) G.2.1 ?_
  intro p e s m below meth c X
  replace X : Cx WD EL0 p Z s m meth c "java/lang/String" "getBytes" jdk_42_method_147_code 4 none := X
  refine Go.cast (g' := mkF m 0 #[.val (.ref a), .val (.ref vb), .val (.int (Int32.ofNat t.length)), .val (.int 0)] []) (by first | rfl | (simp [entryFrame, mkF, argsToLocals, Value.category, maxLocals]; done)) ?_
  obtain ⟨K1, f1, h1⟩ := hS.1
  refine Go.fact (fun h H => len_small H (List.mem_cons_of_mem _ h1)) fun hM => ?_
  rw [bs_len] at hM
  obtain ⟨n1, n2, n3⟩ := nat32 (i := t.length) (by omega)
  obtain ⟨m1, m2, m3⟩ := nat32 (i := u.length) hM
  refine Go.aloadN X d35_0 rfl rfl ?_
  refine Go.callV X (fun h H => (hS.up.2 h H).1) (s_coder l G hS.up) (rest := []) (w39 G) (w40 G) (nfS (w42 G)) (w42 G) (w41 G) (w10 G) (w43 G) (by decide) pd0 rfl rfl d35_1 rfl (by first | exact Nat.le_of_ble_eq_true rfl | (simp; done) | (simp; omega)) (by first | exact Nat.le_of_ble_eq_true rfl | (simp; done) | (simp; omega)) (by first | exact Nat.le_of_ble_eq_true rfl | (simp; done) | (simp; omega)) (by first | exact Nat.le_of_ble_eq_true rfl | (simp; done) | (simp; omega)) (Kv ?_)
  rintro v M ⟨rfl, rfl⟩
  refine Go.iloadN X d35_4 rfl ?_
  refine Go.icmp X d35_5 (pt := 28) ⟨by decide, by decide⟩ ?_ ?_
  · intro q; exact absurd rfl q
  intro _
  refine Go.aloadN X d35_8 rfl rfl ?_
  refine Go.getFld X (w28 G) Via.refl (fun h H => (hS.up.2 h H).2.1) d35_9 ?_
  refine Go.iconst X (v := 0) d35_12 (by decide) ?_
  refine Go.aloadN X d35_13 rfl rfl ?_
  refine Go.iloadN X d35_14 rfl ?_
  refine Go.iloadN X d35_15 rfl ?_
  refine Go.ishl X d35_16 ?_
  rw [shl0]
  refine Go.aloadN X d35_17 rfl rfl ?_
  refine Go.getFld X (w28 G) Via.refl (fun h H => (hS.up.2 h H).2.1) d35_18 ?_
  refine Go.alenA X (fun h H => H.lenM (List.mem_cons_of_mem _ h1)) d35_21 ?_
  rw [bs_len]
  refine Go.acopy X (w188 G) (w191 G) (w189 G) (w190 G) (j := 0) (sN := 0) (dN := t.length) (nN := u.length) (r := bsOf (t ++ u) ++ List.replicate (16 - (t ++ u).length) (.int 0)) rfl (List.mem_cons_of_mem _ h1) rfl (by decide) n2 m2 rfl n3 m3 (by rw [bs_len]; omega) (by simp [bs_len]; omega) (by
    have e := drop_range (vs := bsOf u) (F := 0) (N := u.length) (by rw [bs_len]; omega)
    rw [List.drop_zero, List.take_of_length_le (by rw [bs_len]; exact Nat.le_refl _)] at e
    rw [e]; exact app_copy htu) d35_22 rfl (by first | exact Nat.le_of_ble_eq_true rfl | (simp; done) | (simp; omega)) (by first | exact Nat.le_of_ble_eq_true rfl | (simp; done) | (simp; omega)) ?_
  refine Go.goto X d35_25 (pt := 43) ⟨by decide, by decide⟩ ?_
  exact Go.ret0 X d35_43 (by first | exact Nat.le_of_ble_eq_true rfl | (simp; done) | (simp; omega)) (by first | exact Nat.le_of_ble_eq_true rfl | (simp; done) | (simp; omega)) rfl
-- %%% append
theorem w159 {a0 : Array Value} {Z : State} (G : Gl a0 Z) : (Jvm.Cond.methodLink "java/lang/StringBuilder" (29 : Nat) ({ cls := "java/lang/AbstractStringBuilder", name := "append", desc := "(Ljava/lang/String;)Ljava/lang/AbstractStringBuilder;" } : Jvm.MethodName)).before a0 Z = true := G.1 _ (List.mem_of_getElem? (i := 159) rfl)
theorem w160 {a0 : Array Value} {Z : State} (G : Gl a0 Z) : (Jvm.Cond.instanceMethod ({ cls := "java/lang/AbstractStringBuilder", name := "append", desc := "(Ljava/lang/String;)Ljava/lang/AbstractStringBuilder;" } : Jvm.MethodName)).before a0 Z = true := G.1 _ (List.mem_of_getElem? (i := 160) rfl)
theorem w161 {a0 : Array Value} {Z : State} (G : Gl a0 Z) : (Jvm.Cond.superclass "java/lang/StringBuilder" "java/lang/AbstractStringBuilder").before a0 Z = true := G.1 _ (List.mem_of_getElem? (i := 161) rfl)
theorem w163 {a0 : Array Value} {Z : State} (G : Gl a0 Z) : (Jvm.Cond.code ({ cls := "java/lang/AbstractStringBuilder", name := "append", desc := "(Ljava/lang/String;)Ljava/lang/AbstractStringBuilder;" } : Jvm.MethodName) jdk_68_method_22_code (3 : Nat) (Option.some (Jvm.ClassFile.FieldType.object "java/lang/AbstractStringBuilder"))).before a0 Z = true := G.1 _ (List.mem_of_getElem? (i := 163) rfl)
theorem w164 {a0 : Array Value} {Z : State} (G : Gl a0 Z) : (Jvm.Cond.methodLink "java/lang/AbstractStringBuilder" (32 : Nat) ({ cls := "java/lang/String", name := "length", desc := "()I" } : Jvm.MethodName)).before a0 Z = true := G.1 _ (List.mem_of_getElem? (i := 164) rfl)
theorem w165 {a0 : Array Value} {Z : State} (G : Gl a0 Z) : (Jvm.Cond.fieldLink "java/lang/AbstractStringBuilder" (79 : Nat) "java/lang/AbstractStringBuilder" "count" "I").before a0 Z = true := G.1 _ (List.mem_of_getElem? (i := 165) rfl)
theorem w166 {a0 : Array Value} {Z : State} (G : Gl a0 Z) : (Jvm.Cond.lays "java/lang/StringBuilder" "java/lang/AbstractStringBuilder" "count" "I").before a0 Z = true := G.1 _ (List.mem_of_getElem? (i := 166) rfl)
theorem w167 {a0 : Array Value} {Z : State} (G : Gl a0 Z) : (Jvm.Cond.methodLink "java/lang/AbstractStringBuilder" (100 : Nat) ({ cls := "java/lang/AbstractStringBuilder", name := "ensureCapacityInternal", desc := "(I)V" } : Jvm.MethodName)).before a0 Z = true := G.1 _ (List.mem_of_getElem? (i := 167) rfl)
theorem w168 {a0 : Array Value} {Z : State} (G : Gl a0 Z) : (Jvm.Cond.instanceMethod ({ cls := "java/lang/AbstractStringBuilder", name := "ensureCapacityInternal", desc := "(I)V" } : Jvm.MethodName)).before a0 Z = true := G.1 _ (List.mem_of_getElem? (i := 168) rfl)
theorem w169 {a0 : Array Value} {Z : State} (G : Gl a0 Z) : (Jvm.Cond.privateMethod ({ cls := "java/lang/AbstractStringBuilder", name := "ensureCapacityInternal", desc := "(I)V" } : Jvm.MethodName)).before a0 Z = true := G.1 _ (List.mem_of_getElem? (i := 169) rfl)
theorem w170 {a0 : Array Value} {Z : State} (G : Gl a0 Z) : (Jvm.Cond.selects "java/lang/StringBuilder" ({ cls := "java/lang/AbstractStringBuilder", name := "ensureCapacityInternal", desc := "(I)V" } : Jvm.MethodName) ({ cls := "java/lang/AbstractStringBuilder", name := "ensureCapacityInternal", desc := "(I)V" } : Jvm.MethodName)).before a0 Z = true := G.1 _ (List.mem_of_getElem? (i := 170) rfl)
theorem w171 {a0 : Array Value} {Z : State} (G : Gl a0 Z) : (Jvm.Cond.code ({ cls := "java/lang/AbstractStringBuilder", name := "ensureCapacityInternal", desc := "(I)V" } : Jvm.MethodName) jdk_68_method_9_code (3 : Nat) (Option.none : Option Jvm.ClassFile.FieldType)).before a0 Z = true := G.1 _ (List.mem_of_getElem? (i := 171) rfl)
theorem w172 {a0 : Array Value} {Z : State} (G : Gl a0 Z) : (Jvm.Cond.methodLink "java/lang/AbstractStringBuilder" (208 : Nat) ({ cls := "java/lang/AbstractStringBuilder", name := "putStringAt", desc := "(ILjava/lang/String;)V" } : Jvm.MethodName)).before a0 Z = true := G.1 _ (List.mem_of_getElem? (i := 172) rfl)
theorem w173 {a0 : Array Value} {Z : State} (G : Gl a0 Z) : (Jvm.Cond.instanceMethod ({ cls := "java/lang/AbstractStringBuilder", name := "putStringAt", desc := "(ILjava/lang/String;)V" } : Jvm.MethodName)).before a0 Z = true := G.1 _ (List.mem_of_getElem? (i := 173) rfl)
theorem w174 {a0 : Array Value} {Z : State} (G : Gl a0 Z) : (Jvm.Cond.privateMethod ({ cls := "java/lang/AbstractStringBuilder", name := "putStringAt", desc := "(ILjava/lang/String;)V" } : Jvm.MethodName)).before a0 Z = true := G.1 _ (List.mem_of_getElem? (i := 174) rfl)
theorem w175 {a0 : Array Value} {Z : State} (G : Gl a0 Z) : (Jvm.Cond.selects "java/lang/StringBuilder" ({ cls := "java/lang/AbstractStringBuilder", name := "putStringAt", desc := "(ILjava/lang/String;)V" } : Jvm.MethodName) ({ cls := "java/lang/AbstractStringBuilder", name := "putStringAt", desc := "(ILjava/lang/String;)V" } : Jvm.MethodName)).before a0 Z = true := G.1 _ (List.mem_of_getElem? (i := 175) rfl)
theorem w176 {a0 : Array Value} {Z : State} (G : Gl a0 Z) : (Jvm.Cond.code ({ cls := "java/lang/AbstractStringBuilder", name := "putStringAt", desc := "(ILjava/lang/String;)V" } : Jvm.MethodName) jdk_68_method_73_code (3 : Nat) (Option.none : Option Jvm.ClassFile.FieldType)).before a0 Z = true := G.1 _ (List.mem_of_getElem? (i := 176) rfl)
theorem w177 {a0 : Array Value} {Z : State} (G : Gl a0 Z) : (Jvm.Cond.methodLink "java/lang/AbstractStringBuilder" (397 : Nat) ({ cls := "java/lang/AbstractStringBuilder", name := "inflateIfNeededFor", desc := "(Ljava/lang/String;)V" } : Jvm.MethodName)).before a0 Z = true := G.1 _ (List.mem_of_getElem? (i := 177) rfl)
theorem w178 {a0 : Array Value} {Z : State} (G : Gl a0 Z) : (Jvm.Cond.instanceMethod ({ cls := "java/lang/AbstractStringBuilder", name := "inflateIfNeededFor", desc := "(Ljava/lang/String;)V" } : Jvm.MethodName)).before a0 Z = true := G.1 _ (List.mem_of_getElem? (i := 178) rfl)
theorem w179 {a0 : Array Value} {Z : State} (G : Gl a0 Z) : (Jvm.Cond.privateMethod ({ cls := "java/lang/AbstractStringBuilder", name := "inflateIfNeededFor", desc := "(Ljava/lang/String;)V" } : Jvm.MethodName)).before a0 Z = true := G.1 _ (List.mem_of_getElem? (i := 179) rfl)
theorem w180 {a0 : Array Value} {Z : State} (G : Gl a0 Z) : (Jvm.Cond.selects "java/lang/StringBuilder" ({ cls := "java/lang/AbstractStringBuilder", name := "inflateIfNeededFor", desc := "(Ljava/lang/String;)V" } : Jvm.MethodName) ({ cls := "java/lang/AbstractStringBuilder", name := "inflateIfNeededFor", desc := "(Ljava/lang/String;)V" } : Jvm.MethodName)).before a0 Z = true := G.1 _ (List.mem_of_getElem? (i := 180) rfl)
theorem w181 {a0 : Array Value} {Z : State} (G : Gl a0 Z) : (Jvm.Cond.code ({ cls := "java/lang/AbstractStringBuilder", name := "inflateIfNeededFor", desc := "(Ljava/lang/String;)V" } : Jvm.MethodName) jdk_68_method_71_code (2 : Nat) (Option.none : Option Jvm.ClassFile.FieldType)).before a0 Z = true := G.1 _ (List.mem_of_getElem? (i := 181) rfl)
theorem w183 {a0 : Array Value} {Z : State} (G : Gl a0 Z) : (Jvm.Cond.methodLink "java/lang/AbstractStringBuilder" (399 : Nat) ({ cls := "java/lang/String", name := "getBytes", desc := "([BIB)V" } : Jvm.MethodName)).before a0 Z = true := G.1 _ (List.mem_of_getElem? (i := 183) rfl)
theorem w184 {a0 : Array Value} {Z : State} (G : Gl a0 Z) : (Jvm.Cond.declares ({ cls := "java/lang/String", name := "getBytes", desc := "([BIB)V" } : Jvm.MethodName)).before a0 Z = true := G.1 _ (List.mem_of_getElem? (i := 184) rfl)
theorem w185 {a0 : Array Value} {Z : State} (G : Gl a0 Z) : (Jvm.Cond.instanceMethod ({ cls := "java/lang/String", name := "getBytes", desc := "([BIB)V" } : Jvm.MethodName)).before a0 Z = true := G.1 _ (List.mem_of_getElem? (i := 185) rfl)
theorem w186 {a0 : Array Value} {Z : State} (G : Gl a0 Z) : (Jvm.Cond.selects "java/lang/String" ({ cls := "java/lang/String", name := "getBytes", desc := "([BIB)V" } : Jvm.MethodName) ({ cls := "java/lang/String", name := "getBytes", desc := "([BIB)V" } : Jvm.MethodName)).before a0 Z = true := G.1 _ (List.mem_of_getElem? (i := 186) rfl)
theorem w187 {a0 : Array Value} {Z : State} (G : Gl a0 Z) : (Jvm.Cond.code ({ cls := "java/lang/String", name := "getBytes", desc := "([BIB)V" } : Jvm.MethodName) jdk_42_method_147_code (4 : Nat) (Option.none : Option Jvm.ClassFile.FieldType)).before a0 Z = true := G.1 _ (List.mem_of_getElem? (i := 187) rfl)
theorem d30_0 : D1 jdk_67_method_7_code 0 (.aload_n 0) 1 1 := ⟨by decide +kernel, rfl⟩
theorem d30_1 : D1 jdk_67_method_7_code 1 (.aload_n 1) 1 2 := ⟨by decide +kernel, rfl⟩
theorem d30_2 : D1 jdk_67_method_7_code 2 (.invokespecial 29) 3 5 := ⟨by decide +kernel, rfl⟩
theorem d30_5 : D1 jdk_67_method_7_code 5 (.pop) 1 6 := ⟨by decide +kernel, rfl⟩
theorem d30_6 : D1 jdk_67_method_7_code 6 (.aload_n 0) 1 7 := ⟨by decide +kernel, rfl⟩
theorem d30_7 : D1 jdk_67_method_7_code 7 (.areturn) 1 8 := ⟨by decide +kernel, rfl⟩
theorem d31_0 : D1 jdk_68_method_22_code 0 (.aload_n 1) 1 1 := ⟨by decide +kernel, rfl⟩
theorem d31_1 : D1 jdk_68_method_22_code 1 (.ifnonnull 8) 3 4 := ⟨by decide +kernel, rfl⟩
theorem d31_9 : D1 jdk_68_method_22_code 9 (.aload_n 1) 1 10 := ⟨by decide +kernel, rfl⟩
theorem d31_10 : D1 jdk_68_method_22_code 10 (.invokevirtual 32) 3 13 := ⟨by decide +kernel, rfl⟩
theorem d31_13 : D1 jdk_68_method_22_code 13 (.istore_n 2) 1 14 := ⟨by decide +kernel, rfl⟩
theorem d31_14 : D1 jdk_68_method_22_code 14 (.aload_n 0) 1 15 := ⟨by decide +kernel, rfl⟩
theorem d31_15 : D1 jdk_68_method_22_code 15 (.aload_n 0) 1 16 := ⟨by decide +kernel, rfl⟩
theorem d31_16 : D1 jdk_68_method_22_code 16 (.getfield 79) 3 19 := ⟨by decide +kernel, rfl⟩
theorem d31_19 : D1 jdk_68_method_22_code 19 (.iload_n 2) 1 20 := ⟨by decide +kernel, rfl⟩
theorem d31_20 : D1 jdk_68_method_22_code 20 (.iadd) 1 21 := ⟨by decide +kernel, rfl⟩
theorem d31_21 : D1 jdk_68_method_22_code 21 (.invokevirtual 100) 3 24 := ⟨by decide +kernel, rfl⟩
theorem d31_24 : D1 jdk_68_method_22_code 24 (.aload_n 0) 1 25 := ⟨by decide +kernel, rfl⟩
theorem d31_25 : D1 jdk_68_method_22_code 25 (.aload_n 0) 1 26 := ⟨by decide +kernel, rfl⟩
theorem d31_26 : D1 jdk_68_method_22_code 26 (.getfield 79) 3 29 := ⟨by decide +kernel, rfl⟩
theorem d31_29 : D1 jdk_68_method_22_code 29 (.aload_n 1) 1 30 := ⟨by decide +kernel, rfl⟩
theorem d31_30 : D1 jdk_68_method_22_code 30 (.invokevirtual 208) 3 33 := ⟨by decide +kernel, rfl⟩
theorem d31_33 : D1 jdk_68_method_22_code 33 (.aload_n 0) 1 34 := ⟨by decide +kernel, rfl⟩
theorem d31_34 : D1 jdk_68_method_22_code 34 (.dup) 1 35 := ⟨by decide +kernel, rfl⟩
theorem d31_35 : D1 jdk_68_method_22_code 35 (.getfield 79) 3 38 := ⟨by decide +kernel, rfl⟩
theorem d31_38 : D1 jdk_68_method_22_code 38 (.iload_n 2) 1 39 := ⟨by decide +kernel, rfl⟩
theorem d31_39 : D1 jdk_68_method_22_code 39 (.iadd) 1 40 := ⟨by decide +kernel, rfl⟩
theorem d31_40 : D1 jdk_68_method_22_code 40 (.putfield 79) 3 43 := ⟨by decide +kernel, rfl⟩
theorem d31_43 : D1 jdk_68_method_22_code 43 (.aload_n 0) 1 44 := ⟨by decide +kernel, rfl⟩
theorem d31_44 : D1 jdk_68_method_22_code 44 (.areturn) 1 45 := ⟨by decide +kernel, rfl⟩
theorem d33_0 : D1 jdk_68_method_73_code 0 (.aload_n 0) 1 1 := ⟨by decide +kernel, rfl⟩
theorem d33_1 : D1 jdk_68_method_73_code 1 (.aload_n 2) 1 2 := ⟨by decide +kernel, rfl⟩
theorem d33_2 : D1 jdk_68_method_73_code 2 (.invokevirtual 397) 3 5 := ⟨by decide +kernel, rfl⟩
theorem d33_5 : D1 jdk_68_method_73_code 5 (.aload_n 2) 1 6 := ⟨by decide +kernel, rfl⟩
theorem d33_6 : D1 jdk_68_method_73_code 6 (.aload_n 0) 1 7 := ⟨by decide +kernel, rfl⟩
theorem d33_7 : D1 jdk_68_method_73_code 7 (.getfield 15) 3 10 := ⟨by decide +kernel, rfl⟩
theorem d33_10 : D1 jdk_68_method_73_code 10 (.iload_n 1) 1 11 := ⟨by decide +kernel, rfl⟩
theorem d33_11 : D1 jdk_68_method_73_code 11 (.aload_n 0) 1 12 := ⟨by decide +kernel, rfl⟩
theorem d33_12 : D1 jdk_68_method_73_code 12 (.getfield 22) 3 15 := ⟨by decide +kernel, rfl⟩
theorem d33_15 : D1 jdk_68_method_73_code 15 (.invokevirtual 399) 3 18 := ⟨by decide +kernel, rfl⟩
theorem d33_18 : D1 jdk_68_method_73_code 18 (.return_) 1 19 := ⟨by decide +kernel, rfl⟩
theorem pd18 : parseMethodDescriptor "(Ljava/lang/String;)V" = some ⟨[(.object "java/lang/String")], none⟩ := by decide +kernel
theorem pd19 : parseMethodDescriptor "([BIB)V" = some ⟨[(.array .byte), .int, .byte], none⟩ := by decide +kernel
theorem pd20 : parseMethodDescriptor "(ILjava/lang/String;)V" = some ⟨[.int, (.object "java/lang/String")], none⟩ := by decide +kernel
theorem pd21 : parseMethodDescriptor "(Ljava/lang/String;)Ljava/lang/AbstractStringBuilder;" = some ⟨[(.object "java/lang/String")], some (.object "java/lang/AbstractStringBuilder")⟩ := by decide +kernel
theorem pf2 : parseFieldDescriptor "I" = some .int := by decide +kernel
set_option maxRecDepth 65536 in
set_option maxHeartbeats 4000000 in
theorem b_put (l : Launch) {Z : State} {a0 : Array Value} (G : Gl a0 Z) {L : List Ent} {sb vb a b : Addr} {K : ClassId} {t u : List Nat} (hS : Sx Z L a b u) (htu : t.length + u.length ≤ 16) : Ct WD EL0 l Z (⟨"java/lang/AbstractStringBuilder", "putStringAt", "(ILjava/lang/String;)V"⟩ : MethodName) jdk_68_method_73_code 3 none ({ frames := 2, cells := 0, slots := 0, locals := 33 } : Room) #[.ref sb, .int (Int32.ofNat t.length), .ref a] (ow sb (Ob Z "java/lang/StringBuilder" ns1 [.ref vb, .int 0, .int (Int32.ofNat t.length)]) :: ow vb (Ar Z .byte K (bsOf t ++ List.replicate (16 - t.length) (.int 0))) :: L) (r0Q (fun M => M = (ow sb (Ob Z "java/lang/StringBuilder" ns1 [.ref vb, .int 0, .int (Int32.ofNat t.length)]) :: ow vb (Ar Z .byte K (bsOf (t ++ u) ++ List.replicate (16 - (t ++ u).length) (.int 0))) :: L))) := by
  refine Ct.intro (by decide +kernel) G.2.1 ?_
  intro p e s m below meth c X
  replace X : Cx WD EL0 p Z s m meth c "java/lang/AbstractStringBuilder" "putStringAt" jdk_68_method_73_code 3 none := X
  refine Go.cast (g' := mkF m 0 #[.val (.ref sb), .val (.int (Int32.ofNat t.length)), .val (.ref a)] []) (by first | rfl | (simp [entryFrame, mkF, argsToLocals, Value.category, maxLocals]; done)) ?_
  refine Go.aloadN X d33_0 rfl rfl ?_
  refine Go.aloadN X d33_1 rfl rfl ?_
  refine Go.callP X (fun h H => H.exa (i := 0) rfl) (b_infl l G (t := t) hS) (rest := []) (w177 G) (w178 G) (selP2 (w180 G) (w179 G) (w178 G) (by decide)) (w179 G) (w146 G) (w181 G) (by decide) pd18 rfl rfl d33_2 rfl (by first | exact Nat.le_of_ble_eq_true rfl | (simp; done) | (simp; omega)) (by first | exact Nat.le_of_ble_eq_true rfl | (simp; done) | (simp; omega)) (by first | exact Nat.le_of_ble_eq_true rfl | (simp; done) | (simp; omega)) (by first | exact Nat.le_of_ble_eq_true rfl | (simp; done) | (simp; omega)) (K0 ?_)
  rintro M rfl
  refine Go.aloadN X d33_5 rfl rfl ?_
  refine Go.aloadN X d33_6 rfl rfl ?_
  refine Go.getFld X (w150 G) Via.refl (fun h H => H.fld (i := 0) rfl (j := 0) rfl rfl) d33_7 ?_
  refine Go.iloadN X d33_10 rfl ?_
  refine Go.aloadN X d33_11 rfl rfl ?_
  refine Go.getFld X (w152 G) Via.refl (fun h H => H.fld (i := 0) rfl (j := 1) rfl rfl) d33_12 ?_
  refine Go.perm (L' := ow vb (Ar Z .byte K (bsOf t ++ List.replicate (16 - t.length) (.int 0))) :: ow sb (Ob Z "java/lang/StringBuilder" ns1 [.ref vb, .int 0, .int (Int32.ofNat t.length)]) :: L) (List.Perm.swap _ _ _) ?_
  refine Go.callV X (fun h H => (hS.up.up.2 h H).1) (b_getB l G (L := ow sb (Ob Z "java/lang/StringBuilder" ns1 [.ref vb, .int 0, .int (Int32.ofNat t.length)]) :: L) (t := t) hS.up htu) (rest := []) (w183 G) (w184 G) (nfS (w186 G)) (w186 G) (w185 G) (w10 G) (w187 G) (by decide) pd19 rfl rfl d33_15 rfl (by first | exact Nat.le_of_ble_eq_true rfl | (simp; done) | (simp; omega)) (by first | exact Nat.le_of_ble_eq_true rfl | (simp; done) | (simp; omega)) (by first | exact Nat.le_of_ble_eq_true rfl | (simp; done) | (simp; omega)) (by first | exact Nat.le_of_ble_eq_true rfl | (simp; done) | (simp; omega)) (K0 ?_)
  rintro M rfl
  refine Go.perm (L' := (ow sb (Ob Z "java/lang/StringBuilder" ns1 [.ref vb, .int 0, .int (Int32.ofNat t.length)]) :: ow vb (Ar Z .byte K (bsOf (t ++ u) ++ List.replicate (16 - (t ++ u).length) (.int 0))) :: L)) (List.Perm.swap _ _ _) ?_
  exact Go.ret0 X d33_18 (by first | exact Nat.le_of_ble_eq_true rfl | (simp; done) | (simp; omega)) (by first | exact Nat.le_of_ble_eq_true rfl | (simp; done) | (simp; omega)) rfl
set_option maxRecDepth 65536 in
set_option maxHeartbeats 4000000 in
theorem b_app1 (l : Launch) {Z : State} {a0 : Array Value} (G : Gl a0 Z) {L : List Ent} {sb vb a b : Addr} {K : ClassId} {t u : List Nat} (hS : Sx Z L a b u) (htu : t.length + u.length ≤ 16) : Ct WD EL0 l Z (⟨"java/lang/AbstractStringBuilder", "append", "(Ljava/lang/String;)Ljava/lang/AbstractStringBuilder;"⟩ : MethodName) jdk_68_method_22_code 3 (some (.object "java/lang/AbstractStringBuilder")) ({ frames := 3, cells := 0, slots := 0, locals := 47 } : Room) #[.ref sb, .ref a] (ow sb (Ob Z "java/lang/StringBuilder" ns1 [.ref vb, .int 0, .int (Int32.ofNat t.length)]) :: ow vb (Ar Z .byte K (bsOf t ++ List.replicate (16 - t.length) (.int 0))) :: L) (rvQ (fun v M => v = .ref sb ∧ M = (ow sb (Ob Z "java/lang/StringBuilder" ns1 [.ref vb, .int 0, .int (Int32.ofNat (t ++ u).length)]) :: ow vb (Ar Z .byte K (bsOf (t ++ u) ++ List.replicate (16 - (t ++ u).length) (.int 0))) :: L))) := by
  refine Ct.intro (by decide +kernel) G.2.1 ?_
  intro p e s m below meth c X
  replace X : Cx WD EL0 p Z s m meth c "java/lang/AbstractStringBuilder" "append" jdk_68_method_22_code 3 (some (.object "java/lang/AbstractStringBuilder")) := X
  refine Go.cast (g' := mkF m 0 #[.val (.ref sb), .val (.ref a), .unset] []) (by first | rfl | (simp [entryFrame, mkF, argsToLocals, Value.category, maxLocals]; done)) ?_
  refine Go.aloadN X d31_0 rfl rfl ?_
  refine Go.ifnonnullY X d31_1 (pt := 9) ⟨by decide, by decide⟩ ?_
  refine Go.aloadN X d31_9 rfl rfl ?_
  refine Go.callV X (fun h H => (hS.up.up.2 h H).1) (s_length l G hS.up.up) (rest := []) (w164 G) (w35 G) (nfS (w37 G)) (w37 G) (w36 G) (w10 G) (w38 G) (by decide) pd6 rfl rfl d31_10 rfl (by first | exact Nat.le_of_ble_eq_true rfl | (simp; done) | (simp; omega)) (by first | exact Nat.le_of_ble_eq_true rfl | (simp; done) | (simp; omega)) (by first | exact Nat.le_of_ble_eq_true rfl | (simp; done) | (simp; omega)) (by first | exact Nat.le_of_ble_eq_true rfl | (simp; done) | (simp; omega)) (Kv ?_)
  rintro v M ⟨rfl, rfl⟩
  refine Go.istoreN X d31_13 rfl ?_
  refine Go.aloadN X d31_14 rfl rfl ?_
  refine Go.aloadN X d31_15 rfl rfl ?_
  refine Go.getFld X (w165 G) Via.refl (fun h H => H.fld (i := 0) rfl (j := 2) rfl rfl) d31_16 ?_
  refine Go.iloadN X d31_19 rfl ?_
  refine Go.iadd X d31_20 ?_
  rw [show Int32.ofNat t.length + u.length.toInt32 = Int32.ofNat (t ++ u).length from by rw [List.length_append]; exact (Int32.ofNat_add _ _).symm]
  refine Go.callP X (fun h H => H.exa (i := 0) rfl) (b_ens l G (t := t) (by omega) (t ++ u).length (by rw [List.length_append]; omega)) (rest := []) (w167 G) (w168 G) (selP2 (w170 G) (w169 G) (w168 G) (by decide)) (w169 G) (w146 G) (w171 G) (by decide) pd17 rfl rfl d31_21 rfl (by first | exact Nat.le_of_ble_eq_true rfl | (simp; done) | (simp; omega)) (by first | exact Nat.le_of_ble_eq_true rfl | (simp; done) | (simp; omega)) (by first | exact Nat.le_of_ble_eq_true rfl | (simp; done) | (simp; omega)) (by first | exact Nat.le_of_ble_eq_true rfl | (simp; done) | (simp; omega)) (K0 ?_)
  rintro M rfl
  refine Go.aloadN X d31_24 rfl rfl ?_
  refine Go.aloadN X d31_25 rfl rfl ?_
  refine Go.getFld X (w165 G) Via.refl (fun h H => H.fld (i := 0) rfl (j := 2) rfl rfl) d31_26 ?_
  refine Go.aloadN X d31_29 rfl rfl ?_
  refine Go.callP X (fun h H => H.exa (i := 0) rfl) (b_put l G (t := t) hS htu) (rest := []) (w172 G) (w173 G) (selP2 (w175 G) (w174 G) (w173 G) (by decide)) (w174 G) (w146 G) (w176 G) (by decide) pd20 rfl rfl d31_30 rfl (by first | exact Nat.le_of_ble_eq_true rfl | (simp; done) | (simp; omega)) (by first | exact Nat.le_of_ble_eq_true rfl | (simp; done) | (simp; omega)) (by first | exact Nat.le_of_ble_eq_true rfl | (simp; done) | (simp; omega)) (by first | exact Nat.le_of_ble_eq_true rfl | (simp; done) | (simp; omega)) (K0 ?_)
  rintro M rfl
  refine Go.aloadN X d31_33 rfl rfl ?_
  refine Go.dup X d31_34 rfl ?_
  refine Go.getFld X (w165 G) Via.refl (fun h H => H.fld (i := 0) rfl (j := 2) rfl rfl) d31_35 ?_
  refine Go.iloadN X d31_38 rfl ?_
  refine Go.iadd X d31_39 ?_
  rw [show Int32.ofNat t.length + u.length.toInt32 = Int32.ofNat (t ++ u).length from by rw [List.length_append]; exact (Int32.ofNat_add _ _).symm]
  refine Go.putFld X (i := 0) rfl (j := 2) rfl (lay1 G) (w165 G) Via.refl (Or.inl (w166 G)) (w137 G) pf2 d31_40 (by rfl) (by rfl) ?_
  refine Go.aloadN X d31_43 rfl rfl ?_
  exact Go.aret X d31_44 (by rfl) (by rfl) (by rfl) (by first | exact Nat.le_of_ble_eq_true rfl | (simp; done) | (simp; omega)) (by first | exact Nat.le_of_ble_eq_true rfl | (simp; done) | (simp; omega)) ⟨rfl, rfl⟩
set_option maxRecDepth 65536 in
set_option maxHeartbeats 4000000 in
theorem b_app (l : Launch) {Z : State} {a0 : Array Value} (G : Gl a0 Z) {L : List Ent} {sb vb a b : Addr} {K : ClassId} {t u : List Nat} (hS : Sx Z L a b u) (htu : t.length + u.length ≤ 16) : Ct WD EL0 l Z (⟨"java/lang/StringBuilder", "append", "(Ljava/lang/String;)Ljava/lang/StringBuilder;"⟩ : MethodName) jdk_67_method_7_code 2 (some (.object "java/lang/StringBuilder")) ({ frames := 4, cells := 0, slots := 0, locals := 61 } : Room) #[.ref sb, .ref a] (ow sb (Ob Z "java/lang/StringBuilder" ns1 [.ref vb, .int 0, .int (Int32.ofNat t.length)]) :: ow vb (Ar Z .byte K (bsOf t ++ List.replicate (16 - t.length) (.int 0))) :: L) (rvQ (fun v M => v = .ref sb ∧ M = (ow sb (Ob Z "java/lang/StringBuilder" ns1 [.ref vb, .int 0, .int (Int32.ofNat (t ++ u).length)]) :: ow vb (Ar Z .byte K (bsOf (t ++ u) ++ List.replicate (16 - (t ++ u).length) (.int 0))) :: L))) := by
  refine Ct.intro (by decide +kernel) G.2.1 ?_
  intro p e s m below meth c X
  replace X : Cx WD EL0 p Z s m meth c "java/lang/StringBuilder" "append" jdk_67_method_7_code 2 (some (.object "java/lang/StringBuilder")) := X
  refine Go.cast (g' := mkF m 0 #[.val (.ref sb), .val (.ref a)] []) (by first | rfl | (simp [entryFrame, mkF, argsToLocals, Value.category, maxLocals]; done)) ?_
  refine Go.aloadN X d30_0 rfl rfl ?_
  refine Go.aloadN X d30_1 rfl rfl ?_
  refine Go.callU X (fun h H => Ins.self (H.exa (i := 0) rfl)) (b_app1 l G (t := t) hS htu) (rest := []) (w159 G) (sameSelf (w160 G) (w170 G) rfl (by decide)) (w160 G) (w161 G) (by decide) (w146 G) (w163 G) pd21 rfl rfl d30_2 rfl (by first | exact Nat.le_of_ble_eq_true rfl | (simp; done) | (simp; omega)) (by first | exact Nat.le_of_ble_eq_true rfl | (simp; done) | (simp; omega)) (by first | exact Nat.le_of_ble_eq_true rfl | (simp; done) | (simp; omega)) (by first | exact Nat.le_of_ble_eq_true rfl | (simp; done) | (simp; omega)) (Kv ?_)
  rintro v M ⟨rfl, rfl⟩
  refine Go.pop X d30_5 rfl ?_
  refine Go.aloadN X d30_6 rfl rfl ?_
  exact Go.aret X d30_7 (by rfl) (by rfl) (by rfl) (by first | exact Nat.le_of_ble_eq_true rfl | (simp; done) | (simp; omega)) (by first | exact Nat.le_of_ble_eq_true rfl | (simp; done) | (simp; omega)) ⟨rfl, rfl⟩
-- %%% toString
theorem w138 {a0 : Array Value} {Z : State} (G : Gl a0 Z) : (Jvm.Cond.initialized "java/lang/StringBuilder").before a0 Z = true := G.1 _ (List.mem_of_getElem? (i := 138) rfl)
theorem w197 {a0 : Array Value} {Z : State} (G : Gl a0 Z) : (Jvm.Cond.classLink "java/lang/StringBuilder" (18 : Nat) "java/lang/String").before a0 Z = true := G.1 _ (List.mem_of_getElem? (i := 197) rfl)
theorem w198 {a0 : Array Value} {Z : State} (G : Gl a0 Z) : (Jvm.Cond.methodLink "java/lang/StringBuilder" (137 : Nat) ({ cls := "java/lang/String", name := "<init>", desc := "(Ljava/lang/StringBuilder;)V" } : Jvm.MethodName)).before a0 Z = true := G.1 _ (List.mem_of_getElem? (i := 198) rfl)
theorem w199 {a0 : Array Value} {Z : State} (G : Gl a0 Z) : (Jvm.Cond.instanceMethod ({ cls := "java/lang/String", name := "<init>", desc := "(Ljava/lang/StringBuilder;)V" } : Jvm.MethodName)).before a0 Z = true := G.1 _ (List.mem_of_getElem? (i := 199) rfl)
theorem w200 {a0 : Array Value} {Z : State} (G : Gl a0 Z) : (Jvm.Cond.code ({ cls := "java/lang/String", name := "<init>", desc := "(Ljava/lang/StringBuilder;)V" } : Jvm.MethodName) jdk_42_method_53_code (2 : Nat) (Option.none : Option Jvm.ClassFile.FieldType)).before a0 Z = true := G.1 _ (List.mem_of_getElem? (i := 200) rfl)
theorem w201 {a0 : Array Value} {Z : State} (G : Gl a0 Z) : (Jvm.Cond.methodLink "java/lang/String" (489 : Nat) ({ cls := "java/lang/String", name := "<init>", desc := "(Ljava/lang/AbstractStringBuilder;Ljava/lang/Void;)V" } : Jvm.MethodName)).before a0 Z = true := G.1 _ (List.mem_of_getElem? (i := 201) rfl)
theorem w202 {a0 : Array Value} {Z : State} (G : Gl a0 Z) : (Jvm.Cond.instanceMethod ({ cls := "java/lang/String", name := "<init>", desc := "(Ljava/lang/AbstractStringBuilder;Ljava/lang/Void;)V" } : Jvm.MethodName)).before a0 Z = true := G.1 _ (List.mem_of_getElem? (i := 202) rfl)
theorem w203 {a0 : Array Value} {Z : State} (G : Gl a0 Z) : (Jvm.Cond.code ({ cls := "java/lang/String", name := "<init>", desc := "(Ljava/lang/AbstractStringBuilder;Ljava/lang/Void;)V" } : Jvm.MethodName) jdk_42_method_150_code (5 : Nat) (Option.none : Option Jvm.ClassFile.FieldType)).before a0 Z = true := G.1 _ (List.mem_of_getElem? (i := 203) rfl)
theorem w204 {a0 : Array Value} {Z : State} (G : Gl a0 Z) : (Jvm.Cond.methodLink "java/lang/String" (552 : Nat) ({ cls := "java/lang/AbstractStringBuilder", name := "getValue", desc := "()[B" } : Jvm.MethodName)).before a0 Z = true := G.1 _ (List.mem_of_getElem? (i := 204) rfl)
theorem w205 {a0 : Array Value} {Z : State} (G : Gl a0 Z) : (Jvm.Cond.declares ({ cls := "java/lang/AbstractStringBuilder", name := "getValue", desc := "()[B" } : Jvm.MethodName)).before a0 Z = true := G.1 _ (List.mem_of_getElem? (i := 205) rfl)
theorem w206 {a0 : Array Value} {Z : State} (G : Gl a0 Z) : (Jvm.Cond.instanceMethod ({ cls := "java/lang/AbstractStringBuilder", name := "getValue", desc := "()[B" } : Jvm.MethodName)).before a0 Z = true := G.1 _ (List.mem_of_getElem? (i := 206) rfl)
theorem w207 {a0 : Array Value} {Z : State} (G : Gl a0 Z) : (Jvm.Cond.selects "java/lang/StringBuilder" ({ cls := "java/lang/AbstractStringBuilder", name := "getValue", desc := "()[B" } : Jvm.MethodName) ({ cls := "java/lang/AbstractStringBuilder", name := "getValue", desc := "()[B" } : Jvm.MethodName)).before a0 Z = true := G.1 _ (List.mem_of_getElem? (i := 207) rfl)
theorem w208 {a0 : Array Value} {Z : State} (G : Gl a0 Z) : (Jvm.Cond.code ({ cls := "java/lang/AbstractStringBuilder", name := "getValue", desc := "()[B" } : Jvm.MethodName) jdk_68_method_64_code (1 : Nat) (Option.some (Jvm.ClassFile.FieldType.array Jvm.ClassFile.FieldType.byte))).before a0 Z = true := G.1 _ (List.mem_of_getElem? (i := 208) rfl)
theorem w209 {a0 : Array Value} {Z : State} (G : Gl a0 Z) : (Jvm.Cond.methodLink "java/lang/String" (549 : Nat) ({ cls := "java/lang/AbstractStringBuilder", name := "length", desc := "()I" } : Jvm.MethodName)).before a0 Z = true := G.1 _ (List.mem_of_getElem? (i := 209) rfl)
theorem w210 {a0 : Array Value} {Z : State} (G : Gl a0 Z) : (Jvm.Cond.declares ({ cls := "java/lang/AbstractStringBuilder", name := "length", desc := "()I" } : Jvm.MethodName)).before a0 Z = true := G.1 _ (List.mem_of_getElem? (i := 210) rfl)
theorem w211 {a0 : Array Value} {Z : State} (G : Gl a0 Z) : (Jvm.Cond.instanceMethod ({ cls := "java/lang/AbstractStringBuilder", name := "length", desc := "()I" } : Jvm.MethodName)).before a0 Z = true := G.1 _ (List.mem_of_getElem? (i := 211) rfl)
theorem w212 {a0 : Array Value} {Z : State} (G : Gl a0 Z) : (Jvm.Cond.selects "java/lang/StringBuilder" ({ cls := "java/lang/AbstractStringBuilder", name := "length", desc := "()I" } : Jvm.MethodName) ({ cls := "java/lang/StringBuilder", name := "length", desc := "()I" } : Jvm.MethodName)).before a0 Z = true := G.1 _ (List.mem_of_getElem? (i := 212) rfl)
theorem w213 {a0 : Array Value} {Z : State} (G : Gl a0 Z) : (Jvm.Cond.instanceMethod ({ cls := "java/lang/StringBuilder", name := "length", desc := "()I" } : Jvm.MethodName)).before a0 Z = true := G.1 _ (List.mem_of_getElem? (i := 213) rfl)
theorem w214 {a0 : Array Value} {Z : State} (G : Gl a0 Z) : (Jvm.Cond.code ({ cls := "java/lang/StringBuilder", name := "length", desc := "()I" } : Jvm.MethodName) jdk_67_method_93_code (1 : Nat) (Option.some Jvm.ClassFile.FieldType.int)).before a0 Z = true := G.1 _ (List.mem_of_getElem? (i := 214) rfl)
theorem w215 {a0 : Array Value} {Z : State} (G : Gl a0 Z) : (Jvm.Cond.methodLink "java/lang/StringBuilder" (343 : Nat) ({ cls := "java/lang/AbstractStringBuilder", name := "length", desc := "()I" } : Jvm.MethodName)).before a0 Z = true := G.1 _ (List.mem_of_getElem? (i := 215) rfl)
theorem w216 {a0 : Array Value} {Z : State} (G : Gl a0 Z) : (Jvm.Cond.code ({ cls := "java/lang/AbstractStringBuilder", name := "length", desc := "()I" } : Jvm.MethodName) jdk_68_method_6_code (1 : Nat) (Option.some Jvm.ClassFile.FieldType.int)).before a0 Z = true := G.1 _ (List.mem_of_getElem? (i := 216) rfl)
theorem w217 {a0 : Array Value} {Z : State} (G : Gl a0 Z) : (Jvm.Cond.methodLink "java/lang/String" (1047 : Nat) ({ cls := "java/lang/AbstractStringBuilder", name := "isLatin1", desc := "()Z" } : Jvm.MethodName)).before a0 Z = true := G.1 _ (List.mem_of_getElem? (i := 217) rfl)
theorem w218 {a0 : Array Value} {Z : State} (G : Gl a0 Z) : (Jvm.Cond.declares ({ cls := "java/lang/AbstractStringBuilder", name := "isLatin1", desc := "()Z" } : Jvm.MethodName)).before a0 Z = true := G.1 _ (List.mem_of_getElem? (i := 218) rfl)
theorem w219 {a0 : Array Value} {Z : State} (G : Gl a0 Z) : (Jvm.Cond.instanceMethod ({ cls := "java/lang/AbstractStringBuilder", name := "isLatin1", desc := "()Z" } : Jvm.MethodName)).before a0 Z = true := G.1 _ (List.mem_of_getElem? (i := 219) rfl)
theorem w220 {a0 : Array Value} {Z : State} (G : Gl a0 Z) : (Jvm.Cond.selects "java/lang/StringBuilder" ({ cls := "java/lang/AbstractStringBuilder", name := "isLatin1", desc := "()Z" } : Jvm.MethodName) ({ cls := "java/lang/AbstractStringBuilder", name := "isLatin1", desc := "()Z" } : Jvm.MethodName)).before a0 Z = true := G.1 _ (List.mem_of_getElem? (i := 220) rfl)
theorem w221 {a0 : Array Value} {Z : State} (G : Gl a0 Z) : (Jvm.Cond.code ({ cls := "java/lang/AbstractStringBuilder", name := "isLatin1", desc := "()Z" } : Jvm.MethodName) jdk_68_method_68_code (1 : Nat) (Option.some Jvm.ClassFile.FieldType.boolean)).before a0 Z = true := G.1 _ (List.mem_of_getElem? (i := 221) rfl)
theorem w222 {a0 : Array Value} {Z : State} (G : Gl a0 Z) : (Jvm.Cond.methodLink "java/lang/String" (54 : Nat) ({ cls := "java/util/Arrays", name := "copyOfRange", desc := "([BII)[B" } : Jvm.MethodName)).before a0 Z = true := G.1 _ (List.mem_of_getElem? (i := 222) rfl)
theorem d36_0 : D1 jdk_67_method_42_code 0 (.new 18) 3 3 := ⟨by decide +kernel, rfl⟩
theorem d36_3 : D1 jdk_67_method_42_code 3 (.dup) 1 4 := ⟨by decide +kernel, rfl⟩
theorem d36_4 : D1 jdk_67_method_42_code 4 (.aload_n 0) 1 5 := ⟨by decide +kernel, rfl⟩
theorem d36_5 : D1 jdk_67_method_42_code 5 (.invokespecial 137) 3 8 := ⟨by decide +kernel, rfl⟩
theorem d36_8 : D1 jdk_67_method_42_code 8 (.areturn) 1 9 := ⟨by decide +kernel, rfl⟩
theorem d37_0 : D1 jdk_42_method_53_code 0 (.aload_n 0) 1 1 := ⟨by decide +kernel, rfl⟩
theorem d37_1 : D1 jdk_42_method_53_code 1 (.aload_n 1) 1 2 := ⟨by decide +kernel, rfl⟩
theorem d37_2 : D1 jdk_42_method_53_code 2 (.aconst_null) 1 3 := ⟨by decide +kernel, rfl⟩
theorem d37_3 : D1 jdk_42_method_53_code 3 (.invokespecial 489) 3 6 := ⟨by decide +kernel, rfl⟩
theorem d37_6 : D1 jdk_42_method_53_code 6 (.return_) 1 7 := ⟨by decide +kernel, rfl⟩
theorem d38_0 : D1 jdk_42_method_150_code 0 (.aload_n 0) 1 1 := ⟨by decide +kernel, rfl⟩
theorem d38_1 : D1 jdk_42_method_150_code 1 (.invokespecial 1) 3 4 := ⟨by decide +kernel, rfl⟩
theorem d38_4 : D1 jdk_42_method_150_code 4 (.aload_n 1) 1 5 := ⟨by decide +kernel, rfl⟩
theorem d38_5 : D1 jdk_42_method_150_code 5 (.invokevirtual 552) 3 8 := ⟨by decide +kernel, rfl⟩
theorem d38_8 : D1 jdk_42_method_150_code 8 (.astore_n 3) 1 9 := ⟨by decide +kernel, rfl⟩
theorem d38_9 : D1 jdk_42_method_150_code 9 (.aload_n 1) 1 10 := ⟨by decide +kernel, rfl⟩
theorem d38_10 : D1 jdk_42_method_150_code 10 (.invokevirtual 549) 3 13 := ⟨by decide +kernel, rfl⟩
theorem d38_13 : D1 jdk_42_method_150_code 13 (.istore 4) 2 15 := ⟨by decide +kernel, rfl⟩
theorem d38_15 : D1 jdk_42_method_150_code 15 (.aload_n 1) 1 16 := ⟨by decide +kernel, rfl⟩
theorem d38_16 : D1 jdk_42_method_150_code 16 (.invokevirtual 1047) 3 19 := ⟨by decide +kernel, rfl⟩
theorem d38_19 : D1 jdk_42_method_150_code 19 (.ifCond .eq 22) 3 22 := ⟨by decide +kernel, rfl⟩
theorem d38_22 : D1 jdk_42_method_150_code 22 (.aload_n 0) 1 23 := ⟨by decide +kernel, rfl⟩
theorem d38_23 : D1 jdk_42_method_150_code 23 (.iconst 0) 1 24 := ⟨by decide +kernel, rfl⟩
theorem d38_24 : D1 jdk_42_method_150_code 24 (.putfield 15) 3 27 := ⟨by decide +kernel, rfl⟩
theorem d38_27 : D1 jdk_42_method_150_code 27 (.aload_n 0) 1 28 := ⟨by decide +kernel, rfl⟩
theorem d38_28 : D1 jdk_42_method_150_code 28 (.aload_n 3) 1 29 := ⟨by decide +kernel, rfl⟩
theorem d38_29 : D1 jdk_42_method_150_code 29 (.iconst 0) 1 30 := ⟨by decide +kernel, rfl⟩
theorem d38_30 : D1 jdk_42_method_150_code 30 (.iload 4) 2 32 := ⟨by decide +kernel, rfl⟩
theorem d38_32 : D1 jdk_42_method_150_code 32 (.invokestatic 54) 3 35 := ⟨by decide +kernel, rfl⟩
theorem d38_35 : D1 jdk_42_method_150_code 35 (.putfield 9) 3 38 := ⟨by decide +kernel, rfl⟩
theorem d38_38 : D1 jdk_42_method_150_code 38 (.goto 59) 3 41 := ⟨by decide +kernel, rfl⟩
theorem d38_97 : D1 jdk_42_method_150_code 97 (.return_) 1 98 := ⟨by decide +kernel, rfl⟩
theorem d39_0 : D1 jdk_68_method_64_code 0 (.aload_n 0) 1 1 := ⟨by decide +kernel, rfl⟩
theorem d39_1 : D1 jdk_68_method_64_code 1 (.getfield 15) 3 4 := ⟨by decide +kernel, rfl⟩
theorem d39_4 : D1 jdk_68_method_64_code 4 (.areturn) 1 5 := ⟨by decide +kernel, rfl⟩
theorem d40_0 : D1 jdk_67_method_93_code 0 (.aload_n 0) 1 1 := ⟨by decide +kernel, rfl⟩
theorem d40_1 : D1 jdk_67_method_93_code 1 (.invokespecial 343) 3 4 := ⟨by decide +kernel, rfl⟩
theorem d40_4 : D1 jdk_67_method_93_code 4 (.ireturn) 1 5 := ⟨by decide +kernel, rfl⟩
theorem d41_0 : D1 jdk_68_method_6_code 0 (.aload_n 0) 1 1 := ⟨by decide +kernel, rfl⟩
theorem d41_1 : D1 jdk_68_method_6_code 1 (.getfield 79) 3 4 := ⟨by decide +kernel, rfl⟩
theorem d41_4 : D1 jdk_68_method_6_code 4 (.ireturn) 1 5 := ⟨by decide +kernel, rfl⟩
theorem d42_0 : D1 jdk_68_method_68_code 0 (.getstatic 18) 3 3 := ⟨by decide +kernel, rfl⟩
theorem d42_3 : D1 jdk_68_method_68_code 3 (.ifCond .eq 14) 3 6 := ⟨by decide +kernel, rfl⟩
theorem d42_6 : D1 jdk_68_method_68_code 6 (.aload_n 0) 1 7 := ⟨by decide +kernel, rfl⟩
theorem d42_7 : D1 jdk_68_method_68_code 7 (.getfield 22) 3 10 := ⟨by decide +kernel, rfl⟩
theorem d42_10 : D1 jdk_68_method_68_code 10 (.ifCond .ne 7) 3 13 := ⟨by decide +kernel, rfl⟩
theorem d42_13 : D1 jdk_68_method_68_code 13 (.iconst 1) 1 14 := ⟨by decide +kernel, rfl⟩
theorem d42_14 : D1 jdk_68_method_68_code 14 (.goto 4) 3 17 := ⟨by decide +kernel, rfl⟩
theorem d42_18 : D1 jdk_68_method_68_code 18 (.ireturn) 1 19 := ⟨by decide +kernel, rfl⟩
theorem pd22 : parseMethodDescriptor "()[B" = some ⟨[], some (.array .byte)⟩ := by decide +kernel
theorem pd23 : parseMethodDescriptor "(Ljava/lang/AbstractStringBuilder;Ljava/lang/Void;)V" = some ⟨[(.object "java/lang/AbstractStringBuilder"), (.object "java/lang/Void")], none⟩ := by decide +kernel
theorem pd24 : parseMethodDescriptor "(Ljava/lang/StringBuilder;)V" = some ⟨[(.object "java/lang/StringBuilder")], none⟩ := by decide +kernel
set_option maxRecDepth 65536 in
set_option maxHeartbeats 4000000 in
theorem b_val (l : Launch) {Z : State} {a0 : Array Value} (G : Gl a0 Z) {L : List Ent} {sb vb : Addr} {f : Bool} {z : Int32} (hB : (sb, (Ob Z "java/lang/StringBuilder" ns1 [.ref vb, .int 0, .int z]), f) ∈ L) : Ct WD EL0 l Z (⟨"java/lang/AbstractStringBuilder", "getValue", "()[B"⟩ : MethodName) jdk_68_method_64_code 1 (some (.array .byte)) ({ frames := 0, cells := 0, slots := 0, locals := 0 } : Room) #[.ref sb] L (rvQ (fun v M => v = .ref vb ∧ M = L)) := by
  refine Ct.intro (by decide +kernel) G.2.1 ?_
  intro p e s m below meth c X
  replace X : Cx WD EL0 p Z s m meth c "java/lang/AbstractStringBuilder" "getValue" jdk_68_method_64_code 1 (some (.array .byte)) := X
  refine Go.cast (g' := mkF m 0 #[.val (.ref sb)] []) (by first | rfl | (simp [entryFrame, mkF, argsToLocals, Value.category, maxLocals]; done)) ?_
  obtain ⟨ib, hib⟩ := List.getElem?_of_mem hB
  refine Go.aloadN X d39_0 rfl rfl ?_
  refine Go.getFld X (w150 G) Via.refl (fun h H => H.fld (i := ib) hib (j := 0) rfl rfl) d39_1 ?_
  exact Go.aret X d39_4 (by rfl) (by rfl) (by rfl) (by first | exact Nat.le_of_ble_eq_true rfl | (simp; done) | (simp; omega)) (by first | exact Nat.le_of_ble_eq_true rfl | (simp; done) | (simp; omega)) ⟨rfl, rfl⟩
set_option maxRecDepth 65536 in
set_option maxHeartbeats 4000000 in
theorem b_len1 (l : Launch) {Z : State} {a0 : Array Value} (G : Gl a0 Z) {L : List Ent} {sb vb : Addr} {f : Bool} {z : Int32} (hB : (sb, (Ob Z "java/lang/StringBuilder" ns1 [.ref vb, .int 0, .int z]), f) ∈ L) : Ct WD EL0 l Z (⟨"java/lang/AbstractStringBuilder", "length", "()I"⟩ : MethodName) jdk_68_method_6_code 1 (some .int) ({ frames := 0, cells := 0, slots := 0, locals := 0 } : Room) #[.ref sb] L (rvQ (fun v M => v = .int z ∧ M = L)) := by
  refine Ct.intro (by decide +kernel) G.2.1 ?_
  intro p e s m below meth c X
  replace X : Cx WD EL0 p Z s m meth c "java/lang/AbstractStringBuilder" "length" jdk_68_method_6_code 1 (some .int) := X
  refine Go.cast (g' := mkF m 0 #[.val (.ref sb)] []) (by first | rfl | (simp [entryFrame, mkF, argsToLocals, Value.category, maxLocals]; done)) ?_
  obtain ⟨ib, hib⟩ := List.getElem?_of_mem hB
  refine Go.aloadN X d41_0 rfl rfl ?_
  refine Go.getFld X (w165 G) Via.refl (fun h H => H.fld (i := ib) hib (j := 2) rfl rfl) d41_1 ?_
  exact Go.iret X d41_4 (by first | exact Nat.le_of_ble_eq_true rfl | (simp; done) | (simp; omega)) (by first | exact Nat.le_of_ble_eq_true rfl | (simp; done) | (simp; omega)) ⟨rfl, rfl⟩
set_option maxRecDepth 65536 in
set_option maxHeartbeats 4000000 in
theorem b_len (l : Launch) {Z : State} {a0 : Array Value} (G : Gl a0 Z) {L : List Ent} {sb vb : Addr} {f : Bool} {z : Int32} (hB : (sb, (Ob Z "java/lang/StringBuilder" ns1 [.ref vb, .int 0, .int z]), f) ∈ L) : Ct WD EL0 l Z (⟨"java/lang/StringBuilder", "length", "()I"⟩ : MethodName) jdk_67_method_93_code 1 (some .int) ({ frames := 1, cells := 0, slots := 0, locals := 12 } : Room) #[.ref sb] L (rvQ (fun v M => v = .int z ∧ M = L)) := by
  refine Ct.intro (by decide +kernel) G.2.1 ?_
  intro p e s m below meth c X
  replace X : Cx WD EL0 p Z s m meth c "java/lang/StringBuilder" "length" jdk_67_method_93_code 1 (some .int) := X
  refine Go.cast (g' := mkF m 0 #[.val (.ref sb)] []) (by first | rfl | (simp [entryFrame, mkF, argsToLocals, Value.category, maxLocals]; done)) ?_
  refine Go.aloadN X d40_0 rfl rfl ?_
  refine Go.callU X (fun h H => Ins.self (H.exaM (C := "java/lang/StringBuilder") hB (fun c q => ⟨_, _, q⟩))) (b_len1 l G hB) (rest := []) (w215 G) (sameSelf (w211 G) (w170 G) rfl (by decide)) (w211 G) (w161 G) (by decide) (w146 G) (w216 G) pd6 rfl rfl d40_1 rfl (Nat.le_of_ble_eq_true rfl) (Nat.le_of_ble_eq_true rfl) (Nat.le_of_ble_eq_true rfl) (Nat.le_of_ble_eq_true rfl) (Kv ?_)
  rintro v M ⟨rfl, rfl⟩
  exact Go.iret X d40_4 (by first | exact Nat.le_of_ble_eq_true rfl | (simp; done) | (simp; omega)) (by first | exact Nat.le_of_ble_eq_true rfl | (simp; done) | (simp; omega)) ⟨rfl, rfl⟩
set_option maxRecDepth 65536 in
set_option maxHeartbeats 4000000 in
theorem b_lat (l : Launch) {Z : State} {a0 : Array Value} (G : Gl a0 Z) {L : List Ent} {sb vb : Addr} {f : Bool} {z : Int32} (hB : (sb, (Ob Z "java/lang/StringBuilder" ns1 [.ref vb, .int 0, .int z]), f) ∈ L) : Ct WD EL0 l Z (⟨"java/lang/AbstractStringBuilder", "isLatin1", "()Z"⟩ : MethodName) jdk_68_method_68_code 1 (some .boolean) ({ frames := 0, cells := 0, slots := 0, locals := 0 } : Room) #[.ref sb] L (rvQ (fun v M => v = .int 1 ∧ M = L)) := by
  refine Ct.intro (by decide +kernel) G.2.1 ?_
  intro p e s m below meth c X
  replace X : Cx WD EL0 p Z s m meth c "java/lang/AbstractStringBuilder" "isLatin1" jdk_68_method_68_code 1 (some .boolean) := X
  refine Go.cast (g' := mkF m 0 #[.val (.ref sb)] []) (by first | rfl | (simp [entryFrame, mkF, argsToLocals, Value.category, maxLocals]; done)) ?_
  obtain ⟨ib, hib⟩ := List.getElem?_of_mem hB
  obtain ⟨cst, hcst, Fcst⟩ := g_cs G
  refine Go.getSta X (w149 G) Via.refl Fcst d42_0 ?_
  refine Go.ifc X d42_3 (pt := 17) ⟨by decide, by decide⟩ ?_ ?_
  · intro q; exact absurd q hcst
  intro _
  refine Go.aloadN X d42_6 rfl rfl ?_
  refine Go.getFld X (w152 G) Via.refl (fun h H => H.fld (i := ib) hib (j := 1) rfl rfl) d42_7 ?_
  refine Go.ifc X d42_10 (pt := 17) ⟨by decide, by decide⟩ ?_ ?_
  · intro q; exact absurd rfl q
  intro _
  refine Go.iconst X (v := 1) d42_13 (by decide) ?_
  refine Go.goto X d42_14 (pt := 18) ⟨by decide, by decide⟩ ?_
  exact Go.zret X d42_18 (Or.inr rfl) (by first | exact Nat.le_of_ble_eq_true rfl | (simp; done) | (simp; omega)) (by first | exact Nat.le_of_ble_eq_true rfl | (simp; done) | (simp; omega)) ⟨rfl, rfl⟩
set_option maxRecDepth 65536 in
set_option maxHeartbeats 4000000 in
theorem s_initA (l : Launch) {Z : State} {a0 : Array Value} (G : Gl a0 Z) {L : List Ent} {s1 sb vb : Addr} {K : ClassId} {f fb : Bool} {t : List Nat} (hB : (sb, (Ob Z "java/lang/StringBuilder" ns1 [.ref vb, .int 0, .int (Int32.ofNat t.length)]), f) ∈ L) (hV : (vb, (Ar Z .byte K (bsOf t ++ List.replicate (16 - t.length) (.int 0))), fb) ∈ L) (ht : t.length < 16) : Ct WD EL0 l Z (⟨"java/lang/String", "<init>", "(Ljava/lang/AbstractStringBuilder;Ljava/lang/Void;)V"⟩ : MethodName) jdk_42_method_150_code 5 none ({ frames := 3, cells := 1, slots := 16, locals := 49 } : Room) #[.ref s1, .ref sb, .null] (ow s1 (Ob Z "java/lang/String" ns0 [.null, .int 0]) :: L) (r0Q (fun M => ∃ nb K', M = ow nb (Ar Z .byte K' (bsOf t)) :: ow s1 (Ob Z "java/lang/String" ns0 [.ref nb, .int 0]) :: L)) := by
  refine Ct.intro (by decide +kernel) G.2.1 ?_
  intro p e s m below meth c X
  replace X : Cx WD EL0 p Z s m meth c "java/lang/String" "<init>" jdk_42_method_150_code 5 none := X
  refine Go.cast (g' := mkF m 0 #[.val (.ref s1), .val (.ref sb), .val .null, .unset, .unset] []) (by first | rfl | (simp [entryFrame, mkF, argsToLocals, Value.category, maxLocals]; done)) ?_
  refine Go.aloadN X d38_0 rfl rfl ?_
  refine Go.initObj X (w19 G) (w20 G) (w21 G) d38_1 rfl (Nat.le_of_ble_eq_true rfl) (Nat.le_of_ble_eq_true rfl) ?_
  refine Go.aloadN X d38_4 rfl rfl ?_
  refine Go.callV X (fun h H => H.exaM (List.mem_cons_of_mem _ hB) (fun c q => ⟨_, _, q⟩)) (b_val l G (List.mem_cons_of_mem _ hB)) (rest := []) (w204 G) (w205 G) (nfS (w207 G)) (w207 G) (w206 G) (w146 G) (w208 G) (by decide) pd22 rfl rfl d38_5 rfl (by first | exact Nat.le_of_ble_eq_true rfl | (simp; done) | (simp; omega)) (by first | exact Nat.le_of_ble_eq_true rfl | (simp; done) | (simp; omega)) (by first | exact Nat.le_of_ble_eq_true rfl | (simp; done) | (simp; omega)) (by first | exact Nat.le_of_ble_eq_true rfl | (simp; done) | (simp; omega)) (Kv ?_)
  rintro v M ⟨rfl, rfl⟩
  refine Go.astoreN X d38_8 rfl rfl ?_
  refine Go.aloadN X d38_9 rfl rfl ?_
  refine Go.callV X (fun h H => H.exaM (List.mem_cons_of_mem _ hB) (fun c q => ⟨_, _, q⟩)) (b_len l G (List.mem_cons_of_mem _ hB)) (rest := []) (w209 G) (w210 G) (nfX (w170 G) rfl) (w212 G) (w213 G) (w138 G) (w214 G) (by decide) pd6 rfl rfl d38_10 rfl (by first | exact Nat.le_of_ble_eq_true rfl | (simp; done) | (simp; omega)) (by first | exact Nat.le_of_ble_eq_true rfl | (simp; done) | (simp; omega)) (by first | exact Nat.le_of_ble_eq_true rfl | (simp; done) | (simp; omega)) (by first | exact Nat.le_of_ble_eq_true rfl | (simp; done) | (simp; omega)) (Kv ?_)
  rintro v M ⟨rfl, rfl⟩
  refine Go.istore X d38_13 rfl ?_
  refine Go.aloadN X d38_15 rfl rfl ?_
  refine Go.callV X (fun h H => H.exaM (List.mem_cons_of_mem _ hB) (fun c q => ⟨_, _, q⟩)) (b_lat l G (List.mem_cons_of_mem _ hB)) (rest := []) (w217 G) (w218 G) (nfS (w220 G)) (w220 G) (w219 G) (w146 G) (w221 G) (by decide) pd15 rfl rfl d38_16 rfl (by first | exact Nat.le_of_ble_eq_true rfl | (simp; done) | (simp; omega)) (by first | exact Nat.le_of_ble_eq_true rfl | (simp; done) | (simp; omega)) (by first | exact Nat.le_of_ble_eq_true rfl | (simp; done) | (simp; omega)) (by first | exact Nat.le_of_ble_eq_true rfl | (simp; done) | (simp; omega)) (Kv ?_)
  rintro v M ⟨rfl, rfl⟩
  refine Go.ifc X d38_19 (pt := 41) ⟨by decide, by decide⟩ ?_ ?_
  · intro q; exact absurd (show (1 : Int32) = 0 from q) (by decide)
  intro _
  refine Go.aloadN X d38_22 rfl rfl ?_
  refine Go.iconst X (v := 0) d38_23 (by decide) ?_
  refine Go.putFld X (i := 0) rfl (j := 1) rfl (lay0 G) (w29 G) Via.refl (Or.inr ⟨(w25 G), rfl, rfl⟩) (w9 G) pf1 d38_24 (by rfl) (by rfl) ?_
  refine Go.aloadN X d38_27 rfl rfl ?_
  refine Go.aloadN X d38_28 rfl rfl ?_
  refine Go.iconst X (v := 0) d38_29 (by decide) ?_
  refine Go.iload X d38_30 rfl ?_
  have r := r_copy l G (L := ow s1 (Ob Z "java/lang/String" ns0 [.null, .int 0]) :: L) (b := vb) (vs := bsOf t ++ List.replicate (16 - t.length) (.int 0)) (F := 0) (E := t.length) (cap := 16) (List.mem_cons_of_mem _ hV) (by omega) (by simp [bs_len]) (by omega) (by omega) (Or.inr (by simp [bs_len]; omega))
  refine Go.callS X (r) (rest := [.ref s1]) (w222 G) (w223 G) (w224 G) (w225 G) (by decide) pd11 rfl rfl d38_32 rfl (by first | exact Nat.le_of_ble_eq_true rfl | (simp; done) | (simp; omega)) (by first | exact Nat.le_of_ble_eq_true rfl | (simp; done) | (simp; omega)) (by first | exact Nat.le_of_ble_eq_true rfl | (simp; done) | (simp; omega)) (by first | exact Nat.le_of_ble_eq_true rfl | (simp; done) | (simp; omega)) (Kv ?_)
  rintro v M ⟨nb, K', rfl, rfl⟩
  rw [List.drop_zero, Nat.sub_zero, List.take_append_of_le_length (by rw [bs_len]; omega), List.take_of_length_le (by rw [bs_len]; omega)]
  refine Go.putFld X (i := 1) rfl (j := 0) rfl (lay0 G) (w28 G) Via.refl (Or.inr ⟨(w24 G), rfl, rfl⟩) (w9 G) pf0 d38_35 (by rfl) (by rfl) ?_
  refine Go.goto X d38_38 (pt := 97) ⟨by decide, by decide⟩ ?_
  exact Go.ret0 X d38_97 (by first | exact Nat.le_of_ble_eq_true rfl | (simp; done) | (simp; omega)) (by first | exact Nat.le_of_ble_eq_true rfl | (simp; done) | (simp; omega)) ⟨nb, K', rfl⟩
set_option maxRecDepth 65536 in
set_option maxHeartbeats 4000000 in
theorem s_initS (l : Launch) {Z : State} {a0 : Array Value} (G : Gl a0 Z) {L : List Ent} {s1 sb vb : Addr} {K : ClassId} {f fb : Bool} {t : List Nat} (hB : (sb, (Ob Z "java/lang/StringBuilder" ns1 [.ref vb, .int 0, .int (Int32.ofNat t.length)]), f) ∈ L) (hV : (vb, (Ar Z .byte K (bsOf t ++ List.replicate (16 - t.length) (.int 0))), fb) ∈ L) (ht : t.length < 16) : Ct WD EL0 l Z (⟨"java/lang/String", "<init>", "(Ljava/lang/StringBuilder;)V"⟩ : MethodName) jdk_42_method_53_code 2 none ({ frames := 4, cells := 1, slots := 16, locals := 65 } : Room) #[.ref s1, .ref sb] (ow s1 (Ob Z "java/lang/String" ns0 [.null, .int 0]) :: L) (r0Q (fun M => ∃ nb K', M = ow nb (Ar Z .byte K' (bsOf t)) :: ow s1 (Ob Z "java/lang/String" ns0 [.ref nb, .int 0]) :: L)) := by
  refine Ct.intro (by decide +kernel) G.2.1 ?_
  intro p e s m below meth c X
  replace X : Cx WD EL0 p Z s m meth c "java/lang/String" "<init>" jdk_42_method_53_code 2 none := X
  refine Go.cast (g' := mkF m 0 #[.val (.ref s1), .val (.ref sb)] []) (by first | rfl | (simp [entryFrame, mkF, argsToLocals, Value.category, maxLocals]; done)) ?_
  refine Go.aloadN X d37_0 rfl rfl ?_
  refine Go.aloadN X d37_1 rfl rfl ?_
  refine Go.aconstNull X d37_2 ?_
  refine Go.callI X (s_initA l G hB hV ht) rfl (rest := []) (w201 G) (w202 G) (w10 G) (w203 G) (by decide) pd23 rfl rfl d37_3 rfl (by first | exact Nat.le_of_ble_eq_true rfl | (simp; done) | (simp; omega)) (by first | exact Nat.le_of_ble_eq_true rfl | (simp; done) | (simp; omega)) (by first | exact Nat.le_of_ble_eq_true rfl | (simp; done) | (simp; omega)) (by first | exact Nat.le_of_ble_eq_true rfl | (simp; done) | (simp; omega)) (K0 ?_)
  rintro M ⟨nb, K', rfl⟩
  exact Go.ret0 X d37_6 (by first | exact Nat.le_of_ble_eq_true rfl | (simp; done) | (simp; omega)) (by first | exact Nat.le_of_ble_eq_true rfl | (simp; done) | (simp; omega)) ⟨nb, K', rfl⟩
set_option maxRecDepth 65536 in
set_option maxHeartbeats 4000000 in
theorem b_toS (l : Launch) {Z : State} {a0 : Array Value} (G : Gl a0 Z) {L : List Ent} {sb vb : Addr} {K : ClassId} {f fb : Bool} {t : List Nat} (hB : (sb, (Ob Z "java/lang/StringBuilder" ns1 [.ref vb, .int 0, .int (Int32.ofNat t.length)]), f) ∈ L) (hV : (vb, (Ar Z .byte K (bsOf t ++ List.replicate (16 - t.length) (.int 0))), fb) ∈ L) (ht : t.length < 16) : Ct WD EL0 l Z (⟨"java/lang/StringBuilder", "toString", "()Ljava/lang/String;"⟩ : MethodName) jdk_67_method_42_code 1 (some (.object "java/lang/String")) ({ frames := 5, cells := 2, slots := 20, locals := 79 } : Room) #[.ref sb] L (rvQ (fun v M => ∃ s1 nb K', v = .ref s1 ∧ M = ow nb (Ar Z .byte K' (bsOf t)) :: ow s1 (Ob Z "java/lang/String" ns0 [.ref nb, .int 0]) :: L)) := by
  refine Ct.intro (by decide +kernel) G.2.1 ?_
  intro p e s m below meth c X
  replace X : Cx WD EL0 p Z s m meth c "java/lang/StringBuilder" "toString" jdk_67_method_42_code 1 (some (.object "java/lang/String")) := X
  refine Go.cast (g' := mkF m 0 #[.val (.ref sb)] []) (by first | rfl | (simp [entryFrame, mkF, argsToLocals, Value.category, maxLocals]; done)) ?_
  refine Go.new X (w197 G) (w9 G) (w10 G) (lay0 G) df0 d36_0 (by first | exact Nat.le_of_ble_eq_true rfl | (simp; done) | (simp; omega)) (by first | exact Nat.le_of_ble_eq_true rfl | (simp; done) | (simp; omega)) ?_
  intro s1
  refine Go.dup X d36_3 rfl ?_
  refine Go.aloadN X d36_4 rfl rfl ?_
  refine Go.callI X (s_initS l G (s1 := s1) hB hV ht) rfl (rest := [.ref s1]) (w198 G) (w199 G) (w10 G) (w200 G) (by decide) pd24 rfl rfl d36_5 rfl (by first | exact Nat.le_of_ble_eq_true rfl | (simp; done) | (simp; omega)) (by first | exact Nat.le_of_ble_eq_true rfl | (simp; done) | (simp; omega)) (by first | exact Nat.le_of_ble_eq_true rfl | (simp; done) | (simp; omega)) (by first | exact Nat.le_of_ble_eq_true rfl | (simp; done) | (simp; omega)) (K0 ?_)
  rintro M ⟨nb, K', rfl⟩
  exact Go.aret X d36_8 (by rfl) (by rfl) (by rfl) (by first | exact Nat.le_of_ble_eq_true rfl | (simp; done) | (simp; omega)) (by first | exact Nat.le_of_ble_eq_true rfl | (simp; done) | (simp; omega)) ⟨s1, nb, K', rfl, rfl⟩
-- %%% SqlName.of
theorem w32 {a0 : Array Value} {Z : State} (G : Gl a0 Z) : (Jvm.Cond.initialized "com/example/persist/persist/mapping/SqlName").before a0 Z = true := G.1 _ (List.mem_of_getElem? (i := 32) rfl)
theorem w34 {a0 : Array Value} {Z : State} (G : Gl a0 Z) : (Jvm.Cond.methodLink "com/example/persist/persist/mapping/SqlName" (17 : Nat) ({ cls := "java/lang/String", name := "length", desc := "()I" } : Jvm.MethodName)).before a0 Z = true := G.1 _ (List.mem_of_getElem? (i := 34) rfl)
theorem w45 {a0 : Array Value} {Z : State} (G : Gl a0 Z) : (Jvm.Cond.classLink "com/example/persist/persist/mapping/SqlName" (8 : Nat) "com/example/persist/persist/mapping/SqlName").before a0 Z = true := G.1 _ (List.mem_of_getElem? (i := 45) rfl)
theorem w46 {a0 : Array Value} {Z : State} (G : Gl a0 Z) : (Jvm.Cond.instantiable "com/example/persist/persist/mapping/SqlName" (2 : Nat)).before a0 Z = true := G.1 _ (List.mem_of_getElem? (i := 46) rfl)
theorem w47 {a0 : Array Value} {Z : State} (G : Gl a0 Z) : (Jvm.Cond.methodLink "com/example/persist/persist/mapping/SqlName" (36 : Nat) ({ cls := "com/example/persist/persist/mapping/SqlName", name := "<init>", desc := "(Ljava/lang/String;Z)V" } : Jvm.MethodName)).before a0 Z = true := G.1 _ (List.mem_of_getElem? (i := 47) rfl)
theorem w48 {a0 : Array Value} {Z : State} (G : Gl a0 Z) : (Jvm.Cond.instanceMethod ({ cls := "com/example/persist/persist/mapping/SqlName", name := "<init>", desc := "(Ljava/lang/String;Z)V" } : Jvm.MethodName)).before a0 Z = true := G.1 _ (List.mem_of_getElem? (i := 48) rfl)
theorem w49 {a0 : Array Value} {Z : State} (G : Gl a0 Z) : (Jvm.Cond.code ({ cls := "com/example/persist/persist/mapping/SqlName", name := "<init>", desc := "(Ljava/lang/String;Z)V" } : Jvm.MethodName) prog_15_method_1_code (3 : Nat) (Option.none : Option Jvm.ClassFile.FieldType)).before a0 Z = true := G.1 _ (List.mem_of_getElem? (i := 49) rfl)
theorem w50 {a0 : Array Value} {Z : State} (G : Gl a0 Z) : (Jvm.Cond.methodLink "com/example/persist/persist/mapping/SqlName" (1 : Nat) ({ cls := "java/lang/Object", name := "<init>", desc := "()V" } : Jvm.MethodName)).before a0 Z = true := G.1 _ (List.mem_of_getElem? (i := 50) rfl)
theorem w51 {a0 : Array Value} {Z : State} (G : Gl a0 Z) : (Jvm.Cond.fieldLink "com/example/persist/persist/mapping/SqlName" (7 : Nat) "com/example/persist/persist/mapping/SqlName" "text" "Ljava/lang/String;").before a0 Z = true := G.1 _ (List.mem_of_getElem? (i := 51) rfl)
theorem w52 {a0 : Array Value} {Z : State} (G : Gl a0 Z) : (Jvm.Cond.laysFinal "com/example/persist/persist/mapping/SqlName" "com/example/persist/persist/mapping/SqlName" "text" "Ljava/lang/String;").before a0 Z = true := G.1 _ (List.mem_of_getElem? (i := 52) rfl)
theorem w53 {a0 : Array Value} {Z : State} (G : Gl a0 Z) : (Jvm.Cond.fieldLink "com/example/persist/persist/mapping/SqlName" (13 : Nat) "com/example/persist/persist/mapping/SqlName" "delimited" "Z").before a0 Z = true := G.1 _ (List.mem_of_getElem? (i := 53) rfl)
theorem w54 {a0 : Array Value} {Z : State} (G : Gl a0 Z) : (Jvm.Cond.laysFinal "com/example/persist/persist/mapping/SqlName" "com/example/persist/persist/mapping/SqlName" "delimited" "Z").before a0 Z = true := G.1 _ (List.mem_of_getElem? (i := 54) rfl)
theorem w85 {a0 : Array Value} {Z : State} (G : Gl a0 Z) : (Jvm.Cond.stringLink "com/example/persist/persist/mapping/SqlName" (23 : Nat) "\"").before a0 Z = true := G.1 _ (List.mem_of_getElem? (i := 85) rfl)
theorem w86 {a0 : Array Value} {Z : State} (G : Gl a0 Z) : (Jvm.Cond.methodLink "com/example/persist/persist/mapping/SqlName" (25 : Nat) ({ cls := "java/lang/String", name := "startsWith", desc := "(Ljava/lang/String;)Z" } : Jvm.MethodName)).before a0 Z = true := G.1 _ (List.mem_of_getElem? (i := 86) rfl)
theorem w87 {a0 : Array Value} {Z : State} (G : Gl a0 Z) : (Jvm.Cond.declares ({ cls := "java/lang/String", name := "startsWith", desc := "(Ljava/lang/String;)Z" } : Jvm.MethodName)).before a0 Z = true := G.1 _ (List.mem_of_getElem? (i := 87) rfl)
theorem w88 {a0 : Array Value} {Z : State} (G : Gl a0 Z) : (Jvm.Cond.instanceMethod ({ cls := "java/lang/String", name := "startsWith", desc := "(Ljava/lang/String;)Z" } : Jvm.MethodName)).before a0 Z = true := G.1 _ (List.mem_of_getElem? (i := 88) rfl)
theorem w89 {a0 : Array Value} {Z : State} (G : Gl a0 Z) : (Jvm.Cond.selects "java/lang/String" ({ cls := "java/lang/String", name := "startsWith", desc := "(Ljava/lang/String;)Z" } : Jvm.MethodName) ({ cls := "java/lang/String", name := "startsWith", desc := "(Ljava/lang/String;)Z" } : Jvm.MethodName)).before a0 Z = true := G.1 _ (List.mem_of_getElem? (i := 89) rfl)
theorem w90 {a0 : Array Value} {Z : State} (G : Gl a0 Z) : (Jvm.Cond.code ({ cls := "java/lang/String", name := "startsWith", desc := "(Ljava/lang/String;)Z" } : Jvm.MethodName) jdk_42_method_76_code (2 : Nat) (Option.some Jvm.ClassFile.FieldType.boolean)).before a0 Z = true := G.1 _ (List.mem_of_getElem? (i := 90) rfl)
theorem w104 {a0 : Array Value} {Z : State} (G : Gl a0 Z) : (Jvm.Cond.methodLink "com/example/persist/persist/mapping/SqlName" (29 : Nat) ({ cls := "java/lang/String", name := "endsWith", desc := "(Ljava/lang/String;)Z" } : Jvm.MethodName)).before a0 Z = true := G.1 _ (List.mem_of_getElem? (i := 104) rfl)
theorem w105 {a0 : Array Value} {Z : State} (G : Gl a0 Z) : (Jvm.Cond.declares ({ cls := "java/lang/String", name := "endsWith", desc := "(Ljava/lang/String;)Z" } : Jvm.MethodName)).before a0 Z = true := G.1 _ (List.mem_of_getElem? (i := 105) rfl)
theorem w106 {a0 : Array Value} {Z : State} (G : Gl a0 Z) : (Jvm.Cond.instanceMethod ({ cls := "java/lang/String", name := "endsWith", desc := "(Ljava/lang/String;)Z" } : Jvm.MethodName)).before a0 Z = true := G.1 _ (List.mem_of_getElem? (i := 106) rfl)
theorem w107 {a0 : Array Value} {Z : State} (G : Gl a0 Z) : (Jvm.Cond.selects "java/lang/String" ({ cls := "java/lang/String", name := "endsWith", desc := "(Ljava/lang/String;)Z" } : Jvm.MethodName) ({ cls := "java/lang/String", name := "endsWith", desc := "(Ljava/lang/String;)Z" } : Jvm.MethodName)).before a0 Z = true := G.1 _ (List.mem_of_getElem? (i := 107) rfl)
theorem w108 {a0 : Array Value} {Z : State} (G : Gl a0 Z) : (Jvm.Cond.code ({ cls := "java/lang/String", name := "endsWith", desc := "(Ljava/lang/String;)Z" } : Jvm.MethodName) jdk_42_method_77_code (2 : Nat) (Option.some Jvm.ClassFile.FieldType.boolean)).before a0 Z = true := G.1 _ (List.mem_of_getElem? (i := 108) rfl)
theorem w109 {a0 : Array Value} {Z : State} (G : Gl a0 Z) : (Jvm.Cond.methodLink "com/example/persist/persist/mapping/SqlName" (32 : Nat) ({ cls := "java/lang/String", name := "substring", desc := "(II)Ljava/lang/String;" } : Jvm.MethodName)).before a0 Z = true := G.1 _ (List.mem_of_getElem? (i := 109) rfl)
theorem w110 {a0 : Array Value} {Z : State} (G : Gl a0 Z) : (Jvm.Cond.declares ({ cls := "java/lang/String", name := "substring", desc := "(II)Ljava/lang/String;" } : Jvm.MethodName)).before a0 Z = true := G.1 _ (List.mem_of_getElem? (i := 110) rfl)
theorem w111 {a0 : Array Value} {Z : State} (G : Gl a0 Z) : (Jvm.Cond.instanceMethod ({ cls := "java/lang/String", name := "substring", desc := "(II)Ljava/lang/String;" } : Jvm.MethodName)).before a0 Z = true := G.1 _ (List.mem_of_getElem? (i := 111) rfl)
theorem w112 {a0 : Array Value} {Z : State} (G : Gl a0 Z) : (Jvm.Cond.selects "java/lang/String" ({ cls := "java/lang/String", name := "substring", desc := "(II)Ljava/lang/String;" } : Jvm.MethodName) ({ cls := "java/lang/String", name := "substring", desc := "(II)Ljava/lang/String;" } : Jvm.MethodName)).before a0 Z = true := G.1 _ (List.mem_of_getElem? (i := 112) rfl)
theorem w113 {a0 : Array Value} {Z : State} (G : Gl a0 Z) : (Jvm.Cond.code ({ cls := "java/lang/String", name := "substring", desc := "(II)Ljava/lang/String;" } : Jvm.MethodName) jdk_42_method_92_code (5 : Nat) (Option.some (Jvm.ClassFile.FieldType.object "java/lang/String"))).before a0 Z = true := G.1 _ (List.mem_of_getElem? (i := 113) rfl)
theorem d6_0 : D1 prog_15_method_2_code 0 (.aload_n 0) 1 1 := ⟨by decide +kernel, rfl⟩
theorem d6_1 : D1 prog_15_method_2_code 1 (.invokevirtual 17) 3 4 := ⟨by decide +kernel, rfl⟩
theorem d6_4 : D1 prog_15_method_2_code 4 (.iconst 2) 1 5 := ⟨by decide +kernel, rfl⟩
theorem d6_5 : D1 prog_15_method_2_code 5 (.if_icmp .lt 25) 3 8 := ⟨by decide +kernel, rfl⟩
theorem d6_8 : D1 prog_15_method_2_code 8 (.aload_n 0) 1 9 := ⟨by decide +kernel, rfl⟩
theorem d6_9 : D1 prog_15_method_2_code 9 (.ldc 23) 2 11 := ⟨by decide +kernel, rfl⟩
theorem d6_11 : D1 prog_15_method_2_code 11 (.invokevirtual 25) 3 14 := ⟨by decide +kernel, rfl⟩
theorem d6_14 : D1 prog_15_method_2_code 14 (.ifCond .eq 16) 3 17 := ⟨by decide +kernel, rfl⟩
theorem d6_17 : D1 prog_15_method_2_code 17 (.aload_n 0) 1 18 := ⟨by decide +kernel, rfl⟩
theorem d6_18 : D1 prog_15_method_2_code 18 (.ldc 23) 2 20 := ⟨by decide +kernel, rfl⟩
theorem d6_20 : D1 prog_15_method_2_code 20 (.invokevirtual 29) 3 23 := ⟨by decide +kernel, rfl⟩
theorem d6_23 : D1 prog_15_method_2_code 23 (.ifCond .eq 7) 3 26 := ⟨by decide +kernel, rfl⟩
theorem d6_26 : D1 prog_15_method_2_code 26 (.iconst 1) 1 27 := ⟨by decide +kernel, rfl⟩
theorem d6_27 : D1 prog_15_method_2_code 27 (.goto 4) 3 30 := ⟨by decide +kernel, rfl⟩
theorem d6_30 : D1 prog_15_method_2_code 30 (.iconst 0) 1 31 := ⟨by decide +kernel, rfl⟩
theorem d6_31 : D1 prog_15_method_2_code 31 (.istore_n 1) 1 32 := ⟨by decide +kernel, rfl⟩
theorem d6_32 : D1 prog_15_method_2_code 32 (.iload_n 1) 1 33 := ⟨by decide +kernel, rfl⟩
theorem d6_33 : D1 prog_15_method_2_code 33 (.ifCond .eq 25) 3 36 := ⟨by decide +kernel, rfl⟩
theorem d6_36 : D1 prog_15_method_2_code 36 (.new 8) 3 39 := ⟨by decide +kernel, rfl⟩
theorem d6_39 : D1 prog_15_method_2_code 39 (.dup) 1 40 := ⟨by decide +kernel, rfl⟩
theorem d6_40 : D1 prog_15_method_2_code 40 (.aload_n 0) 1 41 := ⟨by decide +kernel, rfl⟩
theorem d6_41 : D1 prog_15_method_2_code 41 (.iconst 1) 1 42 := ⟨by decide +kernel, rfl⟩
theorem d6_42 : D1 prog_15_method_2_code 42 (.aload_n 0) 1 43 := ⟨by decide +kernel, rfl⟩
theorem d6_43 : D1 prog_15_method_2_code 43 (.invokevirtual 17) 3 46 := ⟨by decide +kernel, rfl⟩
theorem d6_46 : D1 prog_15_method_2_code 46 (.iconst 1) 1 47 := ⟨by decide +kernel, rfl⟩
theorem d6_47 : D1 prog_15_method_2_code 47 (.isub) 1 48 := ⟨by decide +kernel, rfl⟩
theorem d6_48 : D1 prog_15_method_2_code 48 (.invokevirtual 32) 3 51 := ⟨by decide +kernel, rfl⟩
theorem d6_51 : D1 prog_15_method_2_code 51 (.iconst 1) 1 52 := ⟨by decide +kernel, rfl⟩
theorem d6_52 : D1 prog_15_method_2_code 52 (.invokespecial 36) 3 55 := ⟨by decide +kernel, rfl⟩
theorem d6_55 : D1 prog_15_method_2_code 55 (.goto 12) 3 58 := ⟨by decide +kernel, rfl⟩
theorem d6_58 : D1 prog_15_method_2_code 58 (.new 8) 3 61 := ⟨by decide +kernel, rfl⟩
theorem d6_61 : D1 prog_15_method_2_code 61 (.dup) 1 62 := ⟨by decide +kernel, rfl⟩
theorem d6_62 : D1 prog_15_method_2_code 62 (.aload_n 0) 1 63 := ⟨by decide +kernel, rfl⟩
theorem d6_63 : D1 prog_15_method_2_code 63 (.iconst 0) 1 64 := ⟨by decide +kernel, rfl⟩
theorem d6_64 : D1 prog_15_method_2_code 64 (.invokespecial 36) 3 67 := ⟨by decide +kernel, rfl⟩
theorem d6_67 : D1 prog_15_method_2_code 67 (.areturn) 1 68 := ⟨by decide +kernel, rfl⟩
theorem d9_0 : D1 prog_15_method_1_code 0 (.aload_n 0) 1 1 := ⟨by decide +kernel, rfl⟩
theorem d9_1 : D1 prog_15_method_1_code 1 (.invokespecial 1) 3 4 := ⟨by decide +kernel, rfl⟩
theorem d9_4 : D1 prog_15_method_1_code 4 (.aload_n 0) 1 5 := ⟨by decide +kernel, rfl⟩
theorem d9_5 : D1 prog_15_method_1_code 5 (.aload_n 1) 1 6 := ⟨by decide +kernel, rfl⟩
theorem d9_6 : D1 prog_15_method_1_code 6 (.putfield 7) 3 9 := ⟨by decide +kernel, rfl⟩
theorem d9_9 : D1 prog_15_method_1_code 9 (.aload_n 0) 1 10 := ⟨by decide +kernel, rfl⟩
theorem d9_10 : D1 prog_15_method_1_code 10 (.iload_n 2) 1 11 := ⟨by decide +kernel, rfl⟩
theorem d9_11 : D1 prog_15_method_1_code 11 (.putfield 13) 3 14 := ⟨by decide +kernel, rfl⟩
theorem d9_14 : D1 prog_15_method_1_code 14 (.return_) 1 15 := ⟨by decide +kernel, rfl⟩
def ns2 : List Nm := [("com/example/persist/persist/mapping/SqlName", "text", "Ljava/lang/String;"), ("com/example/persist/persist/mapping/SqlName", "delimited", "Z")]
theorem lay2 {a0 : Array Value} {Z : State} (G : Gl a0 Z) : LayC Z a0 "com/example/persist/persist/mapping/SqlName" ns2 := LayC.of (fun q hq => by
  simp only [ns2, List.mem_cons, List.not_mem_nil, or_false] at hq
  rcases hq with rfl | rfl
  · exact Or.inr (G.1 _ (List.mem_of_getElem? (i := 52) rfl))
  · exact Or.inr (G.1 _ (List.mem_of_getElem? (i := 54) rfl))) (by decide +kernel) (fun q hq => by
  simp only [ns2, List.mem_cons, List.not_mem_nil, or_false] at hq
  rcases hq with rfl | rfl
  · exact ⟨(.object "java/lang/String"), by decide +kernel⟩
  · exact ⟨.boolean, by decide +kernel⟩)
theorem df2 : dfl ns2 = ([.null, .int 0] : List Value).map some := by decide +kernel
theorem pd25 : parseMethodDescriptor "(Ljava/lang/String;)Z" = some ⟨[(.object "java/lang/String")], some .boolean⟩ := by decide +kernel
theorem pd26 : parseMethodDescriptor "(Ljava/lang/String;Z)V" = some ⟨[(.object "java/lang/String"), .boolean], none⟩ := by decide +kernel
theorem pd27 : parseMethodDescriptor "(II)Ljava/lang/String;" = some ⟨[.int, .int], some (.object "java/lang/String")⟩ := by decide +kernel
theorem pf3 : parseFieldDescriptor "Ljava/lang/String;" = some (.object "java/lang/String") := by decide +kernel
theorem pf4 : parseFieldDescriptor "Z" = some .boolean := by decide +kernel
set_option maxRecDepth 65536 in
set_option maxHeartbeats 4000000 in
theorem n_init0 (l : Launch) {Z : State} {a0 : Array Value} (G : Gl a0 Z) {L : List Ent} {o t : Addr} : Ct WD EL0 l Z (⟨"com/example/persist/persist/mapping/SqlName", "<init>", "(Ljava/lang/String;Z)V"⟩ : MethodName) prog_15_method_1_code 3 none ({ frames := 1, cells := 0, slots := 0, locals := 12 } : Room) #[.ref o, .ref t, .int 0] (ow o (Ob Z "com/example/persist/persist/mapping/SqlName" ns2 [.null, .int 0]) :: L) (r0Q (fun M => M = ow o (Ob Z "com/example/persist/persist/mapping/SqlName" ns2 [.ref t, .int 0]) :: L)) := by
  refine Ct.intro (by decide +kernel) G.2.1 ?_
  intro p e s m below meth c X
  replace X : Cx WD EL0 p Z s m meth c "com/example/persist/persist/mapping/SqlName" "<init>" prog_15_method_1_code 3 none := X
  refine Go.cast (g' := mkF m 0 #[.val (.ref o), .val (.ref t), .val (.int 0)] []) (by first | rfl | (simp [entryFrame, mkF, argsToLocals, Value.category, maxLocals]; done)) ?_
  refine Go.aloadN X d9_0 rfl rfl ?_
  refine Go.initObj X (w50 G) (w20 G) (w21 G) d9_1 rfl (Nat.le_of_ble_eq_true rfl) (Nat.le_of_ble_eq_true rfl) ?_
  refine Go.aloadN X d9_4 rfl rfl ?_
  refine Go.aloadN X d9_5 rfl rfl ?_
  refine Go.putFld X (i := 0) rfl (j := 0) rfl (lay2 G) (w51 G) Via.refl (Or.inr ⟨(w52 G), rfl, rfl⟩) (w46 G) pf3 d9_6 (by rfl) (by rfl) ?_
  refine Go.aloadN X d9_9 rfl rfl ?_
  refine Go.iloadN X d9_10 rfl ?_
  refine Go.putFld X (i := 0) rfl (j := 1) rfl (lay2 G) (w53 G) Via.refl (Or.inr ⟨(w54 G), rfl, rfl⟩) (w46 G) pf4 d9_11 (by rfl) (by rfl) ?_
  exact Go.ret0 X d9_14 (by first | exact Nat.le_of_ble_eq_true rfl | (simp; done) | (simp; omega)) (by first | exact Nat.le_of_ble_eq_true rfl | (simp; done) | (simp; omega)) rfl
set_option maxRecDepth 65536 in
set_option maxHeartbeats 4000000 in
theorem n_init1 (l : Launch) {Z : State} {a0 : Array Value} (G : Gl a0 Z) {L : List Ent} {o t : Addr} : Ct WD EL0 l Z (⟨"com/example/persist/persist/mapping/SqlName", "<init>", "(Ljava/lang/String;Z)V"⟩ : MethodName) prog_15_method_1_code 3 none ({ frames := 1, cells := 0, slots := 0, locals := 12 } : Room) #[.ref o, .ref t, .int 1] (ow o (Ob Z "com/example/persist/persist/mapping/SqlName" ns2 [.null, .int 0]) :: L) (r0Q (fun M => M = ow o (Ob Z "com/example/persist/persist/mapping/SqlName" ns2 [.ref t, .int 1]) :: L)) := by
  refine Ct.intro (by decide +kernel) G.2.1 ?_
  intro p e s m below meth c X
  replace X : Cx WD EL0 p Z s m meth c "com/example/persist/persist/mapping/SqlName" "<init>" prog_15_method_1_code 3 none := X
  refine Go.cast (g' := mkF m 0 #[.val (.ref o), .val (.ref t), .val (.int 1)] []) (by first | rfl | (simp [entryFrame, mkF, argsToLocals, Value.category, maxLocals]; done)) ?_
  refine Go.aloadN X d9_0 rfl rfl ?_
  refine Go.initObj X (w50 G) (w20 G) (w21 G) d9_1 rfl (Nat.le_of_ble_eq_true rfl) (Nat.le_of_ble_eq_true rfl) ?_
  refine Go.aloadN X d9_4 rfl rfl ?_
  refine Go.aloadN X d9_5 rfl rfl ?_
  refine Go.putFld X (i := 0) rfl (j := 0) rfl (lay2 G) (w51 G) Via.refl (Or.inr ⟨(w52 G), rfl, rfl⟩) (w46 G) pf3 d9_6 (by rfl) (by rfl) ?_
  refine Go.aloadN X d9_9 rfl rfl ?_
  refine Go.iloadN X d9_10 rfl ?_
  refine Go.putFld X (i := 0) rfl (j := 1) rfl (lay2 G) (w53 G) Via.refl (Or.inr ⟨(w54 G), rfl, rfl⟩) (w46 G) pf4 d9_11 (by rfl) (by rfl) ?_
  exact Go.ret0 X d9_14 (by first | exact Nat.le_of_ble_eq_true rfl | (simp; done) | (simp; omega)) (by first | exact Nat.le_of_ble_eq_true rfl | (simp; done) | (simp; omega)) rfl
set_option maxRecDepth 65536 in
set_option maxHeartbeats 4000000 in
theorem n_of_n (l : Launch) {Z : State} {a0 : Array Value} (G : Gl a0 Z) {L : List Ent} {a b : Addr} {c1 : List Nat} (hS : Sx Z L a b c1) (hlt : ∀ c ∈ c1, c < 256) (h4 : c1.length ≤ 4) (hn : ¬ (2 ≤ c1.length ∧ c1[0]? = some 34 ∧ c1[c1.length - 1]? = some 34)) : Ct WD EL0 l Z (⟨"com/example/persist/persist/mapping/SqlName", "of", "(Ljava/lang/String;)Lcom/example/persist/persist/mapping/SqlName;"⟩ : MethodName) prog_15_method_2_code 2 (some (.object "com/example/persist/persist/mapping/SqlName")) ({ frames := 5, cells := 7, slots := 24, locals := 84 } : Room) #[.ref a] L (rvQ (fun v M => ∃ o N, v = .ref o ∧ M = ow o (Ob Z "com/example/persist/persist/mapping/SqlName" ns2 [.ref a, .int 0]) :: (N ++ L))) := by
  refine Ct.intro (by decide +kernel) G.2.1 ?_
  intro p e s m below meth c X
  replace X : Cx WD EL0 p Z s m meth c "com/example/persist/persist/mapping/SqlName" "of" prog_15_method_2_code 2 (some (.object "com/example/persist/persist/mapping/SqlName")) := X
  refine Go.cast (g' := mkF m 0 #[.val (.ref a), .unset] []) (by first | rfl | (simp [entryFrame, mkF, argsToLocals, Value.category, maxLocals]; done)) ?_
  have k30 : ∀ N : List Ent, Go WD EL0 p l e ({ frames := 5, cells := 7, slots := 24, locals := 84 } : Room) Z s m #[.ref a] below meth c (rvQ (fun v M => ∃ o N, v = .ref o ∧ M = ow o (Ob Z "com/example/persist/persist/mapping/SqlName" ns2 [.ref a, .int 0]) :: (N ++ L))) (N ++ L) 4 16 (mkF m 30 #[.val (.ref a), .unset] []) := by
    intro N
    refine Go.iconst X (v := 0) d6_30 (by decide) ?_
    refine Go.istoreN X d6_31 rfl ?_
    refine Go.iloadN X d6_32 rfl ?_
    refine Go.ifc X d6_33 (pt := 58) ⟨by decide, by decide⟩ ?_ ?_
    rotate_left
    · intro q; exact absurd rfl q
    intro _
    refine Go.new X (w45 G) (w46 G) (w32 G) (lay2 G) df2 d6_58 (by first | exact Nat.le_of_ble_eq_true rfl | (simp; done) | (simp; omega)) (by first | exact Nat.le_of_ble_eq_true rfl | (simp; done) | (simp; omega)) ?_
    intro o
    refine Go.dup X d6_61 rfl ?_
    refine Go.aloadN X d6_62 rfl rfl ?_
    refine Go.iconst X (v := 0) d6_63 (by decide) ?_
    refine Go.callI X (n_init0 l G (o := o) (t := a)) rfl (rest := [.ref o]) (w47 G) (w48 G) (w32 G) (w49 G) (by decide) pd26 rfl rfl d6_64 rfl (by first | exact Nat.le_of_ble_eq_true rfl | (simp; done) | (simp; omega)) (by first | exact Nat.le_of_ble_eq_true rfl | (simp; done) | (simp; omega)) (by first | exact Nat.le_of_ble_eq_true rfl | (simp; done) | (simp; omega)) (by first | exact Nat.le_of_ble_eq_true rfl | (simp; done) | (simp; omega)) (K0 ?_)
    rintro M rfl
    exact Go.aret X d6_67 (by rfl) (by rfl) (by rfl) (by first | exact Nat.le_of_ble_eq_true rfl | (simp; done) | (simp; omega)) (by first | exact Nat.le_of_ble_eq_true rfl | (simp; done) | (simp; omega)) ⟨o, N, rfl, rfl⟩
  obtain ⟨m1, m2, m3⟩ := nat32 (i := c1.length) (by omega)
  refine Go.aloadN X d6_0 rfl rfl ?_
  refine Go.callV X (fun h H => (hS.2 h H).1) (s_length l G hS) (rest := []) (w34 G) (w35 G) (nfS (w37 G)) (w37 G) (w36 G) (w10 G) (w38 G) (by decide) pd6 rfl rfl d6_1 rfl (by first | exact Nat.le_of_ble_eq_true rfl | (simp; done) | (simp; omega)) (by first | exact Nat.le_of_ble_eq_true rfl | (simp; done) | (simp; omega)) (by first | exact Nat.le_of_ble_eq_true rfl | (simp; done) | (simp; omega)) (by first | exact Nat.le_of_ble_eq_true rfl | (simp; done) | (simp; omega)) (Kv ?_)
  rintro v M ⟨rfl, rfl⟩
  refine Go.iconst X (v := 2) d6_4 (by decide) ?_
  refine Go.icmp X d6_5 (pt := 30) ⟨by decide, by decide⟩ ?_ ?_
  · intro _
    exact Go.book (by first | exact Nat.le_of_ble_eq_true rfl | (simp; done) | (simp; omega)) (by first | exact Nat.le_of_ble_eq_true rfl | (simp; done) | (simp; omega)) (k30 [])
  intro q
  have q : ¬ (c1.length : Int) < 2 := ccN (b := 2) q m1 rfl
  refine Go.aloadN X d6_8 rfl rfl ?_
  refine Go.ldcS X (text := "\"") (vs := bsOf [34]) (z := 1) (N := 4) (w85 G) (sAtoms G) (by decide) ⟨by decide, by first | rfl | decide +kernel⟩ (by decide) (by decide) d6_9 (by decide) (by decide) (by first | exact Nat.le_of_ble_eq_true rfl | (simp; done) | (simp; omega)) (by first | exact Nat.le_of_ble_eq_true rfl | (simp; done) | (simp; omega)) ?_
  intro a2 b2 K2
  refine Go.callV X (fun h H => (hS.up.up.2 h H).1) (s_sw l G hS.up.up Sx.lit hlt (by omega)) (rest := []) (w86 G) (w87 G) (nfS (w89 G)) (w89 G) (w88 G) (w10 G) (w90 G) (by decide) pd25 rfl rfl d6_11 rfl (by first | exact Nat.le_of_ble_eq_true rfl | (simp; done) | (simp; omega)) (by first | exact Nat.le_of_ble_eq_true rfl | (simp; done) | (simp; omega)) (by first | exact Nat.le_of_ble_eq_true rfl | (simp; done) | (simp; omega)) (by first | exact Nat.le_of_ble_eq_true rfl | (simp; done) | (simp; omega)) (Kv ?_)
  rintro v M ⟨rfl, rfl⟩
  by_cases q0 : c1[0]? = some 34
  rotate_left
  · rw [if_neg q0]
    refine Go.ifc X d6_14 (pt := 30) ⟨by decide, by decide⟩ ?_ ?_
    rotate_left
    · intro z; exact absurd rfl z
    intro _
    exact Go.book (by first | exact Nat.le_of_ble_eq_true rfl | (simp; done) | (simp; omega)) (by first | exact Nat.le_of_ble_eq_true rfl | (simp; done) | (simp; omega)) (k30 [ro a2 (Lt Z b2), ro b2 (Ar Z .byte K2 (bsOf [34]))])
  rw [if_pos q0]
  refine Go.ifc X d6_14 (pt := 30) ⟨by decide, by decide⟩ ?_ ?_
  · intro z; exact absurd (show (1 : Int32) = 0 from z) (by decide)
  intro _
  refine Go.aloadN X d6_17 rfl rfl ?_
  refine Go.ldcS X (text := "\"") (vs := bsOf [34]) (z := 1) (N := 4) (w85 G) (sAtoms G) (by decide) ⟨by decide, by first | rfl | decide +kernel⟩ (by decide) (by decide) d6_18 (by decide) (by decide) (by first | exact Nat.le_of_ble_eq_true rfl | (simp; done) | (simp; omega)) (by first | exact Nat.le_of_ble_eq_true rfl | (simp; done) | (simp; omega)) ?_
  intro a3 b3 K3
  refine Go.callV X (fun h H => (hS.up.up.up.up.2 h H).1) (s_ew l G hS.up.up.up.up Sx.lit hlt (by omega)) (rest := []) (w104 G) (w105 G) (nfS (w107 G)) (w107 G) (w106 G) (w10 G) (w108 G) (by decide) pd25 rfl rfl d6_20 rfl (by first | exact Nat.le_of_ble_eq_true rfl | (simp; done) | (simp; omega)) (by first | exact Nat.le_of_ble_eq_true rfl | (simp; done) | (simp; omega)) (by first | exact Nat.le_of_ble_eq_true rfl | (simp; done) | (simp; omega)) (by first | exact Nat.le_of_ble_eq_true rfl | (simp; done) | (simp; omega)) (Kv ?_)
  rintro v M ⟨rfl, rfl⟩
  rw [if_neg (fun z => hn ⟨by omega, q0, z⟩)]
  refine Go.ifc X d6_23 (pt := 30) ⟨by decide, by decide⟩ ?_ ?_
  rotate_left
  · intro z; exact absurd rfl z
  intro _
  exact Go.book (by first | exact Nat.le_of_ble_eq_true rfl | (simp; done) | (simp; omega)) (by first | exact Nat.le_of_ble_eq_true rfl | (simp; done) | (simp; omega)) (k30 [ro a3 (Lt Z b3), ro b3 (Ar Z .byte K3 (bsOf [34])), ro a2 (Lt Z b2), ro b2 (Ar Z .byte K2 (bsOf [34]))])
set_option maxRecDepth 65536 in
set_option maxHeartbeats 4000000 in
theorem n_of_y (l : Launch) {Z : State} {a0 : Array Value} (G : Gl a0 Z) {L : List Ent} {a b : Addr} {c1 : List Nat} (hS : Sx Z L a b c1) (hlt : ∀ c ∈ c1, c < 256) (h4 : c1.length ≤ 4) (h2 : 2 ≤ c1.length) (q0 : c1[0]? = some 34) (q1 : c1[c1.length - 1]? = some 34) : Ct WD EL0 l Z (⟨"com/example/persist/persist/mapping/SqlName", "of", "(Ljava/lang/String;)Lcom/example/persist/persist/mapping/SqlName;"⟩ : MethodName) prog_15_method_2_code 2 (some (.object "com/example/persist/persist/mapping/SqlName")) ({ frames := 5, cells := 7, slots := 24, locals := 84 } : Room) #[.ref a] L (rvQ (fun v M => ∃ o t pt N, v = .ref o ∧ M = ow o (Ob Z "com/example/persist/persist/mapping/SqlName" ns2 [.ref t, .int 1]) :: (N ++ L) ∧ ∀ L', Sx Z (N ++ L') t pt ((c1.drop 1).take (c1.length - 2)))) := by
  refine Ct.intro (by decide +kernel) G.2.1 ?_
  intro p e s m below meth c X
  replace X : Cx WD EL0 p Z s m meth c "com/example/persist/persist/mapping/SqlName" "of" prog_15_method_2_code 2 (some (.object "com/example/persist/persist/mapping/SqlName")) := X
  refine Go.cast (g' := mkF m 0 #[.val (.ref a), .unset] []) (by first | rfl | (simp [entryFrame, mkF, argsToLocals, Value.category, maxLocals]; done)) ?_
  obtain ⟨m1, m2, m3⟩ := nat32 (i := c1.length) (by omega)
  refine Go.aloadN X d6_0 rfl rfl ?_
  refine Go.callV X (fun h H => (hS.2 h H).1) (s_length l G hS) (rest := []) (w34 G) (w35 G) (nfS (w37 G)) (w37 G) (w36 G) (w10 G) (w38 G) (by decide) pd6 rfl rfl d6_1 rfl (by first | exact Nat.le_of_ble_eq_true rfl | (simp; done) | (simp; omega)) (by first | exact Nat.le_of_ble_eq_true rfl | (simp; done) | (simp; omega)) (by first | exact Nat.le_of_ble_eq_true rfl | (simp; done) | (simp; omega)) (by first | exact Nat.le_of_ble_eq_true rfl | (simp; done) | (simp; omega)) (Kv ?_)
  rintro v M ⟨rfl, rfl⟩
  refine Go.iconst X (v := 2) d6_4 (by decide) ?_
  refine Go.icmp X d6_5 (pt := 30) ⟨by decide, by decide⟩ ?_ ?_
  · intro q
    have q : (c1.length : Int) < 2 := ccL (b := 2) q m1 rfl
    omega
  intro _
  refine Go.aloadN X d6_8 rfl rfl ?_
  refine Go.ldcS X (text := "\"") (vs := bsOf [34]) (z := 1) (N := 4) (w85 G) (sAtoms G) (by decide) ⟨by decide, by first | rfl | decide +kernel⟩ (by decide) (by decide) d6_9 (by decide) (by decide) (by first | exact Nat.le_of_ble_eq_true rfl | (simp; done) | (simp; omega)) (by first | exact Nat.le_of_ble_eq_true rfl | (simp; done) | (simp; omega)) ?_
  intro a2 b2 K2
  refine Go.callV X (fun h H => (hS.up.up.2 h H).1) (s_sw l G hS.up.up Sx.lit hlt (by omega)) (rest := []) (w86 G) (w87 G) (nfS (w89 G)) (w89 G) (w88 G) (w10 G) (w90 G) (by decide) pd25 rfl rfl d6_11 rfl (by first | exact Nat.le_of_ble_eq_true rfl | (simp; done) | (simp; omega)) (by first | exact Nat.le_of_ble_eq_true rfl | (simp; done) | (simp; omega)) (by first | exact Nat.le_of_ble_eq_true rfl | (simp; done) | (simp; omega)) (by first | exact Nat.le_of_ble_eq_true rfl | (simp; done) | (simp; omega)) (Kv ?_)
  rintro v M ⟨rfl, rfl⟩
  rw [if_pos q0]
  refine Go.ifc X d6_14 (pt := 30) ⟨by decide, by decide⟩ ?_ ?_
  · intro z; exact absurd (show (1 : Int32) = 0 from z) (by decide)
  intro _
  refine Go.aloadN X d6_17 rfl rfl ?_
  refine Go.ldcS X (text := "\"") (vs := bsOf [34]) (z := 1) (N := 4) (w85 G) (sAtoms G) (by decide) ⟨by decide, by first | rfl | decide +kernel⟩ (by decide) (by decide) d6_18 (by decide) (by decide) (by first | exact Nat.le_of_ble_eq_true rfl | (simp; done) | (simp; omega)) (by first | exact Nat.le_of_ble_eq_true rfl | (simp; done) | (simp; omega)) ?_
  intro a3 b3 K3
  refine Go.callV X (fun h H => (hS.up.up.up.up.2 h H).1) (s_ew l G hS.up.up.up.up Sx.lit hlt (by omega)) (rest := []) (w104 G) (w105 G) (nfS (w107 G)) (w107 G) (w106 G) (w10 G) (w108 G) (by decide) pd25 rfl rfl d6_20 rfl (by first | exact Nat.le_of_ble_eq_true rfl | (simp; done) | (simp; omega)) (by first | exact Nat.le_of_ble_eq_true rfl | (simp; done) | (simp; omega)) (by first | exact Nat.le_of_ble_eq_true rfl | (simp; done) | (simp; omega)) (by first | exact Nat.le_of_ble_eq_true rfl | (simp; done) | (simp; omega)) (Kv ?_)
  rintro v M ⟨rfl, rfl⟩
  rw [if_pos q1]
  refine Go.ifc X d6_23 (pt := 30) ⟨by decide, by decide⟩ ?_ ?_
  · intro z; exact absurd (show (1 : Int32) = 0 from z) (by decide)
  intro _
  refine Go.iconst X (v := 1) d6_26 (by decide) ?_
  refine Go.goto X d6_27 (pt := 31) ⟨by decide, by decide⟩ ?_
  refine Go.istoreN X d6_31 rfl ?_
  refine Go.iloadN X d6_32 rfl ?_
  refine Go.ifc X d6_33 (pt := 58) ⟨by decide, by decide⟩ ?_ ?_
  · intro z; exact absurd (show (1 : Int32) = 0 from z) (by decide)
  intro _
  refine Go.new X (w45 G) (w46 G) (w32 G) (lay2 G) df2 d6_36 (by first | exact Nat.le_of_ble_eq_true rfl | (simp; done) | (simp; omega)) (by first | exact Nat.le_of_ble_eq_true rfl | (simp; done) | (simp; omega)) ?_
  intro o
  refine Go.dup X d6_39 rfl ?_
  refine Go.aloadN X d6_40 rfl rfl ?_
  refine Go.iconst X (v := 1) d6_41 (by decide) ?_
  refine Go.aloadN X d6_42 rfl rfl ?_
  refine Go.callV X (fun h H => (hS.up.up.up.up.up.2 h H).1) (s_length l G hS.up.up.up.up.up) (rest := [.int 1, .ref a, .ref o, .ref o]) (w34 G) (w35 G) (nfS (w37 G)) (w37 G) (w36 G) (w10 G) (w38 G) (by decide) pd6 rfl rfl d6_43 rfl (by first | exact Nat.le_of_ble_eq_true rfl | (simp; done) | (simp; omega)) (by first | exact Nat.le_of_ble_eq_true rfl | (simp; done) | (simp; omega)) (by first | exact Nat.le_of_ble_eq_true rfl | (simp; done) | (simp; omega)) (by first | exact Nat.le_of_ble_eq_true rfl | (simp; done) | (simp; omega)) (Kv ?_)
  rintro v M ⟨rfl, rfl⟩
  refine Go.iconst X (v := 1) d6_46 (by decide) ?_
  refine Go.isub X d6_47 ?_
  rw [show c1.length.toInt32 - 1 = Int32.ofNat (c1.length - 1) from sub1 (by omega) (by omega)]
  refine Go.callV X (fun h H => (hS.up.up.up.up.up.2 h H).1) (s_sub l G hS.up.up.up.up.up h2 h4) (rest := [.ref o, .ref o]) (w109 G) (w110 G) (nfS (w112 G)) (w112 G) (w111 G) (w10 G) (w113 G) (by decide) pd27 rfl rfl d6_48 rfl (by first | exact Nat.le_of_ble_eq_true rfl | (simp; done) | (simp; omega)) (by first | exact Nat.le_of_ble_eq_true rfl | (simp; done) | (simp; omega)) (by first | exact Nat.le_of_ble_eq_true rfl | (simp; done) | (simp; omega)) (by first | exact Nat.le_of_ble_eq_true rfl | (simp; done) | (simp; omega)) (Kv ?_)
  rintro v M ⟨t, pt, N, rfl, rfl, hT⟩
  refine Go.iconst X (v := 1) d6_51 (by decide) ?_
  refine Go.perm (List.perm_middle) ?_
  refine Go.callI X (n_init1 l G (o := o) (t := t)) rfl (rest := [.ref o]) (w47 G) (w48 G) (w32 G) (w49 G) (by decide) pd26 rfl rfl d6_52 rfl (by first | exact Nat.le_of_ble_eq_true rfl | (simp; done) | (simp; omega)) (by first | exact Nat.le_of_ble_eq_true rfl | (simp; done) | (simp; omega)) (by first | exact Nat.le_of_ble_eq_true rfl | (simp; done) | (simp; omega)) (by first | exact Nat.le_of_ble_eq_true rfl | (simp; done) | (simp; omega)) (K0 ?_)
  rintro M rfl
  refine Go.goto X d6_55 (pt := 67) ⟨by decide, by decide⟩ ?_
  exact Go.aret X d6_67 (by rfl) (by rfl) (by rfl) (by first | exact Nat.le_of_ble_eq_true rfl | (simp; done) | (simp; omega)) (by first | exact Nat.le_of_ble_eq_true rfl | (simp; done) | (simp; omega)) ⟨o, t, pt, N ++ [ro a3 (Lt Z b3), ro b3 (Ar Z .byte K3 (bsOf [34])), ro a2 (Lt Z b2), ro b2 (Ar Z .byte K2 (bsOf [34]))], rfl, by simp, fun L' => by rw [List.append_assoc]; exact hT _⟩
-- %%% SqlName
theorem w136 {a0 : Array Value} {Z : State} (G : Gl a0 Z) : (Jvm.Cond.classLink "com/example/persist/persist/mapping/SqlName" (39 : Nat) "java/lang/StringBuilder").before a0 Z = true := G.1 _ (List.mem_of_getElem? (i := 136) rfl)
theorem w139 {a0 : Array Value} {Z : State} (G : Gl a0 Z) : (Jvm.Cond.methodLink "com/example/persist/persist/mapping/SqlName" (41 : Nat) ({ cls := "java/lang/StringBuilder", name := "<init>", desc := "()V" } : Jvm.MethodName)).before a0 Z = true := G.1 _ (List.mem_of_getElem? (i := 139) rfl)
theorem w140 {a0 : Array Value} {Z : State} (G : Gl a0 Z) : (Jvm.Cond.instanceMethod ({ cls := "java/lang/StringBuilder", name := "<init>", desc := "()V" } : Jvm.MethodName)).before a0 Z = true := G.1 _ (List.mem_of_getElem? (i := 140) rfl)
theorem w141 {a0 : Array Value} {Z : State} (G : Gl a0 Z) : (Jvm.Cond.code ({ cls := "java/lang/StringBuilder", name := "<init>", desc := "()V" } : Jvm.MethodName) jdk_67_method_1_code (1 : Nat) (Option.none : Option Jvm.ClassFile.FieldType)).before a0 Z = true := G.1 _ (List.mem_of_getElem? (i := 141) rfl)
theorem w154 {a0 : Array Value} {Z : State} (G : Gl a0 Z) : (Jvm.Cond.methodLink "com/example/persist/persist/mapping/SqlName" (42 : Nat) ({ cls := "java/lang/StringBuilder", name := "append", desc := "(Ljava/lang/String;)Ljava/lang/StringBuilder;" } : Jvm.MethodName)).before a0 Z = true := G.1 _ (List.mem_of_getElem? (i := 154) rfl)
theorem w155 {a0 : Array Value} {Z : State} (G : Gl a0 Z) : (Jvm.Cond.declares ({ cls := "java/lang/StringBuilder", name := "append", desc := "(Ljava/lang/String;)Ljava/lang/StringBuilder;" } : Jvm.MethodName)).before a0 Z = true := G.1 _ (List.mem_of_getElem? (i := 155) rfl)
theorem w156 {a0 : Array Value} {Z : State} (G : Gl a0 Z) : (Jvm.Cond.instanceMethod ({ cls := "java/lang/StringBuilder", name := "append", desc := "(Ljava/lang/String;)Ljava/lang/StringBuilder;" } : Jvm.MethodName)).before a0 Z = true := G.1 _ (List.mem_of_getElem? (i := 156) rfl)
theorem w157 {a0 : Array Value} {Z : State} (G : Gl a0 Z) : (Jvm.Cond.selects "java/lang/StringBuilder" ({ cls := "java/lang/StringBuilder", name := "append", desc := "(Ljava/lang/String;)Ljava/lang/StringBuilder;" } : Jvm.MethodName) ({ cls := "java/lang/StringBuilder", name := "append", desc := "(Ljava/lang/String;)Ljava/lang/StringBuilder;" } : Jvm.MethodName)).before a0 Z = true := G.1 _ (List.mem_of_getElem? (i := 157) rfl)
theorem w158 {a0 : Array Value} {Z : State} (G : Gl a0 Z) : (Jvm.Cond.code ({ cls := "java/lang/StringBuilder", name := "append", desc := "(Ljava/lang/String;)Ljava/lang/StringBuilder;" } : Jvm.MethodName) jdk_67_method_7_code (2 : Nat) (Option.some (Jvm.ClassFile.FieldType.object "java/lang/StringBuilder"))).before a0 Z = true := G.1 _ (List.mem_of_getElem? (i := 158) rfl)
theorem w192 {a0 : Array Value} {Z : State} (G : Gl a0 Z) : (Jvm.Cond.methodLink "com/example/persist/persist/mapping/SqlName" (46 : Nat) ({ cls := "java/lang/StringBuilder", name := "toString", desc := "()Ljava/lang/String;" } : Jvm.MethodName)).before a0 Z = true := G.1 _ (List.mem_of_getElem? (i := 192) rfl)
theorem w193 {a0 : Array Value} {Z : State} (G : Gl a0 Z) : (Jvm.Cond.declares ({ cls := "java/lang/StringBuilder", name := "toString", desc := "()Ljava/lang/String;" } : Jvm.MethodName)).before a0 Z = true := G.1 _ (List.mem_of_getElem? (i := 193) rfl)
theorem w194 {a0 : Array Value} {Z : State} (G : Gl a0 Z) : (Jvm.Cond.instanceMethod ({ cls := "java/lang/StringBuilder", name := "toString", desc := "()Ljava/lang/String;" } : Jvm.MethodName)).before a0 Z = true := G.1 _ (List.mem_of_getElem? (i := 194) rfl)
theorem w195 {a0 : Array Value} {Z : State} (G : Gl a0 Z) : (Jvm.Cond.selects "java/lang/StringBuilder" ({ cls := "java/lang/StringBuilder", name := "toString", desc := "()Ljava/lang/String;" } : Jvm.MethodName) ({ cls := "java/lang/StringBuilder", name := "toString", desc := "()Ljava/lang/String;" } : Jvm.MethodName)).before a0 Z = true := G.1 _ (List.mem_of_getElem? (i := 195) rfl)
theorem w196 {a0 : Array Value} {Z : State} (G : Gl a0 Z) : (Jvm.Cond.code ({ cls := "java/lang/StringBuilder", name := "toString", desc := "()Ljava/lang/String;" } : Jvm.MethodName) jdk_67_method_42_code (1 : Nat) (Option.some (Jvm.ClassFile.FieldType.object "java/lang/String"))).before a0 Z = true := G.1 _ (List.mem_of_getElem? (i := 196) rfl)
theorem d10_0 : D1 prog_15_method_4_code 0 (.aload_n 0) 1 1 := ⟨by decide +kernel, rfl⟩
theorem d10_1 : D1 prog_15_method_4_code 1 (.getfield 13) 3 4 := ⟨by decide +kernel, rfl⟩
theorem d10_4 : D1 prog_15_method_4_code 4 (.ireturn) 1 5 := ⟨by decide +kernel, rfl⟩
theorem d11_0 : D1 prog_15_method_3_code 0 (.aload_n 0) 1 1 := ⟨by decide +kernel, rfl⟩
theorem d11_1 : D1 prog_15_method_3_code 1 (.getfield 7) 3 4 := ⟨by decide +kernel, rfl⟩
theorem d11_4 : D1 prog_15_method_3_code 4 (.areturn) 1 5 := ⟨by decide +kernel, rfl⟩
theorem d13_0 : D1 prog_15_method_5_code 0 (.aload_n 0) 1 1 := ⟨by decide +kernel, rfl⟩
theorem d13_1 : D1 prog_15_method_5_code 1 (.getfield 13) 3 4 := ⟨by decide +kernel, rfl⟩
theorem d13_4 : D1 prog_15_method_5_code 4 (.ifCond .eq 33) 3 7 := ⟨by decide +kernel, rfl⟩
theorem d13_7 : D1 prog_15_method_5_code 7 (.new 39) 3 10 := ⟨by decide +kernel, rfl⟩
theorem d13_10 : D1 prog_15_method_5_code 10 (.dup) 1 11 := ⟨by decide +kernel, rfl⟩
theorem d13_11 : D1 prog_15_method_5_code 11 (.invokespecial 41) 3 14 := ⟨by decide +kernel, rfl⟩
theorem d13_14 : D1 prog_15_method_5_code 14 (.ldc 23) 2 16 := ⟨by decide +kernel, rfl⟩
theorem d13_16 : D1 prog_15_method_5_code 16 (.invokevirtual 42) 3 19 := ⟨by decide +kernel, rfl⟩
theorem d13_19 : D1 prog_15_method_5_code 19 (.aload_n 0) 1 20 := ⟨by decide +kernel, rfl⟩
theorem d13_20 : D1 prog_15_method_5_code 20 (.getfield 7) 3 23 := ⟨by decide +kernel, rfl⟩
theorem d13_23 : D1 prog_15_method_5_code 23 (.invokevirtual 42) 3 26 := ⟨by decide +kernel, rfl⟩
theorem d13_26 : D1 prog_15_method_5_code 26 (.ldc 23) 2 28 := ⟨by decide +kernel, rfl⟩
theorem d13_28 : D1 prog_15_method_5_code 28 (.invokevirtual 42) 3 31 := ⟨by decide +kernel, rfl⟩
theorem d13_31 : D1 prog_15_method_5_code 31 (.invokevirtual 46) 3 34 := ⟨by decide +kernel, rfl⟩
theorem d13_34 : D1 prog_15_method_5_code 34 (.goto 7) 3 37 := ⟨by decide +kernel, rfl⟩
theorem d13_37 : D1 prog_15_method_5_code 37 (.aload_n 0) 1 38 := ⟨by decide +kernel, rfl⟩
theorem d13_38 : D1 prog_15_method_5_code 38 (.getfield 7) 3 41 := ⟨by decide +kernel, rfl⟩
theorem d13_41 : D1 prog_15_method_5_code 41 (.areturn) 1 42 := ⟨by decide +kernel, rfl⟩
theorem pd28 : parseMethodDescriptor "()V" = some ⟨[], none⟩ := by decide +kernel
theorem pd29 : parseMethodDescriptor "(Ljava/lang/String;)Ljava/lang/StringBuilder;" = some ⟨[(.object "java/lang/String")], some (.object "java/lang/StringBuilder")⟩ := by decide +kernel
theorem pd30 : parseMethodDescriptor "()Ljava/lang/String;" = some ⟨[], some (.object "java/lang/String")⟩ := by decide +kernel
set_option maxRecDepth 65536 in
set_option maxHeartbeats 4000000 in
theorem n_del (l : Launch) {Z : State} {a0 : Array Value} (G : Gl a0 Z) {L : List Ent} {o t : Addr} {f : Bool} {z : Int32} (hO : (o, (Ob Z "com/example/persist/persist/mapping/SqlName" ns2 [.ref t, .int z]), f) ∈ L) (hz : z = 0 ∨ z = 1) : Ct WD EL0 l Z (⟨"com/example/persist/persist/mapping/SqlName", "delimited", "()Z"⟩ : MethodName) prog_15_method_4_code 1 (some .boolean) ({ frames := 0, cells := 0, slots := 0, locals := 0 } : Room) #[.ref o] L (rvQ (fun v M => v = .int z ∧ M = L)) := by
  refine Ct.intro (by decide +kernel) G.2.1 ?_
  intro p e s m below meth c X
  replace X : Cx WD EL0 p Z s m meth c "com/example/persist/persist/mapping/SqlName" "delimited" prog_15_method_4_code 1 (some .boolean) := X
  refine Go.cast (g' := mkF m 0 #[.val (.ref o)] []) (by first | rfl | (simp [entryFrame, mkF, argsToLocals, Value.category, maxLocals]; done)) ?_
  obtain ⟨ib, hib⟩ := List.getElem?_of_mem hO
  refine Go.aloadN X d10_0 rfl rfl ?_
  refine Go.getFld X (w53 G) Via.refl (fun h H => H.fld (i := ib) hib (j := 1) rfl rfl) d10_1 ?_
  exact Go.zret X d10_4 hz (by first | exact Nat.le_of_ble_eq_true rfl | (simp; done) | (simp; omega)) (by first | exact Nat.le_of_ble_eq_true rfl | (simp; done) | (simp; omega)) ⟨rfl, rfl⟩
set_option maxRecDepth 65536 in
set_option maxHeartbeats 4000000 in
theorem n_text (l : Launch) {Z : State} {a0 : Array Value} (G : Gl a0 Z) {L : List Ent} {o t : Addr} {f : Bool} {z : Int32} (hO : (o, (Ob Z "com/example/persist/persist/mapping/SqlName" ns2 [.ref t, .int z]), f) ∈ L) : Ct WD EL0 l Z (⟨"com/example/persist/persist/mapping/SqlName", "text", "()Ljava/lang/String;"⟩ : MethodName) prog_15_method_3_code 1 (some (.object "java/lang/String")) ({ frames := 0, cells := 0, slots := 0, locals := 0 } : Room) #[.ref o] L (rvQ (fun v M => v = .ref t ∧ M = L)) := by
  refine Ct.intro (by decide +kernel) G.2.1 ?_
  intro p e s m below meth c X
  replace X : Cx WD EL0 p Z s m meth c "com/example/persist/persist/mapping/SqlName" "text" prog_15_method_3_code 1 (some (.object "java/lang/String")) := X
  refine Go.cast (g' := mkF m 0 #[.val (.ref o)] []) (by first | rfl | (simp [entryFrame, mkF, argsToLocals, Value.category, maxLocals]; done)) ?_
  obtain ⟨ib, hib⟩ := List.getElem?_of_mem hO
  refine Go.aloadN X d11_0 rfl rfl ?_
  refine Go.getFld X (w51 G) Via.refl (fun h H => H.fld (i := ib) hib (j := 0) rfl rfl) d11_1 ?_
  exact Go.aret X d11_4 (by rfl) (by rfl) (by rfl) (by first | exact Nat.le_of_ble_eq_true rfl | (simp; done) | (simp; omega)) (by first | exact Nat.le_of_ble_eq_true rfl | (simp; done) | (simp; omega)) ⟨rfl, rfl⟩
set_option maxRecDepth 65536 in
set_option maxHeartbeats 4000000 in
theorem n_str0 (l : Launch) {Z : State} {a0 : Array Value} (G : Gl a0 Z) {L : List Ent} {o t : Addr} {f : Bool} (hO : (o, (Ob Z "com/example/persist/persist/mapping/SqlName" ns2 [.ref t, .int 0]), f) ∈ L) : Ct WD EL0 l Z (⟨"com/example/persist/persist/mapping/SqlName", "toString", "()Ljava/lang/String;"⟩ : MethodName) prog_15_method_5_code 1 (some (.object "java/lang/String")) ({ frames := 6, cells := 8, slots := 56, locals := 92 } : Room) #[.ref o] L (rvQ (fun v M => v = .ref t ∧ M = L)) := by
  refine Ct.intro (by decide +kernel) G.2.1 ?_
  intro p e s m below meth c X
  replace X : Cx WD EL0 p Z s m meth c "com/example/persist/persist/mapping/SqlName" "toString" prog_15_method_5_code 1 (some (.object "java/lang/String")) := X
  refine Go.cast (g' := mkF m 0 #[.val (.ref o)] []) (by first | rfl | (simp [entryFrame, mkF, argsToLocals, Value.category, maxLocals]; done)) ?_
  obtain ⟨ib, hib⟩ := List.getElem?_of_mem hO
  refine Go.aloadN X d13_0 rfl rfl ?_
  refine Go.getFld X (w53 G) Via.refl (fun h H => H.fld (i := ib) hib (j := 1) rfl rfl) d13_1 ?_
  refine Go.ifc X d13_4 (pt := 37) ⟨by decide, by decide⟩ ?_ ?_
  rotate_left
  · intro q; exact absurd rfl q
  intro _
  refine Go.aloadN X d13_37 rfl rfl ?_
  refine Go.getFld X (w51 G) Via.refl (fun h H => H.fld (i := ib) hib (j := 0) rfl rfl) d13_38 ?_
  exact Go.aret X d13_41 (by rfl) (by rfl) (by rfl) (by first | exact Nat.le_of_ble_eq_true rfl | (simp; done) | (simp; omega)) (by first | exact Nat.le_of_ble_eq_true rfl | (simp; done) | (simp; omega)) ⟨rfl, rfl⟩
set_option maxRecDepth 65536 in
set_option maxHeartbeats 4000000 in
theorem n_str1 (l : Launch) {Z : State} {a0 : Array Value} (G : Gl a0 Z) {L : List Ent} {o t pt : Addr} {f : Bool} {u : List Nat} (hO : (o, (Ob Z "com/example/persist/persist/mapping/SqlName" ns2 [.ref t, .int 1]), f) ∈ L) (hS : Sx Z L t pt u) (hu : u.length ≤ 2) : Ct WD EL0 l Z (⟨"com/example/persist/persist/mapping/SqlName", "toString", "()Ljava/lang/String;"⟩ : MethodName) prog_15_method_5_code 1 (some (.object "java/lang/String")) ({ frames := 6, cells := 8, slots := 56, locals := 92 } : Room) #[.ref o] L (rvQ (fun v M => ∃ s1 p1 N, v = .ref s1 ∧ M = N ++ L ∧ ∀ L', Sx Z (N ++ L') s1 p1 ([] ++ [34] ++ u ++ [34]))) := by
  refine Ct.intro (by decide +kernel) G.2.1 ?_
  intro p e s m below meth c X
  replace X : Cx WD EL0 p Z s m meth c "com/example/persist/persist/mapping/SqlName" "toString" prog_15_method_5_code 1 (some (.object "java/lang/String")) := X
  refine Go.cast (g' := mkF m 0 #[.val (.ref o)] []) (by first | rfl | (simp [entryFrame, mkF, argsToLocals, Value.category, maxLocals]; done)) ?_
  obtain ⟨ib, hib⟩ := List.getElem?_of_mem hO
  refine Go.aloadN X d13_0 rfl rfl ?_
  refine Go.getFld X (w53 G) Via.refl (fun h H => H.fld (i := ib) hib (j := 1) rfl rfl) d13_1 ?_
  refine Go.ifc X d13_4 (pt := 37) ⟨by decide, by decide⟩ ?_ ?_
  · intro q; exact absurd (show (1 : Int32) = 0 from q) (by decide)
  intro _
  refine Go.new X (w136 G) (w137 G) (w138 G) (lay1 G) df1 d13_7 (by first | exact Nat.le_of_ble_eq_true rfl | (simp; done) | (simp; omega)) (by first | exact Nat.le_of_ble_eq_true rfl | (simp; done) | (simp; omega)) ?_
  intro sb
  refine Go.dup X d13_10 rfl ?_
  refine Go.callI X (b_init l G (a := sb)) rfl (rest := [.ref sb]) (w139 G) (w140 G) (w138 G) (w141 G) (by decide) pd28 rfl rfl d13_11 rfl (by first | exact Nat.le_of_ble_eq_true rfl | (simp; done) | (simp; omega)) (by first | exact Nat.le_of_ble_eq_true rfl | (simp; done) | (simp; omega)) (by first | exact Nat.le_of_ble_eq_true rfl | (simp; done) | (simp; omega)) (by first | exact Nat.le_of_ble_eq_true rfl | (simp; done) | (simp; omega)) (K0 ?_)
  rintro M ⟨vb, K, rfl⟩
  refine Go.ldcS X (text := "\"") (vs := bsOf [34]) (z := 1) (N := 4) (w85 G) (sAtoms G) (by decide) ⟨by decide, by first | rfl | decide +kernel⟩ (by decide) (by decide) d13_14 (by decide) (by decide) (by first | exact Nat.le_of_ble_eq_true rfl | (simp; done) | (simp; omega)) (by first | exact Nat.le_of_ble_eq_true rfl | (simp; done) | (simp; omega)) ?_
  intro a2 b2 K2
  refine Go.perm (L' := ow sb (Ob Z "java/lang/StringBuilder" ns1 [.ref vb, .int 0, .int (Int32.ofNat ([] : List Nat).length)]) :: ow vb (Ar Z .byte K (bsOf ([] : List Nat) ++ List.replicate (16 - ([] : List Nat).length) (.int 0))) :: ro a2 (Lt Z b2) :: ro b2 (Ar Z .byte K2 (bsOf [34])) :: L) ((front (i := 1) rfl).trans ((front (i := 1) rfl).trans ((front (i := 2) rfl).trans (front (i := 3) rfl)))) ?_
  refine Go.callV X (fun h H => H.exa (i := 0) rfl) (b_app l G (t := []) (u := [34]) Sx.lit (by decide)) (rest := []) (w154 G) (w155 G) (nfS (w157 G)) (w157 G) (w156 G) (w138 G) (w158 G) (by decide) pd29 rfl rfl d13_16 rfl (by first | exact Nat.le_of_ble_eq_true rfl | (simp; done) | (simp; omega)) (by first | exact Nat.le_of_ble_eq_true rfl | (simp; done) | (simp; omega)) (by first | exact Nat.le_of_ble_eq_true rfl | (simp; done) | (simp; omega)) (by first | exact Nat.le_of_ble_eq_true rfl | (simp; done) | (simp; omega)) (Kv ?_)
  rintro v M ⟨rfl, rfl⟩
  refine Go.aloadN X d13_19 rfl rfl ?_
  refine Go.getFld X (w51 G) Via.refl (fun h H => H.fld (i := ib + 4) hib (j := 0) rfl rfl) d13_20 ?_
  refine Go.callV X (fun h H => H.exa (i := 0) rfl) (b_app l G (t := [] ++ [34]) (u := u) (hS.up.up) (by simp; omega)) (rest := []) (w154 G) (w155 G) (nfS (w157 G)) (w157 G) (w156 G) (w138 G) (w158 G) (by decide) pd29 rfl rfl d13_23 rfl (by first | exact Nat.le_of_ble_eq_true rfl | (simp; done) | (simp; omega)) (by first | exact Nat.le_of_ble_eq_true rfl | (simp; done) | (simp; omega)) (by first | exact Nat.le_of_ble_eq_true rfl | (simp; done) | (simp; omega)) (by first | exact Nat.le_of_ble_eq_true rfl | (simp; done) | (simp; omega)) (Kv ?_)
  rintro v M ⟨rfl, rfl⟩
  refine Go.ldcS X (text := "\"") (vs := bsOf [34]) (z := 1) (N := 4) (w85 G) (sAtoms G) (by decide) ⟨by decide, by first | rfl | decide +kernel⟩ (by decide) (by decide) d13_26 (by decide) (by decide) (by first | exact Nat.le_of_ble_eq_true rfl | (simp; done) | (simp; omega)) (by first | exact Nat.le_of_ble_eq_true rfl | (simp; done) | (simp; omega)) ?_
  intro a3 b3 K3
  refine Go.perm (L' := ow sb (Ob Z "java/lang/StringBuilder" ns1 [.ref vb, .int 0, .int (Int32.ofNat ([] ++ [34] ++ u).length)]) :: ow vb (Ar Z .byte K (bsOf ([] ++ [34] ++ u) ++ List.replicate (16 - ([] ++ [34] ++ u).length) (.int 0))) :: ro a3 (Lt Z b3) :: ro b3 (Ar Z .byte K3 (bsOf [34])) :: ro a2 (Lt Z b2) :: ro b2 (Ar Z .byte K2 (bsOf [34])) :: L) ((front (i := 5) rfl).trans ((front (i := 5) rfl).trans ((front (i := 3) rfl).trans ((front (i := 3) rfl).trans ((front (i := 5) rfl).trans (front (i := 5) rfl)))))) ?_
  refine Go.callV X (fun h H => H.exa (i := 0) rfl) (b_app l G (t := [] ++ [34] ++ u) (u := [34]) Sx.lit (by simp; omega)) (rest := []) (w154 G) (w155 G) (nfS (w157 G)) (w157 G) (w156 G) (w138 G) (w158 G) (by decide) pd29 rfl rfl d13_28 rfl (by first | exact Nat.le_of_ble_eq_true rfl | (simp; done) | (simp; omega)) (by first | exact Nat.le_of_ble_eq_true rfl | (simp; done) | (simp; omega)) (by first | exact Nat.le_of_ble_eq_true rfl | (simp; done) | (simp; omega)) (by first | exact Nat.le_of_ble_eq_true rfl | (simp; done) | (simp; omega)) (Kv ?_)
  rintro v M ⟨rfl, rfl⟩
  refine Go.callV X (fun h H => H.exa (i := 0) rfl) (b_toS l G (t := [] ++ [34] ++ u ++ [34]) (List.mem_of_getElem? (i := 0) rfl) (List.mem_of_getElem? (i := 1) rfl) (by simp; omega)) (rest := []) (w192 G) (w193 G) (nfS (w195 G)) (w195 G) (w194 G) (w138 G) (w196 G) (by decide) pd30 rfl rfl d13_31 rfl (by first | exact Nat.le_of_ble_eq_true rfl | (simp; done) | (simp; omega)) (by first | exact Nat.le_of_ble_eq_true rfl | (simp; done) | (simp; omega)) (by first | exact Nat.le_of_ble_eq_true rfl | (simp; done) | (simp; omega)) (by first | exact Nat.le_of_ble_eq_true rfl | (simp; done) | (simp; omega)) (Kv ?_)
  rintro v M ⟨s1, nb, K', rfl, rfl⟩
  refine Go.goto X d13_34 (pt := 41) ⟨by decide, by decide⟩ ?_
  exact Go.aret X d13_41 (by rfl) (by rfl) (by rfl) (by first | exact Nat.le_of_ble_eq_true rfl | (simp; done) | (simp; omega)) (by first | exact Nat.le_of_ble_eq_true rfl | (simp; done) | (simp; omega)) ⟨s1, nb, [ow nb (Ar Z .byte K' (bsOf ([] ++ [34] ++ u ++ [34]))), ow s1 (Ob Z "java/lang/String" ns0 [.ref nb, .int 0]), ow sb (Ob Z "java/lang/StringBuilder" ns1 [.ref vb, .int 0, .int (Int32.ofNat ([] ++ [34] ++ u ++ [34]).length)]), ow vb (Ar Z .byte K (bsOf ([] ++ [34] ++ u ++ [34]) ++ List.replicate (16 - ([] ++ [34] ++ u ++ [34]).length) (.int 0))), ro a3 (Lt Z b3), ro b3 (Ar Z .byte K3 (bsOf [34])), ro a2 (Lt Z b2), ro b2 (Ar Z .byte K2 (bsOf [34]))], rfl, rfl, fun L' => ⟨⟨K', true, List.mem_of_getElem? (i := 0) rfl⟩, fun h H => ⟨H.exa (i := 1) rfl, H.fld (i := 1) rfl (j := 0) rfl rfl, H.fld (i := 1) rfl (j := 1) rfl rfl⟩⟩⟩
-- %%% helpers
theorem w8 {a0 : Array Value} {Z : State} (G : Gl a0 Z) : (Jvm.Cond.classLink "com/example/persist/persist/mapping/SqlNameOfPinLaw" (7 : Nat) "java/lang/String").before a0 Z = true := G.1 _ (List.mem_of_getElem? (i := 8) rfl)
theorem w11 {a0 : Array Value} {Z : State} (G : Gl a0 Z) : (Jvm.Cond.arrayClass Jvm.ClassFile.FieldType.char).before a0 Z = true := G.1 _ (List.mem_of_getElem? (i := 11) rfl)
theorem w12 {a0 : Array Value} {Z : State} (G : Gl a0 Z) : (Jvm.Cond.methodLink "com/example/persist/persist/mapping/SqlNameOfPinLaw" (9 : Nat) ({ cls := "java/lang/String", name := "<init>", desc := "([C)V" } : Jvm.MethodName)).before a0 Z = true := G.1 _ (List.mem_of_getElem? (i := 12) rfl)
theorem w13 {a0 : Array Value} {Z : State} (G : Gl a0 Z) : (Jvm.Cond.instanceMethod ({ cls := "java/lang/String", name := "<init>", desc := "([C)V" } : Jvm.MethodName)).before a0 Z = true := G.1 _ (List.mem_of_getElem? (i := 13) rfl)
theorem w14 {a0 : Array Value} {Z : State} (G : Gl a0 Z) : (Jvm.Cond.code ({ cls := "java/lang/String", name := "<init>", desc := "([C)V" } : Jvm.MethodName) jdk_42_method_3_code (2 : Nat) (Option.none : Option Jvm.ClassFile.FieldType)).before a0 Z = true := G.1 _ (List.mem_of_getElem? (i := 14) rfl)
theorem d1_0 : D1 method_2_code 0 (.iload_n 0) 1 1 := ⟨by decide +kernel, rfl⟩
theorem d1_1 : D1 method_2_code 1 (.sipush 256) 3 4 := ⟨by decide +kernel, rfl⟩
theorem d1_4 : D1 method_2_code 4 (.iand) 1 5 := ⟨by decide +kernel, rfl⟩
theorem d1_5 : D1 method_2_code 5 (.ifCond .eq 6) 3 8 := ⟨by decide +kernel, rfl⟩
theorem d1_8 : D1 method_2_code 8 (.bipush 34) 2 10 := ⟨by decide +kernel, rfl⟩
theorem d1_10 : D1 method_2_code 10 (.ireturn) 1 11 := ⟨by decide +kernel, rfl⟩
theorem d1_11 : D1 method_2_code 11 (.iload_n 0) 1 12 := ⟨by decide +kernel, rfl⟩
theorem d1_12 : D1 method_2_code 12 (.sipush 255) 3 15 := ⟨by decide +kernel, rfl⟩
theorem d1_15 : D1 method_2_code 15 (.iand) 1 16 := ⟨by decide +kernel, rfl⟩
theorem d1_16 : D1 method_2_code 16 (.i2c) 1 17 := ⟨by decide +kernel, rfl⟩
theorem d1_17 : D1 method_2_code 17 (.ireturn) 1 18 := ⟨by decide +kernel, rfl⟩
theorem d2_0 : D1 method_3_code 0 (.iload_n 0) 1 1 := ⟨by decide +kernel, rfl⟩
theorem d2_1 : D1 method_3_code 1 (.ifCond .gt 14) 3 4 := ⟨by decide +kernel, rfl⟩
theorem d2_4 : D1 method_3_code 4 (.new 7) 3 7 := ⟨by decide +kernel, rfl⟩
theorem d2_7 : D1 method_3_code 7 (.dup) 1 8 := ⟨by decide +kernel, rfl⟩
theorem d2_8 : D1 method_3_code 8 (.iconst 0) 1 9 := ⟨by decide +kernel, rfl⟩
theorem d2_9 : D1 method_3_code 9 (.newarray .char) 2 11 := ⟨by decide +kernel, rfl⟩
theorem d2_11 : D1 method_3_code 11 (.invokespecial 9) 3 14 := ⟨by decide +kernel, rfl⟩
theorem d2_14 : D1 method_3_code 14 (.areturn) 1 15 := ⟨by decide +kernel, rfl⟩
theorem d2_15 : D1 method_3_code 15 (.iload_n 0) 1 16 := ⟨by decide +kernel, rfl⟩
theorem d2_16 : D1 method_3_code 16 (.iconst 1) 1 17 := ⟨by decide +kernel, rfl⟩
theorem d2_17 : D1 method_3_code 17 (.if_icmp .ne 18) 3 20 := ⟨by decide +kernel, rfl⟩
theorem d2_20 : D1 method_3_code 20 (.new 7) 3 23 := ⟨by decide +kernel, rfl⟩
theorem d2_23 : D1 method_3_code 23 (.dup) 1 24 := ⟨by decide +kernel, rfl⟩
theorem d2_24 : D1 method_3_code 24 (.iconst 1) 1 25 := ⟨by decide +kernel, rfl⟩
theorem d2_25 : D1 method_3_code 25 (.newarray .char) 2 27 := ⟨by decide +kernel, rfl⟩
theorem d2_27 : D1 method_3_code 27 (.dup) 1 28 := ⟨by decide +kernel, rfl⟩
theorem d2_28 : D1 method_3_code 28 (.iconst 0) 1 29 := ⟨by decide +kernel, rfl⟩
theorem d2_29 : D1 method_3_code 29 (.iload_n 1) 1 30 := ⟨by decide +kernel, rfl⟩
theorem d2_30 : D1 method_3_code 30 (.castore) 1 31 := ⟨by decide +kernel, rfl⟩
theorem d2_31 : D1 method_3_code 31 (.invokespecial 9) 3 34 := ⟨by decide +kernel, rfl⟩
theorem d2_34 : D1 method_3_code 34 (.areturn) 1 35 := ⟨by decide +kernel, rfl⟩
theorem d2_35 : D1 method_3_code 35 (.iload_n 0) 1 36 := ⟨by decide +kernel, rfl⟩
theorem d2_36 : D1 method_3_code 36 (.iconst 2) 1 37 := ⟨by decide +kernel, rfl⟩
theorem d2_37 : D1 method_3_code 37 (.if_icmp .ne 22) 3 40 := ⟨by decide +kernel, rfl⟩
theorem d2_40 : D1 method_3_code 40 (.new 7) 3 43 := ⟨by decide +kernel, rfl⟩
theorem d2_43 : D1 method_3_code 43 (.dup) 1 44 := ⟨by decide +kernel, rfl⟩
theorem d2_44 : D1 method_3_code 44 (.iconst 2) 1 45 := ⟨by decide +kernel, rfl⟩
theorem d2_45 : D1 method_3_code 45 (.newarray .char) 2 47 := ⟨by decide +kernel, rfl⟩
theorem d2_47 : D1 method_3_code 47 (.dup) 1 48 := ⟨by decide +kernel, rfl⟩
theorem d2_48 : D1 method_3_code 48 (.iconst 0) 1 49 := ⟨by decide +kernel, rfl⟩
theorem d2_49 : D1 method_3_code 49 (.iload_n 1) 1 50 := ⟨by decide +kernel, rfl⟩
theorem d2_50 : D1 method_3_code 50 (.castore) 1 51 := ⟨by decide +kernel, rfl⟩
theorem d2_51 : D1 method_3_code 51 (.dup) 1 52 := ⟨by decide +kernel, rfl⟩
theorem d2_52 : D1 method_3_code 52 (.iconst 1) 1 53 := ⟨by decide +kernel, rfl⟩
theorem d2_53 : D1 method_3_code 53 (.iload_n 2) 1 54 := ⟨by decide +kernel, rfl⟩
theorem d2_54 : D1 method_3_code 54 (.castore) 1 55 := ⟨by decide +kernel, rfl⟩
theorem d2_55 : D1 method_3_code 55 (.invokespecial 9) 3 58 := ⟨by decide +kernel, rfl⟩
theorem d2_58 : D1 method_3_code 58 (.areturn) 1 59 := ⟨by decide +kernel, rfl⟩
theorem d2_59 : D1 method_3_code 59 (.iload_n 0) 1 60 := ⟨by decide +kernel, rfl⟩
theorem d2_60 : D1 method_3_code 60 (.iconst 3) 1 61 := ⟨by decide +kernel, rfl⟩
theorem d2_61 : D1 method_3_code 61 (.if_icmp .ne 26) 3 64 := ⟨by decide +kernel, rfl⟩
theorem d2_64 : D1 method_3_code 64 (.new 7) 3 67 := ⟨by decide +kernel, rfl⟩
theorem d2_67 : D1 method_3_code 67 (.dup) 1 68 := ⟨by decide +kernel, rfl⟩
theorem d2_68 : D1 method_3_code 68 (.iconst 3) 1 69 := ⟨by decide +kernel, rfl⟩
theorem d2_69 : D1 method_3_code 69 (.newarray .char) 2 71 := ⟨by decide +kernel, rfl⟩
theorem d2_71 : D1 method_3_code 71 (.dup) 1 72 := ⟨by decide +kernel, rfl⟩
theorem d2_72 : D1 method_3_code 72 (.iconst 0) 1 73 := ⟨by decide +kernel, rfl⟩
theorem d2_73 : D1 method_3_code 73 (.iload_n 1) 1 74 := ⟨by decide +kernel, rfl⟩
theorem d2_74 : D1 method_3_code 74 (.castore) 1 75 := ⟨by decide +kernel, rfl⟩
theorem d2_75 : D1 method_3_code 75 (.dup) 1 76 := ⟨by decide +kernel, rfl⟩
theorem d2_76 : D1 method_3_code 76 (.iconst 1) 1 77 := ⟨by decide +kernel, rfl⟩
theorem d2_77 : D1 method_3_code 77 (.iload_n 2) 1 78 := ⟨by decide +kernel, rfl⟩
theorem d2_78 : D1 method_3_code 78 (.castore) 1 79 := ⟨by decide +kernel, rfl⟩
theorem d2_79 : D1 method_3_code 79 (.dup) 1 80 := ⟨by decide +kernel, rfl⟩
theorem d2_80 : D1 method_3_code 80 (.iconst 2) 1 81 := ⟨by decide +kernel, rfl⟩
theorem d2_81 : D1 method_3_code 81 (.iload_n 3) 1 82 := ⟨by decide +kernel, rfl⟩
theorem d2_82 : D1 method_3_code 82 (.castore) 1 83 := ⟨by decide +kernel, rfl⟩
theorem d2_83 : D1 method_3_code 83 (.invokespecial 9) 3 86 := ⟨by decide +kernel, rfl⟩
theorem d2_86 : D1 method_3_code 86 (.areturn) 1 87 := ⟨by decide +kernel, rfl⟩
theorem d2_87 : D1 method_3_code 87 (.new 7) 3 90 := ⟨by decide +kernel, rfl⟩
theorem d2_90 : D1 method_3_code 90 (.dup) 1 91 := ⟨by decide +kernel, rfl⟩
theorem d2_91 : D1 method_3_code 91 (.iconst 4) 1 92 := ⟨by decide +kernel, rfl⟩
theorem d2_92 : D1 method_3_code 92 (.newarray .char) 2 94 := ⟨by decide +kernel, rfl⟩
theorem d2_94 : D1 method_3_code 94 (.dup) 1 95 := ⟨by decide +kernel, rfl⟩
theorem d2_95 : D1 method_3_code 95 (.iconst 0) 1 96 := ⟨by decide +kernel, rfl⟩
theorem d2_96 : D1 method_3_code 96 (.iload_n 1) 1 97 := ⟨by decide +kernel, rfl⟩
theorem d2_97 : D1 method_3_code 97 (.castore) 1 98 := ⟨by decide +kernel, rfl⟩
theorem d2_98 : D1 method_3_code 98 (.dup) 1 99 := ⟨by decide +kernel, rfl⟩
theorem d2_99 : D1 method_3_code 99 (.iconst 1) 1 100 := ⟨by decide +kernel, rfl⟩
theorem d2_100 : D1 method_3_code 100 (.iload_n 2) 1 101 := ⟨by decide +kernel, rfl⟩
theorem d2_101 : D1 method_3_code 101 (.castore) 1 102 := ⟨by decide +kernel, rfl⟩
theorem d2_102 : D1 method_3_code 102 (.dup) 1 103 := ⟨by decide +kernel, rfl⟩
theorem d2_103 : D1 method_3_code 103 (.iconst 2) 1 104 := ⟨by decide +kernel, rfl⟩
theorem d2_104 : D1 method_3_code 104 (.iload_n 3) 1 105 := ⟨by decide +kernel, rfl⟩
theorem d2_105 : D1 method_3_code 105 (.castore) 1 106 := ⟨by decide +kernel, rfl⟩
theorem d2_106 : D1 method_3_code 106 (.dup) 1 107 := ⟨by decide +kernel, rfl⟩
theorem d2_107 : D1 method_3_code 107 (.iconst 3) 1 108 := ⟨by decide +kernel, rfl⟩
theorem d2_108 : D1 method_3_code 108 (.iload 4) 2 110 := ⟨by decide +kernel, rfl⟩
theorem d2_110 : D1 method_3_code 110 (.castore) 1 111 := ⟨by decide +kernel, rfl⟩
theorem d2_111 : D1 method_3_code 111 (.invokespecial 9) 3 114 := ⟨by decide +kernel, rfl⟩
theorem d2_114 : D1 method_3_code 114 (.areturn) 1 115 := ⟨by decide +kernel, rfl⟩
theorem d20_0 : D1 method_4_code 0 (.iload_n 0) 1 1 := ⟨by decide +kernel, rfl⟩
theorem d20_1 : D1 method_4_code 1 (.ifCond .gt 5) 3 4 := ⟨by decide +kernel, rfl⟩
theorem d20_6 : D1 method_4_code 6 (.iload_n 0) 1 7 := ⟨by decide +kernel, rfl⟩
theorem d20_7 : D1 method_4_code 7 (.iconst 1) 1 8 := ⟨by decide +kernel, rfl⟩
theorem d20_8 : D1 method_4_code 8 (.if_icmp .ne 5) 3 11 := ⟨by decide +kernel, rfl⟩
theorem d20_11 : D1 method_4_code 11 (.iload_n 2) 1 12 := ⟨by decide +kernel, rfl⟩
theorem d20_12 : D1 method_4_code 12 (.ireturn) 1 13 := ⟨by decide +kernel, rfl⟩
theorem d20_13 : D1 method_4_code 13 (.iload_n 0) 1 14 := ⟨by decide +kernel, rfl⟩
theorem d20_14 : D1 method_4_code 14 (.iconst 2) 1 15 := ⟨by decide +kernel, rfl⟩
theorem d20_15 : D1 method_4_code 15 (.if_icmp .ne 5) 3 18 := ⟨by decide +kernel, rfl⟩
theorem d20_18 : D1 method_4_code 18 (.iload_n 3) 1 19 := ⟨by decide +kernel, rfl⟩
theorem d20_19 : D1 method_4_code 19 (.ireturn) 1 20 := ⟨by decide +kernel, rfl⟩
theorem d20_20 : D1 method_4_code 20 (.iload 4) 2 22 := ⟨by decide +kernel, rfl⟩
theorem d20_22 : D1 method_4_code 22 (.ireturn) 1 23 := ⟨by decide +kernel, rfl⟩
theorem pd31 : parseMethodDescriptor "([C)V" = some ⟨[(.array .char)], none⟩ := by decide +kernel
theorem ch_back : ∀ c : Nat, c < 256 → (Int32.ofNat c).toUInt32.toUInt16.toUInt32.toInt32 = Int32.ofNat c := by decide +kernel
theorem ofNat_ne {c d : Nat} (hc : c < 256) (hd : d < 256) (h : c ≠ d) : Int32.ofNat c ≠ Int32.ofNat d := fun q => h (by
  have e := congrArg Int32.toInt q
  rw [(nat32 (i := c) (by omega)).1, (nat32 (i := d) (by omega)).1] at e
  omega)
theorem rem5 (x : Int32) : ∃ c : Nat, (c = 0 ∨ c = 1 ∨ c = 2 ∨ c = 3 ∨ c = 4) ∧ (x &&& 2147483647) % 5 = Int32.ofNat c := by
  have h1 : (x &&& 2147483647).toInt = ((x.toBitVec.toNat % 2147483648 : Nat) : Int) := by
    have e : (x &&& 2147483647).toBitVec.toNat = x.toBitVec.toNat % 2147483648 := by
      rw [Int32.toBitVec_and, BitVec.toNat_and]; exact Nat.and_two_pow_sub_one_eq_mod _ 31
    rw [← Int32.toInt_toBitVec, BitVec.toInt_eq_toNat_of_lt (by rw [e]; omega), e]
  refine ⟨x.toBitVec.toNat % 2147483648 % 5, by omega, ?_⟩
  apply Int32.toInt_inj.mp
  rw [Int32.toInt_mod, h1, (nat32 (i := x.toBitVec.toNat % 2147483648 % 5) (by omega)).1, show (5 : Int32).toInt = 5 from rfl]
  rw [Int.tmod_eq_emod_of_nonneg (by omega)]
  omega

set_option maxRecDepth 65536 in
set_option maxHeartbeats 4000000 in
theorem w_ch (l : Launch) {Z : State} {a0 : Array Value} (G : Gl a0 Z) {L : List Ent} (x : Int32) : Ct WD EL0 l Z (⟨"com/example/persist/persist/mapping/SqlNameOfPinLaw", "ch", "(I)C"⟩ : MethodName) method_2_code 1 (some .char) ({ frames := 0, cells := 0, slots := 0, locals := 0 } : Room) #[.int x] L (rvQ (fun v M => ∃ c, c < 256 ∧ v = .int (Int32.ofNat c) ∧ M = L)) := by
  refine Ct.intro (by decide +kernel) G.2.1 ?_
  intro p e s m below meth c X
  replace X : Cx WD EL0 p Z s m meth c "com/example/persist/persist/mapping/SqlNameOfPinLaw" "ch" method_2_code 1 (some .char) := X
  refine Go.cast (g' := mkF m 0 #[.val (.int x)] []) (by first | rfl | (simp [entryFrame, mkF, argsToLocals, Value.category, maxLocals]; done)) ?_
  refine Go.iloadN X d1_0 rfl ?_
  refine Go.sipush X (v := 256) d1_1 (by decide) ?_
  refine Go.iand X d1_4 ?_
  refine Go.ifc X d1_5 (pt := 11) ⟨by decide, by decide⟩ ?_ ?_
  · intro _
    refine Go.iloadN X d1_11 rfl ?_
    refine Go.sipush X (v := 255) d1_12 (by decide) ?_
    refine Go.iand X d1_15 ?_
    obtain ⟨c, hc, ec⟩ := and255 x
    rw [ec]
    refine Go.i2c X d1_16 ?_
    rw [ch_back c hc]
    exact Go.cret X d1_17 (ch_back c hc) (by first | exact Nat.le_of_ble_eq_true rfl | (simp; done) | (simp; omega)) (by first | exact Nat.le_of_ble_eq_true rfl | (simp; done) | (simp; omega)) ⟨c, hc, rfl, rfl⟩
  intro _
  refine Go.bipush X (v := 34) d1_8 (by decide) ?_
  exact Go.cret X d1_10 (by decide) (by first | exact Nat.le_of_ble_eq_true rfl | (simp; done) | (simp; omega)) (by first | exact Nat.le_of_ble_eq_true rfl | (simp; done) | (simp; omega)) ⟨34, by decide, rfl, rfl⟩
set_option maxRecDepth 65536 in
set_option maxHeartbeats 4000000 in
theorem w_at1 (l : Launch) {Z : State} {a0 : Array Value} (G : Gl a0 Z) {L : List Ent} {c0 c1 c2 c3 : Nat} (h1 : c1 < 256) : Ct WD EL0 l Z (⟨"com/example/persist/persist/mapping/SqlNameOfPinLaw", "at", "(ICCCC)C"⟩ : MethodName) method_4_code 5 (some .char) ({ frames := 0, cells := 0, slots := 0, locals := 0 } : Room) #[.int (Int32.ofNat 1), .int (Int32.ofNat c0), .int (Int32.ofNat c1), .int (Int32.ofNat c2), .int (Int32.ofNat c3)] L (rvQ (fun v M => v = .int (Int32.ofNat c1) ∧ M = L)) := by
  refine Ct.intro (by decide +kernel) G.2.1 ?_
  intro p e s m below meth c X
  replace X : Cx WD EL0 p Z s m meth c "com/example/persist/persist/mapping/SqlNameOfPinLaw" "at" method_4_code 5 (some .char) := X
  refine Go.cast (g' := mkF m 0 #[.val (.int (Int32.ofNat 1)), .val (.int (Int32.ofNat c0)), .val (.int (Int32.ofNat c1)), .val (.int (Int32.ofNat c2)), .val (.int (Int32.ofNat c3))] []) (by first | rfl | (simp [entryFrame, mkF, argsToLocals, Value.category, maxLocals]; done)) ?_
  refine Go.iloadN X d20_0 rfl ?_
  refine Go.ifc X d20_1 (pt := 6) ⟨by decide, by decide⟩ ?_ ?_
  rotate_left
  · intro q; exact absurd (show (0 : Int32) < Int32.ofNat 1 by decide) q
  intro _
  refine Go.iloadN X d20_6 rfl ?_
  refine Go.iconst X (v := 1) d20_7 (by decide) ?_
  refine Go.icmp X d20_8 (pt := 13) ⟨by decide, by decide⟩ ?_ ?_
  · intro q; exact absurd (show Int32.ofNat 1 = 1 by decide) q
  intro _
  refine Go.iloadN X d20_11 rfl ?_
  exact Go.cret X d20_12 (ch_back _ h1) (by first | exact Nat.le_of_ble_eq_true rfl | (simp; done) | (simp; omega)) (by first | exact Nat.le_of_ble_eq_true rfl | (simp; done) | (simp; omega)) ⟨rfl, rfl⟩
set_option maxRecDepth 65536 in
set_option maxHeartbeats 4000000 in
theorem w_at2 (l : Launch) {Z : State} {a0 : Array Value} (G : Gl a0 Z) {L : List Ent} {c0 c1 c2 c3 : Nat} (h2 : c2 < 256) : Ct WD EL0 l Z (⟨"com/example/persist/persist/mapping/SqlNameOfPinLaw", "at", "(ICCCC)C"⟩ : MethodName) method_4_code 5 (some .char) ({ frames := 0, cells := 0, slots := 0, locals := 0 } : Room) #[.int (Int32.ofNat 2), .int (Int32.ofNat c0), .int (Int32.ofNat c1), .int (Int32.ofNat c2), .int (Int32.ofNat c3)] L (rvQ (fun v M => v = .int (Int32.ofNat c2) ∧ M = L)) := by
  refine Ct.intro (by decide +kernel) G.2.1 ?_
  intro p e s m below meth c X
  replace X : Cx WD EL0 p Z s m meth c "com/example/persist/persist/mapping/SqlNameOfPinLaw" "at" method_4_code 5 (some .char) := X
  refine Go.cast (g' := mkF m 0 #[.val (.int (Int32.ofNat 2)), .val (.int (Int32.ofNat c0)), .val (.int (Int32.ofNat c1)), .val (.int (Int32.ofNat c2)), .val (.int (Int32.ofNat c3))] []) (by first | rfl | (simp [entryFrame, mkF, argsToLocals, Value.category, maxLocals]; done)) ?_
  refine Go.iloadN X d20_0 rfl ?_
  refine Go.ifc X d20_1 (pt := 6) ⟨by decide, by decide⟩ ?_ ?_
  rotate_left
  · intro q; exact absurd (show (0 : Int32) < Int32.ofNat 2 by decide) q
  intro _
  refine Go.iloadN X d20_6 rfl ?_
  refine Go.iconst X (v := 1) d20_7 (by decide) ?_
  refine Go.icmp X d20_8 (pt := 13) ⟨by decide, by decide⟩ ?_ ?_
  rotate_left
  · intro q; exact absurd (show Int32.ofNat 2 ≠ 1 by decide) q
  intro _
  refine Go.iloadN X d20_13 rfl ?_
  refine Go.iconst X (v := 2) d20_14 (by decide) ?_
  refine Go.icmp X d20_15 (pt := 20) ⟨by decide, by decide⟩ ?_ ?_
  · intro q; exact absurd (show Int32.ofNat 2 = 2 by decide) q
  intro _
  refine Go.iloadN X d20_18 rfl ?_
  exact Go.cret X d20_19 (ch_back _ h2) (by first | exact Nat.le_of_ble_eq_true rfl | (simp; done) | (simp; omega)) (by first | exact Nat.le_of_ble_eq_true rfl | (simp; done) | (simp; omega)) ⟨rfl, rfl⟩
set_option maxRecDepth 65536 in
set_option maxHeartbeats 4000000 in
theorem w_at3 (l : Launch) {Z : State} {a0 : Array Value} (G : Gl a0 Z) {L : List Ent} {c0 c1 c2 c3 : Nat} (h3 : c3 < 256) : Ct WD EL0 l Z (⟨"com/example/persist/persist/mapping/SqlNameOfPinLaw", "at", "(ICCCC)C"⟩ : MethodName) method_4_code 5 (some .char) ({ frames := 0, cells := 0, slots := 0, locals := 0 } : Room) #[.int (Int32.ofNat 3), .int (Int32.ofNat c0), .int (Int32.ofNat c1), .int (Int32.ofNat c2), .int (Int32.ofNat c3)] L (rvQ (fun v M => v = .int (Int32.ofNat c3) ∧ M = L)) := by
  refine Ct.intro (by decide +kernel) G.2.1 ?_
  intro p e s m below meth c X
  replace X : Cx WD EL0 p Z s m meth c "com/example/persist/persist/mapping/SqlNameOfPinLaw" "at" method_4_code 5 (some .char) := X
  refine Go.cast (g' := mkF m 0 #[.val (.int (Int32.ofNat 3)), .val (.int (Int32.ofNat c0)), .val (.int (Int32.ofNat c1)), .val (.int (Int32.ofNat c2)), .val (.int (Int32.ofNat c3))] []) (by first | rfl | (simp [entryFrame, mkF, argsToLocals, Value.category, maxLocals]; done)) ?_
  refine Go.iloadN X d20_0 rfl ?_
  refine Go.ifc X d20_1 (pt := 6) ⟨by decide, by decide⟩ ?_ ?_
  rotate_left
  · intro q; exact absurd (show (0 : Int32) < Int32.ofNat 3 by decide) q
  intro _
  refine Go.iloadN X d20_6 rfl ?_
  refine Go.iconst X (v := 1) d20_7 (by decide) ?_
  refine Go.icmp X d20_8 (pt := 13) ⟨by decide, by decide⟩ ?_ ?_
  rotate_left
  · intro q; exact absurd (show Int32.ofNat 3 ≠ 1 by decide) q
  intro _
  refine Go.iloadN X d20_13 rfl ?_
  refine Go.iconst X (v := 2) d20_14 (by decide) ?_
  refine Go.icmp X d20_15 (pt := 20) ⟨by decide, by decide⟩ ?_ ?_
  rotate_left
  · intro q; exact absurd (show Int32.ofNat 3 ≠ 2 by decide) q
  intro _
  refine Go.iload X d20_20 rfl ?_
  exact Go.cret X d20_22 (ch_back _ h3) (by first | exact Nat.le_of_ble_eq_true rfl | (simp; done) | (simp; omega)) (by first | exact Nat.le_of_ble_eq_true rfl | (simp; done) | (simp; omega)) ⟨rfl, rfl⟩
set_option maxRecDepth 65536 in
set_option maxHeartbeats 4000000 in
theorem w_str (l : Launch) {Z : State} {a0 : Array Value} (G : Gl a0 Z) {L : List Ent} {m0 c0 c1 c2 c3 : Nat} (hm : m0 = 0 ∨ m0 = 1 ∨ m0 = 2 ∨ m0 = 3 ∨ m0 = 4) (h0 : c0 < 256) (h1 : c1 < 256) (h2 : c2 < 256) (h3 : c3 < 256) : Ct WD EL0 l Z (⟨"com/example/persist/persist/mapping/SqlNameOfPinLaw", "str", "(ICCCC)Ljava/lang/String;"⟩ : MethodName) method_3_code 5 (some (.object "java/lang/String")) ({ frames := 4, cells := 6, slots := 20, locals := 67 } : Room) #[.int (Int32.ofNat m0), .int (Int32.ofNat c0), .int (Int32.ofNat c1), .int (Int32.ofNat c2), .int (Int32.ofNat c3)] L (rvQ (fun v M => ∃ s1 p1 ca K Kc f, v = .ref s1 ∧ M = (p1, Ar Z .byte K (bsOf (List.take m0 [c0, c1, c2, c3])), f) :: ow s1 (Ob Z "java/lang/String" ns0 [.ref p1, .int 0]) :: ow ca (Ar Z .char Kc (csOf (List.take m0 [c0, c1, c2, c3]))) :: L)) := by
  refine Ct.intro (by decide +kernel) G.2.1 ?_
  intro p e s m below meth c X
  replace X : Cx WD EL0 p Z s m meth c "com/example/persist/persist/mapping/SqlNameOfPinLaw" "str" method_3_code 5 (some (.object "java/lang/String")) := X
  refine Go.cast (g' := mkF m 0 #[.val (.int (Int32.ofNat m0)), .val (.int (Int32.ofNat c0)), .val (.int (Int32.ofNat c1)), .val (.int (Int32.ofNat c2)), .val (.int (Int32.ofNat c3))] []) (by first | rfl | (simp [entryFrame, mkF, argsToLocals, Value.category, maxLocals]; done)) ?_
  rcases hm with rfl | rfl | rfl | rfl | rfl
  · refine Go.iloadN X d2_0 rfl ?_
    refine Go.ifc X d2_1 (pt := 15) ⟨by decide, by decide⟩ ?_ ?_
    · intro q; exact absurd (show (0 : Int32) < Int32.ofNat 0 from q) (by decide)
    intro _
    refine Go.new X (w8 G) (w9 G) (w10 G) (lay0 G) df0 d2_4 (by first | exact Nat.le_of_ble_eq_true rfl | (simp; done) | (simp; omega)) (by first | exact Nat.le_of_ble_eq_true rfl | (simp; done) | (simp; omega)) ?_
    intro s1
    refine Go.dup X d2_7 rfl ?_
    refine Go.iconst X (v := 0) d2_8 (by decide) ?_
    refine Go.newarr X (aty := .char) (N := 0) (cap := 4) (w11 G) (by decide) (by decide) (by decide) (by decide) d2_9 (by first | exact Nat.le_of_ble_eq_true rfl | (simp; done) | (simp; omega)) (by first | exact Nat.le_of_ble_eq_true rfl | (simp; done) | (simp; omega)) ?_
    intro ca Kc
    refine Go.perm (L' := ow s1 (Ob Z "java/lang/String" ns0 [.null, .int 0]) :: ow ca (Ar Z .char Kc (csOf [])) :: L) (List.Perm.swap _ _ _) ?_
    refine Go.callI X (s_initC l G (a := s1) (cap := 4) (cl := []) (ca := ca) (Kc := Kc) (f := true) (List.mem_cons_self) (by simp; try omega) (by simp) (by omega)) rfl (rest := [.ref s1]) (w12 G) (w13 G) (w10 G) (w14 G) (by decide) pd31 rfl rfl d2_11 rfl (by first | exact Nat.le_of_ble_eq_true rfl | (simp; done) | (simp; omega)) (by first | exact Nat.le_of_ble_eq_true rfl | (simp; done) | (simp; omega)) (by first | exact Nat.le_of_ble_eq_true rfl | (simp; done) | (simp; omega)) (by first | exact Nat.le_of_ble_eq_true rfl | (simp; done) | (simp; omega)) (K0 ?_)
    rintro M ⟨p1, K, f, hK, rfl⟩
    exact Go.aret X d2_14 (by rfl) (by rfl) (by rfl) (by first | exact Nat.le_of_ble_eq_true rfl | (simp; done) | (simp; omega)) (by first | exact Nat.le_of_ble_eq_true rfl | (simp; done) | (simp; omega)) ⟨s1, p1, ca, K, Kc, f, rfl, rfl⟩
  · refine Go.iloadN X d2_0 rfl ?_
    refine Go.ifc X d2_1 (pt := 15) ⟨by decide, by decide⟩ ?_ ?_
    rotate_left
    · intro q; exact absurd (show (0 : Int32) < Int32.ofNat 1 by decide) q
    intro _
    refine Go.iloadN X d2_15 rfl ?_
    refine Go.iconst X (v := 1) d2_16 (by decide) ?_
    refine Go.icmp X d2_17 (pt := 35) ⟨by decide, by decide⟩ ?_ ?_
    · intro q; exact absurd (show Int32.ofNat 1 = 1 by decide) q
    intro _
    refine Go.new X (w8 G) (w9 G) (w10 G) (lay0 G) df0 d2_20 (by first | exact Nat.le_of_ble_eq_true rfl | (simp; done) | (simp; omega)) (by first | exact Nat.le_of_ble_eq_true rfl | (simp; done) | (simp; omega)) ?_
    intro s1
    refine Go.dup X d2_23 rfl ?_
    refine Go.iconst X (v := 1) d2_24 (by decide) ?_
    refine Go.newarr X (aty := .char) (N := 1) (cap := 4) (w11 G) (by decide) (by decide) (by decide) (by decide) d2_25 (by first | exact Nat.le_of_ble_eq_true rfl | (simp; done) | (simp; omega)) (by first | exact Nat.le_of_ble_eq_true rfl | (simp; done) | (simp; omega)) ?_
    intro ca Kc
    refine Go.dup X d2_27 rfl ?_
    refine Go.iconst X (v := 0) d2_28 (by decide) ?_
    refine Go.iloadN X d2_29 rfl ?_
    refine Go.cast' X (i := 0) rfl (by decide) (by first | decide | (simp only [upd_len]; decide)) (y := Int32.ofNat c0) (ch_back c0 h0) d2_30 ?_
    refine Go.perm (L' := ow s1 (Ob Z "java/lang/String" ns0 [.null, .int 0]) :: ow ca (Ar Z .char Kc (csOf [c0])) :: L) (List.Perm.swap _ _ _) ?_
    refine Go.callI X (s_initC l G (a := s1) (cap := 4) (cl := [c0]) (ca := ca) (Kc := Kc) (f := true) (List.mem_cons_self) (by simp; try omega) (by simp) (by omega)) rfl (rest := [.ref s1]) (w12 G) (w13 G) (w10 G) (w14 G) (by decide) pd31 rfl rfl d2_31 rfl (by first | exact Nat.le_of_ble_eq_true rfl | (simp; done) | (simp; omega)) (by first | exact Nat.le_of_ble_eq_true rfl | (simp; done) | (simp; omega)) (by first | exact Nat.le_of_ble_eq_true rfl | (simp; done) | (simp; omega)) (by first | exact Nat.le_of_ble_eq_true rfl | (simp; done) | (simp; omega)) (K0 ?_)
    rintro M ⟨p1, K, f, hK, rfl⟩
    exact Go.aret X d2_34 (by rfl) (by rfl) (by rfl) (by first | exact Nat.le_of_ble_eq_true rfl | (simp; done) | (simp; omega)) (by first | exact Nat.le_of_ble_eq_true rfl | (simp; done) | (simp; omega)) ⟨s1, p1, ca, K, Kc, f, rfl, rfl⟩
  · refine Go.iloadN X d2_0 rfl ?_
    refine Go.ifc X d2_1 (pt := 15) ⟨by decide, by decide⟩ ?_ ?_
    rotate_left
    · intro q; exact absurd (show (0 : Int32) < Int32.ofNat 2 by decide) q
    intro _
    refine Go.iloadN X d2_15 rfl ?_
    refine Go.iconst X (v := 1) d2_16 (by decide) ?_
    refine Go.icmp X d2_17 (pt := 35) ⟨by decide, by decide⟩ ?_ ?_
    rotate_left
    · intro q; exact absurd (show Int32.ofNat 2 ≠ 1 by decide) q
    intro _
    refine Go.iloadN X d2_35 rfl ?_
    refine Go.iconst X (v := 2) d2_36 (by decide) ?_
    refine Go.icmp X d2_37 (pt := 59) ⟨by decide, by decide⟩ ?_ ?_
    · intro q; exact absurd (show Int32.ofNat 2 = 2 by decide) q
    intro _
    refine Go.new X (w8 G) (w9 G) (w10 G) (lay0 G) df0 d2_40 (by first | exact Nat.le_of_ble_eq_true rfl | (simp; done) | (simp; omega)) (by first | exact Nat.le_of_ble_eq_true rfl | (simp; done) | (simp; omega)) ?_
    intro s1
    refine Go.dup X d2_43 rfl ?_
    refine Go.iconst X (v := 2) d2_44 (by decide) ?_
    refine Go.newarr X (aty := .char) (N := 2) (cap := 4) (w11 G) (by decide) (by decide) (by decide) (by decide) d2_45 (by first | exact Nat.le_of_ble_eq_true rfl | (simp; done) | (simp; omega)) (by first | exact Nat.le_of_ble_eq_true rfl | (simp; done) | (simp; omega)) ?_
    intro ca Kc
    refine Go.dup X d2_47 rfl ?_
    refine Go.iconst X (v := 0) d2_48 (by decide) ?_
    refine Go.iloadN X d2_49 rfl ?_
    refine Go.cast' X (i := 0) rfl (by decide) (by first | decide | (simp only [upd_len]; decide)) (y := Int32.ofNat c0) (ch_back c0 h0) d2_50 ?_
    refine Go.dup X d2_51 rfl ?_
    refine Go.iconst X (v := 1) d2_52 (by decide) ?_
    refine Go.iloadN X d2_53 rfl ?_
    refine Go.cast' X (i := 0) rfl (by decide) (by first | decide | (simp only [upd_len]; decide)) (y := Int32.ofNat c1) (ch_back c1 h1) d2_54 ?_
    refine Go.perm (L' := ow s1 (Ob Z "java/lang/String" ns0 [.null, .int 0]) :: ow ca (Ar Z .char Kc (csOf [c0, c1])) :: L) (List.Perm.swap _ _ _) ?_
    refine Go.callI X (s_initC l G (a := s1) (cap := 4) (cl := [c0, c1]) (ca := ca) (Kc := Kc) (f := true) (List.mem_cons_self) (by simp; try omega) (by simp) (by omega)) rfl (rest := [.ref s1]) (w12 G) (w13 G) (w10 G) (w14 G) (by decide) pd31 rfl rfl d2_55 rfl (by first | exact Nat.le_of_ble_eq_true rfl | (simp; done) | (simp; omega)) (by first | exact Nat.le_of_ble_eq_true rfl | (simp; done) | (simp; omega)) (by first | exact Nat.le_of_ble_eq_true rfl | (simp; done) | (simp; omega)) (by first | exact Nat.le_of_ble_eq_true rfl | (simp; done) | (simp; omega)) (K0 ?_)
    rintro M ⟨p1, K, f, hK, rfl⟩
    exact Go.aret X d2_58 (by rfl) (by rfl) (by rfl) (by first | exact Nat.le_of_ble_eq_true rfl | (simp; done) | (simp; omega)) (by first | exact Nat.le_of_ble_eq_true rfl | (simp; done) | (simp; omega)) ⟨s1, p1, ca, K, Kc, f, rfl, rfl⟩
  · refine Go.iloadN X d2_0 rfl ?_
    refine Go.ifc X d2_1 (pt := 15) ⟨by decide, by decide⟩ ?_ ?_
    rotate_left
    · intro q; exact absurd (show (0 : Int32) < Int32.ofNat 3 by decide) q
    intro _
    refine Go.iloadN X d2_15 rfl ?_
    refine Go.iconst X (v := 1) d2_16 (by decide) ?_
    refine Go.icmp X d2_17 (pt := 35) ⟨by decide, by decide⟩ ?_ ?_
    rotate_left
    · intro q; exact absurd (show Int32.ofNat 3 ≠ 1 by decide) q
    intro _
    refine Go.iloadN X d2_35 rfl ?_
    refine Go.iconst X (v := 2) d2_36 (by decide) ?_
    refine Go.icmp X d2_37 (pt := 59) ⟨by decide, by decide⟩ ?_ ?_
    rotate_left
    · intro q; exact absurd (show Int32.ofNat 3 ≠ 2 by decide) q
    intro _
    refine Go.iloadN X d2_59 rfl ?_
    refine Go.iconst X (v := 3) d2_60 (by decide) ?_
    refine Go.icmp X d2_61 (pt := 87) ⟨by decide, by decide⟩ ?_ ?_
    · intro q; exact absurd (show Int32.ofNat 3 = 3 by decide) q
    intro _
    refine Go.new X (w8 G) (w9 G) (w10 G) (lay0 G) df0 d2_64 (by first | exact Nat.le_of_ble_eq_true rfl | (simp; done) | (simp; omega)) (by first | exact Nat.le_of_ble_eq_true rfl | (simp; done) | (simp; omega)) ?_
    intro s1
    refine Go.dup X d2_67 rfl ?_
    refine Go.iconst X (v := 3) d2_68 (by decide) ?_
    refine Go.newarr X (aty := .char) (N := 3) (cap := 4) (w11 G) (by decide) (by decide) (by decide) (by decide) d2_69 (by first | exact Nat.le_of_ble_eq_true rfl | (simp; done) | (simp; omega)) (by first | exact Nat.le_of_ble_eq_true rfl | (simp; done) | (simp; omega)) ?_
    intro ca Kc
    refine Go.dup X d2_71 rfl ?_
    refine Go.iconst X (v := 0) d2_72 (by decide) ?_
    refine Go.iloadN X d2_73 rfl ?_
    refine Go.cast' X (i := 0) rfl (by decide) (by first | decide | (simp only [upd_len]; decide)) (y := Int32.ofNat c0) (ch_back c0 h0) d2_74 ?_
    refine Go.dup X d2_75 rfl ?_
    refine Go.iconst X (v := 1) d2_76 (by decide) ?_
    refine Go.iloadN X d2_77 rfl ?_
    refine Go.cast' X (i := 0) rfl (by decide) (by first | decide | (simp only [upd_len]; decide)) (y := Int32.ofNat c1) (ch_back c1 h1) d2_78 ?_
    refine Go.dup X d2_79 rfl ?_
    refine Go.iconst X (v := 2) d2_80 (by decide) ?_
    refine Go.iloadN X d2_81 rfl ?_
    refine Go.cast' X (i := 0) rfl (by decide) (by first | decide | (simp only [upd_len]; decide)) (y := Int32.ofNat c2) (ch_back c2 h2) d2_82 ?_
    refine Go.perm (L' := ow s1 (Ob Z "java/lang/String" ns0 [.null, .int 0]) :: ow ca (Ar Z .char Kc (csOf [c0, c1, c2])) :: L) (List.Perm.swap _ _ _) ?_
    refine Go.callI X (s_initC l G (a := s1) (cap := 4) (cl := [c0, c1, c2]) (ca := ca) (Kc := Kc) (f := true) (List.mem_cons_self) (by simp; try omega) (by simp) (by omega)) rfl (rest := [.ref s1]) (w12 G) (w13 G) (w10 G) (w14 G) (by decide) pd31 rfl rfl d2_83 rfl (by first | exact Nat.le_of_ble_eq_true rfl | (simp; done) | (simp; omega)) (by first | exact Nat.le_of_ble_eq_true rfl | (simp; done) | (simp; omega)) (by first | exact Nat.le_of_ble_eq_true rfl | (simp; done) | (simp; omega)) (by first | exact Nat.le_of_ble_eq_true rfl | (simp; done) | (simp; omega)) (K0 ?_)
    rintro M ⟨p1, K, f, hK, rfl⟩
    exact Go.aret X d2_86 (by rfl) (by rfl) (by rfl) (by first | exact Nat.le_of_ble_eq_true rfl | (simp; done) | (simp; omega)) (by first | exact Nat.le_of_ble_eq_true rfl | (simp; done) | (simp; omega)) ⟨s1, p1, ca, K, Kc, f, rfl, rfl⟩
  · refine Go.iloadN X d2_0 rfl ?_
    refine Go.ifc X d2_1 (pt := 15) ⟨by decide, by decide⟩ ?_ ?_
    rotate_left
    · intro q; exact absurd (show (0 : Int32) < Int32.ofNat 4 by decide) q
    intro _
    refine Go.iloadN X d2_15 rfl ?_
    refine Go.iconst X (v := 1) d2_16 (by decide) ?_
    refine Go.icmp X d2_17 (pt := 35) ⟨by decide, by decide⟩ ?_ ?_
    rotate_left
    · intro q; exact absurd (show Int32.ofNat 4 ≠ 1 by decide) q
    intro _
    refine Go.iloadN X d2_35 rfl ?_
    refine Go.iconst X (v := 2) d2_36 (by decide) ?_
    refine Go.icmp X d2_37 (pt := 59) ⟨by decide, by decide⟩ ?_ ?_
    rotate_left
    · intro q; exact absurd (show Int32.ofNat 4 ≠ 2 by decide) q
    intro _
    refine Go.iloadN X d2_59 rfl ?_
    refine Go.iconst X (v := 3) d2_60 (by decide) ?_
    refine Go.icmp X d2_61 (pt := 87) ⟨by decide, by decide⟩ ?_ ?_
    rotate_left
    · intro q; exact absurd (show Int32.ofNat 4 ≠ 3 by decide) q
    intro _
    refine Go.new X (w8 G) (w9 G) (w10 G) (lay0 G) df0 d2_87 (by first | exact Nat.le_of_ble_eq_true rfl | (simp; done) | (simp; omega)) (by first | exact Nat.le_of_ble_eq_true rfl | (simp; done) | (simp; omega)) ?_
    intro s1
    refine Go.dup X d2_90 rfl ?_
    refine Go.iconst X (v := 4) d2_91 (by decide) ?_
    refine Go.newarr X (aty := .char) (N := 4) (cap := 4) (w11 G) (by decide) (by decide) (by decide) (by decide) d2_92 (by first | exact Nat.le_of_ble_eq_true rfl | (simp; done) | (simp; omega)) (by first | exact Nat.le_of_ble_eq_true rfl | (simp; done) | (simp; omega)) ?_
    intro ca Kc
    refine Go.dup X d2_94 rfl ?_
    refine Go.iconst X (v := 0) d2_95 (by decide) ?_
    refine Go.iloadN X d2_96 rfl ?_
    refine Go.cast' X (i := 0) rfl (by decide) (by first | decide | (simp only [upd_len]; decide)) (y := Int32.ofNat c0) (ch_back c0 h0) d2_97 ?_
    refine Go.dup X d2_98 rfl ?_
    refine Go.iconst X (v := 1) d2_99 (by decide) ?_
    refine Go.iloadN X d2_100 rfl ?_
    refine Go.cast' X (i := 0) rfl (by decide) (by first | decide | (simp only [upd_len]; decide)) (y := Int32.ofNat c1) (ch_back c1 h1) d2_101 ?_
    refine Go.dup X d2_102 rfl ?_
    refine Go.iconst X (v := 2) d2_103 (by decide) ?_
    refine Go.iloadN X d2_104 rfl ?_
    refine Go.cast' X (i := 0) rfl (by decide) (by first | decide | (simp only [upd_len]; decide)) (y := Int32.ofNat c2) (ch_back c2 h2) d2_105 ?_
    refine Go.dup X d2_106 rfl ?_
    refine Go.iconst X (v := 3) d2_107 (by decide) ?_
    refine Go.iload X d2_108 rfl ?_
    refine Go.cast' X (i := 0) rfl (by decide) (by first | decide | (simp only [upd_len]; decide)) (y := Int32.ofNat c3) (ch_back c3 h3) d2_110 ?_
    refine Go.perm (L' := ow s1 (Ob Z "java/lang/String" ns0 [.null, .int 0]) :: ow ca (Ar Z .char Kc (csOf [c0, c1, c2, c3])) :: L) (List.Perm.swap _ _ _) ?_
    refine Go.callI X (s_initC l G (a := s1) (cap := 4) (cl := [c0, c1, c2, c3]) (ca := ca) (Kc := Kc) (f := true) (List.mem_cons_self) (by simp; try omega) (by simp) (by omega)) rfl (rest := [.ref s1]) (w12 G) (w13 G) (w10 G) (w14 G) (by decide) pd31 rfl rfl d2_111 rfl (by first | exact Nat.le_of_ble_eq_true rfl | (simp; done) | (simp; omega)) (by first | exact Nat.le_of_ble_eq_true rfl | (simp; done) | (simp; omega)) (by first | exact Nat.le_of_ble_eq_true rfl | (simp; done) | (simp; omega)) (by first | exact Nat.le_of_ble_eq_true rfl | (simp; done) | (simp; omega)) (K0 ?_)
    rintro M ⟨p1, K, f, hK, rfl⟩
    exact Go.aret X d2_114 (by rfl) (by rfl) (by rfl) (by first | exact Nat.le_of_ble_eq_true rfl | (simp; done) | (simp; omega)) (by first | exact Nat.le_of_ble_eq_true rfl | (simp; done) | (simp; omega)) ⟨s1, p1, ca, K, Kc, f, rfl, rfl⟩
theorem Sx.mk' {Z : State} {L : List Ent} {s1 p1 : Addr} {K : ClassId} {f : Bool} {cl : List Nat} : Sx Z ((p1, Ar Z .byte K (bsOf cl), f) :: ow s1 (Ob Z "java/lang/String" ns0 [.ref p1, .int 0]) :: L) s1 p1 cl := ⟨⟨K, f, List.mem_cons_self⟩, fun h H => ⟨H.exa (i := 1) rfl, H.fld (i := 1) rfl (j := 0) rfl rfl, H.fld (i := 1) rfl (j := 1) rfl rfl⟩⟩
-- %%% law n
theorem w30 {a0 : Array Value} {Z : State} (G : Gl a0 Z) : (Jvm.Cond.methodLink "com/example/persist/persist/mapping/SqlNameOfPinLaw" (27 : Nat) ({ cls := "com/example/persist/persist/mapping/SqlName", name := "of", desc := "(Ljava/lang/String;)Lcom/example/persist/persist/mapping/SqlName;" } : Jvm.MethodName)).before a0 Z = true := G.1 _ (List.mem_of_getElem? (i := 30) rfl)
theorem w31 {a0 : Array Value} {Z : State} (G : Gl a0 Z) : (Jvm.Cond.static ({ cls := "com/example/persist/persist/mapping/SqlName", name := "of", desc := "(Ljava/lang/String;)Lcom/example/persist/persist/mapping/SqlName;" } : Jvm.MethodName)).before a0 Z = true := G.1 _ (List.mem_of_getElem? (i := 31) rfl)
theorem w33 {a0 : Array Value} {Z : State} (G : Gl a0 Z) : (Jvm.Cond.code ({ cls := "com/example/persist/persist/mapping/SqlName", name := "of", desc := "(Ljava/lang/String;)Lcom/example/persist/persist/mapping/SqlName;" } : Jvm.MethodName) prog_15_method_2_code (2 : Nat) (Option.some (Jvm.ClassFile.FieldType.object "com/example/persist/persist/mapping/SqlName"))).before a0 Z = true := G.1 _ (List.mem_of_getElem? (i := 33) rfl)
theorem w55 {a0 : Array Value} {Z : State} (G : Gl a0 Z) : (Jvm.Cond.methodLink "com/example/persist/persist/mapping/SqlNameOfPinLaw" (33 : Nat) ({ cls := "com/example/persist/persist/mapping/SqlName", name := "delimited", desc := "()Z" } : Jvm.MethodName)).before a0 Z = true := G.1 _ (List.mem_of_getElem? (i := 55) rfl)
theorem w56 {a0 : Array Value} {Z : State} (G : Gl a0 Z) : (Jvm.Cond.declares ({ cls := "com/example/persist/persist/mapping/SqlName", name := "delimited", desc := "()Z" } : Jvm.MethodName)).before a0 Z = true := G.1 _ (List.mem_of_getElem? (i := 56) rfl)
theorem w57 {a0 : Array Value} {Z : State} (G : Gl a0 Z) : (Jvm.Cond.instanceMethod ({ cls := "com/example/persist/persist/mapping/SqlName", name := "delimited", desc := "()Z" } : Jvm.MethodName)).before a0 Z = true := G.1 _ (List.mem_of_getElem? (i := 57) rfl)
theorem w58 {a0 : Array Value} {Z : State} (G : Gl a0 Z) : (Jvm.Cond.selects "com/example/persist/persist/mapping/SqlName" ({ cls := "com/example/persist/persist/mapping/SqlName", name := "delimited", desc := "()Z" } : Jvm.MethodName) ({ cls := "com/example/persist/persist/mapping/SqlName", name := "delimited", desc := "()Z" } : Jvm.MethodName)).before a0 Z = true := G.1 _ (List.mem_of_getElem? (i := 58) rfl)
theorem w59 {a0 : Array Value} {Z : State} (G : Gl a0 Z) : (Jvm.Cond.code ({ cls := "com/example/persist/persist/mapping/SqlName", name := "delimited", desc := "()Z" } : Jvm.MethodName) prog_15_method_4_code (1 : Nat) (Option.some Jvm.ClassFile.FieldType.boolean)).before a0 Z = true := G.1 _ (List.mem_of_getElem? (i := 59) rfl)
theorem w60 {a0 : Array Value} {Z : State} (G : Gl a0 Z) : (Jvm.Cond.methodLink "com/example/persist/persist/mapping/SqlNameOfPinLaw" (37 : Nat) ({ cls := "com/example/persist/persist/mapping/SqlName", name := "text", desc := "()Ljava/lang/String;" } : Jvm.MethodName)).before a0 Z = true := G.1 _ (List.mem_of_getElem? (i := 60) rfl)
theorem w61 {a0 : Array Value} {Z : State} (G : Gl a0 Z) : (Jvm.Cond.declares ({ cls := "com/example/persist/persist/mapping/SqlName", name := "text", desc := "()Ljava/lang/String;" } : Jvm.MethodName)).before a0 Z = true := G.1 _ (List.mem_of_getElem? (i := 61) rfl)
theorem w62 {a0 : Array Value} {Z : State} (G : Gl a0 Z) : (Jvm.Cond.instanceMethod ({ cls := "com/example/persist/persist/mapping/SqlName", name := "text", desc := "()Ljava/lang/String;" } : Jvm.MethodName)).before a0 Z = true := G.1 _ (List.mem_of_getElem? (i := 62) rfl)
theorem w63 {a0 : Array Value} {Z : State} (G : Gl a0 Z) : (Jvm.Cond.selects "com/example/persist/persist/mapping/SqlName" ({ cls := "com/example/persist/persist/mapping/SqlName", name := "text", desc := "()Ljava/lang/String;" } : Jvm.MethodName) ({ cls := "com/example/persist/persist/mapping/SqlName", name := "text", desc := "()Ljava/lang/String;" } : Jvm.MethodName)).before a0 Z = true := G.1 _ (List.mem_of_getElem? (i := 63) rfl)
theorem w64 {a0 : Array Value} {Z : State} (G : Gl a0 Z) : (Jvm.Cond.code ({ cls := "com/example/persist/persist/mapping/SqlName", name := "text", desc := "()Ljava/lang/String;" } : Jvm.MethodName) prog_15_method_3_code (1 : Nat) (Option.some (Jvm.ClassFile.FieldType.object "java/lang/String"))).before a0 Z = true := G.1 _ (List.mem_of_getElem? (i := 64) rfl)
theorem w65 {a0 : Array Value} {Z : State} (G : Gl a0 Z) : (Jvm.Cond.methodLink "com/example/persist/persist/mapping/SqlNameOfPinLaw" (41 : Nat) ({ cls := "java/lang/String", name := "equals", desc := "(Ljava/lang/Object;)Z" } : Jvm.MethodName)).before a0 Z = true := G.1 _ (List.mem_of_getElem? (i := 65) rfl)
theorem w66 {a0 : Array Value} {Z : State} (G : Gl a0 Z) : (Jvm.Cond.declares ({ cls := "java/lang/String", name := "equals", desc := "(Ljava/lang/Object;)Z" } : Jvm.MethodName)).before a0 Z = true := G.1 _ (List.mem_of_getElem? (i := 66) rfl)
theorem w67 {a0 : Array Value} {Z : State} (G : Gl a0 Z) : (Jvm.Cond.instanceMethod ({ cls := "java/lang/String", name := "equals", desc := "(Ljava/lang/Object;)Z" } : Jvm.MethodName)).before a0 Z = true := G.1 _ (List.mem_of_getElem? (i := 67) rfl)
theorem w68 {a0 : Array Value} {Z : State} (G : Gl a0 Z) : (Jvm.Cond.selects "java/lang/String" ({ cls := "java/lang/String", name := "equals", desc := "(Ljava/lang/Object;)Z" } : Jvm.MethodName) ({ cls := "java/lang/String", name := "equals", desc := "(Ljava/lang/Object;)Z" } : Jvm.MethodName)).before a0 Z = true := G.1 _ (List.mem_of_getElem? (i := 68) rfl)
theorem w69 {a0 : Array Value} {Z : State} (G : Gl a0 Z) : (Jvm.Cond.code ({ cls := "java/lang/String", name := "equals", desc := "(Ljava/lang/Object;)Z" } : Jvm.MethodName) jdk_42_method_66_code (3 : Nat) (Option.some Jvm.ClassFile.FieldType.boolean)).before a0 Z = true := G.1 _ (List.mem_of_getElem? (i := 69) rfl)
theorem w70 {a0 : Array Value} {Z : State} (G : Gl a0 Z) : (Jvm.Cond.methodLink "com/example/persist/persist/mapping/SqlNameOfPinLaw" (45 : Nat) ({ cls := "com/example/persist/persist/mapping/SqlName", name := "toString", desc := "()Ljava/lang/String;" } : Jvm.MethodName)).before a0 Z = true := G.1 _ (List.mem_of_getElem? (i := 70) rfl)
theorem w71 {a0 : Array Value} {Z : State} (G : Gl a0 Z) : (Jvm.Cond.declares ({ cls := "com/example/persist/persist/mapping/SqlName", name := "toString", desc := "()Ljava/lang/String;" } : Jvm.MethodName)).before a0 Z = true := G.1 _ (List.mem_of_getElem? (i := 71) rfl)
theorem w72 {a0 : Array Value} {Z : State} (G : Gl a0 Z) : (Jvm.Cond.instanceMethod ({ cls := "com/example/persist/persist/mapping/SqlName", name := "toString", desc := "()Ljava/lang/String;" } : Jvm.MethodName)).before a0 Z = true := G.1 _ (List.mem_of_getElem? (i := 72) rfl)
theorem w73 {a0 : Array Value} {Z : State} (G : Gl a0 Z) : (Jvm.Cond.selects "com/example/persist/persist/mapping/SqlName" ({ cls := "com/example/persist/persist/mapping/SqlName", name := "toString", desc := "()Ljava/lang/String;" } : Jvm.MethodName) ({ cls := "com/example/persist/persist/mapping/SqlName", name := "toString", desc := "()Ljava/lang/String;" } : Jvm.MethodName)).before a0 Z = true := G.1 _ (List.mem_of_getElem? (i := 73) rfl)
theorem w74 {a0 : Array Value} {Z : State} (G : Gl a0 Z) : (Jvm.Cond.code ({ cls := "com/example/persist/persist/mapping/SqlName", name := "toString", desc := "()Ljava/lang/String;" } : Jvm.MethodName) prog_15_method_5_code (1 : Nat) (Option.some (Jvm.ClassFile.FieldType.object "java/lang/String"))).before a0 Z = true := G.1 _ (List.mem_of_getElem? (i := 74) rfl)
theorem d0_86 : D1 code 86 (.istore 11) 2 88 := ⟨at_86, rfl⟩
theorem d0_88 : D1 code 88 (.iload 11) 2 90 := ⟨at_88, rfl⟩
theorem d0_90 : D1 code 90 (.ifCond .eq 21) 3 93 := ⟨at_90, rfl⟩
theorem d0_111 : D1 code 111 (.aload 10) 2 113 := ⟨at_111, rfl⟩
theorem d0_113 : D1 code 113 (.astore 12) 2 115 := ⟨at_113, rfl⟩
theorem d0_115 : D1 code 115 (.aload 10) 2 117 := ⟨at_115, rfl⟩
theorem d0_117 : D1 code 117 (.invokestatic 27) 3 120 := ⟨at_117, rfl⟩
theorem d0_120 : D1 code 120 (.astore 13) 2 122 := ⟨at_120, rfl⟩
theorem d0_122 : D1 code 122 (.aload 13) 2 124 := ⟨at_122, rfl⟩
theorem d0_124 : D1 code 124 (.invokevirtual 33) 3 127 := ⟨at_124, rfl⟩
theorem d0_127 : D1 code 127 (.iload 11) 2 129 := ⟨at_127, rfl⟩
theorem d0_129 : D1 code 129 (.if_icmp .ne 33) 3 132 := ⟨at_129, rfl⟩
theorem d0_132 : D1 code 132 (.aload 13) 2 134 := ⟨at_132, rfl⟩
theorem d0_134 : D1 code 134 (.invokevirtual 37) 3 137 := ⟨at_134, rfl⟩
theorem d0_137 : D1 code 137 (.aload 12) 2 139 := ⟨at_137, rfl⟩
theorem d0_139 : D1 code 139 (.invokevirtual 41) 3 142 := ⟨at_139, rfl⟩
theorem d0_142 : D1 code 142 (.ifCond .eq 20) 3 145 := ⟨at_142, rfl⟩
theorem d0_145 : D1 code 145 (.aload 13) 2 147 := ⟨at_145, rfl⟩
theorem d0_147 : D1 code 147 (.invokevirtual 45) 3 150 := ⟨at_147, rfl⟩
theorem d0_150 : D1 code 150 (.aload 10) 2 152 := ⟨at_150, rfl⟩
theorem d0_152 : D1 code 152 (.invokevirtual 41) 3 155 := ⟨at_152, rfl⟩
theorem d0_155 : D1 code 155 (.ifCond .eq 7) 3 158 := ⟨at_155, rfl⟩
theorem d0_158 : D1 code 158 (.iconst 1) 1 159 := ⟨at_158, rfl⟩
theorem d0_159 : D1 code 159 (.goto 4) 3 162 := ⟨at_159, rfl⟩
theorem d0_163 : D1 code 163 (.ireturn) 1 164 := ⟨at_163, rfl⟩
theorem pd32 : parseMethodDescriptor "(Ljava/lang/String;)Lcom/example/persist/persist/mapping/SqlName;" = some ⟨[(.object "java/lang/String")], some (.object "com/example/persist/persist/mapping/SqlName")⟩ := by decide +kernel
theorem pd33 : parseMethodDescriptor "(Ljava/lang/Object;)Z" = some ⟨[(.object "java/lang/Object")], some .boolean⟩ := by decide +kernel
set_option maxRecDepth 65536 in
set_option maxHeartbeats 4000000 in
theorem k86n {p : Program} {l : Launch} {e : Env} {Z s : State} {a0 : Array Value} {m : MethodId} {below : List Frame} {meth : Method} {c : Code} {i0 i1 i2 i3 i4 : Int32} (X : Cx WD EL0 p Z s m meth c "com/example/persist/persist/mapping/SqlNameOfPinLaw" "law" code 14 (some .boolean)) (G : Gl a0 Z) {m0 c0 c1 c2 c3 : Nat} (h0 : c0 < 256) (h1 : c1 < 256) (h2 : c2 < 256) (h3 : c3 < 256) {s1 p1 : Addr} {UU : List Ent} (hS : Sx Z UU s1 p1 (List.take m0 [c0, c1, c2, c3])) (hn : ¬ (2 ≤ (List.take m0 [c0, c1, c2, c3]).length ∧ (List.take m0 [c0, c1, c2, c3])[0]? = some 34 ∧ (List.take m0 [c0, c1, c2, c3])[(List.take m0 [c0, c1, c2, c3]).length - 1]? = some 34)) : Go WD EL0 p l e room_1 Z s m #[.int i0, .int i1, .int i2, .int i3, .int i4] below meth c (rvQ fun v _ => v = .int 1) UU 6 20 (mkF m 86 #[.val (.int i0), .val (.int i1), .val (.int i2), .val (.int i3), .val (.int i4), .val (.int (Int32.ofNat m0)), .val (.int (Int32.ofNat c0)), .val (.int (Int32.ofNat c1)), .val (.int (Int32.ofNat c2)), .val (.int (Int32.ofNat c3)), .val (.ref s1), .unset, .unset, .unset] [.int 0]) := by
    have hlt : ∀ c ∈ List.take m0 [c0, c1, c2, c3], c < 256 := fun c h => by
      have := List.mem_of_mem_take h
      simp at this; omega
    have h4 : (List.take m0 [c0, c1, c2, c3]).length ≤ 4 := by rw [List.length_take]; exact Nat.min_le_right _ _
    refine Go.istore X d0_86 (stL rfl rfl (by dsimp only [updL])) ?_
    refine Go.iload X d0_88 rfl ?_
    refine Go.ifc X d0_90 (pt := 111) ⟨by decide, by decide⟩ ?_ ?_
    rotate_left
    · intro q; exact absurd rfl q
    intro _
    refine Go.aload X d0_111 rfl rfl ?_
    refine Go.astore X d0_113 rfl (stL rfl rfl (by dsimp only [updL])) ?_
    refine Go.aload X d0_115 rfl rfl ?_
    refine Go.callS X (n_of_n l G hS hlt h4 hn) (rest := []) (w30 G) (w31 G) (w32 G) (w33 G) (by decide) pd32 rfl rfl d0_117 rfl (by first | exact Nat.le_of_ble_eq_true rfl | (simp; done) | (simp; omega)) (by first | exact Nat.le_of_ble_eq_true rfl | (simp; done) | (simp; omega)) (by first | exact Nat.le_of_ble_eq_true rfl | (simp; done) | (simp; omega)) (by first | exact Nat.le_of_ble_eq_true rfl | (simp; done) | (simp; omega)) (Kv ?_)
    rintro v M ⟨o, N, rfl, rfl⟩
    refine Go.astore X d0_120 rfl (stL rfl rfl (by dsimp only [updL])) ?_
    refine Go.aload X d0_122 rfl rfl ?_
    refine Go.callV X (fun h H => H.exa (i := 0) rfl) (n_del l G (o := o) (t := s1) (z := 0) List.mem_cons_self (Or.inl rfl)) (rest := []) (w55 G) (w56 G) (nfS (w58 G)) (w58 G) (w57 G) (w32 G) (w59 G) (by decide) pd15 rfl rfl d0_124 rfl (by first | exact Nat.le_of_ble_eq_true rfl | (simp; done) | (simp; omega)) (by first | exact Nat.le_of_ble_eq_true rfl | (simp; done) | (simp; omega)) (by first | exact Nat.le_of_ble_eq_true rfl | (simp; done) | (simp; omega)) (by first | exact Nat.le_of_ble_eq_true rfl | (simp; done) | (simp; omega)) (Kv ?_)
    rintro v M ⟨rfl, rfl⟩
    refine Go.iload X d0_127 rfl ?_
    refine Go.icmp X d0_129 (pt := 162) ⟨by decide, by decide⟩ ?_ ?_
    · intro q; exact absurd rfl q
    intro _
    refine Go.aload X d0_132 rfl rfl ?_
    refine Go.callV X (fun h H => H.exa (i := 0) rfl) (n_text l G (o := o) (t := s1) (z := 0) List.mem_cons_self) (rest := []) (w60 G) (w61 G) (nfS (w63 G)) (w63 G) (w62 G) (w32 G) (w64 G) (by decide) pd30 rfl rfl d0_134 rfl (by first | exact Nat.le_of_ble_eq_true rfl | (simp; done) | (simp; omega)) (by first | exact Nat.le_of_ble_eq_true rfl | (simp; done) | (simp; omega)) (by first | exact Nat.le_of_ble_eq_true rfl | (simp; done) | (simp; omega)) (by first | exact Nat.le_of_ble_eq_true rfl | (simp; done) | (simp; omega)) (Kv ?_)
    rintro v M ⟨rfl, rfl⟩
    refine Go.aload X d0_137 rfl rfl ?_
    have hS2 : Sx Z (ow o (Ob Z "com/example/persist/persist/mapping/SqlName" ns2 [.ref s1, .int 0]) :: (N ++ UU)) s1 p1 (List.take m0 [c0, c1, c2, c3]) := (hS.sub (List.sublist_append_right N UU)).up
    refine Go.callV X (fun h H => (hS2.2 h H).1) (s_equals l G hS2 hS2 hlt hlt (fun _ => rfl)) (rest := []) (w65 G) (w66 G) (nfS (w68 G)) (w68 G) (w67 G) (w10 G) (w69 G) (by decide) pd33 rfl rfl d0_139 rfl (by first | exact Nat.le_of_ble_eq_true rfl | (simp; done) | (simp; omega)) (by first | exact Nat.le_of_ble_eq_true rfl | (simp; done) | (simp; omega)) (by first | exact Nat.le_of_ble_eq_true rfl | (simp; done) | (simp; omega)) (by first | exact Nat.le_of_ble_eq_true rfl | (simp; done) | (simp; omega)) (Kv ?_)
    rintro v M ⟨rfl, rfl⟩
    rw [if_pos rfl]
    refine Go.ifc X d0_142 (pt := 162) ⟨by decide, by decide⟩ ?_ ?_
    · intro q; exact absurd (show (1 : Int32) = 0 from q) (by decide)
    intro _
    refine Go.aload X d0_145 rfl rfl ?_
    refine Go.callV X (fun h H => H.exa (i := 0) rfl) (n_str0 l G (o := o) (t := s1) List.mem_cons_self) (rest := []) (w70 G) (w71 G) (nfS (w73 G)) (w73 G) (w72 G) (w32 G) (w74 G) (by decide) pd30 rfl rfl d0_147 rfl (by first | exact Nat.le_of_ble_eq_true rfl | (simp; done) | (simp; omega)) (by first | exact Nat.le_of_ble_eq_true rfl | (simp; done) | (simp; omega)) (by first | exact Nat.le_of_ble_eq_true rfl | (simp; done) | (simp; omega)) (by first | exact Nat.le_of_ble_eq_true rfl | (simp; done) | (simp; omega)) (Kv ?_)
    rintro v M ⟨rfl, rfl⟩
    refine Go.aload X d0_150 rfl rfl ?_
    refine Go.callV X (fun h H => (hS2.2 h H).1) (s_equals l G hS2 hS2 hlt hlt (fun _ => rfl)) (rest := []) (w65 G) (w66 G) (nfS (w68 G)) (w68 G) (w67 G) (w10 G) (w69 G) (by decide) pd33 rfl rfl d0_152 rfl (by first | exact Nat.le_of_ble_eq_true rfl | (simp; done) | (simp; omega)) (by first | exact Nat.le_of_ble_eq_true rfl | (simp; done) | (simp; omega)) (by first | exact Nat.le_of_ble_eq_true rfl | (simp; done) | (simp; omega)) (by first | exact Nat.le_of_ble_eq_true rfl | (simp; done) | (simp; omega)) (Kv ?_)
    rintro v M ⟨rfl, rfl⟩
    rw [if_pos rfl]
    refine Go.ifc X d0_155 (pt := 162) ⟨by decide, by decide⟩ ?_ ?_
    · intro q; exact absurd (show (1 : Int32) = 0 from q) (by decide)
    intro _
    refine Go.iconst X (v := 1) d0_158 (by decide) ?_
    refine Go.goto X d0_159 (pt := 163) ⟨by decide, by decide⟩ ?_
    exact Go.zret X d0_163 (Or.inr rfl) (by first | exact Nat.le_of_ble_eq_true rfl | (simp; done) | (simp; omega)) (by first | exact Nat.le_of_ble_eq_true rfl | (simp; done) | (simp; omega)) rfl
-- %%% law y
theorem w3 {a0 : Array Value} {Z : State} (G : Gl a0 Z) : (Jvm.Cond.initialized "com/example/persist/persist/mapping/SqlNameOfPinLaw").before a0 Z = true := G.1 _ (List.mem_of_getElem? (i := 3) rfl)
theorem w5 {a0 : Array Value} {Z : State} (G : Gl a0 Z) : (Jvm.Cond.methodLink "com/example/persist/persist/mapping/SqlNameOfPinLaw" (19 : Nat) ({ cls := "com/example/persist/persist/mapping/SqlNameOfPinLaw", name := "str", desc := "(ICCCC)Ljava/lang/String;" } : Jvm.MethodName)).before a0 Z = true := G.1 _ (List.mem_of_getElem? (i := 5) rfl)
theorem w6 {a0 : Array Value} {Z : State} (G : Gl a0 Z) : (Jvm.Cond.static ({ cls := "com/example/persist/persist/mapping/SqlNameOfPinLaw", name := "str", desc := "(ICCCC)Ljava/lang/String;" } : Jvm.MethodName)).before a0 Z = true := G.1 _ (List.mem_of_getElem? (i := 6) rfl)
theorem w7 {a0 : Array Value} {Z : State} (G : Gl a0 Z) : (Jvm.Cond.code ({ cls := "com/example/persist/persist/mapping/SqlNameOfPinLaw", name := "str", desc := "(ICCCC)Ljava/lang/String;" } : Jvm.MethodName) method_3_code (5 : Nat) (Option.some (Jvm.ClassFile.FieldType.object "java/lang/String"))).before a0 Z = true := G.1 _ (List.mem_of_getElem? (i := 7) rfl)
theorem d0_93 : D1 code 93 (.iload 5) 2 95 := ⟨at_93, rfl⟩
theorem d0_95 : D1 code 95 (.iconst 2) 1 96 := ⟨at_95, rfl⟩
theorem d0_96 : D1 code 96 (.isub) 1 97 := ⟨at_96, rfl⟩
theorem d0_97 : D1 code 97 (.iload 7) 2 99 := ⟨at_97, rfl⟩
theorem d0_99 : D1 code 99 (.iload 8) 2 101 := ⟨at_99, rfl⟩
theorem d0_101 : D1 code 101 (.iload 9) 2 103 := ⟨at_101, rfl⟩
theorem d0_103 : D1 code 103 (.iload 9) 2 105 := ⟨at_103, rfl⟩
theorem d0_105 : D1 code 105 (.invokestatic 19) 3 108 := ⟨at_105, rfl⟩
theorem d0_108 : D1 code 108 (.goto 5) 3 111 := ⟨at_108, rfl⟩
theorem pd34 : parseMethodDescriptor "(ICCCC)Ljava/lang/String;" = some ⟨[.int, .char, .char, .char, .char], some (.object "java/lang/String")⟩ := by decide +kernel
set_option maxRecDepth 65536 in
set_option maxHeartbeats 4000000 in
theorem k86y {p : Program} {l : Launch} {e : Env} {Z s : State} {a0 : Array Value} {m : MethodId} {below : List Frame} {meth : Method} {c : Code} {i0 i1 i2 i3 i4 : Int32} (X : Cx WD EL0 p Z s m meth c "com/example/persist/persist/mapping/SqlNameOfPinLaw" "law" code 14 (some .boolean)) (G : Gl a0 Z) {m0 c0 c1 c2 c3 : Nat} (h0 : c0 < 256) (h1 : c1 < 256) (h2 : c2 < 256) (h3 : c3 < 256) {s1 p1 : Addr} {UU : List Ent} (hS : Sx Z UU s1 p1 (List.take m0 [c0, c1, c2, c3])) (hm : m0 = 2 ∨ m0 = 3 ∨ m0 = 4) (q0 : (List.take m0 [c0, c1, c2, c3])[0]? = some 34) (q1 : (List.take m0 [c0, c1, c2, c3])[(List.take m0 [c0, c1, c2, c3]).length - 1]? = some 34) : Go WD EL0 p l e room_1 Z s m #[.int i0, .int i1, .int i2, .int i3, .int i4] below meth c (rvQ fun v _ => v = .int 1) UU 6 20 (mkF m 86 #[.val (.int i0), .val (.int i1), .val (.int i2), .val (.int i3), .val (.int i4), .val (.int (Int32.ofNat m0)), .val (.int (Int32.ofNat c0)), .val (.int (Int32.ofNat c1)), .val (.int (Int32.ofNat c2)), .val (.int (Int32.ofNat c3)), .val (.ref s1), .unset, .unset, .unset] [.int 1]) := by
    have hlt : ∀ c ∈ List.take m0 [c0, c1, c2, c3], c < 256 := fun c h => by
      have := List.mem_of_mem_take h
      simp at this; omega
    have h4 : (List.take m0 [c0, c1, c2, c3]).length ≤ 4 := by rw [List.length_take]; exact Nat.min_le_right _ _
    have e2 : Int32.ofNat m0 - 2 = Int32.ofNat (m0 - 2) := by rcases hm with rfl | rfl | rfl <;> rfl
    have hmid : (((List.take m0 [c0, c1, c2, c3]).drop 1).take ((List.take m0 [c0, c1, c2, c3]).length - 2)) = List.take (m0 - 2) [c1, c2, c3, c3] := by rcases hm with rfl | rfl | rfl <;> rfl
    have hall : ([] : List Nat) ++ [34] ++ (((List.take m0 [c0, c1, c2, c3]).drop 1).take ((List.take m0 [c0, c1, c2, c3]).length - 2)) ++ [34] = List.take m0 [c0, c1, c2, c3] := by
      rcases hm with rfl | rfl | rfl <;> simp at q0 q1 <;> simp [q0, q1]
    have hlt2 : ∀ c ∈ List.take (m0 - 2) [c1, c2, c3, c3], c < 256 := fun c h => by
      have := List.mem_of_mem_take h
      simp at this; omega
    have hu : ((((List.take m0 [c0, c1, c2, c3]).drop 1).take ((List.take m0 [c0, c1, c2, c3]).length - 2))).length ≤ 2 := by rw [hmid]; simp only [List.length_take, List.length_cons, List.length_nil]; omega
    refine Go.istore X d0_86 (stL rfl rfl (by dsimp only [updL])) ?_
    refine Go.iload X d0_88 rfl ?_
    refine Go.ifc X d0_90 (pt := 111) ⟨by decide, by decide⟩ ?_ ?_
    · intro q; exact absurd (show (1 : Int32) = 0 from q) (by decide)
    intro _
    refine Go.iload X d0_93 rfl ?_
    refine Go.iconst X (v := 2) d0_95 (by decide) ?_
    refine Go.isub X d0_96 ?_
    rw [e2]
    refine Go.iload X d0_97 rfl ?_
    refine Go.iload X d0_99 rfl ?_
    refine Go.iload X d0_101 rfl ?_
    refine Go.iload X d0_103 rfl ?_
    refine Go.callS X (w_str l G (m0 := m0 - 2) (c0 := c1) (c1 := c2) (c2 := c3) (c3 := c3) (by omega) h1 h2 h3 h3) (rest := []) (w5 G) (w6 G) (w3 G) (w7 G) (by decide) pd34 rfl rfl d0_105 rfl (by first | exact Nat.le_of_ble_eq_true rfl | (simp; done) | (simp; omega)) (by first | exact Nat.le_of_ble_eq_true rfl | (simp; done) | (simp; omega)) (by first | exact Nat.le_of_ble_eq_true rfl | (simp; done) | (simp; omega)) (by first | exact Nat.le_of_ble_eq_true rfl | (simp; done) | (simp; omega)) (Kv ?_)
    rintro v M ⟨e1, p2, ca2, K2, Kc2, f2, rfl, rfl⟩
    refine Go.goto X d0_108 (pt := 113) ⟨by decide, by decide⟩ ?_
    refine Go.astore X d0_113 rfl (stL rfl rfl (by dsimp only [updL])) ?_
    refine Go.aload X d0_115 rfl rfl ?_
    have hS1 : Sx Z ((p2, Ar Z .byte K2 (bsOf (List.take (m0 - 2) [c1, c2, c3, c3])), f2) :: ow e1 (Ob Z "java/lang/String" ns0 [.ref p2, .int 0]) :: ow ca2 (Ar Z .char Kc2 (csOf (List.take (m0 - 2) [c1, c2, c3, c3]))) :: UU) s1 p1 (List.take m0 [c0, c1, c2, c3]) := hS.up.up.up
    have hE1 : Sx Z ((p2, Ar Z .byte K2 (bsOf (List.take (m0 - 2) [c1, c2, c3, c3])), f2) :: ow e1 (Ob Z "java/lang/String" ns0 [.ref p2, .int 0]) :: ow ca2 (Ar Z .char Kc2 (csOf (List.take (m0 - 2) [c1, c2, c3, c3]))) :: UU) e1 p2 (List.take (m0 - 2) [c1, c2, c3, c3]) := Sx.mk'
    refine Go.callS X (n_of_y l G hS1 hlt h4 (by simp only [List.length_take, List.length_cons, List.length_nil]; omega) q0 q1) (rest := []) (w30 G) (w31 G) (w32 G) (w33 G) (by decide) pd32 rfl rfl d0_117 rfl (by first | exact Nat.le_of_ble_eq_true rfl | (simp; done) | (simp; omega)) (by first | exact Nat.le_of_ble_eq_true rfl | (simp; done) | (simp; omega)) (by first | exact Nat.le_of_ble_eq_true rfl | (simp; done) | (simp; omega)) (by first | exact Nat.le_of_ble_eq_true rfl | (simp; done) | (simp; omega)) (Kv ?_)
    rintro v M ⟨o, t, pt, N, rfl, rfl, hT⟩
    refine Go.astore X d0_120 rfl (stL rfl rfl (by dsimp only [updL])) ?_
    refine Go.aload X d0_122 rfl rfl ?_
    refine Go.callV X (fun h H => H.exa (i := 0) rfl) (n_del l G (o := o) (t := t) (z := 1) List.mem_cons_self (Or.inr rfl)) (rest := []) (w55 G) (w56 G) (nfS (w58 G)) (w58 G) (w57 G) (w32 G) (w59 G) (by decide) pd15 rfl rfl d0_124 rfl (by first | exact Nat.le_of_ble_eq_true rfl | (simp; done) | (simp; omega)) (by first | exact Nat.le_of_ble_eq_true rfl | (simp; done) | (simp; omega)) (by first | exact Nat.le_of_ble_eq_true rfl | (simp; done) | (simp; omega)) (by first | exact Nat.le_of_ble_eq_true rfl | (simp; done) | (simp; omega)) (Kv ?_)
    rintro v M ⟨rfl, rfl⟩
    refine Go.iload X d0_127 rfl ?_
    refine Go.icmp X d0_129 (pt := 162) ⟨by decide, by decide⟩ ?_ ?_
    · intro q; exact absurd rfl q
    intro _
    refine Go.aload X d0_132 rfl rfl ?_
    refine Go.callV X (fun h H => H.exa (i := 0) rfl) (n_text l G (o := o) (t := t) (z := 1) List.mem_cons_self) (rest := []) (w60 G) (w61 G) (nfS (w63 G)) (w63 G) (w62 G) (w32 G) (w64 G) (by decide) pd30 rfl rfl d0_134 rfl (by first | exact Nat.le_of_ble_eq_true rfl | (simp; done) | (simp; omega)) (by first | exact Nat.le_of_ble_eq_true rfl | (simp; done) | (simp; omega)) (by first | exact Nat.le_of_ble_eq_true rfl | (simp; done) | (simp; omega)) (by first | exact Nat.le_of_ble_eq_true rfl | (simp; done) | (simp; omega)) (Kv ?_)
    rintro v M ⟨rfl, rfl⟩
    refine Go.aload X d0_137 rfl rfl ?_
    have hT2 : Sx Z (ow o (Ob Z "com/example/persist/persist/mapping/SqlName" ns2 [.ref t, .int 1]) :: (N ++ ((p2, Ar Z .byte K2 (bsOf (List.take (m0 - 2) [c1, c2, c3, c3])), f2) :: ow e1 (Ob Z "java/lang/String" ns0 [.ref p2, .int 0]) :: ow ca2 (Ar Z .char Kc2 (csOf (List.take (m0 - 2) [c1, c2, c3, c3]))) :: UU))) t pt (((List.take m0 [c0, c1, c2, c3]).drop 1).take ((List.take m0 [c0, c1, c2, c3]).length - 2)) := (hT ((p2, Ar Z .byte K2 (bsOf (List.take (m0 - 2) [c1, c2, c3, c3])), f2) :: ow e1 (Ob Z "java/lang/String" ns0 [.ref p2, .int 0]) :: ow ca2 (Ar Z .char Kc2 (csOf (List.take (m0 - 2) [c1, c2, c3, c3]))) :: UU)).up
    have hE2 : Sx Z (ow o (Ob Z "com/example/persist/persist/mapping/SqlName" ns2 [.ref t, .int 1]) :: (N ++ ((p2, Ar Z .byte K2 (bsOf (List.take (m0 - 2) [c1, c2, c3, c3])), f2) :: ow e1 (Ob Z "java/lang/String" ns0 [.ref p2, .int 0]) :: ow ca2 (Ar Z .char Kc2 (csOf (List.take (m0 - 2) [c1, c2, c3, c3]))) :: UU))) e1 p2 (List.take (m0 - 2) [c1, c2, c3, c3]) := (hE1.sub (List.sublist_append_right N _)).up
    have hS2 : Sx Z (ow o (Ob Z "com/example/persist/persist/mapping/SqlName" ns2 [.ref t, .int 1]) :: (N ++ ((p2, Ar Z .byte K2 (bsOf (List.take (m0 - 2) [c1, c2, c3, c3])), f2) :: ow e1 (Ob Z "java/lang/String" ns0 [.ref p2, .int 0]) :: ow ca2 (Ar Z .char Kc2 (csOf (List.take (m0 - 2) [c1, c2, c3, c3]))) :: UU))) s1 p1 (List.take m0 [c0, c1, c2, c3]) := (hS1.sub (List.sublist_append_right N _)).up
    have hltm : ∀ c ∈ (((List.take m0 [c0, c1, c2, c3]).drop 1).take ((List.take m0 [c0, c1, c2, c3]).length - 2)), c < 256 := fun c h => by rw [hmid] at h; exact hlt2 c h
    refine Go.callV X (fun h H => (hT2.2 h H).1) (s_equals l G hT2 hE2 hltm hlt2 (fun _ => hmid)) (rest := []) (w65 G) (w66 G) (nfS (w68 G)) (w68 G) (w67 G) (w10 G) (w69 G) (by decide) pd33 rfl rfl d0_139 rfl (by first | exact Nat.le_of_ble_eq_true rfl | (simp; done) | (simp; omega)) (by first | exact Nat.le_of_ble_eq_true rfl | (simp; done) | (simp; omega)) (by first | exact Nat.le_of_ble_eq_true rfl | (simp; done) | (simp; omega)) (by first | exact Nat.le_of_ble_eq_true rfl | (simp; done) | (simp; omega)) (Kv ?_)
    rintro v M ⟨rfl, rfl⟩
    rw [if_pos hmid]
    refine Go.ifc X d0_142 (pt := 162) ⟨by decide, by decide⟩ ?_ ?_
    · intro q; exact absurd (show (1 : Int32) = 0 from q) (by decide)
    intro _
    refine Go.aload X d0_145 rfl rfl ?_
    refine Go.callV X (fun h H => H.exa (i := 0) rfl) (n_str1 l G (o := o) (t := t) List.mem_cons_self hT2 hu) (rest := []) (w70 G) (w71 G) (nfS (w73 G)) (w73 G) (w72 G) (w32 G) (w74 G) (by decide) pd30 rfl rfl d0_147 rfl (by first | exact Nat.le_of_ble_eq_true rfl | (simp; done) | (simp; omega)) (by first | exact Nat.le_of_ble_eq_true rfl | (simp; done) | (simp; omega)) (by first | exact Nat.le_of_ble_eq_true rfl | (simp; done) | (simp; omega)) (by first | exact Nat.le_of_ble_eq_true rfl | (simp; done) | (simp; omega)) (Kv ?_)
    rintro v M ⟨s2, p3, N3, rfl, rfl, hS3⟩
    refine Go.aload X d0_150 rfl rfl ?_
    have hS4 : Sx Z (N3 ++ (ow o (Ob Z "com/example/persist/persist/mapping/SqlName" ns2 [.ref t, .int 1]) :: (N ++ ((p2, Ar Z .byte K2 (bsOf (List.take (m0 - 2) [c1, c2, c3, c3])), f2) :: ow e1 (Ob Z "java/lang/String" ns0 [.ref p2, .int 0]) :: ow ca2 (Ar Z .char Kc2 (csOf (List.take (m0 - 2) [c1, c2, c3, c3]))) :: UU)))) s1 p1 (List.take m0 [c0, c1, c2, c3]) := hS2.sub (List.sublist_append_right N3 _)
    have hS5 := hS3 (ow o (Ob Z "com/example/persist/persist/mapping/SqlName" ns2 [.ref t, .int 1]) :: (N ++ ((p2, Ar Z .byte K2 (bsOf (List.take (m0 - 2) [c1, c2, c3, c3])), f2) :: ow e1 (Ob Z "java/lang/String" ns0 [.ref p2, .int 0]) :: ow ca2 (Ar Z .char Kc2 (csOf (List.take (m0 - 2) [c1, c2, c3, c3]))) :: UU)))
    rw [hall] at hS5
    refine Go.callV X (fun h H => (hS5.2 h H).1) (s_equals l G hS5 hS4 hlt hlt (fun _ => rfl)) (rest := []) (w65 G) (w66 G) (nfS (w68 G)) (w68 G) (w67 G) (w10 G) (w69 G) (by decide) pd33 rfl rfl d0_152 rfl (by first | exact Nat.le_of_ble_eq_true rfl | (simp; done) | (simp; omega)) (by first | exact Nat.le_of_ble_eq_true rfl | (simp; done) | (simp; omega)) (by first | exact Nat.le_of_ble_eq_true rfl | (simp; done) | (simp; omega)) (by first | exact Nat.le_of_ble_eq_true rfl | (simp; done) | (simp; omega)) (Kv ?_)
    rintro v M ⟨rfl, rfl⟩
    rw [if_pos rfl]
    refine Go.ifc X d0_155 (pt := 162) ⟨by decide, by decide⟩ ?_ ?_
    · intro q; exact absurd (show (1 : Int32) = 0 from q) (by decide)
    intro _
    refine Go.iconst X (v := 1) d0_158 (by decide) ?_
    refine Go.goto X d0_159 (pt := 163) ⟨by decide, by decide⟩ ?_
    exact Go.zret X d0_163 (Or.inr rfl) (by first | exact Nat.le_of_ble_eq_true rfl | (simp; done) | (simp; omega)) (by first | exact Nat.le_of_ble_eq_true rfl | (simp; done) | (simp; omega)) rfl
-- %%% law
theorem w0 {a0 : Array Value} {Z : State} (G : Gl a0 Z) : (Jvm.Cond.constant "com/example/persist/persist/mapping/SqlNameOfPinLaw" (12 : Nat) (2147483647 : Int32)).before a0 Z = true := G.1 _ (List.mem_of_getElem? (i := 0) rfl)
theorem w1 {a0 : Array Value} {Z : State} (G : Gl a0 Z) : (Jvm.Cond.methodLink "com/example/persist/persist/mapping/SqlNameOfPinLaw" (13 : Nat) ({ cls := "com/example/persist/persist/mapping/SqlNameOfPinLaw", name := "ch", desc := "(I)C" } : Jvm.MethodName)).before a0 Z = true := G.1 _ (List.mem_of_getElem? (i := 1) rfl)
theorem w2 {a0 : Array Value} {Z : State} (G : Gl a0 Z) : (Jvm.Cond.static ({ cls := "com/example/persist/persist/mapping/SqlNameOfPinLaw", name := "ch", desc := "(I)C" } : Jvm.MethodName)).before a0 Z = true := G.1 _ (List.mem_of_getElem? (i := 2) rfl)
theorem w4 {a0 : Array Value} {Z : State} (G : Gl a0 Z) : (Jvm.Cond.code ({ cls := "com/example/persist/persist/mapping/SqlNameOfPinLaw", name := "ch", desc := "(I)C" } : Jvm.MethodName) method_2_code (1 : Nat) (Option.some Jvm.ClassFile.FieldType.char)).before a0 Z = true := G.1 _ (List.mem_of_getElem? (i := 4) rfl)
theorem w101 {a0 : Array Value} {Z : State} (G : Gl a0 Z) : (Jvm.Cond.methodLink "com/example/persist/persist/mapping/SqlNameOfPinLaw" (23 : Nat) ({ cls := "com/example/persist/persist/mapping/SqlNameOfPinLaw", name := "at", desc := "(ICCCC)C" } : Jvm.MethodName)).before a0 Z = true := G.1 _ (List.mem_of_getElem? (i := 101) rfl)
theorem w102 {a0 : Array Value} {Z : State} (G : Gl a0 Z) : (Jvm.Cond.static ({ cls := "com/example/persist/persist/mapping/SqlNameOfPinLaw", name := "at", desc := "(ICCCC)C" } : Jvm.MethodName)).before a0 Z = true := G.1 _ (List.mem_of_getElem? (i := 102) rfl)
theorem w103 {a0 : Array Value} {Z : State} (G : Gl a0 Z) : (Jvm.Cond.code ({ cls := "com/example/persist/persist/mapping/SqlNameOfPinLaw", name := "at", desc := "(ICCCC)C" } : Jvm.MethodName) method_4_code (5 : Nat) (Option.some Jvm.ClassFile.FieldType.char)).before a0 Z = true := G.1 _ (List.mem_of_getElem? (i := 103) rfl)
theorem d0_0 : D1 code 0 (.iload_n 0) 1 1 := ⟨at_0, rfl⟩
theorem d0_1 : D1 code 1 (.ldc 12) 2 3 := ⟨at_1, rfl⟩
theorem d0_3 : D1 code 3 (.iand) 1 4 := ⟨at_3, rfl⟩
theorem d0_4 : D1 code 4 (.iconst 5) 1 5 := ⟨at_4, rfl⟩
theorem d0_5 : D1 code 5 (.irem) 1 6 := ⟨at_5, rfl⟩
theorem d0_6 : D1 code 6 (.istore 5) 2 8 := ⟨at_6, rfl⟩
theorem d0_8 : D1 code 8 (.iload_n 1) 1 9 := ⟨at_8, rfl⟩
theorem d0_9 : D1 code 9 (.invokestatic 13) 3 12 := ⟨at_9, rfl⟩
theorem d0_12 : D1 code 12 (.istore 6) 2 14 := ⟨at_12, rfl⟩
theorem d0_14 : D1 code 14 (.iload_n 2) 1 15 := ⟨at_14, rfl⟩
theorem d0_15 : D1 code 15 (.invokestatic 13) 3 18 := ⟨at_15, rfl⟩
theorem d0_18 : D1 code 18 (.istore 7) 2 20 := ⟨at_18, rfl⟩
theorem d0_20 : D1 code 20 (.iload_n 3) 1 21 := ⟨at_20, rfl⟩
theorem d0_21 : D1 code 21 (.invokestatic 13) 3 24 := ⟨at_21, rfl⟩
theorem d0_24 : D1 code 24 (.istore 8) 2 26 := ⟨at_24, rfl⟩
theorem d0_26 : D1 code 26 (.iload 4) 2 28 := ⟨at_26, rfl⟩
theorem d0_28 : D1 code 28 (.invokestatic 13) 3 31 := ⟨at_28, rfl⟩
theorem d0_31 : D1 code 31 (.istore 9) 2 33 := ⟨at_31, rfl⟩
theorem d0_33 : D1 code 33 (.iload 5) 2 35 := ⟨at_33, rfl⟩
theorem d0_35 : D1 code 35 (.iload 6) 2 37 := ⟨at_35, rfl⟩
theorem d0_37 : D1 code 37 (.iload 7) 2 39 := ⟨at_37, rfl⟩
theorem d0_39 : D1 code 39 (.iload 8) 2 41 := ⟨at_39, rfl⟩
theorem d0_41 : D1 code 41 (.iload 9) 2 43 := ⟨at_41, rfl⟩
theorem d0_43 : D1 code 43 (.invokestatic 19) 3 46 := ⟨at_43, rfl⟩
theorem d0_46 : D1 code 46 (.astore 10) 2 48 := ⟨at_46, rfl⟩
theorem d0_48 : D1 code 48 (.iload 5) 2 50 := ⟨at_48, rfl⟩
theorem d0_50 : D1 code 50 (.iconst 2) 1 51 := ⟨at_50, rfl⟩
theorem d0_51 : D1 code 51 (.if_icmp .lt 34) 3 54 := ⟨at_51, rfl⟩
theorem d0_54 : D1 code 54 (.iload 6) 2 56 := ⟨at_54, rfl⟩
theorem d0_56 : D1 code 56 (.bipush 34) 2 58 := ⟨at_56, rfl⟩
theorem d0_58 : D1 code 58 (.if_icmp .ne 27) 3 61 := ⟨at_58, rfl⟩
theorem d0_61 : D1 code 61 (.iload 5) 2 63 := ⟨at_61, rfl⟩
theorem d0_63 : D1 code 63 (.iconst 1) 1 64 := ⟨at_63, rfl⟩
theorem d0_64 : D1 code 64 (.isub) 1 65 := ⟨at_64, rfl⟩
theorem d0_65 : D1 code 65 (.iload 6) 2 67 := ⟨at_65, rfl⟩
theorem d0_67 : D1 code 67 (.iload 7) 2 69 := ⟨at_67, rfl⟩
theorem d0_69 : D1 code 69 (.iload 8) 2 71 := ⟨at_69, rfl⟩
theorem d0_71 : D1 code 71 (.iload 9) 2 73 := ⟨at_71, rfl⟩
theorem d0_73 : D1 code 73 (.invokestatic 23) 3 76 := ⟨at_73, rfl⟩
theorem d0_76 : D1 code 76 (.bipush 34) 2 78 := ⟨at_76, rfl⟩
theorem d0_78 : D1 code 78 (.if_icmp .ne 7) 3 81 := ⟨at_78, rfl⟩
theorem d0_81 : D1 code 81 (.iconst 1) 1 82 := ⟨at_81, rfl⟩
theorem d0_82 : D1 code 82 (.goto 4) 3 85 := ⟨at_82, rfl⟩
theorem d0_85 : D1 code 85 (.iconst 0) 1 86 := ⟨at_85, rfl⟩
theorem pd35 : parseMethodDescriptor "(I)C" = some ⟨[.int], some .char⟩ := by decide +kernel
theorem pd36 : parseMethodDescriptor "(ICCCC)C" = some ⟨[.int, .char, .char, .char, .char], some .char⟩ := by decide +kernel
theorem ent0 (v0 v1 v2 v3 v4 : Value) (h0 : v0.category ≠ 2) (h1 : v1.category ≠ 2) (h2 : v2.category ≠ 2) (h3 : v3.category ≠ 2) (h4 : v4.category ≠ 2) (n : Nat) : argsToLocals #[v0, v1, v2, v3, v4] (n + 5) = #[.val v0, .val v1, .val v2, .val v3, .val v4] ++ Array.replicate n .unset := by
  have : (#[v0, v1, v2, v3, v4] : Array Value).foldl (init := #[]) (fun acc v => if v.category = 2 then (acc.push (Slot.val v)).push .second else acc.push (.val v)) = #[.val v0, .val v1, .val v2, .val v3, .val v4] := by
    simp [h0, h1, h2, h3, h4]
  unfold argsToLocals
  rw [this]
  rfl
theorem ent1 (m : MethodId) (i0 i1 i2 i3 i4 : Int32) : entryFrame m #[.int i0, .int i1, .int i2, .int i3, .int i4] 14 = mkF m 0 #[.val (.int i0), .val (.int i1), .val (.int i2), .val (.int i3), .val (.int i4), .unset, .unset, .unset, .unset, .unset, .unset, .unset, .unset, .unset] [] := by
  have e : Array.replicate 9 Slot.unset = #[.unset, .unset, .unset, .unset, .unset, .unset, .unset, .unset, .unset] := by rw [← List.toArray_replicate]; rfl
  have e2 : argsToLocals #[.int i0, .int i1, .int i2, .int i3, .int i4] 14 = #[.val (.int i0), .val (.int i1), .val (.int i2), .val (.int i3), .val (.int i4), .unset, .unset, .unset, .unset, .unset, .unset, .unset, .unset, .unset] := by
    rw [ent0 (.int i0) (.int i1) (.int i2) (.int i3) (.int i4) (by simp [Value.category]) (by simp [Value.category]) (by simp [Value.category]) (by simp [Value.category]) (by simp [Value.category]) 9, e, List.append_toArray]
    simp only [List.cons_append, List.nil_append]
  unfold entryFrame mkF
  rw [e2]
set_option maxRecDepth 65536 in
set_option maxHeartbeats 4000000 in
theorem law_ct (l : Launch) {Z : State} {a0 : Array Value} (G : Gl a0 Z) (i0 i1 i2 i3 i4 : Int32) : Ct WD EL0 l Z x code maxLocals ret room_1 #[.int i0, .int i1, .int i2, .int i3, .int i4] [] (rvQ (fun v _ => v = .int 1)) := by
  refine Ct.intro (by decide +kernel) G.2.1 ?_
  intro p e s m below meth c X
  replace X : Cx WD EL0 p Z s m meth c "com/example/persist/persist/mapping/SqlNameOfPinLaw" "law" code 14 (some .boolean) := X
  refine Go.cast (g' := mkF m 0 #[.val (.int i0), .val (.int i1), .val (.int i2), .val (.int i3), .val (.int i4), .unset, .unset, .unset, .unset, .unset, .unset, .unset, .unset, .unset] []) (ent1 m i0 i1 i2 i3 i4) ?_
  refine Go.iloadN X d0_0 rfl ?_
  refine Go.ldcI X (w0 G) d0_1 ?_
  refine Go.iand X d0_3 ?_
  refine Go.iconst X (v := 5) d0_4 (by decide) ?_
  refine Go.irem X d0_5 (by decide) ?_
  obtain ⟨m0, hm, em⟩ := rem5 i0
  rw [em]
  refine Go.istore X d0_6 (stL rfl rfl (by dsimp only [updL])) ?_
  refine Go.iloadN X d0_8 rfl ?_
  refine Go.callS X (w_ch l G i1) (rest := []) (w1 G) (w2 G) (w3 G) (w4 G) (by decide) pd35 rfl rfl d0_9 rfl (by first | exact Nat.le_of_ble_eq_true rfl | (simp; done) | (simp; omega)) (by first | exact Nat.le_of_ble_eq_true rfl | (simp; done) | (simp; omega)) (by first | exact Nat.le_of_ble_eq_true rfl | (simp; done) | (simp; omega)) (by first | exact Nat.le_of_ble_eq_true rfl | (simp; done) | (simp; omega)) (Kv ?_)
  rintro v M ⟨c0, h0, rfl, rfl⟩
  refine Go.istore X d0_12 (stL rfl rfl (by dsimp only [updL])) ?_
  refine Go.iloadN X d0_14 rfl ?_
  refine Go.callS X (w_ch l G i2) (rest := []) (w1 G) (w2 G) (w3 G) (w4 G) (by decide) pd35 rfl rfl d0_15 rfl (by first | exact Nat.le_of_ble_eq_true rfl | (simp; done) | (simp; omega)) (by first | exact Nat.le_of_ble_eq_true rfl | (simp; done) | (simp; omega)) (by first | exact Nat.le_of_ble_eq_true rfl | (simp; done) | (simp; omega)) (by first | exact Nat.le_of_ble_eq_true rfl | (simp; done) | (simp; omega)) (Kv ?_)
  rintro v M ⟨c1, h1, rfl, rfl⟩
  refine Go.istore X d0_18 (stL rfl rfl (by dsimp only [updL])) ?_
  refine Go.iloadN X d0_20 rfl ?_
  refine Go.callS X (w_ch l G i3) (rest := []) (w1 G) (w2 G) (w3 G) (w4 G) (by decide) pd35 rfl rfl d0_21 rfl (by first | exact Nat.le_of_ble_eq_true rfl | (simp; done) | (simp; omega)) (by first | exact Nat.le_of_ble_eq_true rfl | (simp; done) | (simp; omega)) (by first | exact Nat.le_of_ble_eq_true rfl | (simp; done) | (simp; omega)) (by first | exact Nat.le_of_ble_eq_true rfl | (simp; done) | (simp; omega)) (Kv ?_)
  rintro v M ⟨c2, h2, rfl, rfl⟩
  refine Go.istore X d0_24 (stL rfl rfl (by dsimp only [updL])) ?_
  refine Go.iload X d0_26 rfl ?_
  refine Go.callS X (w_ch l G i4) (rest := []) (w1 G) (w2 G) (w3 G) (w4 G) (by decide) pd35 rfl rfl d0_28 rfl (by first | exact Nat.le_of_ble_eq_true rfl | (simp; done) | (simp; omega)) (by first | exact Nat.le_of_ble_eq_true rfl | (simp; done) | (simp; omega)) (by first | exact Nat.le_of_ble_eq_true rfl | (simp; done) | (simp; omega)) (by first | exact Nat.le_of_ble_eq_true rfl | (simp; done) | (simp; omega)) (Kv ?_)
  rintro v M ⟨c3, h3, rfl, rfl⟩
  refine Go.istore X d0_31 (stL rfl rfl (by dsimp only [updL])) ?_
  refine Go.iload X d0_33 rfl ?_
  refine Go.iload X d0_35 rfl ?_
  refine Go.iload X d0_37 rfl ?_
  refine Go.iload X d0_39 rfl ?_
  refine Go.iload X d0_41 rfl ?_
  refine Go.callS X (w_str l G (m0 := m0) (c0 := c0) (c1 := c1) (c2 := c2) (c3 := c3) hm h0 h1 h2 h3) (rest := []) (w5 G) (w6 G) (w3 G) (w7 G) (by decide) pd34 rfl rfl d0_43 rfl (by first | exact Nat.le_of_ble_eq_true rfl | (simp; done) | (simp; omega)) (by first | exact Nat.le_of_ble_eq_true rfl | (simp; done) | (simp; omega)) (by first | exact Nat.le_of_ble_eq_true rfl | (simp; done) | (simp; omega)) (by first | exact Nat.le_of_ble_eq_true rfl | (simp; done) | (simp; omega)) (Kv ?_)
  rintro v M ⟨s1, p1, ca, K, Kc, f, rfl, rfl⟩
  refine Go.astore X d0_46 rfl (stL rfl rfl (by dsimp only [updL])) ?_
  have hS : Sx Z ((p1, Ar Z .byte K (bsOf (List.take m0 [c0, c1, c2, c3])), f) :: ow s1 (Ob Z "java/lang/String" ns0 [.ref p1, .int 0]) :: ow ca (Ar Z .char Kc (csOf (List.take m0 [c0, c1, c2, c3]))) :: []) s1 p1 (List.take m0 [c0, c1, c2, c3]) := Sx.mk'
  rcases hm with rfl | rfl | rfl | rfl | rfl
  · refine Go.iload X d0_48 rfl ?_
    refine Go.iconst X (v := 2) d0_50 (by decide) ?_
    refine Go.icmp X d0_51 (pt := 85) ⟨by decide, by decide⟩ ?_ ?_
    rotate_left
    · intro q; exact absurd (show Int32.ofNat 0 < 2 by decide) q
    intro _
    refine Go.iconst X (v := 0) d0_85 (by decide) ?_
    exact Go.book (by first | exact Nat.le_of_ble_eq_true rfl | (simp; done) | (simp; omega)) (by first | exact Nat.le_of_ble_eq_true rfl | (simp; done) | (simp; omega)) (k86n X G h0 h1 h2 h3 hS (by rintro ⟨z, -, -⟩; simp at z))
  · refine Go.iload X d0_48 rfl ?_
    refine Go.iconst X (v := 2) d0_50 (by decide) ?_
    refine Go.icmp X d0_51 (pt := 85) ⟨by decide, by decide⟩ ?_ ?_
    rotate_left
    · intro q; exact absurd (show Int32.ofNat 1 < 2 by decide) q
    intro _
    refine Go.iconst X (v := 0) d0_85 (by decide) ?_
    exact Go.book (by first | exact Nat.le_of_ble_eq_true rfl | (simp; done) | (simp; omega)) (by first | exact Nat.le_of_ble_eq_true rfl | (simp; done) | (simp; omega)) (k86n X G h0 h1 h2 h3 hS (by rintro ⟨z, -, -⟩; simp at z))
  · refine Go.iload X d0_48 rfl ?_
    refine Go.iconst X (v := 2) d0_50 (by decide) ?_
    refine Go.icmp X d0_51 (pt := 85) ⟨by decide, by decide⟩ ?_ ?_
    · intro q; exact absurd (show Int32.ofNat 2 < 2 from q) (by decide)
    intro _
    refine Go.iload X d0_54 rfl ?_
    refine Go.bipush X (v := 34) d0_56 (by decide) ?_
    refine Go.icmp X d0_58 (pt := 85) ⟨by decide, by decide⟩ ?_ ?_
    · intro q
      have q : c0 ≠ 34 := fun z => q (by rw [z]; rfl)
      refine Go.iconst X (v := 0) d0_85 (by decide) ?_
      exact Go.book (by first | exact Nat.le_of_ble_eq_true rfl | (simp; done) | (simp; omega)) (by first | exact Nat.le_of_ble_eq_true rfl | (simp; done) | (simp; omega)) (k86n X G h0 h1 h2 h3 hS (by rintro ⟨-, z0, -⟩; simp at z0; exact q z0))
    intro q
    have q : c0 = 34 := Decidable.byContradiction fun z => q (ofNat_ne h0 (by decide) z)
    refine Go.iload X d0_61 rfl ?_
    refine Go.iconst X (v := 1) d0_63 (by decide) ?_
    refine Go.isub X d0_64 ?_
    rw [show Int32.ofNat 2 - 1 = Int32.ofNat 1 from by decide]
    refine Go.iload X d0_65 rfl ?_
    refine Go.iload X d0_67 rfl ?_
    refine Go.iload X d0_69 rfl ?_
    refine Go.iload X d0_71 rfl ?_
    refine Go.callS X (w_at1 l G (c0 := c0) (c1 := c1) (c2 := c2) (c3 := c3) h1) (rest := []) (w101 G) (w102 G) (w3 G) (w103 G) (by decide) pd36 rfl rfl d0_73 rfl (by first | exact Nat.le_of_ble_eq_true rfl | (simp; done) | (simp; omega)) (by first | exact Nat.le_of_ble_eq_true rfl | (simp; done) | (simp; omega)) (by first | exact Nat.le_of_ble_eq_true rfl | (simp; done) | (simp; omega)) (by first | exact Nat.le_of_ble_eq_true rfl | (simp; done) | (simp; omega)) (Kv ?_)
    rintro v M ⟨rfl, rfl⟩
    refine Go.bipush X (v := 34) d0_76 (by decide) ?_
    refine Go.icmp X d0_78 (pt := 85) ⟨by decide, by decide⟩ ?_ ?_
    · intro w
      have w : c1 ≠ 34 := fun z => w (by rw [z]; rfl)
      refine Go.iconst X (v := 0) d0_85 (by decide) ?_
      exact Go.book (by first | exact Nat.le_of_ble_eq_true rfl | (simp; done) | (simp; omega)) (by first | exact Nat.le_of_ble_eq_true rfl | (simp; done) | (simp; omega)) (k86n X G h0 h1 h2 h3 hS (by rintro ⟨-, -, z1⟩; simp at z1; exact w z1))
    intro w
    have w : c1 = 34 := Decidable.byContradiction fun z => w (ofNat_ne h1 (by decide) z)
    refine Go.iconst X (v := 1) d0_81 (by decide) ?_
    refine Go.goto X d0_82 (pt := 86) ⟨by decide, by decide⟩ ?_
    exact Go.book (by first | exact Nat.le_of_ble_eq_true rfl | (simp; done) | (simp; omega)) (by first | exact Nat.le_of_ble_eq_true rfl | (simp; done) | (simp; omega)) (k86y X G h0 h1 h2 h3 hS (by omega) (by simp [q]) (by simp [w]))
  · refine Go.iload X d0_48 rfl ?_
    refine Go.iconst X (v := 2) d0_50 (by decide) ?_
    refine Go.icmp X d0_51 (pt := 85) ⟨by decide, by decide⟩ ?_ ?_
    · intro q; exact absurd (show Int32.ofNat 3 < 2 from q) (by decide)
    intro _
    refine Go.iload X d0_54 rfl ?_
    refine Go.bipush X (v := 34) d0_56 (by decide) ?_
    refine Go.icmp X d0_58 (pt := 85) ⟨by decide, by decide⟩ ?_ ?_
    · intro q
      have q : c0 ≠ 34 := fun z => q (by rw [z]; rfl)
      refine Go.iconst X (v := 0) d0_85 (by decide) ?_
      exact Go.book (by first | exact Nat.le_of_ble_eq_true rfl | (simp; done) | (simp; omega)) (by first | exact Nat.le_of_ble_eq_true rfl | (simp; done) | (simp; omega)) (k86n X G h0 h1 h2 h3 hS (by rintro ⟨-, z0, -⟩; simp at z0; exact q z0))
    intro q
    have q : c0 = 34 := Decidable.byContradiction fun z => q (ofNat_ne h0 (by decide) z)
    refine Go.iload X d0_61 rfl ?_
    refine Go.iconst X (v := 1) d0_63 (by decide) ?_
    refine Go.isub X d0_64 ?_
    rw [show Int32.ofNat 3 - 1 = Int32.ofNat 2 from by decide]
    refine Go.iload X d0_65 rfl ?_
    refine Go.iload X d0_67 rfl ?_
    refine Go.iload X d0_69 rfl ?_
    refine Go.iload X d0_71 rfl ?_
    refine Go.callS X (w_at2 l G (c0 := c0) (c1 := c1) (c2 := c2) (c3 := c3) h2) (rest := []) (w101 G) (w102 G) (w3 G) (w103 G) (by decide) pd36 rfl rfl d0_73 rfl (by first | exact Nat.le_of_ble_eq_true rfl | (simp; done) | (simp; omega)) (by first | exact Nat.le_of_ble_eq_true rfl | (simp; done) | (simp; omega)) (by first | exact Nat.le_of_ble_eq_true rfl | (simp; done) | (simp; omega)) (by first | exact Nat.le_of_ble_eq_true rfl | (simp; done) | (simp; omega)) (Kv ?_)
    rintro v M ⟨rfl, rfl⟩
    refine Go.bipush X (v := 34) d0_76 (by decide) ?_
    refine Go.icmp X d0_78 (pt := 85) ⟨by decide, by decide⟩ ?_ ?_
    · intro w
      have w : c2 ≠ 34 := fun z => w (by rw [z]; rfl)
      refine Go.iconst X (v := 0) d0_85 (by decide) ?_
      exact Go.book (by first | exact Nat.le_of_ble_eq_true rfl | (simp; done) | (simp; omega)) (by first | exact Nat.le_of_ble_eq_true rfl | (simp; done) | (simp; omega)) (k86n X G h0 h1 h2 h3 hS (by rintro ⟨-, -, z1⟩; simp at z1; exact w z1))
    intro w
    have w : c2 = 34 := Decidable.byContradiction fun z => w (ofNat_ne h2 (by decide) z)
    refine Go.iconst X (v := 1) d0_81 (by decide) ?_
    refine Go.goto X d0_82 (pt := 86) ⟨by decide, by decide⟩ ?_
    exact Go.book (by first | exact Nat.le_of_ble_eq_true rfl | (simp; done) | (simp; omega)) (by first | exact Nat.le_of_ble_eq_true rfl | (simp; done) | (simp; omega)) (k86y X G h0 h1 h2 h3 hS (by omega) (by simp [q]) (by simp [w]))
  · refine Go.iload X d0_48 rfl ?_
    refine Go.iconst X (v := 2) d0_50 (by decide) ?_
    refine Go.icmp X d0_51 (pt := 85) ⟨by decide, by decide⟩ ?_ ?_
    · intro q; exact absurd (show Int32.ofNat 4 < 2 from q) (by decide)
    intro _
    refine Go.iload X d0_54 rfl ?_
    refine Go.bipush X (v := 34) d0_56 (by decide) ?_
    refine Go.icmp X d0_58 (pt := 85) ⟨by decide, by decide⟩ ?_ ?_
    · intro q
      have q : c0 ≠ 34 := fun z => q (by rw [z]; rfl)
      refine Go.iconst X (v := 0) d0_85 (by decide) ?_
      exact Go.book (by first | exact Nat.le_of_ble_eq_true rfl | (simp; done) | (simp; omega)) (by first | exact Nat.le_of_ble_eq_true rfl | (simp; done) | (simp; omega)) (k86n X G h0 h1 h2 h3 hS (by rintro ⟨-, z0, -⟩; simp at z0; exact q z0))
    intro q
    have q : c0 = 34 := Decidable.byContradiction fun z => q (ofNat_ne h0 (by decide) z)
    refine Go.iload X d0_61 rfl ?_
    refine Go.iconst X (v := 1) d0_63 (by decide) ?_
    refine Go.isub X d0_64 ?_
    rw [show Int32.ofNat 4 - 1 = Int32.ofNat 3 from by decide]
    refine Go.iload X d0_65 rfl ?_
    refine Go.iload X d0_67 rfl ?_
    refine Go.iload X d0_69 rfl ?_
    refine Go.iload X d0_71 rfl ?_
    refine Go.callS X (w_at3 l G (c0 := c0) (c1 := c1) (c2 := c2) (c3 := c3) h3) (rest := []) (w101 G) (w102 G) (w3 G) (w103 G) (by decide) pd36 rfl rfl d0_73 rfl (by first | exact Nat.le_of_ble_eq_true rfl | (simp; done) | (simp; omega)) (by first | exact Nat.le_of_ble_eq_true rfl | (simp; done) | (simp; omega)) (by first | exact Nat.le_of_ble_eq_true rfl | (simp; done) | (simp; omega)) (by first | exact Nat.le_of_ble_eq_true rfl | (simp; done) | (simp; omega)) (Kv ?_)
    rintro v M ⟨rfl, rfl⟩
    refine Go.bipush X (v := 34) d0_76 (by decide) ?_
    refine Go.icmp X d0_78 (pt := 85) ⟨by decide, by decide⟩ ?_ ?_
    · intro w
      have w : c3 ≠ 34 := fun z => w (by rw [z]; rfl)
      refine Go.iconst X (v := 0) d0_85 (by decide) ?_
      exact Go.book (by first | exact Nat.le_of_ble_eq_true rfl | (simp; done) | (simp; omega)) (by first | exact Nat.le_of_ble_eq_true rfl | (simp; done) | (simp; omega)) (k86n X G h0 h1 h2 h3 hS (by rintro ⟨-, -, z1⟩; simp at z1; exact w z1))
    intro w
    have w : c3 = 34 := Decidable.byContradiction fun z => w (ofNat_ne h3 (by decide) z)
    refine Go.iconst X (v := 1) d0_81 (by decide) ?_
    refine Go.goto X d0_82 (pt := 86) ⟨by decide, by decide⟩ ?_
    exact Go.book (by first | exact Nat.le_of_ble_eq_true rfl | (simp; done) | (simp; omega)) (by first | exact Nat.le_of_ble_eq_true rfl | (simp; done) | (simp; omega)) (k86y X G h0 h1 h2 h3 hS (by omega) (by simp [q]) (by simp [w]))
-- %%% ends

set_option maxRecDepth 65536 in
set_option maxHeartbeats 4000000 in
theorem comes_1 {Post : Tables → Env → Array Value → State → Outcome → State → Prop} (hpost : ∀ tb e args s v u, (limb_1_1.after args s (.returned v) u = true ∧ limb_1_2.after args s (.returned v) u = true ∧ True) → ReturnedEndW s (.returned v) u (Jvm.fieldLocs frame_1_writes args s ++ Jvm.arrayLocs frame_1_arrays args s ++ Jvm.staticLocs frame_1_statics s) 40 3264 → Post tb e args s (.returned v) u) :
    ArmFor flags0 classFile x code maxLocals ret World_1 tables_1 room_1 Calls_1 rest_1 Pre_1 Post := by
  intro l hfl _ _ p e ha hc hk s m args below hf hA hF happ hP
  obtain ⟨hcalls, hrest, hpre⟩ := hP
  obtain ⟨-, -, -, hnamed, -, -, -, hat⟩ := (Spec.applies_iff hf).mp happ
  obtain ⟨hg, hn⟩ := and_e (Cond.before_iff.mp (show (Jvm.Cond.and given_1 narrow_1).before args s = true from hpre))
  obtain ⟨h1, h2⟩ := and_e hg
  obtain ⟨w0, w1, w2, w3, w4, rfl⟩ : ∃ w0 w1 w2 w3 w4 : Value, args = #[w0, w1, w2, w3, w4] := by
    have hs : args.size = 5 := by simpa [Cond.value, given_1] using h1
    obtain ⟨L⟩ := args
    match L, hs with
    | [w0, w1, w2, w3, w4], _ => exact ⟨w0, w1, w2, w3, w4, rfl⟩
  have hw : ∀ d ∈ tables_1, d.before #[w0, w1, w2, w3, w4] s = true := fun d (hd : d ∈ tables_1) => atoms_spec (ws := Jvm.Cond.code x code maxLocals ret :: tables_1) hat d (List.mem_cons_of_mem _ hd)
  have hfit : Fit s := fun {y c} hc i hi => by
    obtain ⟨ha, rfl⟩ := Array.getElem?_eq_some_iff.mp hc
    have q := List.all_eq_true.mp ((Array.all_eq_true_iff_forall_mem.mp hF) _ (Array.getElem_mem ha)) i (List.mem_range.mpr hi)
    simpa [Array.getElem?_eq_getElem hi] using q
  obtain ⟨a0, h3⟩ := and_e h2
  obtain ⟨i0, e0⟩ := is_v a0
  obtain rfl : w0 = (.int i0) := Option.some.inj e0
  obtain ⟨a1, h4⟩ := and_e h3
  obtain ⟨i1, e1⟩ := is_v a1
  obtain rfl : w1 = (.int i1) := Option.some.inj e1
  obtain ⟨a2, h5⟩ := and_e h4
  obtain ⟨i2, e2⟩ := is_v a2
  obtain rfl : w2 = (.int i2) := Option.some.inj e2
  obtain ⟨a3, h6⟩ := and_e h5
  obtain ⟨i3, e3⟩ := is_v a3
  obtain rfl : w3 = (.int i3) := Option.some.inj e3
  obtain ⟨i4, e4⟩ := is_v h6
  obtain rfl : w4 = (.int i4) := Option.some.inj e4
  have hsets : ∀ d ∈ jdkStatics_1, d.before #[.int i0, .int i1, .int i2, .int i3, .int i4] s = true := (atoms_of (own := restOwn_1) jdkStatics_1 (show (jdkStatics_1.foldr Jvm.Cond.and restOwn_1).before _ s = true from hrest)).1
  have G_cs : ∃ cs : Int32, cs ≠ 0 ∧ Sta s s.heap "java/lang/String" "COMPACT_STRINGS" "Z" (.int cs) := by
    obtain ⟨x, ex⟩ := is_v (Cond.before_iff.mp (hsets _ (List.mem_of_getElem? (i := 1) rfl)))
    refine ⟨x, fun z => ?_, Sta.start ex (Or.inl (hsets _ (List.mem_of_getElem? (i := 0) rfl)))⟩
    have q := Cond.before_iff.mp (hsets _ (List.mem_of_getElem? (i := 2) rfl))
    subst z
    have q2 : (Cond.eq (Term.static "java/lang/String" "COMPACT_STRINGS" "Z") (Term.int 0)).value #[.int i0, .int i1, .int i2, .int i3, .int i4] s none s [] = some true := eq_i ex (Term.int_eval (0)) rfl
    simp only [Cond.value] at q q2
    rw [q2] at q
    cases q
  have G_sf : ∃ v3 : Value, v3.category = 1 ∧ Sta s s.heap "jdk/internal/util/Preconditions" "SIOOBE_FORMATTER" "Ljava/util/function/BiFunction;" v3 := by
    have q := Cond.before_iff.mp (hsets _ (List.mem_of_getElem? (i := 8) rfl))
    cases ht : (Term.static "jdk/internal/util/Preconditions" "SIOOBE_FORMATTER" "Ljava/util/function/BiFunction;").eval #[.int i0, .int i1, .int i2, .int i3, .int i4] s none [] s with
    | none => simp [Cond.value, ht] at q
    | some v =>
      refine ⟨v, ?_, Sta.start ht (Or.inl (hsets _ (List.mem_of_getElem? (i := 7) rfl)))⟩
      cases v <;> first | rfl | (simp [Cond.value, ht] at q; done)
  have hew : EW s _ EL0 := (EW.cons (hw _ (List.mem_of_getElem? (i := 85) rfl)) (by decide) (EW.cons (hw _ (List.mem_of_getElem? (i := 22) rfl)) (by decide) (EW.cons (hw _ (List.mem_of_getElem? (i := 131) rfl)) (by decide) EW.nil)))
  have hEW : WD = true → ∃ a0, EW s a0 EL0 := fun _ => ⟨_, hew⟩
  have hIv : WD = true → CHv s EL0 s.vm s.heap ∧ ∀ x ∈ ([] : List Ent), x.2.2 = true → Safe s EL0 s.vm s.heap x.1 := fun _ => ⟨CHv.start hew (fun p hp => hcalls.1 p hp) (hsets _ (List.mem_of_getElem? (i := 2) rfl)) (hw _ (List.mem_of_getElem? (i := 23) rfl)) (hw _ (List.mem_of_getElem? (i := 9) rfl)), fun _ q => nomatch q⟩
  have G : Gl #[.int i0, .int i1, .int i2, .int i3, .int i4] s := ⟨hw, hEW, G_cs, G_sf⟩
  obtain ⟨n, o, h1, h2, h3, _, M, lc, rfl, ⟨_, rfl, rfl⟩, -, N, hq⟩ := (law_ct l G i0 i1 i2 i3 i4) tables_1 p e ha hc hk s m _ below hf ((Spec.applies_iff_loose hf).mp happ).1 ⟨rfl, State.Warmed39.refl s, Hp.start s, hIv⟩ trivial
  exact ⟨n, _, h1, h2, h3, hpost _ _ _ _ _ _ ⟨Cond.after_iff.mpr rfl, Cond.after_iff.mpr (eq_i res_at (Term.int_eval (1)) rfl), trivial⟩ ⟨hq.1, hq.2.1, hq.2.2.1, (hq.2.2.2.sift fun y hy => Or.inr (N y hy)).mono (by decide) (by decide)⟩⟩
theorem main_1_1 : Claimed_1_1 := comes_1 fun _ _ _ _ _ _ h hF => ⟨h.1, hF⟩
theorem main_1_2 : Claimed_1_2 := comes_1 fun _ _ _ _ _ _ h hF => ⟨h.2.1, hF⟩
end Jvm.Pilot.@@N@@
namespace Jvm.Pilot.@@N@@
open Jvm Jvm.ClassFile Sem Op Lib Jvm.Free Jvm.Stand Jvm.Pilot.@@N@@.Jvm.D
/-! MADE BY PROGRAM (witnessworld.py) out of the Statement's table words and the real class files: 24 classes; the members and pool entries that the words name. The judged class is class 1, her method 4. -/
namespace start1
open Jvm.ClassFile
def u (s : String) : CpInfo := .utf8 (stringToUtf16 s)
/-- a pool by its gaps: so many unusable entries, then the entry; so many at the end -/
def gap : Nat → List CpInfo → List CpInfo
  | 0, r => r
  | n + 1, r => .unusable :: gap n r
def poolList (es : List (Nat × CpInfo)) (last : Nat) : List CpInfo := es.foldr (fun e r => gap e.1 (e.2 :: r)) (gap last [])
def pool (es : List (Nat × CpInfo)) (last : Nat) : Array CpInfo := ⟨poolList es last⟩
def fileOf (pool : Array CpInfo) (this : Nat) (attrs : Array Attribute := #[]) (ms : Array MethodInfo := #[]) (fl : Nat := 33) (sup : Nat := 0) (ifs : Array Nat := #[]) (fds : Array FieldInfo := #[]) : ClassFile where
  minorVersion := 0
  majorVersion := 65
  constantPool := pool
  accessFlags := fl
  thisClass := this
  superClass := sup
  interfaces := ifs
  fields := fds
  methods := ms
  attributes := attrs
def plain (name : String) (sup : Option ClassId) : Class where
  name := name
  kind := .ordinary
  loader := none
  accessFlags := 33
  super := sup
  interfaces := #[]
  cf := none
  fields := #[]
  methods := #[]
  instanceTypes := #[]
  staticTypes := #[]
  resolved := #[]
  callSites := []
  init := .initialized
  statics := none
  mirror := none

def pool0 : Array CpInfo := pool [(5, u "<init>"), (0, u "()V"), (1, .class_ 10), (1, u "java/lang/Object")] 113

def k0c0 : Code := { maxStack := 0, maxLocals := 1, code := object_method_1_code, exceptionTable := #[], attributes := #[] }
def k0m0 : Method := { name := "<init>", desc := "()V", sig := { parameters := [], returnType := none }, accessFlags := 1, code := some k0c0 }
/-- java/lang/Object -/
def k0 : Class := { plain "java/lang/Object" none with
  accessFlags := 33
  interfaces := #[]
  cf := some (fileOf pool0 8 #[] #[{ accessFlags := 1, nameIndex := 5, descriptorIndex := 6, attributes := #[] }] 33 0 #[] #[])
  fields := #[]
  methods := #[k0m0]
  instanceTypes := #[]
  staticTypes := #[]
  resolved := Array.replicate 124 none
  statics := none }

def pool1 : Array CpInfo := pool [(2, .class_ 4), (1, u "java/lang/Object"), (0, u "<init>"), (0, u "()V"), (0, .class_ 8), (0, u "java/lang/String"), (0, .methodref 7 10), (0, .nameAndType 5 11), (0, u "([C)V"), (0, .integer 2147483647), (0, .methodref 14 15), (0, .class_ 16), (0, .nameAndType 17 18), (0, u "com/example/persist/persist/mapping/SqlNameOfPinLaw"), (0, u "ch"), (0, u "(I)C"), (0, .methodref 14 20), (0, .nameAndType 21 22), (0, u "str"), (0, u "(ICCCC)Ljava/lang/String;"), (0, .methodref 14 24), (0, .nameAndType 25 26), (0, u "at"), (0, u "(ICCCC)C"), (0, .methodref 28 29), (0, .class_ 30), (0, .nameAndType 31 32), (0, u "com/example/persist/persist/mapping/SqlName"), (0, u "of"), (0, u "(Ljava/lang/String;)Lcom/example/persist/persist/mapping/SqlName;"), (0, .methodref 28 34), (0, .nameAndType 35 36), (0, u "delimited"), (0, u "()Z"), (0, .methodref 28 38), (0, .nameAndType 39 40), (0, u "text"), (0, u "()Ljava/lang/String;"), (0, .methodref 7 42), (0, .nameAndType 43 44), (0, u "equals"), (0, u "(Ljava/lang/Object;)Z"), (0, .methodref 28 46), (0, .nameAndType 47 40), (0, u "toString"), (3, u "law"), (0, u "(IIIII)Z")] 2

def k1m0 : Method := { name := "<init>", desc := "()V", sig := { parameters := [], returnType := none }, accessFlags := 1, code := none }
def k1c1 : Code := { maxStack := 2, maxLocals := 1, code := method_2_code, exceptionTable := #[], attributes := #[] }
def k1m1 : Method := { name := "ch", desc := "(I)C", sig := { parameters := [.int], returnType := some .char }, accessFlags := 10, code := some k1c1 }
def k1c2 : Code := { maxStack := 6, maxLocals := 5, code := method_3_code, exceptionTable := #[], attributes := #[] }
def k1m2 : Method := { name := "str", desc := "(ICCCC)Ljava/lang/String;", sig := { parameters := [.int, .char, .char, .char, .char], returnType := some (.object "java/lang/String") }, accessFlags := 10, code := some k1c2 }
def k1c3 : Code := { maxStack := 2, maxLocals := 5, code := method_4_code, exceptionTable := #[], attributes := #[] }
def k1m3 : Method := { name := "at", desc := "(ICCCC)C", sig := { parameters := [.int, .char, .char, .char, .char], returnType := some .char }, accessFlags := 10, code := some k1c3 }
def k1c4 : Code := { maxStack := 5, maxLocals := 14, code := code, exceptionTable := #[], attributes := #[] }
def k1m4 : Method := { name := "law", desc := "(IIIII)Z", sig := { parameters := [.int, .int, .int, .int, .int], returnType := some .boolean }, accessFlags := 9, code := some k1c4 }
/-- com/example/persist/persist/mapping/SqlNameOfPinLaw -/
def k1 : Class := { plain "com/example/persist/persist/mapping/SqlNameOfPinLaw" (some 0) with
  accessFlags := 49
  interfaces := #[]
  cf := some (fileOf pool1 14 #[] #[{ accessFlags := 1, nameIndex := 5, descriptorIndex := 6, attributes := #[] }, { accessFlags := 10, nameIndex := 17, descriptorIndex := 18, attributes := #[] }, { accessFlags := 10, nameIndex := 21, descriptorIndex := 22, attributes := #[] }, { accessFlags := 10, nameIndex := 25, descriptorIndex := 26, attributes := #[] }, { accessFlags := 9, nameIndex := 51, descriptorIndex := 52, attributes := #[] }] 49 2 #[] #[])
  fields := #[]
  methods := #[k1m0, k1m1, k1m2, k1m3, k1m4]
  instanceTypes := #[]
  staticTypes := #[]
  resolved := Array.replicate 55 none
  statics := none }

def pool2 : Array CpInfo := pool [(1, .class_ 2), (0, u "java/io/Serializable"), (0, .class_ 4), (0, u "java/lang/Object")] 2

/-- java/io/Serializable -/
def k2 : Class := { plain "java/io/Serializable" (some 0) with
  accessFlags := 1537
  interfaces := #[]
  cf := some (fileOf pool2 1 #[] #[] 1537 3 #[] #[])
  fields := #[]
  methods := #[]
  instanceTypes := #[]
  staticTypes := #[]
  resolved := Array.replicate 7 none
  statics := none }

def pool3 : Array CpInfo := pool [(1, .class_ 2), (0, u "java/lang/Comparable"), (0, .class_ 4), (0, u "java/lang/Object")] 7

/-- java/lang/Comparable -/
def k3 : Class := { plain "java/lang/Comparable" (some 0) with
  accessFlags := 1537
  interfaces := #[]
  cf := some (fileOf pool3 1 #[] #[] 1537 3 #[] #[])
  fields := #[]
  methods := #[]
  instanceTypes := #[]
  staticTypes := #[]
  resolved := Array.replicate 12 none
  statics := none }

def pool4 : Array CpInfo := pool [(2, .class_ 4), (1, u "java/lang/CharSequence"), (42, .class_ 48), (0, u "java/lang/CharSequence$1CodePointIterator"), (10, .class_ 60), (0, u "java/lang/CharSequence$1CharIterator"), (5, .class_ 67), (0, u "java/lang/Object")] 63

/-- java/lang/CharSequence -/
def k4 : Class := { plain "java/lang/CharSequence" (some 0) with
  accessFlags := 1537
  interfaces := #[]
  cf := some (fileOf pool4 2 #[.nestMembers #[47, 59]] #[] 1537 66 #[] #[])
  fields := #[]
  methods := #[]
  instanceTypes := #[]
  staticTypes := #[]
  resolved := Array.replicate 131 none
  statics := none }

def pool5 : Array CpInfo := pool [(1, .class_ 2), (0, u "java/lang/constant/Constable"), (0, .class_ 4), (0, u "java/lang/Object")] 6

/-- java/lang/constant/Constable -/
def k5 : Class := { plain "java/lang/constant/Constable" (some 0) with
  accessFlags := 1537
  interfaces := #[]
  cf := some (fileOf pool5 1 #[] #[] 1537 3 #[] #[])
  fields := #[]
  methods := #[]
  instanceTypes := #[]
  staticTypes := #[]
  resolved := Array.replicate 11 none
  statics := none }

def pool6 : Array CpInfo := pool [(1, .class_ 2), (0, u "java/lang/constant/ConstantDesc"), (0, .class_ 4), (0, u "java/lang/Object")] 32

/-- java/lang/constant/ConstantDesc -/
def k6 : Class := { plain "java/lang/constant/ConstantDesc" (some 0) with
  accessFlags := 1537
  interfaces := #[]
  cf := some (fileOf pool6 1 #[] #[] 1537 3 #[] #[])
  fields := #[]
  methods := #[]
  instanceTypes := #[]
  staticTypes := #[]
  resolved := Array.replicate 37 none
  statics := none }

def pool7 : Array CpInfo := pool [(1, .methodref 2 3), (0, .class_ 4), (0, .nameAndType 5 6), (0, u "java/lang/Object"), (0, u "<init>"), (0, u "()V"), (0, .string 8), (0, u ""), (0, .fieldref 10 11), (0, .class_ 12), (0, .nameAndType 13 14), (0, u "java/lang/String"), (0, u "value"), (0, u "[B"), (0, .fieldref 10 16), (0, .nameAndType 17 18), (0, u "coder"), (0, u "B"), (2, u "hash"), (0, u "I"), (2, u "hashIsZero"), (0, u "Z"), (0, .methodref 10 28), (0, .nameAndType 5 29), (0, u "([CIILjava/lang/Void;)V"), (8, .fieldref 10 39), (0, .nameAndType 40 26), (0, u "COMPACT_STRINGS"), (1, .class_ 44), (1, u "java/lang/StringUTF16"), (0, u "compress"), (1, .methodref 42 48), (0, .nameAndType 49 50), (0, u "coderFromArrayLen"), (0, u "([BI)B"), (3, .methodref 55 56), (0, .class_ 57), (0, .nameAndType 58 59), (0, u "java/util/Arrays"), (0, u "copyOfRange"), (0, u "([BII)[B"), (47, .class_ 109), (1, u "java/lang/StringLatin1"), (32, u "()Z"), (34, .methodref 42 178), (0, .nameAndType 45 179), (0, u "([CII)[B"), (13, .class_ 195), (1, u "java/lang/System"), (15, u "([BB)V"), (0, .methodref 193 213), (0, .nameAndType 214 215), (0, u "arraycopy"), (0, u "(Ljava/lang/Object;ILjava/lang/Object;II)V"), (118, u "()I"), (0, .methodref 10 336), (0, .nameAndType 17 337), (0, u "()B"), (2, u "()[B"), (35, u "([BI[BII)I"), (112, .methodref 10 490), (0, .nameAndType 5 491), (0, u "(Ljava/lang/AbstractStringBuilder;Ljava/lang/Void;)V"), (0, .methodref 10 493), (0, .nameAndType 494 142), (0, u "isLatin1"), (10, .methodref 10 506), (0, .nameAndType 507 334), (0, u "length"), (5, u "checkFromToIndex"), (7, .methodref 10 522), (0, .nameAndType 523 524), (0, u "checkBoundsBeginEnd"), (0, u "(III)V"), (7, u "getBytes"), (8, .methodref 107 542), (0, .nameAndType 543 544), (0, u "equals"), (0, u "([B[B)Z"), (4, .methodref 550 506), (0, .class_ 551), (0, u "java/lang/AbstractStringBuilder"), (0, .methodref 550 553), (0, .nameAndType 554 340), (0, u "getValue"), (4, .class_ 561), (1, u "jdk/internal/util/ArraysSupport"), (0, u "mismatch"), (10, u "(Ljava/lang/Object;)Z"), (1, .class_ 576), (0, u "java/lang/CharSequence"), (22, u "CASE_INSENSITIVE_ORDER"), (0, u "Ljava/util/Comparator;"), (6, .methodref 559 608), (0, .nameAndType 562 376), (15, .methodref 10 625), (0, .nameAndType 626 627), (0, u "startsWith"), (0, u "(Ljava/lang/String;I)Z"), (55, u "substring"), (0, u "(II)Ljava/lang/String;"), (0, .methodref 107 686), (0, .nameAndType 687 688), (0, u "newString"), (0, u "([BII)Ljava/lang/String;"), (132, u "([BIB)V"), (188, u "([C)V"), (36, .methodref 550 493), (5, .fieldref 1054 1055), (0, .class_ 1056), (0, .nameAndType 1057 1058), (0, u "jdk/internal/util/Preconditions"), (0, u "SIOOBE_FORMATTER"), (0, u "Ljava/util/function/BiFunction;"), (3, .methodref 1054 1063), (0, .nameAndType 513 1064), (0, u "(IIILjava/util/function/BiFunction;)I"), (36, u "serialPersistentFields"), (0, u "[Ljava/io/ObjectStreamField;"), (0, .class_ 1104), (0, u "java/lang/String$CaseInsensitiveComparator"), (1, .class_ 1107), (0, u "java/io/Serializable"), (0, .class_ 1109), (0, u "java/lang/Comparable"), (0, .class_ 1111), (0, u "java/lang/constant/Constable"), (0, .class_ 1113), (0, u "java/lang/constant/ConstantDesc"), (2, u "serialVersionUID"), (0, u "J"), (3, u "REPL"), (0, u "C"), (2, u "LATIN1"), (1, u "UTF16"), (105, u "(Ljava/lang/StringBuilder;)V"), (23, u "(Ljava/lang/String;)Z"), (14, u "endsWith")] 178

def k7m0 : Method := { name := "<init>", desc := "()V", sig := { parameters := [], returnType := none }, accessFlags := 1, code := none }
def k7c1 : Code := { maxStack := 5, maxLocals := 2, code := jdk_42_method_3_code, exceptionTable := #[], attributes := #[] }
def k7m1 : Method := { name := "<init>", desc := "([C)V", sig := { parameters := [(.array .char)], returnType := none }, accessFlags := 1, code := some k7c1 }
def k7c2 : Code := { maxStack := 3, maxLocals := 2, code := jdk_42_method_53_code, exceptionTable := #[], attributes := #[] }
def k7m2 : Method := { name := "<init>", desc := "(Ljava/lang/StringBuilder;)V", sig := { parameters := [(.object "java/lang/StringBuilder")], returnType := none }, accessFlags := 1, code := some k7c2 }
def k7c3 : Code := { maxStack := 2, maxLocals := 1, code := jdk_42_method_54_code, exceptionTable := #[], attributes := #[] }
def k7m3 : Method := { name := "length", desc := "()I", sig := { parameters := [], returnType := some .int }, accessFlags := 1, code := some k7c3 }
def k7c4 : Code := { maxStack := 2, maxLocals := 3, code := jdk_42_method_66_code, exceptionTable := #[], attributes := #[] }
def k7m4 : Method := { name := "equals", desc := "(Ljava/lang/Object;)Z", sig := { parameters := [(.object "java/lang/Object")], returnType := some .boolean }, accessFlags := 1, code := some k7c4 }
def k7c5 : Code := { maxStack := 5, maxLocals := 8, code := jdk_42_method_75_code, exceptionTable := #[], attributes := #[] }
def k7m5 : Method := { name := "startsWith", desc := "(Ljava/lang/String;I)Z", sig := { parameters := [(.object "java/lang/String"), .int], returnType := some .boolean }, accessFlags := 1, code := some k7c5 }
def k7c6 : Code := { maxStack := 3, maxLocals := 2, code := jdk_42_method_76_code, exceptionTable := #[], attributes := #[] }
def k7m6 : Method := { name := "startsWith", desc := "(Ljava/lang/String;)Z", sig := { parameters := [(.object "java/lang/String")], returnType := some .boolean }, accessFlags := 1, code := some k7c6 }
def k7c7 : Code := { maxStack := 4, maxLocals := 2, code := jdk_42_method_77_code, exceptionTable := #[], attributes := #[] }
def k7m7 : Method := { name := "endsWith", desc := "(Ljava/lang/String;)Z", sig := { parameters := [(.object "java/lang/String")], returnType := some .boolean }, accessFlags := 1, code := some k7c7 }
def k7c8 : Code := { maxStack := 3, maxLocals := 5, code := jdk_42_method_92_code, exceptionTable := #[], attributes := #[] }
def k7m8 : Method := { name := "substring", desc := "(II)Ljava/lang/String;", sig := { parameters := [.int, .int], returnType := some (.object "java/lang/String") }, accessFlags := 1, code := some k7c8 }
def k7c9 : Code := { maxStack := 5, maxLocals := 4, code := jdk_42_method_147_code, exceptionTable := #[], attributes := #[] }
def k7m9 : Method := { name := "getBytes", desc := "([BIB)V", sig := { parameters := [(.array .byte), .int, .byte], returnType := none }, accessFlags := 0, code := some k7c9 }
def k7c10 : Code := { maxStack := 4, maxLocals := 6, code := jdk_42_method_149_code, exceptionTable := #[], attributes := #[] }
def k7m10 : Method := { name := "<init>", desc := "([CIILjava/lang/Void;)V", sig := { parameters := [(.array .char), .int, .int, (.object "java/lang/Void")], returnType := none }, accessFlags := 2, code := some k7c10 }
def k7c11 : Code := { maxStack := 5, maxLocals := 5, code := jdk_42_method_150_code, exceptionTable := #[], attributes := #[] }
def k7m11 : Method := { name := "<init>", desc := "(Ljava/lang/AbstractStringBuilder;Ljava/lang/Void;)V", sig := { parameters := [(.object "java/lang/AbstractStringBuilder"), (.object "java/lang/Void")], returnType := none }, accessFlags := 0, code := some k7c11 }
def k7c12 : Code := { maxStack := 2, maxLocals := 3, code := jdk_42_method_151_code, exceptionTable := #[], attributes := #[] }
def k7m12 : Method := { name := "<init>", desc := "([BB)V", sig := { parameters := [(.array .byte), .byte], returnType := none }, accessFlags := 0, code := some k7c12 }
def k7c13 : Code := { maxStack := 1, maxLocals := 1, code := jdk_42_method_152_code, exceptionTable := #[], attributes := #[] }
def k7m13 : Method := { name := "coder", desc := "()B", sig := { parameters := [], returnType := some .byte }, accessFlags := 0, code := some k7c13 }
def k7c14 : Code := { maxStack := 1, maxLocals := 1, code := jdk_42_method_154_code, exceptionTable := #[], attributes := #[] }
def k7m14 : Method := { name := "isLatin1", desc := "()Z", sig := { parameters := [], returnType := some .boolean }, accessFlags := 0, code := some k7c14 }
def k7c15 : Code := { maxStack := 4, maxLocals := 3, code := jdk_42_method_158_code, exceptionTable := #[], attributes := #[] }
def k7m15 : Method := { name := "checkBoundsBeginEnd", desc := "(III)V", sig := { parameters := [.int, .int, .int], returnType := none }, accessFlags := 8, code := some k7c15 }
/-- java/lang/String -/
def k7 : Class := { plain "java/lang/String" (some 0) with
  accessFlags := 49
  interfaces := #[2, 3, 4, 5, 6]
  cf := some (fileOf pool7 10 #[.nestMembers #[1103]] #[{ accessFlags := 1, nameIndex := 5, descriptorIndex := 6, attributes := #[] }, { accessFlags := 1, nameIndex := 5, descriptorIndex := 1010, attributes := #[] }, { accessFlags := 1, nameIndex := 5, descriptorIndex := 1233, attributes := #[] }, { accessFlags := 1, nameIndex := 507, descriptorIndex := 334, attributes := #[] }, { accessFlags := 1, nameIndex := 543, descriptorIndex := 573, attributes := #[] }, { accessFlags := 1, nameIndex := 626, descriptorIndex := 627, attributes := #[] }, { accessFlags := 1, nameIndex := 626, descriptorIndex := 1257, attributes := #[] }, { accessFlags := 1, nameIndex := 1272, descriptorIndex := 1257, attributes := #[] }, { accessFlags := 1, nameIndex := 683, descriptorIndex := 684, attributes := #[] }, { accessFlags := 0, nameIndex := 532, descriptorIndex := 821, attributes := #[] }, { accessFlags := 2, nameIndex := 5, descriptorIndex := 29, attributes := #[] }, { accessFlags := 0, nameIndex := 5, descriptorIndex := 491, attributes := #[] }, { accessFlags := 0, nameIndex := 5, descriptorIndex := 211, attributes := #[] }, { accessFlags := 0, nameIndex := 17, descriptorIndex := 337, attributes := #[] }, { accessFlags := 0, nameIndex := 494, descriptorIndex := 142, attributes := #[] }, { accessFlags := 8, nameIndex := 523, descriptorIndex := 524, attributes := #[] }] 49 2 #[1106, 1108, 575, 1110, 1112] #[{ accessFlags := 18, nameIndex := 13, descriptorIndex := 14, attributes := #[] }, { accessFlags := 18, nameIndex := 17, descriptorIndex := 18, attributes := #[] }, { accessFlags := 2, nameIndex := 21, descriptorIndex := 22, attributes := #[] }, { accessFlags := 2, nameIndex := 25, descriptorIndex := 26, attributes := #[] }, { accessFlags := 26, nameIndex := 1116, descriptorIndex := 1117, attributes := #[] }, { accessFlags := 24, nameIndex := 40, descriptorIndex := 26, attributes := #[] }, { accessFlags := 26, nameIndex := 1101, descriptorIndex := 1102, attributes := #[] }, { accessFlags := 26, nameIndex := 1121, descriptorIndex := 1122, attributes := #[] }, { accessFlags := 25, nameIndex := 599, descriptorIndex := 600, attributes := #[] }, { accessFlags := 24, nameIndex := 1125, descriptorIndex := 18, attributes := #[] }, { accessFlags := 24, nameIndex := 1127, descriptorIndex := 18, attributes := #[] }])
  fields := #[{ name := "value", type := (.array .byte), accessFlags := 18, slot := 0, constantValue := 0 }, { name := "coder", type := .byte, accessFlags := 18, slot := 1, constantValue := 0 }, { name := "hash", type := .int, accessFlags := 2, slot := 2, constantValue := 0 }, { name := "hashIsZero", type := .boolean, accessFlags := 2, slot := 3, constantValue := 0 }, { name := "serialVersionUID", type := .long, accessFlags := 26, slot := 0, constantValue := 0 }, { name := "COMPACT_STRINGS", type := .boolean, accessFlags := 24, slot := 1, constantValue := 0 }, { name := "serialPersistentFields", type := (.array (.object "java/io/ObjectStreamField")), accessFlags := 26, slot := 2, constantValue := 0 }, { name := "REPL", type := .char, accessFlags := 26, slot := 3, constantValue := 0 }, { name := "CASE_INSENSITIVE_ORDER", type := (.object "java/util/Comparator"), accessFlags := 25, slot := 4, constantValue := 0 }, { name := "LATIN1", type := .byte, accessFlags := 24, slot := 5, constantValue := 0 }, { name := "UTF16", type := .byte, accessFlags := 24, slot := 6, constantValue := 0 }]
  methods := #[k7m0, k7m1, k7m2, k7m3, k7m4, k7m5, k7m6, k7m7, k7m8, k7m9, k7m10, k7m11, k7m12, k7m13, k7m14, k7m15]
  instanceTypes := #[(.array .byte), .byte, .int, .boolean]
  staticTypes := #[.long, .boolean, (.array (.object "java/io/ObjectStreamField")), .char, (.object "java/util/Comparator"), .byte, .byte]
  resolved := Array.replicate 1451 none
  statics := some 0 }

def pool8 : Array CpInfo := pool [(1, .methodref 2 3), (0, .class_ 4), (0, .nameAndType 5 6), (0, u "java/lang/Object"), (0, u "<init>"), (0, u "()V"), (0, .fieldref 8 9), (0, .class_ 10), (0, .nameAndType 11 12), (0, u "com/example/persist/persist/mapping/SqlName"), (0, u "text"), (0, u "Ljava/lang/String;"), (0, .fieldref 8 14), (0, .nameAndType 15 16), (0, u "delimited"), (0, u "Z"), (0, .methodref 18 19), (0, .class_ 20), (0, .nameAndType 21 22), (0, u "java/lang/String"), (0, u "length"), (0, u "()I"), (0, .string 24), (0, u "\""), (0, .methodref 18 26), (0, .nameAndType 27 28), (0, u "startsWith"), (0, u "(Ljava/lang/String;)Z"), (0, .methodref 18 30), (0, .nameAndType 31 28), (0, u "endsWith"), (0, .methodref 18 33), (0, .nameAndType 34 35), (0, u "substring"), (0, u "(II)Ljava/lang/String;"), (0, .methodref 8 37), (0, .nameAndType 5 38), (0, u "(Ljava/lang/String;Z)V"), (0, .class_ 40), (0, u "java/lang/StringBuilder"), (0, .methodref 39 3), (0, .methodref 39 43), (0, .nameAndType 44 45), (0, u "append"), (0, u "(Ljava/lang/String;)Ljava/lang/StringBuilder;"), (0, .methodref 39 47), (0, .nameAndType 48 49), (0, u "toString"), (0, u "()Ljava/lang/String;"), (2, u "of"), (0, u "(Ljava/lang/String;)Lcom/example/persist/persist/mapping/SqlName;"), (1, u "()Z")] 2

def k8c0 : Code := { maxStack := 2, maxLocals := 3, code := prog_15_method_1_code, exceptionTable := #[], attributes := #[] }
def k8m0 : Method := { name := "<init>", desc := "(Ljava/lang/String;Z)V", sig := { parameters := [(.object "java/lang/String"), .boolean], returnType := none }, accessFlags := 2, code := some k8c0 }
def k8c1 : Code := { maxStack := 6, maxLocals := 2, code := prog_15_method_2_code, exceptionTable := #[], attributes := #[] }
def k8m1 : Method := { name := "of", desc := "(Ljava/lang/String;)Lcom/example/persist/persist/mapping/SqlName;", sig := { parameters := [(.object "java/lang/String")], returnType := some (.object "com/example/persist/persist/mapping/SqlName") }, accessFlags := 8, code := some k8c1 }
def k8c2 : Code := { maxStack := 1, maxLocals := 1, code := prog_15_method_3_code, exceptionTable := #[], attributes := #[] }
def k8m2 : Method := { name := "text", desc := "()Ljava/lang/String;", sig := { parameters := [], returnType := some (.object "java/lang/String") }, accessFlags := 1, code := some k8c2 }
def k8c3 : Code := { maxStack := 1, maxLocals := 1, code := prog_15_method_4_code, exceptionTable := #[], attributes := #[] }
def k8m3 : Method := { name := "delimited", desc := "()Z", sig := { parameters := [], returnType := some .boolean }, accessFlags := 1, code := some k8c3 }
def k8c4 : Code := { maxStack := 2, maxLocals := 1, code := prog_15_method_5_code, exceptionTable := #[], attributes := #[] }
def k8m4 : Method := { name := "toString", desc := "()Ljava/lang/String;", sig := { parameters := [], returnType := some (.object "java/lang/String") }, accessFlags := 1, code := some k8c4 }
/-- com/example/persist/persist/mapping/SqlName -/
def k8 : Class := { plain "com/example/persist/persist/mapping/SqlName" (some 0) with
  accessFlags := 33
  interfaces := #[]
  cf := some (fileOf pool8 8 #[] #[{ accessFlags := 2, nameIndex := 5, descriptorIndex := 38, attributes := #[] }, { accessFlags := 8, nameIndex := 52, descriptorIndex := 53, attributes := #[] }, { accessFlags := 1, nameIndex := 11, descriptorIndex := 49, attributes := #[] }, { accessFlags := 1, nameIndex := 15, descriptorIndex := 55, attributes := #[] }, { accessFlags := 1, nameIndex := 48, descriptorIndex := 49, attributes := #[] }] 33 2 #[] #[{ accessFlags := 18, nameIndex := 11, descriptorIndex := 12, attributes := #[] }, { accessFlags := 18, nameIndex := 15, descriptorIndex := 16, attributes := #[] }])
  fields := #[{ name := "text", type := (.object "java/lang/String"), accessFlags := 18, slot := 0, constantValue := 0 }, { name := "delimited", type := .boolean, accessFlags := 18, slot := 1, constantValue := 0 }]
  methods := #[k8m0, k8m1, k8m2, k8m3, k8m4]
  instanceTypes := #[(.object "java/lang/String"), .boolean]
  staticTypes := #[]
  resolved := Array.replicate 58 none
  statics := none }

def pool9 : Array CpInfo := pool [(6, .class_ 8), (1, u "java/lang/Object"), (0, u "<init>"), (0, u "()V"), (1, .class_ 14), (1, u "java/lang/StringUTF16"), (31, u "$assertionsDisabled"), (0, u "Z"), (13, u "HI_BYTE_SHIFT"), (0, u "I"), (2, u "LO_BYTE_SHIFT"), (49, .methodref 12 116), (0, .nameAndType 117 118), (0, u "compress"), (0, u "([CI[BII)I"), (3, u "([CII)[B"), (138, u "coderFromArrayLen"), (0, u "([BI)B"), (106, .class_ 371), (1, u "java/lang/StringUTF16$LinesSpliterator"), (58, u "MAX_LENGTH"), (196, .class_ 628), (0, u "java/lang/StringUTF16$CodePointsSpliterator"), (0, .class_ 630), (0, u "java/lang/StringUTF16$CharsSpliterator")] 4

def k9m0 : Method := { name := "<init>", desc := "()V", sig := { parameters := [], returnType := none }, accessFlags := 0, code := none }
def k9c1 : Code := { maxStack := 2, maxLocals := 2, code := jdk_52_method_15_code, exceptionTable := #[], attributes := #[] }
def k9m1 : Method := { name := "coderFromArrayLen", desc := "([BI)B", sig := { parameters := [(.array .byte), .int], returnType := some .byte }, accessFlags := 8, code := some k9c1 }
def k9c2 : Code := { maxStack := 5, maxLocals := 6, code := jdk_52_method_16_code, exceptionTable := #[], attributes := #[] }
def k9m2 : Method := { name := "compress", desc := "([CII)[B", sig := { parameters := [(.array .char), .int, .int], returnType := some (.array .byte) }, accessFlags := 9, code := some k9c2 }
def k9c3 : Code := { maxStack := 3, maxLocals := 7, code := jdk_52_method_21_code, exceptionTable := #[], attributes := #[] }
def k9m3 : Method := { name := "compress", desc := "([CI[BII)I", sig := { parameters := [(.array .char), .int, (.array .byte), .int, .int], returnType := some .int }, accessFlags := 9, code := some k9c3 }
/-- java/lang/StringUTF16 -/
def k9 : Class := { plain "java/lang/StringUTF16" (some 0) with
  accessFlags := 48
  interfaces := #[]
  cf := some (fileOf pool9 12 #[.nestMembers #[627, 629, 369]] #[{ accessFlags := 0, nameIndex := 9, descriptorIndex := 10, attributes := #[] }, { accessFlags := 8, nameIndex := 261, descriptorIndex := 262, attributes := #[] }, { accessFlags := 9, nameIndex := 117, descriptorIndex := 122, attributes := #[] }, { accessFlags := 9, nameIndex := 117, descriptorIndex := 118, attributes := #[] }] 48 6 #[] #[{ accessFlags := 26, nameIndex := 61, descriptorIndex := 62, attributes := #[] }, { accessFlags := 26, nameIndex := 65, descriptorIndex := 62, attributes := #[] }, { accessFlags := 24, nameIndex := 430, descriptorIndex := 62, attributes := #[] }, { accessFlags := 4120, nameIndex := 46, descriptorIndex := 47, attributes := #[] }])
  fields := #[{ name := "HI_BYTE_SHIFT", type := .int, accessFlags := 26, slot := 0, constantValue := 0 }, { name := "LO_BYTE_SHIFT", type := .int, accessFlags := 26, slot := 1, constantValue := 0 }, { name := "MAX_LENGTH", type := .int, accessFlags := 24, slot := 2, constantValue := 0 }, { name := "$assertionsDisabled", type := .boolean, accessFlags := 4120, slot := 3, constantValue := 0 }]
  methods := #[k9m0, k9m1, k9m2, k9m3]
  instanceTypes := #[]
  staticTypes := #[.int, .int, .int, .boolean]
  resolved := Array.replicate 635 none
  statics := none }

def pool10 : Array CpInfo := pool [(9, u "<init>"), (6, .class_ 18), (1, u "java/lang/Object"), (0, u "()V"), (1, .class_ 23), (1, u "jdk/internal/util/ArraysSupport"), (0, u "LOG2_ARRAY_LONG_INDEX_SCALE"), (0, u "I"), (2, u "U"), (0, u "Ljdk/internal/misc/Unsafe;"), (8, u "BIG_ENDIAN"), (0, u "Z"), (8, u "LOG2_BYTE_BIT_SIZE"), (4, u "LOG2_ARRAY_INT_INDEX_SCALE"), (54, u "JLA"), (0, u "Ljdk/internal/access/JavaLangAccess;"), (11, u "LOG2_ARRAY_BOOLEAN_INDEX_SCALE"), (9, u "LOG2_ARRAY_BYTE_INDEX_SCALE"), (5, u "LOG2_ARRAY_CHAR_INDEX_SCALE"), (5, u "LOG2_ARRAY_SHORT_INDEX_SCALE"), (5, u "mismatch"), (12, u "LOG2_ARRAY_FLOAT_INDEX_SCALE"), (24, u "LOG2_ARRAY_DOUBLE_INDEX_SCALE"), (89, u "T_BOOLEAN"), (2, u "T_CHAR"), (1, u "T_FLOAT"), (1, u "T_DOUBLE"), (1, u "T_BYTE"), (1, u "T_SHORT"), (1, u "T_INT"), (1, u "T_LONG"), (1, u "SOFT_MAX_ARRAY_LENGTH"), (42, u "([BI[BII)I")] 40

def k10m0 : Method := { name := "<init>", desc := "()V", sig := { parameters := [], returnType := none }, accessFlags := 2, code := none }
def k10c1 : Code := { maxStack := 8, maxLocals := 8, code := jdk_48_method_14_code, exceptionTable := #[], attributes := #[] }
def k10m1 : Method := { name := "mismatch", desc := "([BI[BII)I", sig := { parameters := [(.array .byte), .int, (.array .byte), .int, .int], returnType := some .int }, accessFlags := 9, code := some k10c1 }
/-- jdk/internal/util/ArraysSupport -/
def k10 : Class := { plain "jdk/internal/util/ArraysSupport" (some 0) with
  accessFlags := 33
  interfaces := #[]
  cf := some (fileOf pool10 21 #[] #[{ accessFlags := 2, nameIndex := 9, descriptorIndex := 19, attributes := #[] }, { accessFlags := 9, nameIndex := 149, descriptorIndex := 337, attributes := #[] }] 33 16 #[] #[{ accessFlags := 24, nameIndex := 28, descriptorIndex := 29, attributes := #[] }, { accessFlags := 26, nameIndex := 38, descriptorIndex := 39, attributes := #[] }, { accessFlags := 25, nameIndex := 121, descriptorIndex := 25, attributes := #[] }, { accessFlags := 25, nameIndex := 131, descriptorIndex := 25, attributes := #[] }, { accessFlags := 25, nameIndex := 137, descriptorIndex := 25, attributes := #[] }, { accessFlags := 25, nameIndex := 143, descriptorIndex := 25, attributes := #[] }, { accessFlags := 25, nameIndex := 53, descriptorIndex := 25, attributes := #[] }, { accessFlags := 25, nameIndex := 24, descriptorIndex := 25, attributes := #[] }, { accessFlags := 25, nameIndex := 162, descriptorIndex := 25, attributes := #[] }, { accessFlags := 25, nameIndex := 187, descriptorIndex := 25, attributes := #[] }, { accessFlags := 26, nameIndex := 48, descriptorIndex := 25, attributes := #[] }, { accessFlags := 25, nameIndex := 277, descriptorIndex := 25, attributes := #[] }, { accessFlags := 25, nameIndex := 280, descriptorIndex := 25, attributes := #[] }, { accessFlags := 25, nameIndex := 282, descriptorIndex := 25, attributes := #[] }, { accessFlags := 25, nameIndex := 284, descriptorIndex := 25, attributes := #[] }, { accessFlags := 25, nameIndex := 286, descriptorIndex := 25, attributes := #[] }, { accessFlags := 25, nameIndex := 288, descriptorIndex := 25, attributes := #[] }, { accessFlags := 25, nameIndex := 290, descriptorIndex := 25, attributes := #[] }, { accessFlags := 25, nameIndex := 292, descriptorIndex := 25, attributes := #[] }, { accessFlags := 26, nameIndex := 108, descriptorIndex := 109, attributes := #[] }, { accessFlags := 25, nameIndex := 294, descriptorIndex := 25, attributes := #[] }])
  fields := #[{ name := "U", type := (.object "jdk/internal/misc/Unsafe"), accessFlags := 24, slot := 0, constantValue := 0 }, { name := "BIG_ENDIAN", type := .boolean, accessFlags := 26, slot := 1, constantValue := 0 }, { name := "LOG2_ARRAY_BOOLEAN_INDEX_SCALE", type := .int, accessFlags := 25, slot := 2, constantValue := 0 }, { name := "LOG2_ARRAY_BYTE_INDEX_SCALE", type := .int, accessFlags := 25, slot := 3, constantValue := 0 }, { name := "LOG2_ARRAY_CHAR_INDEX_SCALE", type := .int, accessFlags := 25, slot := 4, constantValue := 0 }, { name := "LOG2_ARRAY_SHORT_INDEX_SCALE", type := .int, accessFlags := 25, slot := 5, constantValue := 0 }, { name := "LOG2_ARRAY_INT_INDEX_SCALE", type := .int, accessFlags := 25, slot := 6, constantValue := 0 }, { name := "LOG2_ARRAY_LONG_INDEX_SCALE", type := .int, accessFlags := 25, slot := 7, constantValue := 0 }, { name := "LOG2_ARRAY_FLOAT_INDEX_SCALE", type := .int, accessFlags := 25, slot := 8, constantValue := 0 }, { name := "LOG2_ARRAY_DOUBLE_INDEX_SCALE", type := .int, accessFlags := 25, slot := 9, constantValue := 0 }, { name := "LOG2_BYTE_BIT_SIZE", type := .int, accessFlags := 26, slot := 10, constantValue := 0 }, { name := "T_BOOLEAN", type := .int, accessFlags := 25, slot := 11, constantValue := 0 }, { name := "T_CHAR", type := .int, accessFlags := 25, slot := 12, constantValue := 0 }, { name := "T_FLOAT", type := .int, accessFlags := 25, slot := 13, constantValue := 0 }, { name := "T_DOUBLE", type := .int, accessFlags := 25, slot := 14, constantValue := 0 }, { name := "T_BYTE", type := .int, accessFlags := 25, slot := 15, constantValue := 0 }, { name := "T_SHORT", type := .int, accessFlags := 25, slot := 16, constantValue := 0 }, { name := "T_INT", type := .int, accessFlags := 25, slot := 17, constantValue := 0 }, { name := "T_LONG", type := .int, accessFlags := 25, slot := 18, constantValue := 0 }, { name := "JLA", type := (.object "jdk/internal/access/JavaLangAccess"), accessFlags := 26, slot := 19, constantValue := 0 }, { name := "SOFT_MAX_ARRAY_LENGTH", type := .int, accessFlags := 25, slot := 20, constantValue := 0 }]
  methods := #[k10m0, k10m1]
  instanceTypes := #[]
  staticTypes := #[(.object "jdk/internal/misc/Unsafe"), .boolean, .int, .int, .int, .int, .int, .int, .int, .int, .int, .int, .int, .int, .int, .int, .int, .int, .int, (.object "jdk/internal/access/JavaLangAccess"), .int]
  resolved := Array.replicate 378 none
  statics := none }

def pool11 : Array CpInfo := pool [(2, .class_ 4), (1, u "java/lang/Object"), (0, u "<init>"), (0, u "()V"), (17, .class_ 26), (1, u "jdk/internal/util/Preconditions"), (20, u "checkFromToIndex"), (7, .class_ 56), (0, u "jdk/internal/util/Preconditions$4"), (57, .class_ 115), (0, u "jdk/internal/util/Preconditions$1"), (7, u "SIOOBE_FORMATTER"), (0, u "Ljava/util/function/BiFunction;"), (0, .class_ 126), (0, u "jdk/internal/util/Preconditions$2"), (3, u "AIOOBE_FORMATTER"), (0, .class_ 132), (0, u "jdk/internal/util/Preconditions$3"), (3, u "IOOBE_FORMATTER"), (46, u "(IIILjava/util/function/BiFunction;)I")] 10

def k11m0 : Method := { name := "<init>", desc := "()V", sig := { parameters := [], returnType := none }, accessFlags := 1, code := none }
def k11c1 : Code := { maxStack := 4, maxLocals := 4, code := jdk_41_method_12_code, exceptionTable := #[], attributes := #[] }
def k11m1 : Method := { name := "checkFromToIndex", desc := "(IIILjava/util/function/BiFunction;)I", sig := { parameters := [.int, .int, .int, (.object "java/util/function/BiFunction")], returnType := some .int }, accessFlags := 9, code := some k11c1 }
/-- jdk/internal/util/Preconditions -/
def k11 : Class := { plain "jdk/internal/util/Preconditions" (some 0) with
  accessFlags := 33
  interfaces := #[]
  cf := some (fileOf pool11 24 #[.nestMembers #[55, 131, 125, 114]] #[{ accessFlags := 1, nameIndex := 5, descriptorIndex := 6, attributes := #[] }, { accessFlags := 9, nameIndex := 47, descriptorIndex := 183, attributes := #[] }] 33 2 #[] #[{ accessFlags := 25, nameIndex := 123, descriptorIndex := 124, attributes := #[] }, { accessFlags := 25, nameIndex := 130, descriptorIndex := 124, attributes := #[] }, { accessFlags := 25, nameIndex := 136, descriptorIndex := 124, attributes := #[] }])
  fields := #[{ name := "SIOOBE_FORMATTER", type := (.object "java/util/function/BiFunction"), accessFlags := 25, slot := 0, constantValue := 0 }, { name := "AIOOBE_FORMATTER", type := (.object "java/util/function/BiFunction"), accessFlags := 25, slot := 1, constantValue := 0 }, { name := "IOOBE_FORMATTER", type := (.object "java/util/function/BiFunction"), accessFlags := 25, slot := 2, constantValue := 0 }]
  methods := #[k11m0, k11m1]
  instanceTypes := #[]
  staticTypes := #[(.object "java/util/function/BiFunction"), (.object "java/util/function/BiFunction"), (.object "java/util/function/BiFunction")]
  resolved := Array.replicate 194 none
  statics := some 1 }

def pool12 : Array CpInfo := pool [(1, .class_ 2), (0, u "java/lang/String"), (1, .class_ 6), (1, u "java/lang/Object"), (0, u "<init>"), (0, u "()V"), (5, .class_ 16), (1, u "java/lang/StringLatin1"), (95, .methodref 1 113), (0, .nameAndType 7 114), (0, u "([BB)V"), (6, u "$assertionsDisabled"), (0, u "Z"), (8, .class_ 133), (1, u "java/util/Arrays"), (17, .string 152), (0, u ""), (43, u "newString"), (0, u "([BII)Ljava/lang/String;"), (23, .class_ 223), (1, u "java/lang/StringLatin1$LinesSpliterator"), (8, .methodref 131 233), (0, .nameAndType 234 235), (0, u "copyOfRange"), (0, u "([BII)[B"), (45, u "equals"), (0, u "([B[B)Z"), (107, .class_ 391), (0, u "java/lang/StringLatin1$CharsSpliterator")] 3

def k12m0 : Method := { name := "<init>", desc := "()V", sig := { parameters := [], returnType := none }, accessFlags := 0, code := none }
def k12c1 : Code := { maxStack := 3, maxLocals := 3, code := jdk_43_method_13_code, exceptionTable := #[], attributes := #[] }
def k12m1 : Method := { name := "equals", desc := "([B[B)Z", sig := { parameters := [(.array .byte), (.array .byte)], returnType := some .boolean }, accessFlags := 9, code := some k12c1 }
def k12c2 : Code := { maxStack := 6, maxLocals := 3, code := jdk_43_method_47_code, exceptionTable := #[], attributes := #[] }
def k12m2 : Method := { name := "newString", desc := "([BII)Ljava/lang/String;", sig := { parameters := [(.array .byte), .int, .int], returnType := some (.object "java/lang/String") }, accessFlags := 9, code := some k12c2 }
/-- java/lang/StringLatin1 -/
def k12 : Class := { plain "java/lang/StringLatin1" (some 0) with
  accessFlags := 48
  interfaces := #[]
  cf := some (fileOf pool12 14 #[.nestMembers #[390, 221]] #[{ accessFlags := 0, nameIndex := 7, descriptorIndex := 8, attributes := #[] }, { accessFlags := 9, nameIndex := 281, descriptorIndex := 282, attributes := #[] }, { accessFlags := 9, nameIndex := 196, descriptorIndex := 197, attributes := #[] }] 48 4 #[] #[{ accessFlags := 4120, nameIndex := 121, descriptorIndex := 122, attributes := #[] }])
  fields := #[{ name := "$assertionsDisabled", type := .boolean, accessFlags := 4120, slot := 0, constantValue := 0 }]
  methods := #[k12m0, k12m1, k12m2]
  instanceTypes := #[]
  staticTypes := #[.boolean]
  resolved := Array.replicate 395 none
  statics := none }

def pool13 : Array CpInfo := pool [(1, .class_ 2), (0, u "java/lang/Appendable"), (0, .class_ 4), (0, u "java/lang/Object")] 9

/-- java/lang/Appendable -/
def k13 : Class := { plain "java/lang/Appendable" (some 0) with
  accessFlags := 1537
  interfaces := #[]
  cf := some (fileOf pool13 1 #[] #[] 1537 3 #[] #[])
  fields := #[]
  methods := #[]
  instanceTypes := #[]
  staticTypes := #[]
  resolved := Array.replicate 14 none
  statics := none }

def pool14 : Array CpInfo := pool [(1, .class_ 2), (0, u "java/lang/String"), (0, .methodref 4 5), (0, .class_ 6), (0, .nameAndType 7 8), (0, u "java/lang/Object"), (0, u "<init>"), (0, u "()V"), (1, .class_ 12), (1, u "java/lang/AbstractStringBuilder"), (0, u "EMPTYVALUE"), (0, u "[B"), (0, .fieldref 10 16), (0, .nameAndType 17 14), (0, u "value"), (0, .fieldref 1 19), (0, .nameAndType 20 21), (0, u "COMPACT_STRINGS"), (0, u "Z"), (0, .fieldref 10 23), (0, .nameAndType 24 25), (0, u "coder"), (0, u "B"), (6, .methodref 1 33), (0, .nameAndType 34 35), (0, u "length"), (0, u "()I"), (4, .methodref 1 41), (0, .nameAndType 24 42), (0, u "()B"), (2, u "append"), (0, u "(Ljava/lang/String;)Ljava/lang/AbstractStringBuilder;"), (1, .class_ 49), (0, u "java/lang/CharSequence"), (19, u "(Ljava/lang/String;)V"), (5, u "maybeLatin1"), (3, .fieldref 10 80), (0, .nameAndType 81 82), (0, u "count"), (0, u "I"), (2, u "isLatin1"), (0, u "()Z"), (13, .methodref 10 101), (0, .nameAndType 102 103), (0, u "ensureCapacityInternal"), (0, u "(I)V"), (104, .methodref 10 209), (0, .nameAndType 210 211), (0, u "putStringAt"), (0, u "(ILjava/lang/String;)V"), (5, u "inflateIfNeededFor"), (2, .nameAndType 221 222), (0, u "getBytes"), (0, u "([BIB)V"), (174, .methodref 10 398), (0, .nameAndType 217 69), (0, .methodref 1 220), (3, u "()[B"), (40, .class_ 445), (0, u "java/lang/Appendable"), (106, u "getValue")] 56

def k14m0 : Method := { name := "<init>", desc := "()V", sig := { parameters := [], returnType := none }, accessFlags := 0, code := none }
def k14c1 : Code := { maxStack := 2, maxLocals := 2, code := jdk_68_method_2_code, exceptionTable := #[], attributes := #[] }
def k14m1 : Method := { name := "<init>", desc := "(I)V", sig := { parameters := [.int], returnType := none }, accessFlags := 0, code := some k14c1 }
def k14c2 : Code := { maxStack := 1, maxLocals := 1, code := jdk_68_method_6_code, exceptionTable := #[], attributes := #[] }
def k14m2 : Method := { name := "length", desc := "()I", sig := { parameters := [], returnType := some .int }, accessFlags := 1, code := some k14c2 }
def k14c3 : Code := { maxStack := 4, maxLocals := 3, code := jdk_68_method_9_code, exceptionTable := #[], attributes := #[] }
def k14m3 : Method := { name := "ensureCapacityInternal", desc := "(I)V", sig := { parameters := [.int], returnType := none }, accessFlags := 2, code := some k14c3 }
def k14c4 : Code := { maxStack := 3, maxLocals := 3, code := jdk_68_method_22_code, exceptionTable := #[], attributes := #[] }
def k14m4 : Method := { name := "append", desc := "(Ljava/lang/String;)Ljava/lang/AbstractStringBuilder;", sig := { parameters := [(.object "java/lang/String")], returnType := some (.object "java/lang/AbstractStringBuilder") }, accessFlags := 1, code := some k14c4 }
def k14c5 : Code := { maxStack := 1, maxLocals := 1, code := jdk_68_method_64_code, exceptionTable := #[], attributes := #[] }
def k14m5 : Method := { name := "getValue", desc := "()[B", sig := { parameters := [], returnType := some (.array .byte) }, accessFlags := 16, code := some k14c5 }
def k14c6 : Code := { maxStack := 1, maxLocals := 1, code := jdk_68_method_68_code, exceptionTable := #[], attributes := #[] }
def k14m6 : Method := { name := "isLatin1", desc := "()Z", sig := { parameters := [], returnType := some .boolean }, accessFlags := 16, code := some k14c6 }
def k14c7 : Code := { maxStack := 2, maxLocals := 2, code := jdk_68_method_71_code, exceptionTable := #[], attributes := #[] }
def k14m7 : Method := { name := "inflateIfNeededFor", desc := "(Ljava/lang/String;)V", sig := { parameters := [(.object "java/lang/String")], returnType := none }, accessFlags := 2, code := some k14c7 }
def k14c8 : Code := { maxStack := 4, maxLocals := 3, code := jdk_68_method_73_code, exceptionTable := #[], attributes := #[] }
def k14m8 : Method := { name := "putStringAt", desc := "(ILjava/lang/String;)V", sig := { parameters := [.int, (.object "java/lang/String")], returnType := none }, accessFlags := 2, code := some k14c8 }
/-- java/lang/AbstractStringBuilder -/
def k14 : Class := { plain "java/lang/AbstractStringBuilder" (some 0) with
  accessFlags := 1056
  interfaces := #[13, 4]
  cf := some (fileOf pool14 10 #[] #[{ accessFlags := 0, nameIndex := 7, descriptorIndex := 8, attributes := #[] }, { accessFlags := 0, nameIndex := 7, descriptorIndex := 103, attributes := #[] }, { accessFlags := 1, nameIndex := 34, descriptorIndex := 35, attributes := #[] }, { accessFlags := 2, nameIndex := 102, descriptorIndex := 103, attributes := #[] }, { accessFlags := 1, nameIndex := 45, descriptorIndex := 46, attributes := #[] }, { accessFlags := 16, nameIndex := 552, descriptorIndex := 403, attributes := #[] }, { accessFlags := 16, nameIndex := 85, descriptorIndex := 86, attributes := #[] }, { accessFlags := 2, nameIndex := 217, descriptorIndex := 69, attributes := #[] }, { accessFlags := 2, nameIndex := 210, descriptorIndex := 211, attributes := #[] }] 1056 4 #[444, 48] #[{ accessFlags := 0, nameIndex := 17, descriptorIndex := 14, attributes := #[] }, { accessFlags := 0, nameIndex := 24, descriptorIndex := 25, attributes := #[] }, { accessFlags := 0, nameIndex := 75, descriptorIndex := 21, attributes := #[] }, { accessFlags := 0, nameIndex := 81, descriptorIndex := 82, attributes := #[] }, { accessFlags := 26, nameIndex := 13, descriptorIndex := 14, attributes := #[] }])
  fields := #[{ name := "value", type := (.array .byte), accessFlags := 0, slot := 0, constantValue := 0 }, { name := "coder", type := .byte, accessFlags := 0, slot := 1, constantValue := 0 }, { name := "maybeLatin1", type := .boolean, accessFlags := 0, slot := 2, constantValue := 0 }, { name := "count", type := .int, accessFlags := 0, slot := 3, constantValue := 0 }, { name := "EMPTYVALUE", type := (.array .byte), accessFlags := 26, slot := 0, constantValue := 0 }]
  methods := #[k14m0, k14m1, k14m2, k14m3, k14m4, k14m5, k14m6, k14m7, k14m8]
  instanceTypes := #[(.array .byte), .byte, .boolean, .int]
  staticTypes := #[(.array .byte)]
  resolved := Array.replicate 609 none
  statics := none }

def pool15 : Array CpInfo := pool [(1, .methodref 2 3), (0, .class_ 4), (0, .nameAndType 5 6), (0, u "java/lang/AbstractStringBuilder"), (0, u "<init>"), (0, u "(I)V"), (11, .class_ 20), (1, u "java/lang/String"), (3, .class_ 26), (1, u "java/lang/StringBuilder"), (0, u "append"), (0, u "(Ljava/lang/String;)Ljava/lang/StringBuilder;"), (0, .methodref 2 30), (0, .nameAndType 27 31), (0, u "(Ljava/lang/String;)Ljava/lang/AbstractStringBuilder;"), (105, .methodref 18 138), (0, .nameAndType 5 139), (0, u "(Ljava/lang/StringBuilder;)V"), (5, u "()V"), (10, u "()I"), (186, .methodref 2 344), (0, .nameAndType 345 156), (0, u "length"), (3, .class_ 350), (0, u "java/lang/Appendable"), (0, .class_ 352), (0, u "java/io/Serializable"), (0, .class_ 354), (0, u "java/lang/Comparable"), (0, .class_ 356), (0, u "java/lang/CharSequence"), (0, u "serialVersionUID"), (0, u "J"), (40, u "toString"), (0, u "()Ljava/lang/String;")] 21

def k15c0 : Code := { maxStack := 2, maxLocals := 1, code := jdk_67_method_1_code, exceptionTable := #[], attributes := #[] }
def k15m0 : Method := { name := "<init>", desc := "()V", sig := { parameters := [], returnType := none }, accessFlags := 1, code := some k15c0 }
def k15c1 : Code := { maxStack := 2, maxLocals := 2, code := jdk_67_method_7_code, exceptionTable := #[], attributes := #[] }
def k15m1 : Method := { name := "append", desc := "(Ljava/lang/String;)Ljava/lang/StringBuilder;", sig := { parameters := [(.object "java/lang/String")], returnType := some (.object "java/lang/StringBuilder") }, accessFlags := 1, code := some k15c1 }
def k15c2 : Code := { maxStack := 3, maxLocals := 1, code := jdk_67_method_42_code, exceptionTable := #[], attributes := #[] }
def k15m2 : Method := { name := "toString", desc := "()Ljava/lang/String;", sig := { parameters := [], returnType := some (.object "java/lang/String") }, accessFlags := 1, code := some k15c2 }
def k15c3 : Code := { maxStack := 1, maxLocals := 1, code := jdk_67_method_93_code, exceptionTable := #[], attributes := #[] }
def k15m3 : Method := { name := "length", desc := "()I", sig := { parameters := [], returnType := some .int }, accessFlags := 4161, code := some k15c3 }
/-- java/lang/StringBuilder -/
def k15 : Class := { plain "java/lang/StringBuilder" (some 14) with
  accessFlags := 49
  interfaces := #[13, 2, 3, 4]
  cf := some (fileOf pool15 24 #[] #[{ accessFlags := 1, nameIndex := 5, descriptorIndex := 145, attributes := #[] }, { accessFlags := 1, nameIndex := 27, descriptorIndex := 28, attributes := #[] }, { accessFlags := 1, nameIndex := 399, descriptorIndex := 400, attributes := #[] }, { accessFlags := 4161, nameIndex := 345, descriptorIndex := 156, attributes := #[] }] 49 2 #[349, 351, 353, 355] #[{ accessFlags := 24, nameIndex := 357, descriptorIndex := 358, attributes := #[] }])
  fields := #[{ name := "serialVersionUID", type := .long, accessFlags := 24, slot := 0, constantValue := 0 }]
  methods := #[k15m0, k15m1, k15m2, k15m3]
  instanceTypes := #[(.array .byte), .byte, .boolean, .int]
  staticTypes := #[.long]
  resolved := Array.replicate 422 none
  statics := none }

def pool16 : Array CpInfo := pool [(2, .class_ 4), (1, u "java/lang/Object"), (0, u "<init>"), (0, u "()V"), (1, .class_ 10), (1, u "java/lang/System"), (0, u "allowSecurityManager"), (0, u "I"), (16, u "cons"), (0, u "Ljava/io/Console;"), (77, .class_ 110), (1, u "java/lang/System$CallersHolder"), (43, u "initialErrStream"), (0, u "Ljava/io/PrintStream;"), (19, u "security"), (0, u "Ljava/lang/SecurityManager;"), (31, .class_ 209), (0, u "java/lang/System$1"), (7, u "props"), (0, u "Ljava/util/Properties;"), (2, u "lineSeparator"), (0, u "Ljava/lang/String;"), (96, .class_ 321), (1, u "java/lang/System$LoggerFinder"), (5, .class_ 328), (0, u "java/lang/System$Logger"), (67, u "err"), (2, u "out"), (91, u "notSupportedJnuEncoding"), (15, u "in"), (17, u "initialIn"), (0, u "Ljava/io/InputStream;"), (35, u "bootLayer"), (0, u "Ljava/lang/ModuleLayer;"), (99, .class_ 664), (0, u "java/lang/System$2"), (9, u "NEVER"), (2, u "MAYBE"), (49, u "arraycopy"), (0, u "(Ljava/lang/Object;ILjava/lang/Object;II)V"), (72, .class_ 802), (0, u "java/lang/System$Logger$Level")] 31

def k16m0 : Method := { name := "<init>", desc := "()V", sig := { parameters := [], returnType := none }, accessFlags := 2, code := none }
def k16m1 : Method := { name := "arraycopy", desc := "(Ljava/lang/Object;ILjava/lang/Object;II)V", sig := { parameters := [(.object "java/lang/Object"), .int, (.object "java/lang/Object"), .int, .int], returnType := none }, accessFlags := 265, code := none }
/-- java/lang/System -/
def k16 : Class := { plain "java/lang/System" (some 0) with
  accessFlags := 49
  interfaces := #[]
  cf := some (fileOf pool16 8 #[.nestMembers #[319, 327, 801, 108, 663, 208]] #[{ accessFlags := 2, nameIndex := 5, descriptorIndex := 6, attributes := #[] }, { accessFlags := 265, nameIndex := 727, descriptorIndex := 728, attributes := #[] }] 49 2 #[] #[{ accessFlags := 25, nameIndex := 507, descriptorIndex := 526, attributes := #[] }, { accessFlags := 25, nameIndex := 399, descriptorIndex := 155, attributes := #[] }, { accessFlags := 25, nameIndex := 396, descriptorIndex := 155, attributes := #[] }, { accessFlags := 10, nameIndex := 525, descriptorIndex := 526, attributes := #[] }, { accessFlags := 26, nameIndex := 674, descriptorIndex := 12, attributes := #[] }, { accessFlags := 26, nameIndex := 677, descriptorIndex := 12, attributes := #[] }, { accessFlags := 10, nameIndex := 11, descriptorIndex := 12, attributes := #[] }, { accessFlags := 74, nameIndex := 175, descriptorIndex := 176, attributes := #[] }, { accessFlags := 10, nameIndex := 491, descriptorIndex := 222, attributes := #[] }, { accessFlags := 74, nameIndex := 29, descriptorIndex := 30, attributes := #[] }, { accessFlags := 74, nameIndex := 154, descriptorIndex := 155, attributes := #[] }, { accessFlags := 10, nameIndex := 217, descriptorIndex := 218, attributes := #[] }, { accessFlags := 10, nameIndex := 221, descriptorIndex := 222, attributes := #[] }, { accessFlags := 8, nameIndex := 562, descriptorIndex := 563, attributes := #[] }])
  fields := #[{ name := "in", type := (.object "java/io/InputStream"), accessFlags := 25, slot := 0, constantValue := 0 }, { name := "out", type := (.object "java/io/PrintStream"), accessFlags := 25, slot := 1, constantValue := 0 }, { name := "err", type := (.object "java/io/PrintStream"), accessFlags := 25, slot := 2, constantValue := 0 }, { name := "initialIn", type := (.object "java/io/InputStream"), accessFlags := 10, slot := 3, constantValue := 0 }, { name := "NEVER", type := .int, accessFlags := 26, slot := 4, constantValue := 0 }, { name := "MAYBE", type := .int, accessFlags := 26, slot := 5, constantValue := 0 }, { name := "allowSecurityManager", type := .int, accessFlags := 10, slot := 6, constantValue := 0 }, { name := "security", type := (.object "java/lang/SecurityManager"), accessFlags := 74, slot := 7, constantValue := 0 }, { name := "notSupportedJnuEncoding", type := (.object "java/lang/String"), accessFlags := 10, slot := 8, constantValue := 0 }, { name := "cons", type := (.object "java/io/Console"), accessFlags := 74, slot := 9, constantValue := 0 }, { name := "initialErrStream", type := (.object "java/io/PrintStream"), accessFlags := 74, slot := 10, constantValue := 0 }, { name := "props", type := (.object "java/util/Properties"), accessFlags := 10, slot := 11, constantValue := 0 }, { name := "lineSeparator", type := (.object "java/lang/String"), accessFlags := 10, slot := 12, constantValue := 0 }, { name := "bootLayer", type := (.object "java/lang/ModuleLayer"), accessFlags := 8, slot := 13, constantValue := 0 }]
  methods := #[k16m0, k16m1]
  instanceTypes := #[]
  staticTypes := #[(.object "java/io/InputStream"), (.object "java/io/PrintStream"), (.object "java/io/PrintStream"), (.object "java/io/InputStream"), .int, .int, .int, (.object "java/lang/SecurityManager"), (.object "java/lang/String"), (.object "java/io/Console"), (.object "java/io/PrintStream"), (.object "java/util/Properties"), (.object "java/lang/String"), (.object "java/lang/ModuleLayer")]
  resolved := Array.replicate 834 none
  statics := none }

def pool17 : Array CpInfo := pool [(2, .class_ 4), (1, u "java/lang/Object"), (0, u "<init>"), (0, u "()V"), (7, .class_ 16), (1, u "java/util/Arrays"), (57, .class_ 76), (1, u "java/util/Arrays$NaturalOrder"), (36, .class_ 115), (1, u "java/util/Arrays$LegacyMergeSort"), (1, u "Z"), (21, u "copyOfRange"), (10, .methodref 151 152), (0, .class_ 153), (0, .nameAndType 154 155), (0, u "java/lang/System"), (0, u "arraycopy"), (0, u "(Ljava/lang/Object;ILjava/lang/Object;II)V"), (148, .methodref 305 306), (0, .class_ 307), (0, .nameAndType 308 309), (0, u "java/lang/Math"), (0, u "min"), (0, u "(II)I"), (29, .methodref 14 340), (0, .nameAndType 341 342), (0, u "copyOfRangeByte"), (0, u "([BII)[B"), (0, .methodref 14 344), (0, .nameAndType 345 346), (0, u "checkLength"), (0, u "(II)V"), (28, .class_ 376), (0, u "java/util/Arrays$ArrayList"), (68, u "$assertionsDisabled"), (269, u "MIN_ARRAY_SORT_GRAN"), (0, u "I"), (2, u "INSERTIONSORT_THRESHOLD"), (255, .class_ 976), (0, u "java/util/Arrays$ArrayItr")] 52

def k17m0 : Method := { name := "<init>", desc := "()V", sig := { parameters := [], returnType := none }, accessFlags := 2, code := none }
def k17c1 : Code := { maxStack := 4, maxLocals := 2, code := jdk_65_method_131_code, exceptionTable := #[], attributes := #[] }
def k17m1 : Method := { name := "checkLength", desc := "(II)V", sig := { parameters := [.int, .int], returnType := none }, accessFlags := 10, code := some k17c1 }
def k17c2 : Code := { maxStack := 3, maxLocals := 3, code := jdk_65_method_132_code, exceptionTable := #[], attributes := #[] }
def k17m2 : Method := { name := "copyOfRange", desc := "([BII)[B", sig := { parameters := [(.array .byte), .int, .int], returnType := some (.array .byte) }, accessFlags := 9, code := some k17c2 }
def k17c3 : Code := { maxStack := 6, maxLocals := 5, code := jdk_65_method_133_code, exceptionTable := #[], attributes := #[] }
def k17m3 : Method := { name := "copyOfRangeByte", desc := "([BII)[B", sig := { parameters := [(.array .byte), .int, .int], returnType := some (.array .byte) }, accessFlags := 10, code := some k17c3 }
/-- java/util/Arrays -/
def k17 : Class := { plain "java/util/Arrays" (some 0) with
  accessFlags := 49
  interfaces := #[]
  cf := some (fileOf pool17 14 #[.nestMembers #[975, 375, 113, 74]] #[{ accessFlags := 2, nameIndex := 5, descriptorIndex := 6, attributes := #[] }, { accessFlags := 10, nameIndex := 345, descriptorIndex := 346, attributes := #[] }, { accessFlags := 9, nameIndex := 139, descriptorIndex := 342, attributes := #[] }, { accessFlags := 10, nameIndex := 341, descriptorIndex := 342, attributes := #[] }] 49 2 #[] #[{ accessFlags := 26, nameIndex := 715, descriptorIndex := 716, attributes := #[] }, { accessFlags := 26, nameIndex := 719, descriptorIndex := 716, attributes := #[] }, { accessFlags := 4120, nameIndex := 445, descriptorIndex := 117, attributes := #[] }])
  fields := #[{ name := "MIN_ARRAY_SORT_GRAN", type := .int, accessFlags := 26, slot := 0, constantValue := 0 }, { name := "INSERTIONSORT_THRESHOLD", type := .int, accessFlags := 26, slot := 1, constantValue := 0 }, { name := "$assertionsDisabled", type := .boolean, accessFlags := 4120, slot := 2, constantValue := 0 }]
  methods := #[k17m0, k17m1, k17m2, k17m3]
  instanceTypes := #[]
  staticTypes := #[.int, .int, .boolean]
  resolved := Array.replicate 1029 none
  statics := none }

def pool18 : Array CpInfo := pool [(1, .class_ 2), (0, u "java/lang/Math"), (1, .class_ 6), (1, u "java/lang/Object"), (0, u "<init>"), (0, u "()V"), (89, .class_ 100), (1, u "java/lang/Math$RandomNumberGeneratorHolder"), (71, u "negativeZeroFloatBits"), (0, u "J"), (2, u "negativeZeroDoubleBits"), (24, u "min"), (43, u "$assertionsDisabled"), (0, u "Z"), (88, u "(II)I"), (2, u "twoToTheDoubleScaleDown"), (0, u "D"), (4, u "twoToTheDoubleScaleUp"), (9, u "E"), (3, u "PI"), (2, u "TAU"), (2, u "DEGREES_TO_RADIANS"), (0, u "RADIANS_TO_DEGREES")] 94

def k18m0 : Method := { name := "<init>", desc := "()V", sig := { parameters := [], returnType := none }, accessFlags := 2, code := none }
def k18c1 : Code := { maxStack := 2, maxLocals := 2, code := jdk_29_method_69_code, exceptionTable := #[], attributes := #[] }
def k18m1 : Method := { name := "min", desc := "(II)I", sig := { parameters := [.int, .int], returnType := some .int }, accessFlags := 9, code := some k18c1 }
/-- java/lang/Math -/
def k18 : Class := { plain "java/lang/Math" (some 0) with
  accessFlags := 49
  interfaces := #[]
  cf := some (fileOf pool18 1 #[.nestMembers #[98]] #[{ accessFlags := 2, nameIndex := 7, descriptorIndex := 8, attributes := #[] }, { accessFlags := 9, nameIndex := 201, descriptorIndex := 335, attributes := #[] }] 49 4 #[] #[{ accessFlags := 25, nameIndex := 354, descriptorIndex := 339, attributes := #[] }, { accessFlags := 25, nameIndex := 358, descriptorIndex := 339, attributes := #[] }, { accessFlags := 25, nameIndex := 361, descriptorIndex := 339, attributes := #[] }, { accessFlags := 26, nameIndex := 364, descriptorIndex := 339, attributes := #[] }, { accessFlags := 26, nameIndex := 365, descriptorIndex := 339, attributes := #[] }, { accessFlags := 26, nameIndex := 172, descriptorIndex := 173, attributes := #[] }, { accessFlags := 26, nameIndex := 176, descriptorIndex := 173, attributes := #[] }, { accessFlags := 8, nameIndex := 344, descriptorIndex := 339, attributes := #[] }, { accessFlags := 8, nameIndex := 338, descriptorIndex := 339, attributes := #[] }, { accessFlags := 4120, nameIndex := 245, descriptorIndex := 246, attributes := #[] }])
  fields := #[{ name := "E", type := .double, accessFlags := 25, slot := 0, constantValue := 0 }, { name := "PI", type := .double, accessFlags := 25, slot := 1, constantValue := 0 }, { name := "TAU", type := .double, accessFlags := 25, slot := 2, constantValue := 0 }, { name := "DEGREES_TO_RADIANS", type := .double, accessFlags := 26, slot := 3, constantValue := 0 }, { name := "RADIANS_TO_DEGREES", type := .double, accessFlags := 26, slot := 4, constantValue := 0 }, { name := "negativeZeroFloatBits", type := .long, accessFlags := 26, slot := 5, constantValue := 0 }, { name := "negativeZeroDoubleBits", type := .long, accessFlags := 26, slot := 6, constantValue := 0 }, { name := "twoToTheDoubleScaleUp", type := .double, accessFlags := 8, slot := 7, constantValue := 0 }, { name := "twoToTheDoubleScaleDown", type := .double, accessFlags := 8, slot := 8, constantValue := 0 }, { name := "$assertionsDisabled", type := .boolean, accessFlags := 4120, slot := 9, constantValue := 0 }]
  methods := #[k18m0, k18m1]
  instanceTypes := #[]
  staticTypes := #[.double, .double, .double, .double, .double, .long, .long, .double, .double, .boolean]
  resolved := Array.replicate 460 none
  statics := none }

def pool19 : Array CpInfo := pool [(1, u "java/lang/Cloneable"), (0, .class_ 1), (0, u "java/lang/Object"), (0, .class_ 3)] 3

/-- java/lang/Cloneable -/
def k19 : Class := { plain "java/lang/Cloneable" (some 0) with
  accessFlags := 1537
  interfaces := #[]
  cf := some (fileOf pool19 2 #[] #[] 1537 4 #[] #[])
  fields := #[]
  methods := #[]
  instanceTypes := #[]
  staticTypes := #[]
  resolved := Array.replicate 8 none
  statics := none }

/-- the primitive byte -/
def k20 : Class := { plain "byte" none with kind := .primitive 'B', accessFlags := 0x411 }
/-- [B -/
def k21 : Class := { plain "[B" (some 0) with kind := .array 20 .byte, interfaces := #[19, 2], accessFlags := 1041 }

/-- the primitive char -/
def k22 : Class := { plain "char" none with kind := .primitive 'C', accessFlags := 0x411 }
/-- [C -/
def k23 : Class := { plain "[C" (some 0) with kind := .array 22 .char, interfaces := #[19, 2], accessFlags := 1041 }

def heap : Heap := #[{ cls := 7, slots := #[.long 0, .int 1, .null, .int 0, .null, .int 0, .int 0], vm := .statics 7 },
  { cls := 11, slots := #[.null, .null, .null], vm := .statics 11 }]
def classes : Array Class := #[k0, k1, k2, k3, k4, k5, k6, k7, k8, k9, k10, k11, k12, k13, k14, k15, k16, k17, k18, k19, k20, k21, k22, k23]
def interned : List (Array UInt16 × Addr) := []
def slotsUsed : Nat := 10
def theMethod : MethodId := ⟨1, 4⟩
def args0 : Array Value := #[.int 5, .int 7, .int 1, .int 2, .int 3]
def aboutOver (below : List Frame) : State where
  vm := { classes := classes, interned := interned.toArray }
  heap := heap
  slotsUsed := slotsUsed
  threads := #[{ frames := .invoking theMethod args0 :: below }]
def below0 : List Frame := [.native { method := ⟨0, 0⟩, args := #[] }]
def about1 : State := aboutOver below0
def p0 : Program := .bare "" "" ""
def e0 : Env := launch0.env 0 0 0
theorem w_frames : about1.frames = Frame.invoking theMethod args0 :: below0 := rfl
set_option maxRecDepth 65536 in
theorem w_args : argsFit about1.vm theMethod args0 = true := by decide +kernel
set_option maxRecDepth 65536 in
theorem w_heap : heapFits about1 = true := by decide +kernel
set_option maxRecDepth 65536 in
theorem w_runnable : about1.curStatus? = some .runnable := by decide +kernel
set_option maxRecDepth 65536 in
theorem w_alone : about1.alone = true := by decide +kernel
set_option maxRecDepth 65536 in
theorem w_named : about1.methodNamed? x = some theMethod := by decide +kernel
set_option maxRecDepth 65536 in
theorem w_hears : about1.hears theMethod below0 = true := by decide +kernel
set_option maxRecDepth 65536 in
theorem w_ripe : about1.ripe theMethod args0 below0 = true := by decide +kernel
theorem w_running : about1.status = .running := rfl
set_option maxRecDepth 65536 in
theorem w_room : about1.hasRoom e0.platform room_1 = true :=
  launch0.hasRoom_least _ room_1 (by decide +kernel) (by decide +kernel) (by decide +kernel) (by decide +kernel) (by decide +kernel) (by decide +kernel)
theorem allAtoms_all (ts : List Jvm.Cond) (a : Array Jvm.Value) (st : Jvm.State) : (allAtoms ts).before a st = ts.all (fun c => c.before a st) := by
  induction ts with
  | nil => rfl
  | cons c t ih =>
    show (Jvm.Cond.and c (allAtoms t)).before a st = _
    rw [Jvm.Cond.before_and, ih, List.all_cons]
def words1 : List Jvm.Cond := Jvm.Cond.code x code maxLocals ret :: tables_1
/-- a 'code' word, met by the world's own term for the bytes: nothing is compared byte by byte -/
theorem code_word {y : MethodName} {bytes : ByteArray} {mx : Nat} {rt : Option FieldType} {a : Array Value} {s : State} {m : MethodId} {meth : Method} {c : Code} (h1 : s.methodNamed? y = some m) (h2 : s.vm.method? m = some meth) (h3 : meth.code = some c) (h4 : c.code = bytes)
    (h5 : (c.maxLocals == mx && c.exceptionTable.isEmpty && decide (c.maxStack ≤ mostOperands) && decide (meth.sig.returnType = rt) && !meth.locks && decide (parseMethodDescriptor y.desc = some meth.sig)) = true) : (Jvm.Cond.code y bytes mx rt).before a s = true := by
  simp only [Bool.and_eq_true, beq_iff_eq, Bool.not_eq_true', decide_eq_true_eq] at h5
  obtain ⟨⟨⟨⟨⟨g1, g2⟩, g3⟩, g4⟩, g5⟩, g6⟩ := h5
  simp [Cond.before, Cond.holds, Cond.value, h1, h2, h3, h4, g1, g2, g3, g4, g5, g6]
def isCode : Jvm.Cond → Bool
  | .code _ _ _ _ => true
  | _ => false
theorem all_split {L : List Jvm.Cond} {P : Jvm.Cond → Bool} (h1 : L.all (fun c => isCode c || P c) = true) (h2 : ∀ c ∈ L.filter isCode, P c = true) : L.all P = true := by
  refine List.all_eq_true.mpr fun c hc => ?_
  have h := List.all_eq_true.mp h1 c hc
  rcases Bool.eq_false_or_eq_true (isCode c) with hi | hi
  · exact h2 c (List.mem_filter.mpr ⟨hc, hi⟩)
  · simpa [hi] using h
set_option maxRecDepth 65536 in
theorem w_c0 : (Jvm.Cond.code x code maxLocals ret).before args0 about1 = true := code_word (m := ⟨1, 4⟩) (meth := k1m4) (c := k1c4) (by decide +kernel) rfl rfl rfl (by decide +kernel)
set_option maxRecDepth 65536 in
theorem w_c1 : (Jvm.Cond.code ({ cls := "com/example/persist/persist/mapping/SqlNameOfPinLaw", name := "ch", desc := "(I)C" } : Jvm.MethodName) method_2_code (1 : Nat) (Option.some Jvm.ClassFile.FieldType.char)).before args0 about1 = true := code_word (m := ⟨1, 1⟩) (meth := k1m1) (c := k1c1) (by decide +kernel) rfl rfl rfl (by decide +kernel)
set_option maxRecDepth 65536 in
theorem w_c2 : (Jvm.Cond.code ({ cls := "com/example/persist/persist/mapping/SqlNameOfPinLaw", name := "str", desc := "(ICCCC)Ljava/lang/String;" } : Jvm.MethodName) method_3_code (5 : Nat) (Option.some (Jvm.ClassFile.FieldType.object "java/lang/String"))).before args0 about1 = true := code_word (m := ⟨1, 2⟩) (meth := k1m2) (c := k1c2) (by decide +kernel) rfl rfl rfl (by decide +kernel)
set_option maxRecDepth 65536 in
theorem w_c3 : (Jvm.Cond.code ({ cls := "java/lang/String", name := "<init>", desc := "([C)V" } : Jvm.MethodName) jdk_42_method_3_code (2 : Nat) (Option.none : Option Jvm.ClassFile.FieldType)).before args0 about1 = true := code_word (m := ⟨7, 1⟩) (meth := k7m1) (c := k7c1) (by decide +kernel) rfl rfl rfl (by decide +kernel)
set_option maxRecDepth 65536 in
theorem w_c4 : (Jvm.Cond.code ({ cls := "java/lang/String", name := "<init>", desc := "([CIILjava/lang/Void;)V" } : Jvm.MethodName) jdk_42_method_149_code (6 : Nat) (Option.none : Option Jvm.ClassFile.FieldType)).before args0 about1 = true := code_word (m := ⟨7, 10⟩) (meth := k7m10) (c := k7c10) (by decide +kernel) rfl rfl rfl (by decide +kernel)
set_option maxRecDepth 65536 in
theorem w_c5 : (Jvm.Cond.code ({ cls := "java/lang/Object", name := "<init>", desc := "()V" } : Jvm.MethodName) object_method_1_code (1 : Nat) (Option.none : Option Jvm.ClassFile.FieldType)).before args0 about1 = true := code_word (m := ⟨0, 0⟩) (meth := k0m0) (c := k0c0) (by decide +kernel) rfl rfl rfl (by decide +kernel)
set_option maxRecDepth 65536 in
theorem w_c6 : (Jvm.Cond.code ({ cls := "com/example/persist/persist/mapping/SqlName", name := "of", desc := "(Ljava/lang/String;)Lcom/example/persist/persist/mapping/SqlName;" } : Jvm.MethodName) prog_15_method_2_code (2 : Nat) (Option.some (Jvm.ClassFile.FieldType.object "com/example/persist/persist/mapping/SqlName"))).before args0 about1 = true := code_word (m := ⟨8, 1⟩) (meth := k8m1) (c := k8c1) (by decide +kernel) rfl rfl rfl (by decide +kernel)
set_option maxRecDepth 65536 in
theorem w_c7 : (Jvm.Cond.code ({ cls := "java/lang/String", name := "length", desc := "()I" } : Jvm.MethodName) jdk_42_method_54_code (1 : Nat) (Option.some Jvm.ClassFile.FieldType.int)).before args0 about1 = true := code_word (m := ⟨7, 3⟩) (meth := k7m3) (c := k7c3) (by decide +kernel) rfl rfl rfl (by decide +kernel)
set_option maxRecDepth 65536 in
theorem w_c8 : (Jvm.Cond.code ({ cls := "java/lang/String", name := "coder", desc := "()B" } : Jvm.MethodName) jdk_42_method_152_code (1 : Nat) (Option.some Jvm.ClassFile.FieldType.byte)).before args0 about1 = true := code_word (m := ⟨7, 13⟩) (meth := k7m13) (c := k7c13) (by decide +kernel) rfl rfl rfl (by decide +kernel)
set_option maxRecDepth 65536 in
theorem w_c9 : (Jvm.Cond.code ({ cls := "com/example/persist/persist/mapping/SqlName", name := "<init>", desc := "(Ljava/lang/String;Z)V" } : Jvm.MethodName) prog_15_method_1_code (3 : Nat) (Option.none : Option Jvm.ClassFile.FieldType)).before args0 about1 = true := code_word (m := ⟨8, 0⟩) (meth := k8m0) (c := k8c0) (by decide +kernel) rfl rfl rfl (by decide +kernel)
set_option maxRecDepth 65536 in
theorem w_c10 : (Jvm.Cond.code ({ cls := "com/example/persist/persist/mapping/SqlName", name := "delimited", desc := "()Z" } : Jvm.MethodName) prog_15_method_4_code (1 : Nat) (Option.some Jvm.ClassFile.FieldType.boolean)).before args0 about1 = true := code_word (m := ⟨8, 3⟩) (meth := k8m3) (c := k8c3) (by decide +kernel) rfl rfl rfl (by decide +kernel)
set_option maxRecDepth 65536 in
theorem w_c11 : (Jvm.Cond.code ({ cls := "com/example/persist/persist/mapping/SqlName", name := "text", desc := "()Ljava/lang/String;" } : Jvm.MethodName) prog_15_method_3_code (1 : Nat) (Option.some (Jvm.ClassFile.FieldType.object "java/lang/String"))).before args0 about1 = true := code_word (m := ⟨8, 2⟩) (meth := k8m2) (c := k8c2) (by decide +kernel) rfl rfl rfl (by decide +kernel)
set_option maxRecDepth 65536 in
theorem w_c12 : (Jvm.Cond.code ({ cls := "java/lang/String", name := "equals", desc := "(Ljava/lang/Object;)Z" } : Jvm.MethodName) jdk_42_method_66_code (3 : Nat) (Option.some Jvm.ClassFile.FieldType.boolean)).before args0 about1 = true := code_word (m := ⟨7, 4⟩) (meth := k7m4) (c := k7c4) (by decide +kernel) rfl rfl rfl (by decide +kernel)
set_option maxRecDepth 65536 in
theorem w_c13 : (Jvm.Cond.code ({ cls := "com/example/persist/persist/mapping/SqlName", name := "toString", desc := "()Ljava/lang/String;" } : Jvm.MethodName) prog_15_method_5_code (1 : Nat) (Option.some (Jvm.ClassFile.FieldType.object "java/lang/String"))).before args0 about1 = true := code_word (m := ⟨8, 4⟩) (meth := k8m4) (c := k8c4) (by decide +kernel) rfl rfl rfl (by decide +kernel)
set_option maxRecDepth 65536 in
theorem w_c14 : (Jvm.Cond.code ({ cls := "java/lang/StringUTF16", name := "compress", desc := "([CII)[B" } : Jvm.MethodName) jdk_52_method_16_code (6 : Nat) (Option.some (Jvm.ClassFile.FieldType.array Jvm.ClassFile.FieldType.byte))).before args0 about1 = true := code_word (m := ⟨9, 2⟩) (meth := k9m2) (c := k9c2) (by decide +kernel) rfl rfl rfl (by decide +kernel)
set_option maxRecDepth 65536 in
theorem w_c15 : (Jvm.Cond.code ({ cls := "java/lang/StringUTF16", name := "compress", desc := "([CI[BII)I" } : Jvm.MethodName) jdk_52_method_21_code (7 : Nat) (Option.some Jvm.ClassFile.FieldType.int)).before args0 about1 = true := code_word (m := ⟨9, 3⟩) (meth := k9m3) (c := k9c3) (by decide +kernel) rfl rfl rfl (by decide +kernel)
set_option maxRecDepth 65536 in
theorem w_c16 : (Jvm.Cond.code ({ cls := "java/lang/StringUTF16", name := "coderFromArrayLen", desc := "([BI)B" } : Jvm.MethodName) jdk_52_method_15_code (2 : Nat) (Option.some Jvm.ClassFile.FieldType.byte)).before args0 about1 = true := code_word (m := ⟨9, 1⟩) (meth := k9m1) (c := k9c1) (by decide +kernel) rfl rfl rfl (by decide +kernel)
set_option maxRecDepth 65536 in
theorem w_c17 : (Jvm.Cond.code ({ cls := "java/lang/String", name := "startsWith", desc := "(Ljava/lang/String;)Z" } : Jvm.MethodName) jdk_42_method_76_code (2 : Nat) (Option.some Jvm.ClassFile.FieldType.boolean)).before args0 about1 = true := code_word (m := ⟨7, 6⟩) (meth := k7m6) (c := k7c6) (by decide +kernel) rfl rfl rfl (by decide +kernel)
set_option maxRecDepth 65536 in
theorem w_c18 : (Jvm.Cond.code ({ cls := "java/lang/String", name := "startsWith", desc := "(Ljava/lang/String;I)Z" } : Jvm.MethodName) jdk_42_method_75_code (8 : Nat) (Option.some Jvm.ClassFile.FieldType.boolean)).before args0 about1 = true := code_word (m := ⟨7, 5⟩) (meth := k7m5) (c := k7c5) (by decide +kernel) rfl rfl rfl (by decide +kernel)
set_option maxRecDepth 65536 in
theorem w_c19 : (Jvm.Cond.code ({ cls := "jdk/internal/util/ArraysSupport", name := "mismatch", desc := "([BI[BII)I" } : Jvm.MethodName) jdk_48_method_14_code (8 : Nat) (Option.some Jvm.ClassFile.FieldType.int)).before args0 about1 = true := code_word (m := ⟨10, 1⟩) (meth := k10m1) (c := k10c1) (by decide +kernel) rfl rfl rfl (by decide +kernel)
set_option maxRecDepth 65536 in
theorem w_c20 : (Jvm.Cond.code ({ cls := "com/example/persist/persist/mapping/SqlNameOfPinLaw", name := "at", desc := "(ICCCC)C" } : Jvm.MethodName) method_4_code (5 : Nat) (Option.some Jvm.ClassFile.FieldType.char)).before args0 about1 = true := code_word (m := ⟨1, 3⟩) (meth := k1m3) (c := k1c3) (by decide +kernel) rfl rfl rfl (by decide +kernel)
set_option maxRecDepth 65536 in
theorem w_c21 : (Jvm.Cond.code ({ cls := "java/lang/String", name := "endsWith", desc := "(Ljava/lang/String;)Z" } : Jvm.MethodName) jdk_42_method_77_code (2 : Nat) (Option.some Jvm.ClassFile.FieldType.boolean)).before args0 about1 = true := code_word (m := ⟨7, 7⟩) (meth := k7m7) (c := k7c7) (by decide +kernel) rfl rfl rfl (by decide +kernel)
set_option maxRecDepth 65536 in
theorem w_c22 : (Jvm.Cond.code ({ cls := "java/lang/String", name := "substring", desc := "(II)Ljava/lang/String;" } : Jvm.MethodName) jdk_42_method_92_code (5 : Nat) (Option.some (Jvm.ClassFile.FieldType.object "java/lang/String"))).before args0 about1 = true := code_word (m := ⟨7, 8⟩) (meth := k7m8) (c := k7c8) (by decide +kernel) rfl rfl rfl (by decide +kernel)
set_option maxRecDepth 65536 in
theorem w_c23 : (Jvm.Cond.code ({ cls := "java/lang/String", name := "checkBoundsBeginEnd", desc := "(III)V" } : Jvm.MethodName) jdk_42_method_158_code (3 : Nat) (Option.none : Option Jvm.ClassFile.FieldType)).before args0 about1 = true := code_word (m := ⟨7, 15⟩) (meth := k7m15) (c := k7c15) (by decide +kernel) rfl rfl rfl (by decide +kernel)
set_option maxRecDepth 65536 in
theorem w_c24 : (Jvm.Cond.code ({ cls := "jdk/internal/util/Preconditions", name := "checkFromToIndex", desc := "(IIILjava/util/function/BiFunction;)I" } : Jvm.MethodName) jdk_41_method_12_code (4 : Nat) (Option.some Jvm.ClassFile.FieldType.int)).before args0 about1 = true := code_word (m := ⟨11, 1⟩) (meth := k11m1) (c := k11c1) (by decide +kernel) rfl rfl rfl (by decide +kernel)
set_option maxRecDepth 65536 in
theorem w_c25 : (Jvm.Cond.code ({ cls := "java/lang/String", name := "isLatin1", desc := "()Z" } : Jvm.MethodName) jdk_42_method_154_code (1 : Nat) (Option.some Jvm.ClassFile.FieldType.boolean)).before args0 about1 = true := code_word (m := ⟨7, 14⟩) (meth := k7m14) (c := k7c14) (by decide +kernel) rfl rfl rfl (by decide +kernel)
set_option maxRecDepth 65536 in
theorem w_c26 : (Jvm.Cond.code ({ cls := "java/lang/StringLatin1", name := "newString", desc := "([BII)Ljava/lang/String;" } : Jvm.MethodName) jdk_43_method_47_code (3 : Nat) (Option.some (Jvm.ClassFile.FieldType.object "java/lang/String"))).before args0 about1 = true := code_word (m := ⟨12, 2⟩) (meth := k12m2) (c := k12c2) (by decide +kernel) rfl rfl rfl (by decide +kernel)
set_option maxRecDepth 65536 in
theorem w_c27 : (Jvm.Cond.code ({ cls := "java/lang/StringLatin1", name := "equals", desc := "([B[B)Z" } : Jvm.MethodName) jdk_43_method_13_code (3 : Nat) (Option.some Jvm.ClassFile.FieldType.boolean)).before args0 about1 = true := code_word (m := ⟨12, 1⟩) (meth := k12m1) (c := k12c1) (by decide +kernel) rfl rfl rfl (by decide +kernel)
set_option maxRecDepth 65536 in
theorem w_c28 : (Jvm.Cond.code ({ cls := "java/lang/StringBuilder", name := "<init>", desc := "()V" } : Jvm.MethodName) jdk_67_method_1_code (1 : Nat) (Option.none : Option Jvm.ClassFile.FieldType)).before args0 about1 = true := code_word (m := ⟨15, 0⟩) (meth := k15m0) (c := k15c0) (by decide +kernel) rfl rfl rfl (by decide +kernel)
set_option maxRecDepth 65536 in
theorem w_c29 : (Jvm.Cond.code ({ cls := "java/lang/AbstractStringBuilder", name := "<init>", desc := "(I)V" } : Jvm.MethodName) jdk_68_method_2_code (2 : Nat) (Option.none : Option Jvm.ClassFile.FieldType)).before args0 about1 = true := code_word (m := ⟨14, 1⟩) (meth := k14m1) (c := k14c1) (by decide +kernel) rfl rfl rfl (by decide +kernel)
set_option maxRecDepth 65536 in
theorem w_c30 : (Jvm.Cond.code ({ cls := "java/lang/StringBuilder", name := "append", desc := "(Ljava/lang/String;)Ljava/lang/StringBuilder;" } : Jvm.MethodName) jdk_67_method_7_code (2 : Nat) (Option.some (Jvm.ClassFile.FieldType.object "java/lang/StringBuilder"))).before args0 about1 = true := code_word (m := ⟨15, 1⟩) (meth := k15m1) (c := k15c1) (by decide +kernel) rfl rfl rfl (by decide +kernel)
set_option maxRecDepth 65536 in
theorem w_c31 : (Jvm.Cond.code ({ cls := "java/lang/AbstractStringBuilder", name := "append", desc := "(Ljava/lang/String;)Ljava/lang/AbstractStringBuilder;" } : Jvm.MethodName) jdk_68_method_22_code (3 : Nat) (Option.some (Jvm.ClassFile.FieldType.object "java/lang/AbstractStringBuilder"))).before args0 about1 = true := code_word (m := ⟨14, 4⟩) (meth := k14m4) (c := k14c4) (by decide +kernel) rfl rfl rfl (by decide +kernel)
set_option maxRecDepth 65536 in
theorem w_c32 : (Jvm.Cond.code ({ cls := "java/lang/AbstractStringBuilder", name := "ensureCapacityInternal", desc := "(I)V" } : Jvm.MethodName) jdk_68_method_9_code (3 : Nat) (Option.none : Option Jvm.ClassFile.FieldType)).before args0 about1 = true := code_word (m := ⟨14, 3⟩) (meth := k14m3) (c := k14c3) (by decide +kernel) rfl rfl rfl (by decide +kernel)
set_option maxRecDepth 65536 in
theorem w_c33 : (Jvm.Cond.code ({ cls := "java/lang/AbstractStringBuilder", name := "putStringAt", desc := "(ILjava/lang/String;)V" } : Jvm.MethodName) jdk_68_method_73_code (3 : Nat) (Option.none : Option Jvm.ClassFile.FieldType)).before args0 about1 = true := code_word (m := ⟨14, 8⟩) (meth := k14m8) (c := k14c8) (by decide +kernel) rfl rfl rfl (by decide +kernel)
set_option maxRecDepth 65536 in
theorem w_c34 : (Jvm.Cond.code ({ cls := "java/lang/AbstractStringBuilder", name := "inflateIfNeededFor", desc := "(Ljava/lang/String;)V" } : Jvm.MethodName) jdk_68_method_71_code (2 : Nat) (Option.none : Option Jvm.ClassFile.FieldType)).before args0 about1 = true := code_word (m := ⟨14, 7⟩) (meth := k14m7) (c := k14c7) (by decide +kernel) rfl rfl rfl (by decide +kernel)
set_option maxRecDepth 65536 in
theorem w_c35 : (Jvm.Cond.code ({ cls := "java/lang/String", name := "getBytes", desc := "([BIB)V" } : Jvm.MethodName) jdk_42_method_147_code (4 : Nat) (Option.none : Option Jvm.ClassFile.FieldType)).before args0 about1 = true := code_word (m := ⟨7, 9⟩) (meth := k7m9) (c := k7c9) (by decide +kernel) rfl rfl rfl (by decide +kernel)
set_option maxRecDepth 65536 in
theorem w_c36 : (Jvm.Cond.code ({ cls := "java/lang/StringBuilder", name := "toString", desc := "()Ljava/lang/String;" } : Jvm.MethodName) jdk_67_method_42_code (1 : Nat) (Option.some (Jvm.ClassFile.FieldType.object "java/lang/String"))).before args0 about1 = true := code_word (m := ⟨15, 2⟩) (meth := k15m2) (c := k15c2) (by decide +kernel) rfl rfl rfl (by decide +kernel)
set_option maxRecDepth 65536 in
theorem w_c37 : (Jvm.Cond.code ({ cls := "java/lang/String", name := "<init>", desc := "(Ljava/lang/StringBuilder;)V" } : Jvm.MethodName) jdk_42_method_53_code (2 : Nat) (Option.none : Option Jvm.ClassFile.FieldType)).before args0 about1 = true := code_word (m := ⟨7, 2⟩) (meth := k7m2) (c := k7c2) (by decide +kernel) rfl rfl rfl (by decide +kernel)
set_option maxRecDepth 65536 in
theorem w_c38 : (Jvm.Cond.code ({ cls := "java/lang/String", name := "<init>", desc := "(Ljava/lang/AbstractStringBuilder;Ljava/lang/Void;)V" } : Jvm.MethodName) jdk_42_method_150_code (5 : Nat) (Option.none : Option Jvm.ClassFile.FieldType)).before args0 about1 = true := code_word (m := ⟨7, 11⟩) (meth := k7m11) (c := k7c11) (by decide +kernel) rfl rfl rfl (by decide +kernel)
set_option maxRecDepth 65536 in
theorem w_c39 : (Jvm.Cond.code ({ cls := "java/lang/AbstractStringBuilder", name := "getValue", desc := "()[B" } : Jvm.MethodName) jdk_68_method_64_code (1 : Nat) (Option.some (Jvm.ClassFile.FieldType.array Jvm.ClassFile.FieldType.byte))).before args0 about1 = true := code_word (m := ⟨14, 5⟩) (meth := k14m5) (c := k14c5) (by decide +kernel) rfl rfl rfl (by decide +kernel)
set_option maxRecDepth 65536 in
theorem w_c40 : (Jvm.Cond.code ({ cls := "java/lang/StringBuilder", name := "length", desc := "()I" } : Jvm.MethodName) jdk_67_method_93_code (1 : Nat) (Option.some Jvm.ClassFile.FieldType.int)).before args0 about1 = true := code_word (m := ⟨15, 3⟩) (meth := k15m3) (c := k15c3) (by decide +kernel) rfl rfl rfl (by decide +kernel)
set_option maxRecDepth 65536 in
theorem w_c41 : (Jvm.Cond.code ({ cls := "java/lang/AbstractStringBuilder", name := "length", desc := "()I" } : Jvm.MethodName) jdk_68_method_6_code (1 : Nat) (Option.some Jvm.ClassFile.FieldType.int)).before args0 about1 = true := code_word (m := ⟨14, 2⟩) (meth := k14m2) (c := k14c2) (by decide +kernel) rfl rfl rfl (by decide +kernel)
set_option maxRecDepth 65536 in
theorem w_c42 : (Jvm.Cond.code ({ cls := "java/lang/AbstractStringBuilder", name := "isLatin1", desc := "()Z" } : Jvm.MethodName) jdk_68_method_68_code (1 : Nat) (Option.some Jvm.ClassFile.FieldType.boolean)).before args0 about1 = true := code_word (m := ⟨14, 6⟩) (meth := k14m6) (c := k14c6) (by decide +kernel) rfl rfl rfl (by decide +kernel)
set_option maxRecDepth 65536 in
theorem w_c43 : (Jvm.Cond.code ({ cls := "java/util/Arrays", name := "copyOfRange", desc := "([BII)[B" } : Jvm.MethodName) jdk_65_method_132_code (3 : Nat) (Option.some (Jvm.ClassFile.FieldType.array Jvm.ClassFile.FieldType.byte))).before args0 about1 = true := code_word (m := ⟨17, 2⟩) (meth := k17m2) (c := k17c2) (by decide +kernel) rfl rfl rfl (by decide +kernel)
set_option maxRecDepth 65536 in
theorem w_c44 : (Jvm.Cond.code ({ cls := "java/util/Arrays", name := "copyOfRangeByte", desc := "([BII)[B" } : Jvm.MethodName) jdk_65_method_133_code (5 : Nat) (Option.some (Jvm.ClassFile.FieldType.array Jvm.ClassFile.FieldType.byte))).before args0 about1 = true := code_word (m := ⟨17, 3⟩) (meth := k17m3) (c := k17c3) (by decide +kernel) rfl rfl rfl (by decide +kernel)
set_option maxRecDepth 65536 in
theorem w_c45 : (Jvm.Cond.code ({ cls := "java/util/Arrays", name := "checkLength", desc := "(II)V" } : Jvm.MethodName) jdk_65_method_131_code (2 : Nat) (Option.none : Option Jvm.ClassFile.FieldType)).before args0 about1 = true := code_word (m := ⟨17, 1⟩) (meth := k17m1) (c := k17c1) (by decide +kernel) rfl rfl rfl (by decide +kernel)
set_option maxRecDepth 65536 in
theorem w_c46 : (Jvm.Cond.code ({ cls := "java/lang/Math", name := "min", desc := "(II)I" } : Jvm.MethodName) jdk_29_method_69_code (2 : Nat) (Option.some Jvm.ClassFile.FieldType.int)).before args0 about1 = true := code_word (m := ⟨18, 1⟩) (meth := k18m1) (c := k18c1) (by decide +kernel) rfl rfl rfl (by decide +kernel)
set_option maxRecDepth 65536 in
theorem w_c47 : (Jvm.Cond.code ({ cls := "java/lang/String", name := "<init>", desc := "([BB)V" } : Jvm.MethodName) jdk_42_method_151_code (3 : Nat) (Option.none : Option Jvm.ClassFile.FieldType)).before args0 about1 = true := code_word (m := ⟨7, 12⟩) (meth := k7m12) (c := k7c12) (by decide +kernel) rfl rfl rfl (by decide +kernel)
def codes1 : List Jvm.Cond := [Jvm.Cond.code x code maxLocals ret, Jvm.Cond.code ({ cls := "com/example/persist/persist/mapping/SqlNameOfPinLaw", name := "ch", desc := "(I)C" } : Jvm.MethodName) method_2_code (1 : Nat) (Option.some Jvm.ClassFile.FieldType.char), Jvm.Cond.code ({ cls := "com/example/persist/persist/mapping/SqlNameOfPinLaw", name := "str", desc := "(ICCCC)Ljava/lang/String;" } : Jvm.MethodName) method_3_code (5 : Nat) (Option.some (Jvm.ClassFile.FieldType.object "java/lang/String")), Jvm.Cond.code ({ cls := "java/lang/String", name := "<init>", desc := "([C)V" } : Jvm.MethodName) jdk_42_method_3_code (2 : Nat) (Option.none : Option Jvm.ClassFile.FieldType), Jvm.Cond.code ({ cls := "java/lang/String", name := "<init>", desc := "([CIILjava/lang/Void;)V" } : Jvm.MethodName) jdk_42_method_149_code (6 : Nat) (Option.none : Option Jvm.ClassFile.FieldType), Jvm.Cond.code ({ cls := "java/lang/Object", name := "<init>", desc := "()V" } : Jvm.MethodName) object_method_1_code (1 : Nat) (Option.none : Option Jvm.ClassFile.FieldType), Jvm.Cond.code ({ cls := "com/example/persist/persist/mapping/SqlName", name := "of", desc := "(Ljava/lang/String;)Lcom/example/persist/persist/mapping/SqlName;" } : Jvm.MethodName) prog_15_method_2_code (2 : Nat) (Option.some (Jvm.ClassFile.FieldType.object "com/example/persist/persist/mapping/SqlName")), Jvm.Cond.code ({ cls := "java/lang/String", name := "length", desc := "()I" } : Jvm.MethodName) jdk_42_method_54_code (1 : Nat) (Option.some Jvm.ClassFile.FieldType.int), Jvm.Cond.code ({ cls := "java/lang/String", name := "coder", desc := "()B" } : Jvm.MethodName) jdk_42_method_152_code (1 : Nat) (Option.some Jvm.ClassFile.FieldType.byte), Jvm.Cond.code ({ cls := "com/example/persist/persist/mapping/SqlName", name := "<init>", desc := "(Ljava/lang/String;Z)V" } : Jvm.MethodName) prog_15_method_1_code (3 : Nat) (Option.none : Option Jvm.ClassFile.FieldType), Jvm.Cond.code ({ cls := "com/example/persist/persist/mapping/SqlName", name := "delimited", desc := "()Z" } : Jvm.MethodName) prog_15_method_4_code (1 : Nat) (Option.some Jvm.ClassFile.FieldType.boolean), Jvm.Cond.code ({ cls := "com/example/persist/persist/mapping/SqlName", name := "text", desc := "()Ljava/lang/String;" } : Jvm.MethodName) prog_15_method_3_code (1 : Nat) (Option.some (Jvm.ClassFile.FieldType.object "java/lang/String")), Jvm.Cond.code ({ cls := "java/lang/String", name := "equals", desc := "(Ljava/lang/Object;)Z" } : Jvm.MethodName) jdk_42_method_66_code (3 : Nat) (Option.some Jvm.ClassFile.FieldType.boolean), Jvm.Cond.code ({ cls := "com/example/persist/persist/mapping/SqlName", name := "toString", desc := "()Ljava/lang/String;" } : Jvm.MethodName) prog_15_method_5_code (1 : Nat) (Option.some (Jvm.ClassFile.FieldType.object "java/lang/String")), Jvm.Cond.code ({ cls := "java/lang/StringUTF16", name := "compress", desc := "([CII)[B" } : Jvm.MethodName) jdk_52_method_16_code (6 : Nat) (Option.some (Jvm.ClassFile.FieldType.array Jvm.ClassFile.FieldType.byte)), Jvm.Cond.code ({ cls := "java/lang/StringUTF16", name := "compress", desc := "([CI[BII)I" } : Jvm.MethodName) jdk_52_method_21_code (7 : Nat) (Option.some Jvm.ClassFile.FieldType.int), Jvm.Cond.code ({ cls := "java/lang/StringUTF16", name := "coderFromArrayLen", desc := "([BI)B" } : Jvm.MethodName) jdk_52_method_15_code (2 : Nat) (Option.some Jvm.ClassFile.FieldType.byte), Jvm.Cond.code ({ cls := "java/lang/String", name := "startsWith", desc := "(Ljava/lang/String;)Z" } : Jvm.MethodName) jdk_42_method_76_code (2 : Nat) (Option.some Jvm.ClassFile.FieldType.boolean), Jvm.Cond.code ({ cls := "java/lang/String", name := "startsWith", desc := "(Ljava/lang/String;I)Z" } : Jvm.MethodName) jdk_42_method_75_code (8 : Nat) (Option.some Jvm.ClassFile.FieldType.boolean), Jvm.Cond.code ({ cls := "jdk/internal/util/ArraysSupport", name := "mismatch", desc := "([BI[BII)I" } : Jvm.MethodName) jdk_48_method_14_code (8 : Nat) (Option.some Jvm.ClassFile.FieldType.int), Jvm.Cond.code ({ cls := "com/example/persist/persist/mapping/SqlNameOfPinLaw", name := "at", desc := "(ICCCC)C" } : Jvm.MethodName) method_4_code (5 : Nat) (Option.some Jvm.ClassFile.FieldType.char), Jvm.Cond.code ({ cls := "java/lang/String", name := "endsWith", desc := "(Ljava/lang/String;)Z" } : Jvm.MethodName) jdk_42_method_77_code (2 : Nat) (Option.some Jvm.ClassFile.FieldType.boolean), Jvm.Cond.code ({ cls := "java/lang/String", name := "substring", desc := "(II)Ljava/lang/String;" } : Jvm.MethodName) jdk_42_method_92_code (5 : Nat) (Option.some (Jvm.ClassFile.FieldType.object "java/lang/String")), Jvm.Cond.code ({ cls := "java/lang/String", name := "checkBoundsBeginEnd", desc := "(III)V" } : Jvm.MethodName) jdk_42_method_158_code (3 : Nat) (Option.none : Option Jvm.ClassFile.FieldType), Jvm.Cond.code ({ cls := "jdk/internal/util/Preconditions", name := "checkFromToIndex", desc := "(IIILjava/util/function/BiFunction;)I" } : Jvm.MethodName) jdk_41_method_12_code (4 : Nat) (Option.some Jvm.ClassFile.FieldType.int), Jvm.Cond.code ({ cls := "java/lang/String", name := "isLatin1", desc := "()Z" } : Jvm.MethodName) jdk_42_method_154_code (1 : Nat) (Option.some Jvm.ClassFile.FieldType.boolean), Jvm.Cond.code ({ cls := "java/lang/StringLatin1", name := "newString", desc := "([BII)Ljava/lang/String;" } : Jvm.MethodName) jdk_43_method_47_code (3 : Nat) (Option.some (Jvm.ClassFile.FieldType.object "java/lang/String")), Jvm.Cond.code ({ cls := "java/lang/StringLatin1", name := "equals", desc := "([B[B)Z" } : Jvm.MethodName) jdk_43_method_13_code (3 : Nat) (Option.some Jvm.ClassFile.FieldType.boolean), Jvm.Cond.code ({ cls := "java/lang/StringBuilder", name := "<init>", desc := "()V" } : Jvm.MethodName) jdk_67_method_1_code (1 : Nat) (Option.none : Option Jvm.ClassFile.FieldType), Jvm.Cond.code ({ cls := "java/lang/AbstractStringBuilder", name := "<init>", desc := "(I)V" } : Jvm.MethodName) jdk_68_method_2_code (2 : Nat) (Option.none : Option Jvm.ClassFile.FieldType), Jvm.Cond.code ({ cls := "java/lang/StringBuilder", name := "append", desc := "(Ljava/lang/String;)Ljava/lang/StringBuilder;" } : Jvm.MethodName) jdk_67_method_7_code (2 : Nat) (Option.some (Jvm.ClassFile.FieldType.object "java/lang/StringBuilder")), Jvm.Cond.code ({ cls := "java/lang/AbstractStringBuilder", name := "append", desc := "(Ljava/lang/String;)Ljava/lang/AbstractStringBuilder;" } : Jvm.MethodName) jdk_68_method_22_code (3 : Nat) (Option.some (Jvm.ClassFile.FieldType.object "java/lang/AbstractStringBuilder")), Jvm.Cond.code ({ cls := "java/lang/AbstractStringBuilder", name := "ensureCapacityInternal", desc := "(I)V" } : Jvm.MethodName) jdk_68_method_9_code (3 : Nat) (Option.none : Option Jvm.ClassFile.FieldType), Jvm.Cond.code ({ cls := "java/lang/AbstractStringBuilder", name := "putStringAt", desc := "(ILjava/lang/String;)V" } : Jvm.MethodName) jdk_68_method_73_code (3 : Nat) (Option.none : Option Jvm.ClassFile.FieldType), Jvm.Cond.code ({ cls := "java/lang/AbstractStringBuilder", name := "inflateIfNeededFor", desc := "(Ljava/lang/String;)V" } : Jvm.MethodName) jdk_68_method_71_code (2 : Nat) (Option.none : Option Jvm.ClassFile.FieldType), Jvm.Cond.code ({ cls := "java/lang/String", name := "getBytes", desc := "([BIB)V" } : Jvm.MethodName) jdk_42_method_147_code (4 : Nat) (Option.none : Option Jvm.ClassFile.FieldType), Jvm.Cond.code ({ cls := "java/lang/StringBuilder", name := "toString", desc := "()Ljava/lang/String;" } : Jvm.MethodName) jdk_67_method_42_code (1 : Nat) (Option.some (Jvm.ClassFile.FieldType.object "java/lang/String")), Jvm.Cond.code ({ cls := "java/lang/String", name := "<init>", desc := "(Ljava/lang/StringBuilder;)V" } : Jvm.MethodName) jdk_42_method_53_code (2 : Nat) (Option.none : Option Jvm.ClassFile.FieldType), Jvm.Cond.code ({ cls := "java/lang/String", name := "<init>", desc := "(Ljava/lang/AbstractStringBuilder;Ljava/lang/Void;)V" } : Jvm.MethodName) jdk_42_method_150_code (5 : Nat) (Option.none : Option Jvm.ClassFile.FieldType), Jvm.Cond.code ({ cls := "java/lang/AbstractStringBuilder", name := "getValue", desc := "()[B" } : Jvm.MethodName) jdk_68_method_64_code (1 : Nat) (Option.some (Jvm.ClassFile.FieldType.array Jvm.ClassFile.FieldType.byte)), Jvm.Cond.code ({ cls := "java/lang/StringBuilder", name := "length", desc := "()I" } : Jvm.MethodName) jdk_67_method_93_code (1 : Nat) (Option.some Jvm.ClassFile.FieldType.int), Jvm.Cond.code ({ cls := "java/lang/AbstractStringBuilder", name := "length", desc := "()I" } : Jvm.MethodName) jdk_68_method_6_code (1 : Nat) (Option.some Jvm.ClassFile.FieldType.int), Jvm.Cond.code ({ cls := "java/lang/AbstractStringBuilder", name := "isLatin1", desc := "()Z" } : Jvm.MethodName) jdk_68_method_68_code (1 : Nat) (Option.some Jvm.ClassFile.FieldType.boolean), Jvm.Cond.code ({ cls := "java/util/Arrays", name := "copyOfRange", desc := "([BII)[B" } : Jvm.MethodName) jdk_65_method_132_code (3 : Nat) (Option.some (Jvm.ClassFile.FieldType.array Jvm.ClassFile.FieldType.byte)), Jvm.Cond.code ({ cls := "java/util/Arrays", name := "copyOfRangeByte", desc := "([BII)[B" } : Jvm.MethodName) jdk_65_method_133_code (5 : Nat) (Option.some (Jvm.ClassFile.FieldType.array Jvm.ClassFile.FieldType.byte)), Jvm.Cond.code ({ cls := "java/util/Arrays", name := "checkLength", desc := "(II)V" } : Jvm.MethodName) jdk_65_method_131_code (2 : Nat) (Option.none : Option Jvm.ClassFile.FieldType), Jvm.Cond.code ({ cls := "java/lang/Math", name := "min", desc := "(II)I" } : Jvm.MethodName) jdk_29_method_69_code (2 : Nat) (Option.some Jvm.ClassFile.FieldType.int), Jvm.Cond.code ({ cls := "java/lang/String", name := "<init>", desc := "([BB)V" } : Jvm.MethodName) jdk_42_method_151_code (3 : Nat) (Option.none : Option Jvm.ClassFile.FieldType)]
set_option maxRecDepth 65536 in
theorem codes_eq : words1.filter isCode = codes1 := rfl
theorem w_codes : ∀ c ∈ words1.filter isCode, c.before args0 about1 = true := by
  rw [codes_eq]
  intro c hc
  simp only [codes1, List.mem_cons, List.not_mem_nil, or_false] at hc
  rcases hc with rfl | rfl | rfl | rfl | rfl | rfl | rfl | rfl | rfl | rfl | rfl | rfl | rfl | rfl | rfl | rfl | rfl | rfl | rfl | rfl | rfl | rfl | rfl | rfl | rfl | rfl | rfl | rfl | rfl | rfl | rfl | rfl | rfl | rfl | rfl | rfl | rfl | rfl | rfl | rfl | rfl | rfl | rfl | rfl | rfl | rfl | rfl | rfl
  · exact w_c0
  · exact w_c1
  · exact w_c2
  · exact w_c3
  · exact w_c4
  · exact w_c5
  · exact w_c6
  · exact w_c7
  · exact w_c8
  · exact w_c9
  · exact w_c10
  · exact w_c11
  · exact w_c12
  · exact w_c13
  · exact w_c14
  · exact w_c15
  · exact w_c16
  · exact w_c17
  · exact w_c18
  · exact w_c19
  · exact w_c20
  · exact w_c21
  · exact w_c22
  · exact w_c23
  · exact w_c24
  · exact w_c25
  · exact w_c26
  · exact w_c27
  · exact w_c28
  · exact w_c29
  · exact w_c30
  · exact w_c31
  · exact w_c32
  · exact w_c33
  · exact w_c34
  · exact w_c35
  · exact w_c36
  · exact w_c37
  · exact w_c38
  · exact w_c39
  · exact w_c40
  · exact w_c41
  · exact w_c42
  · exact w_c43
  · exact w_c44
  · exact w_c45
  · exact w_c46
  · exact w_c47
set_option maxRecDepth 65536 in
theorem w_t1 : (words1.take 24).all (fun c => isCode c || c.before args0 about1) = true := by decide +kernel
set_option maxRecDepth 65536 in
theorem w_t2 : ((words1.drop 24).take 24).all (fun c => isCode c || c.before args0 about1) = true := by decide +kernel
set_option maxRecDepth 65536 in
theorem w_t3 : (((words1.drop 24).drop 24).take 24).all (fun c => isCode c || c.before args0 about1) = true := by decide +kernel
set_option maxRecDepth 65536 in
theorem w_t4 : ((((words1.drop 24).drop 24).drop 24).take 24).all (fun c => isCode c || c.before args0 about1) = true := by decide +kernel
set_option maxRecDepth 65536 in
theorem w_t5 : (((((words1.drop 24).drop 24).drop 24).drop 24).take 24).all (fun c => isCode c || c.before args0 about1) = true := by decide +kernel
set_option maxRecDepth 65536 in
theorem w_t6 : ((((((words1.drop 24).drop 24).drop 24).drop 24).drop 24).take 24).all (fun c => isCode c || c.before args0 about1) = true := by decide +kernel
set_option maxRecDepth 65536 in
theorem w_t7 : (((((((words1.drop 24).drop 24).drop 24).drop 24).drop 24).drop 24).take 24).all (fun c => isCode c || c.before args0 about1) = true := by decide +kernel
set_option maxRecDepth 65536 in
theorem w_t8 : ((((((((words1.drop 24).drop 24).drop 24).drop 24).drop 24).drop 24).drop 24).take 24).all (fun c => isCode c || c.before args0 about1) = true := by decide +kernel
set_option maxRecDepth 65536 in
theorem w_t9 : (((((((((words1.drop 24).drop 24).drop 24).drop 24).drop 24).drop 24).drop 24).drop 24).take 24).all (fun c => isCode c || c.before args0 about1) = true := by decide +kernel
set_option maxRecDepth 65536 in
theorem w_t10 : ((((((((((words1.drop 24).drop 24).drop 24).drop 24).drop 24).drop 24).drop 24).drop 24).drop 24).take 24).all (fun c => isCode c || c.before args0 about1) = true := by decide +kernel
set_option maxRecDepth 65536 in
theorem w_t11 : ((((((((((words1.drop 24).drop 24).drop 24).drop 24).drop 24).drop 24).drop 24).drop 24).drop 24).drop 24).all (fun c => isCode c || c.before args0 about1) = true := by decide +kernel
theorem w_tables : (allAtoms (Jvm.Cond.code x code maxLocals ret :: tables_1)).before args0 about1 = true := by
  rw [allAtoms_all]
  show words1.all (fun c => c.before args0 about1) = true
  refine all_split ?_ w_codes
  rw [← List.take_append_drop 24 words1, List.all_append, w_t1, ← List.take_append_drop 24 (words1.drop 24), List.all_append, w_t2, ← List.take_append_drop 24 ((words1.drop 24).drop 24), List.all_append, w_t3, ← List.take_append_drop 24 (((words1.drop 24).drop 24).drop 24), List.all_append, w_t4, ← List.take_append_drop 24 ((((words1.drop 24).drop 24).drop 24).drop 24), List.all_append, w_t5, ← List.take_append_drop 24 (((((words1.drop 24).drop 24).drop 24).drop 24).drop 24), List.all_append, w_t6, ← List.take_append_drop 24 ((((((words1.drop 24).drop 24).drop 24).drop 24).drop 24).drop 24), List.all_append, w_t7, ← List.take_append_drop 24 (((((((words1.drop 24).drop 24).drop 24).drop 24).drop 24).drop 24).drop 24), List.all_append, w_t8, ← List.take_append_drop 24 ((((((((words1.drop 24).drop 24).drop 24).drop 24).drop 24).drop 24).drop 24).drop 24), List.all_append, w_t9, ← List.take_append_drop 24 (((((((((words1.drop 24).drop 24).drop 24).drop 24).drop 24).drop 24).drop 24).drop 24).drop 24), List.all_append, w_t10, w_t11]
  rfl
set_option maxRecDepth 65536 in
theorem w_rest : rest_1_c.before args0 about1 = true := by decide +kernel
set_option maxRecDepth 65536 in
theorem w_case : (Jvm.Cond.and given_1 narrow_1).before args0 about1 = true := by decide +kernel
set_option maxRecDepth 65536 in
theorem w_consts : constsHeld consts_1 about1 := Jvm.Lit.constsHeldB_iff.mp (by decide +kernel)
theorem w_applies : (headSpec (Jvm.Cond.code x code maxLocals ret :: tables_1) room_1).applies x e0.platform about1 = true :=
  (Spec.applies_iff w_frames).mpr ⟨w_running, w_runnable, w_alone, w_named, w_hears, w_ripe, w_room, w_tables⟩
theorem atStart : AtStart classFile x code maxLocals ret World_1 tables_1 room_1 Calls_1 rest_1 Pre_1 launch0 p0 e0 about1 theMethod args0 below0 :=
  ⟨lists_1, trivial, launch0.admits_env _ _ _, launch0.least_env, fairChoices_fair.cas, fairChoices_fair.clock, w_frames, w_args, w_heap, w_applies, ⟨w_consts, trivial⟩, w_rest, w_case⟩
end start1
theorem witness_1 : WitnessClaimed_1 := ⟨start1.p0, start1.e0, start1.about1, start1.theMethod, start1.args0, start1.below0, start1.atStart⟩
end Jvm.Pilot.@@N@@
