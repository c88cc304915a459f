import JvmDerived
import JvmDerived.Pilot.@@N@@Statement
import JvmDerived.Pilot.@@N@@Code
set_option linter.unusedVariables false
set_option linter.unusedSimpArgs false
namespace Jvm.OwnKit
open Sem ClassFile Op Lib Jvm.Stand Jvm.Free Jvm.LawKit Jvm.RoadKit
/-! ## own kit: a body's walk as 'what is left to run' (Go), contracts (Ct), the known cells (Hp) -/
/-- the tables over which the walk stands: the start's own, or (wd: it may have interned strings) re-based ones -/
def Bse (wd : Bool) (s : State) (vm : Vm) (N : Nat) : Prop := match wd with | false => vm = s.vm | true => s.Since vm N
/-- the frame that is promised at the end -/
def FrE (wd : Bool) (s : State) (o : Outcome) (t : State) (L : List Loc) (k n : Nat) : Prop := match wd with | false => FrameEnd s o t L k n | true => ReturnedEndW s o t L k n
/-- from frame g over heap h the body goes to its end, and its end is as Q says -/
def Go (wd : Bool) (p : Program) (l : Launch) (e : Env) (R : Room) (Z s : State) (m : MethodId) (args : Array Value) (below : List Frame) (meth : Method) (c : Code) (Q : Option Value → Heap → Prop) (h : Heap) (k n : Nat) (g : JFrame) : Prop :=
  ∀ (vm : Vm) (T : State) (L : List Loc), Fr Z.heap.size L → Bse wd s vm h.size → Stand p l e R (s.setVm vm) m args below meth c T L k n → T.heap = h →
    ∃ u o, Steps p.tables e below (T.setTop g) u ∧ u.status = .running ∧ Ended u below o ∧ ∃ v L', o = .returned v ∧ (Q v u.heap ∧ Fr Z.heap.size L') ∧ FrE wd s o u L' R.cells R.slots
/-- what a body's walk knows throughout -/
def Cx (p : Program) (Z s : State) (m : MethodId) (meth : Method) (c : Code) (own nm : String) (code : ByteArray) (ml : Nat) (ret : Option FieldType) : Prop :=
  p.tables.exec = Jvm.exec ∧ Z.Warmed39 s.vm ∧ s.vm.findClass own = some m.cls ∧ c.code = code ∧ c.maxLocals = ml ∧ meth.sig.returnType = ret ∧ meth.locks = false ∧ meth.name = nm
/-- a body's contract: called with 'as' over heap h it returns as Q says -/
def Ct (wd : Bool) (l : Launch) (Z : State) (y : MethodName) (code : ByteArray) (ml : Nat) (ret : Option FieldType) (rm : Room) (as : Array Value) (h : Heap) (Q : Option Value → Heap → Prop) : Prop :=
  ∀ ws : List Jvm.Cond, MetFree l y (head1 (Jvm.Cond.code y code ml ret :: ws) rm) (fun a U => a = as ∧ Z.Warmed39 U.vm ∧ U.heap = h) (fun _ _ _ _ _ => True) (fun _ U o U' => ∃ v L, o = .returned v ∧ (Q v U'.heap ∧ Fr Z.heap.size L) ∧ FrE wd U o U' L rm.cells rm.slots)
def rvQ (Q : Value → Heap → Prop) : Option Value → Heap → Prop := fun o h => ∃ v, o = some v ∧ Q v h
def r0Q (Q : Heap → Prop) : Option Value → Heap → Prop := fun o h => o = none ∧ Q h
/-- the instruction at pc, and the pc behind it -/
def D1 (code : ByteArray) (pc : Nat) (i : Instr) (len pc' : Nat) : Prop := decode code pc = .ok (i, len) ∧ pc + len = pc'
section Steps
variable {wd : Bool} {p : Program} {l : Launch} {e : Env} {R : Room} {Z s : State} {m : MethodId} {args : Array Value} {below : List Frame} {meth : Method} {c : Code} {Q : Option Value → Heap → Prop} {h : Heap} {k n : Nat} {own nm : String} {code : ByteArray} {ml : Nat} {ret : Option FieldType} {a0 : Array Value}
variable {pc pc' : Nat} {Ls : Array Slot} {st : List Value}
theorem Bse.start (s : State) (N : Nat) : Bse wd s s.vm N := by
  cases wd
  · exact rfl
  · exact (State.WarmedH.refl s).since N
theorem Bse.mono {vm : Vm} {N N' : Nat} (B : Bse wd s vm N) (q : N ≤ N') : Bse wd s vm N' := by
  cases wd
  · exact B
  · exact ⟨B.1, fun j p hj hp => by obtain ⟨x, y⟩ := B.2 j p hj hp; exact ⟨x, Nat.lt_of_lt_of_le y q⟩⟩
theorem Bse.wide {vm : Vm} {N : Nat} (B : Bse wd s vm N) : s.Warmed39 vm := by
  cases wd
  · rw [show vm = s.vm from B]; exact State.Warmed39.refl s
  · exact B.1
theorem Cx.re {vm : Vm} {N : Nat} (X : Cx p Z s m meth c own nm code ml ret) (B : Bse wd s vm N) : Cx p Z (s.setVm vm) m meth c own nm code ml ret :=
  ⟨X.1, State.Warmed39.trans X.2.1 B.wide, by rw [show (s.setVm vm).vm = vm from rfl, B.wide.alike.findClass]; exact X.2.2.1, X.2.2.2⟩
theorem Bse.ended {vm : Vm} {N : Nat} (B : Bse wd s vm N) {U : State} {o : Outcome} {L : List Loc} {k n k' n' : Nat} (hr : ∃ v, o = .returned v) (hW : (s.setVm vm).WarmedH U.vm) (hn : N ≤ U.heap.size) (hs : (s.setVm vm).sameButNew ({ U with vm := vm } : State) L k n) (hk : k ≤ k') (hl : n ≤ n') : FrE wd s o U L k' n' := by
  cases wd
  · obtain rfl : vm = s.vm := B
    exact ⟨hr, hW, hs.mono hk hl⟩
  · obtain ⟨q1, q2, q3⟩ := State.Since.ended B hW hn hs
    exact ⟨hr, q1, q2, q3.mono hk hl⟩
theorem Ct.intro {y : MethodName} {rm : Room} {as : Array Value} (hp : plainFor y = true)
    (B : ∀ (p : Program) e s m below meth c, Cx p Z s m meth c y.cls y.name code ml ret → Go wd p l e rm Z s m as below meth c Q h 0 0 (entryFrame m as ml)) : Ct wd l Z y code ml ret rm as h Q := by
  intro ws
  refine MetFree.of_bodySF hp hisR ?_
  intro p e s m args below meth c s₁ Bd hml hP hK
  obtain ⟨rfl, hZ, hh⟩ := hP
  have X0 : Stand p l e rm s m args below meth c s₁ [] 0 0 := Stand.of_body Bd
  have e0 : s₁.heap = h := by rw [← hh, Bd.state]; rfl
  exact B p e s m below meth c ⟨Bd.exec, hZ, findClass_of_methodNamed Bd.named, Bd.bytes, hml, Bd.returns, Bd.notSynchronized, (name_of_methodNamed Bd.named Bd.method).1⟩ s.vm s₁ [] (Fr.nil _) (Bse.start s _) X0 e0
theorem Go.to {g g' : JFrame} (K : Go wd p l e R Z s m args below meth c Q h k n g') (X : Cx p Z s m meth c own nm code ml ret) (f : ∀ s, Cx p Z s m meth c own nm code ml ret → ∀ T L, Stand p l e R s m args below meth c T L k n → ∀ target, Steps p.tables e below (T.setTop g') target → Steps p.tables e below (T.setTop g) target) : Go wd p l e R Z s m args below meth c Q h k n g := by
  intro vm T L F B S eh
  obtain ⟨u, o, st, r⟩ := K vm T L F B S eh
  exact ⟨u, o, f _ (X.re B) T L S u st, r⟩
theorem Go.cast {g g' : JFrame} (q : g = g') (K : Go wd p l e R Z s m args below meth c Q h k n g') : Go wd p l e R Z s m args below meth c Q h k n g := q ▸ K
/-! ### plain steps -/
theorem Go.iloadN (X : Cx p Z s m meth c own nm code ml ret) {i : Fin 4} {v : Int32} (D : D1 code pc (.iload_n i) 1 pc') (hl : Ls[i.val]? = some (.val (.int v))) (K : Go wd p l e R Z s m args below meth c Q h k n (mkF m pc' Ls (.int v :: st))) : Go wd p l e R Z s m args below meth c Q h k n (mkF m pc Ls st) := by
  obtain ⟨d, rfl⟩ := D
  exact K.to X fun s X T L S t r => XS.iloadN S.here X.1 rfl (hb X.2.2.2.1 d) hl r
theorem Go.iload (X : Cx p Z s m meth c own nm code ml ret) {i : Nat} {v : Int32} (D : D1 code pc (.iload i) 2 pc') (hl : Ls[i]? = some (.val (.int v))) (K : Go wd p l e R Z s m args below meth c Q h k n (mkF m pc' Ls (.int v :: st))) : Go wd p l e R Z s m args below meth c Q h k n (mkF m pc Ls st) := by
  obtain ⟨d, rfl⟩ := D
  exact K.to X fun s X T L S t r => XS.iload S.here X.1 rfl (hb X.2.2.2.1 d) hl r
theorem Go.aloadN (X : Cx p Z s m meth c own nm code ml ret) {i : Fin 4} {v : Value} (D : D1 code pc (.aload_n i) 1 pc') (hl : Ls[i.val]? = some (.val v)) (hv : v.isRef = true) (K : Go wd p l e R Z s m args below meth c Q h k n (mkF m pc' Ls (v :: st))) : Go wd p l e R Z s m args below meth c Q h k n (mkF m pc Ls st) := by
  obtain ⟨d, rfl⟩ := D
  exact K.to X fun s X T L S t r => XS.aloadN S.here X.1 rfl (hb X.2.2.2.1 d) hl hv r
theorem Go.aload (X : Cx p Z s m meth c own nm code ml ret) {i : Nat} {v : Value} (D : D1 code pc (.aload i) 2 pc') (hl : Ls[i]? = some (.val v)) (hv : v.isRef = true) (K : Go wd p l e R Z s m args below meth c Q h k n (mkF m pc' Ls (v :: st))) : Go wd p l e R Z s m args below meth c Q h k n (mkF m pc Ls st) := by
  obtain ⟨d, rfl⟩ := D
  exact K.to X fun s X T L S t r => XS.aload S.here X.1 rfl (hb X.2.2.2.1 d) hl hv r
theorem Go.iconst (X : Cx p Z s m meth c own nm code ml ret) {i : Int} {v : Int32} (D : D1 code pc (.iconst i) 1 pc') (hv : Int32.ofInt i = v) (K : Go wd p l e R Z s m args below meth c Q h k n (mkF m pc' Ls (.int v :: st))) : Go wd p l e R Z s m args below meth c Q h k n (mkF m pc Ls st) := by
  obtain ⟨d, rfl⟩ := D; subst hv
  exact K.to X fun s X T L S t r => XS.iconst S.here X.1 rfl (hb X.2.2.2.1 d) r
theorem Go.bipush (X : Cx p Z s m meth c own nm code ml ret) {i : Int} {v : Int32} (D : D1 code pc (.bipush i) 2 pc') (hv : (Int8.ofInt i).toInt32 = v) (K : Go wd p l e R Z s m args below meth c Q h k n (mkF m pc' Ls (.int v :: st))) : Go wd p l e R Z s m args below meth c Q h k n (mkF m pc Ls st) := by
  obtain ⟨d, rfl⟩ := D; subst hv
  exact K.to X fun s X T L S t r => XS.bipush S.here X.1 rfl (hb X.2.2.2.1 d) r
theorem Go.sipush (X : Cx p Z s m meth c own nm code ml ret) {i : Int} {v : Int32} (D : D1 code pc (.sipush i) 3 pc') (hv : (Int16.ofInt i).toInt32 = v) (K : Go wd p l e R Z s m args below meth c Q h k n (mkF m pc' Ls (.int v :: st))) : Go wd p l e R Z s m args below meth c Q h k n (mkF m pc Ls st) := by
  obtain ⟨d, rfl⟩ := D; subst hv
  exact K.to X fun s X T L S t r => XS.sipush S.here X.1 rfl (hb X.2.2.2.1 d) r
theorem Go.ldcI (X : Cx p Z s m meth c own nm code ml ret) {i : Nat} {v : Int32} (w : (Cond.constant own i v).before a0 Z = true) (D : D1 code pc (.ldc i) 2 pc') (K : Go wd p l e R Z s m args below meth c Q h k n (mkF m pc' Ls (.int v :: st))) : Go wd p l e R Z s m args below meth c Q h k n (mkF m pc Ls st) := by
  obtain ⟨d, rfl⟩ := D
  exact K.to X fun s X T L S t r => S.ldcI X.1 X.2.2.1 (mv X.2.1 w) rfl (hb X.2.2.2.1 d) r
theorem Go.aconstNull (X : Cx p Z s m meth c own nm code ml ret) (D : D1 code pc .aconst_null 1 pc') (K : Go wd p l e R Z s m args below meth c Q h k n (mkF m pc' Ls (.null :: st))) : Go wd p l e R Z s m args below meth c Q h k n (mkF m pc Ls st) := by
  obtain ⟨d, rfl⟩ := D
  exact K.to X fun s X T L S t r => XS.aconstNull S.here X.1 rfl (hb X.2.2.2.1 d) r
theorem Go.istoreN (X : Cx p Z s m meth c own nm code ml ret) {i : Fin 4} {x : Int32} {L' : Array Slot} (D : D1 code pc (.istore_n i) 1 pc') (hl : storeLocals Ls i.val (.int x) = some L') (K : Go wd p l e R Z s m args below meth c Q h k n (mkF m pc' L' st)) : Go wd p l e R Z s m args below meth c Q h k n (mkF m pc Ls (.int x :: st)) := by
  obtain ⟨d, rfl⟩ := D
  exact K.to X fun s X T L S t r => XS.istoreN S.here X.1 rfl (hb X.2.2.2.1 d) rfl hl r
theorem Go.istore (X : Cx p Z s m meth c own nm code ml ret) {i : Nat} {x : Int32} {L' : Array Slot} (D : D1 code pc (.istore i) 2 pc') (hl : storeLocals Ls i (.int x) = some L') (K : Go wd p l e R Z s m args below meth c Q h k n (mkF m pc' L' st)) : Go wd p l e R Z s m args below meth c Q h k n (mkF m pc Ls (.int x :: st)) := by
  obtain ⟨d, rfl⟩ := D
  exact K.to X fun s X T L S t r => XS.istore S.here X.1 rfl (hb X.2.2.2.1 d) rfl hl r
theorem Go.astoreN (X : Cx p Z s m meth c own nm code ml ret) {i : Fin 4} {x : Value} {L' : Array Slot} (D : D1 code pc (.astore_n i) 1 pc') (hv : x.isRef = true) (hl : storeLocals Ls i.val x = some L') (K : Go wd p l e R Z s m args below meth c Q h k n (mkF m pc' L' st)) : Go wd p l e R Z s m args below meth c Q h k n (mkF m pc Ls (x :: st)) := by
  obtain ⟨d, rfl⟩ := D
  exact K.to X fun s X T L S t r => XS.astoreN S.here X.1 rfl (hb X.2.2.2.1 d) rfl hv hl r
theorem Go.astore (X : Cx p Z s m meth c own nm code ml ret) {i : Nat} {x : Value} {L' : Array Slot} (D : D1 code pc (.astore i) 2 pc') (hv : x.isRef = true) (hl : storeLocals Ls i x = some L') (K : Go wd p l e R Z s m args below meth c Q h k n (mkF m pc' L' st)) : Go wd p l e R Z s m args below meth c Q h k n (mkF m pc Ls (x :: st)) := by
  obtain ⟨d, rfl⟩ := D
  exact K.to X fun s X T L S t r => XS.astore S.here X.1 rfl (hb X.2.2.2.1 d) rfl hv hl r
theorem Go.iinc (X : Cx p Z s m meth c own nm code ml ret) {i : Nat} {cst : Int} {x : Int32} {L' : Array Slot} (D : D1 code pc (.iinc i cst) 3 pc') (hl : Ls[i]? = some (.val (.int x))) (hl' : storeLocals Ls i (.int (x + Int32.ofInt cst)) = some L') (K : Go wd p l e R Z s m args below meth c Q h k n (mkF m pc' L' st)) : Go wd p l e R Z s m args below meth c Q h k n (mkF m pc Ls st) := by
  obtain ⟨d, rfl⟩ := D
  exact K.to X fun s X T L S t r => XS.iinc S.here X.1 rfl (hb X.2.2.2.1 d) hl hl' r
theorem Go.dup (X : Cx p Z s m meth c own nm code ml ret) {x : Value} (D : D1 code pc .dup 1 pc') (hc : x.category = 1) (K : Go wd p l e R Z s m args below meth c Q h k n (mkF m pc' Ls (x :: x :: st))) : Go wd p l e R Z s m args below meth c Q h k n (mkF m pc Ls (x :: st)) := by
  obtain ⟨d, rfl⟩ := D
  exact K.to X fun s X T L S t r => XS.dup S.here X.1 rfl (hb X.2.2.2.1 d) rfl hc r
theorem Go.dupX1 (X : Cx p Z s m meth c own nm code ml ret) {x y : Value} (D : D1 code pc .dup_x1 1 pc') (hc : x.category = 1) (hc' : y.category = 1) (K : Go wd p l e R Z s m args below meth c Q h k n (mkF m pc' Ls (x :: y :: x :: st))) : Go wd p l e R Z s m args below meth c Q h k n (mkF m pc Ls (x :: y :: st)) := by
  obtain ⟨d, rfl⟩ := D
  exact K.to X fun s X T L S t r => XT.dupX1 S.here X.1 rfl (hb X.2.2.2.1 d) rfl hc hc' r
theorem Go.dup2 (X : Cx p Z s m meth c own nm code ml ret) {x y : Value} (D : D1 code pc .dup2 1 pc') (hc : x.category = 1) (hc' : y.category = 1) (K : Go wd p l e R Z s m args below meth c Q h k n (mkF m pc' Ls (x :: y :: x :: y :: st))) : Go wd p l e R Z s m args below meth c Q h k n (mkF m pc Ls (x :: y :: st)) := by
  obtain ⟨d, rfl⟩ := D
  exact K.to X fun s X T L S t r => XT.dup2 S.here X.1 rfl (hb X.2.2.2.1 d) rfl hc hc' r
theorem Go.pop (X : Cx p Z s m meth c own nm code ml ret) {x : Value} (D : D1 code pc .pop 1 pc') (hc : x.category = 1) (K : Go wd p l e R Z s m args below meth c Q h k n (mkF m pc' Ls st)) : Go wd p l e R Z s m args below meth c Q h k n (mkF m pc Ls (x :: st)) := by
  obtain ⟨d, rfl⟩ := D
  exact K.to X fun s X T L S t r => XT.pop S.here X.1 rfl (hb X.2.2.2.1 d) rfl hc r
theorem Go.iadd (X : Cx p Z s m meth c own nm code ml ret) {x y : Int32} (D : D1 code pc .iadd 1 pc') (K : Go wd p l e R Z s m args below meth c Q h k n (mkF m pc' Ls (.int (x + y) :: st))) : Go wd p l e R Z s m args below meth c Q h k n (mkF m pc Ls (.int y :: .int x :: st)) := by
  obtain ⟨d, rfl⟩ := D
  exact K.to X fun s X T L S t r => XS.iadd S.here X.1 rfl (hb X.2.2.2.1 d) rfl r
theorem Go.isub (X : Cx p Z s m meth c own nm code ml ret) {x y : Int32} (D : D1 code pc .isub 1 pc') (K : Go wd p l e R Z s m args below meth c Q h k n (mkF m pc' Ls (.int (x - y) :: st))) : Go wd p l e R Z s m args below meth c Q h k n (mkF m pc Ls (.int y :: .int x :: st)) := by
  obtain ⟨d, rfl⟩ := D
  exact K.to X fun s X T L S t r => XS.isub S.here X.1 rfl (hb X.2.2.2.1 d) rfl r
theorem Go.imul (X : Cx p Z s m meth c own nm code ml ret) {x y : Int32} (D : D1 code pc .imul 1 pc') (K : Go wd p l e R Z s m args below meth c Q h k n (mkF m pc' Ls (.int (x * y) :: st))) : Go wd p l e R Z s m args below meth c Q h k n (mkF m pc Ls (.int y :: .int x :: st)) := by
  obtain ⟨d, rfl⟩ := D
  exact K.to X fun s X T L S t r => XS.imul S.here X.1 rfl (hb X.2.2.2.1 d) rfl r
theorem Go.iand (X : Cx p Z s m meth c own nm code ml ret) {x y : Int32} (D : D1 code pc .iand 1 pc') (K : Go wd p l e R Z s m args below meth c Q h k n (mkF m pc' Ls (.int (x &&& y) :: st))) : Go wd p l e R Z s m args below meth c Q h k n (mkF m pc Ls (.int y :: .int x :: st)) := by
  obtain ⟨d, rfl⟩ := D
  exact K.to X fun s X T L S t r => XS.iand S.here X.1 rfl (hb X.2.2.2.1 d) rfl r
theorem Go.ior (X : Cx p Z s m meth c own nm code ml ret) {x y : Int32} (D : D1 code pc .ior 1 pc') (K : Go wd p l e R Z s m args below meth c Q h k n (mkF m pc' Ls (.int (x ||| y) :: st))) : Go wd p l e R Z s m args below meth c Q h k n (mkF m pc Ls (.int y :: .int x :: st)) := by
  obtain ⟨d, rfl⟩ := D
  exact K.to X fun s X T L S t r => XT.ior S.here X.1 rfl (hb X.2.2.2.1 d) rfl r
theorem Go.ixor (X : Cx p Z s m meth c own nm code ml ret) {x y : Int32} (D : D1 code pc .ixor 1 pc') (K : Go wd p l e R Z s m args below meth c Q h k n (mkF m pc' Ls (.int (x ^^^ y) :: st))) : Go wd p l e R Z s m args below meth c Q h k n (mkF m pc Ls (.int y :: .int x :: st)) := by
  obtain ⟨d, rfl⟩ := D
  exact K.to X fun s X T L S t r => XT.ixor S.here X.1 rfl (hb X.2.2.2.1 d) rfl r
theorem Go.irem (X : Cx p Z s m meth c own nm code ml ret) {x y : Int32} (D : D1 code pc .irem 1 pc') (hy : y ≠ 0) (K : Go wd p l e R Z s m args below meth c Q h k n (mkF m pc' Ls (.int (x % y) :: st))) : Go wd p l e R Z s m args below meth c Q h k n (mkF m pc Ls (.int y :: .int x :: st)) := by
  obtain ⟨d, rfl⟩ := D
  exact K.to X fun s X T L S t r => iremM S X.1 rfl (hb X.2.2.2.1 d) rfl hy r
theorem Go.goto (X : Cx p Z s m meth c own nm code ml ret) {o : Int} {pt : Nat} (D : D1 code pc (.goto o) 3 pc') (ho : 0 ≤ (pc : Int) + o ∧ ((pc : Int) + o).toNat = pt) (K : Go wd p l e R Z s m args below meth c Q h k n (mkF m pt Ls st)) : Go wd p l e R Z s m args below meth c Q h k n (mkF m pc Ls st) := by
  obtain ⟨d, rfl⟩ := D
  exact K.to X fun s X T L S t r => XS.goto S.here X.1 rfl rfl (hb X.2.2.2.1 d) ho.1 ho.2 r
/-! ### branches -/
def ccP (cd : ClassFile.Cond) (x y : Int32) : Prop := match cd with
  | .eq => x = y | .ne => x ≠ y | .lt => x < y | .ge => y ≤ x | .gt => y < x | .le => x ≤ y
theorem cc_icmp (cd : ClassFile.Cond) (x y : Int32) : if_icmp.holds cd x y = true ↔ ccP cd x y := by cases cd <;> simp [if_icmp.holds, ccP]
theorem cc_if (cd : ClassFile.Cond) (x : Int32) : ifCond.holds cd x = true ↔ ccP cd x 0 := by cases cd <;> simp [ifCond.holds, ccP]
def ccI (cd : ClassFile.Cond) (x y : Int) : Prop := match cd with
  | .eq => x = y | .ne => x ≠ y | .lt => x < y | .ge => y ≤ x | .gt => y < x | .le => x ≤ y
theorem cc_int (cd : ClassFile.Cond) (x y : Int32) : ccP cd x y ↔ ccI cd x.toInt y.toInt := by cases cd <;> simp only [ccP, ccI, Int32.lt_iff_toInt_lt, Int32.le_iff_toInt_le, ne_eq, Int32.toInt_inj]
theorem ccL {cd : ClassFile.Cond} {x y : Int32} {a b : Int} (q : ccP cd x y) (hx : x.toInt = a) (hy : y.toInt = b) : ccI cd a b := by subst hx hy; exact (cc_int cd x y).mp q
theorem ccN {cd : ClassFile.Cond} {x y : Int32} {a b : Int} (q : ¬ ccP cd x y) (hx : x.toInt = a) (hy : y.toInt = b) : ¬ ccI cd a b := by subst hx hy; exact fun r => q ((cc_int cd x y).mpr r)
theorem ite_0 {P : Prop} [Decidable P] (q : ccP .eq (if P then 1 else 0 : Int32) 0) : ¬ P := fun r => by rw [if_pos r] at q; exact absurd q (by show ¬ (1 : Int32) = 0; decide)
theorem ite_n0 {P : Prop} [Decidable P] (q : ¬ ccP .eq (if P then 1 else 0 : Int32) 0) : P := Decidable.byContradiction fun r => q (by rw [if_neg r]; rfl)
theorem ite_1 {P : Prop} [Decidable P] (q : ccP .ne (if P then 1 else 0 : Int32) 0) : P := Decidable.byContradiction fun r => q (by rw [if_neg r])
theorem ite_n1 {P : Prop} [Decidable P] (q : ¬ ccP .ne (if P then 1 else 0 : Int32) 0) : ¬ P := fun r => q (by rw [if_pos r]; show (1 : Int32) ≠ 0; decide)
theorem ite_01 {P : Prop} [Decidable P] : (if P then 1 else 0 : Int32) = 0 ∨ (if P then 1 else 0 : Int32) = 1 := by by_cases q : P <;> simp [q]
theorem nat32 {i : Nat} (q : i < 2 ^ 31) : (Int32.ofNat i).toInt = i ∧ ¬ Int32.ofNat i < 0 ∧ (Int32.ofNat i).toNatClampNeg = i := by
  have e : (Int32.ofNat i).toInt = i := Int32.toInt_ofNat_small q
  refine ⟨e, ?_, ?_⟩
  · rw [Int32.lt_iff_toInt_lt, e, show (0 : Int32).toInt = 0 from rfl]; omega
  · simp only [Int32.toNatClampNeg, e]; rfl
theorem Go.icmp (X : Cx p Z s m meth c own nm code ml ret) {cd : ClassFile.Cond} {o : Int} {pt : Nat} {x y : Int32} (D : D1 code pc (.if_icmp cd o) 3 pc') (ho : 0 ≤ (pc : Int) + o ∧ ((pc : Int) + o).toNat = pt) (K1 : ccP cd x y → Go wd p l e R Z s m args below meth c Q h k n (mkF m pt Ls st)) (K2 : ¬ ccP cd x y → Go wd p l e R Z s m args below meth c Q h k n (mkF m pc' Ls st)) : Go wd p l e R Z s m args below meth c Q h k n (mkF m pc Ls (.int y :: .int x :: st)) := by
  obtain ⟨d, rfl⟩ := D
  cases hq : if_icmp.holds cd x y
  · exact (K2 fun q => by rw [(cc_icmp cd x y).mpr q] at hq; cases hq).to X fun s X T L S t r => XS.icmpNo S.here X.1 rfl (hb X.2.2.2.1 d) rfl hq r
  · exact (K1 ((cc_icmp cd x y).mp hq)).to X fun s X T L S t r => XS.icmpYes S.here X.1 rfl rfl (hb X.2.2.2.1 d) rfl hq ho.1 ho.2 r
theorem Go.ifc (X : Cx p Z s m meth c own nm code ml ret) {cd : ClassFile.Cond} {o : Int} {pt : Nat} {x : Int32} (D : D1 code pc (.ifCond cd o) 3 pc') (ho : 0 ≤ (pc : Int) + o ∧ ((pc : Int) + o).toNat = pt) (K1 : ccP cd x 0 → Go wd p l e R Z s m args below meth c Q h k n (mkF m pt Ls st)) (K2 : ¬ ccP cd x 0 → Go wd p l e R Z s m args below meth c Q h k n (mkF m pc' Ls st)) : Go wd p l e R Z s m args below meth c Q h k n (mkF m pc Ls (.int x :: st)) := by
  obtain ⟨d, rfl⟩ := D
  cases hq : ifCond.holds cd x
  · exact (K2 fun q => by rw [(cc_if cd x).mpr q] at hq; cases hq).to X fun s X T L S t r => XS.ifNo S.here X.1 rfl (hb X.2.2.2.1 d) rfl hq r
  · exact (K1 ((cc_if cd x).mp hq)).to X fun s X T L S t r => XS.ifYes S.here X.1 rfl rfl (hb X.2.2.2.1 d) rfl hq ho.1 ho.2 r
theorem Go.ifnullY (X : Cx p Z s m meth c own nm code ml ret) {o : Int} {pt : Nat} (D : D1 code pc (.ifnull o) 3 pc') (ho : 0 ≤ (pc : Int) + o ∧ ((pc : Int) + o).toNat = pt) (K : Go wd p l e R Z s m args below meth c Q h k n (mkF m pt Ls st)) : Go wd p l e R Z s m args below meth c Q h k n (mkF m pc Ls (.null :: st)) := by
  obtain ⟨d, rfl⟩ := D
  exact K.to X fun s X T L S t r => XS.ifnullYes S.here X.1 rfl rfl (hb X.2.2.2.1 d) rfl ho.1 ho.2 r
theorem Go.ifnullN (X : Cx p Z s m meth c own nm code ml ret) {o : Int} {b : Addr} (D : D1 code pc (.ifnull o) 3 pc') (K : Go wd p l e R Z s m args below meth c Q h k n (mkF m pc' Ls st)) : Go wd p l e R Z s m args below meth c Q h k n (mkF m pc Ls (.ref b :: st)) := by
  obtain ⟨d, rfl⟩ := D
  exact K.to X fun s X T L S t r => XS.ifnullNo S.here X.1 rfl (hb X.2.2.2.1 d) rfl r
theorem Go.ifnonnullY (X : Cx p Z s m meth c own nm code ml ret) {o : Int} {pt : Nat} {b : Addr} (D : D1 code pc (.ifnonnull o) 3 pc') (ho : 0 ≤ (pc : Int) + o ∧ ((pc : Int) + o).toNat = pt) (K : Go wd p l e R Z s m args below meth c Q h k n (mkF m pt Ls st)) : Go wd p l e R Z s m args below meth c Q h k n (mkF m pc Ls (.ref b :: st)) := by
  obtain ⟨d, rfl⟩ := D
  exact K.to X fun s X T L S t r => XT.ifnonnullYes S.here X.1 rfl rfl (hb X.2.2.2.1 d) rfl ho.1 ho.2 r
theorem Go.ifnonnullN (X : Cx p Z s m meth c own nm code ml ret) {o : Int} (D : D1 code pc (.ifnonnull o) 3 pc') (K : Go wd p l e R Z s m args below meth c Q h k n (mkF m pc' Ls st)) : Go wd p l e R Z s m args below meth c Q h k n (mkF m pc Ls (.null :: st)) := by
  obtain ⟨d, rfl⟩ := D
  exact K.to X fun s X T L S t r => XT.ifnonnullNo S.here X.1 rfl (hb X.2.2.2.1 d) rfl r
def acP (cd : ACond) (x y : Value) : Prop := match cd with | .eq => x = y | .ne => x ≠ y
theorem ac_iff (cd : ACond) (x y : Value) : acV cd (decide (x = y)) = true ↔ acP cd x y := by cases cd <;> simp [acV, acP]
theorem Go.acmp (X : Cx p Z s m meth c own nm code ml ret) {cd : ACond} {o : Int} {pt : Nat} {x y : Value} (D : D1 code pc (.if_acmp cd o) 3 pc') (ho : 0 ≤ (pc : Int) + o ∧ ((pc : Int) + o).toNat = pt) (hx : x.isRef = true) (hy : y.isRef = true) (K1 : acP cd x y → Go wd p l e R Z s m args below meth c Q h k n (mkF m pt Ls st)) (K2 : ¬ acP cd x y → Go wd p l e R Z s m args below meth c Q h k n (mkF m pc' Ls st)) : Go wd p l e R Z s m args below meth c Q h k n (mkF m pc Ls (y :: x :: st)) := by
  obtain ⟨d, rfl⟩ := D
  cases hq : acV cd (decide (x = y))
  · exact (K2 fun q => by rw [(ac_iff cd x y).mpr q] at hq; cases hq).to X fun s X T L S t r => RoadKit.acmp S X.1 rfl hx hy rfl (hb X.2.2.2.1 d) rfl rfl ho.1 (by rw [hq]; rfl) r
  · exact (K1 ((ac_iff cd x y).mp hq)).to X fun s X T L S t r => RoadKit.acmp S X.1 rfl hx hy rfl (hb X.2.2.2.1 d) rfl rfl ho.1 (by rw [hq]; exact ho.2.symm) r
theorem Go.lswY (X : Cx p Z s m meth c own nm code ml ret) {dflt : Int} {pairs : Array (Int × Int)} {len : Nat} {x : Int32} {a off : Int} {pt : Nat} (D : D1 code pc (.lookupswitch dflt pairs) len pc') (hs : (pairs.toList.zip (pairs.toList.drop 1)).all (fun (a, next) => a.1 < next.1) = true) (hf : pairs.find? (·.1 == x.toInt) = some (a, off)) (ho : 0 ≤ (pc : Int) + off ∧ ((pc : Int) + off).toNat = pt) (K : Go wd p l e R Z s m args below meth c Q h k n (mkF m pt Ls st)) : Go wd p l e R Z s m args below meth c Q h k n (mkF m pc Ls (.int x :: st)) := by
  obtain ⟨d, rfl⟩ := D
  exact K.to X fun s X T L S t r => S.lookupswitchHit X.1 (g := mkF m pc Ls (.int x :: st)) rfl rfl (hb X.2.2.2.1 d) hs hf ho.1 t (by show Steps _ _ _ (T.setTop (mkF m ((pc : Int) + off).toNat Ls st)) _; rw [ho.2]; exact r)
theorem Go.lswN (X : Cx p Z s m meth c own nm code ml ret) {dflt : Int} {pairs : Array (Int × Int)} {len : Nat} {x : Int32} {pt : Nat} (D : D1 code pc (.lookupswitch dflt pairs) len pc') (hs : (pairs.toList.zip (pairs.toList.drop 1)).all (fun (a, next) => a.1 < next.1) = true) (hf : pairs.find? (·.1 == x.toInt) = none) (ho : 0 ≤ (pc : Int) + dflt ∧ ((pc : Int) + dflt).toNat = pt) (K : Go wd p l e R Z s m args below meth c Q h k n (mkF m pt Ls st)) : Go wd p l e R Z s m args below meth c Q h k n (mkF m pc Ls (.int x :: st)) := by
  obtain ⟨d, rfl⟩ := D
  exact K.to X fun s X T L S t r => S.lookupswitchMiss X.1 (g := mkF m pc Ls (.int x :: st)) rfl rfl (hb X.2.2.2.1 d) hs hf ho.1 t (by show Steps _ _ _ (T.setTop (mkF m ((pc : Int) + dflt).toNat Ls st)) _; rw [ho.2]; exact r)
/-! ### returns -/
theorem Go.retw {t : FieldType} (X : Cx p Z s m meth c own nm code ml (some t)) {i : Instr} {w : Value} {Qv : Value → Heap → Prop} (hn : narrow t w = w)
    (hi : (i = .ireturn ∧ (t = .int ∨ t = .boolean ∨ t = .byte ∨ t = .char ∨ t = .short) ∧ ∃ z, w = .int z) ∨ (i = .lreturn ∧ t = .long ∧ ∃ z, w = .long z) ∨ (i = .dreturn ∧ t = .double ∧ ∃ z, w = .double z) ∨ (i = .freturn ∧ t = .float ∧ ∃ z, w = .float z) ∨ (i = .areturn ∧ t.isReference = true ∧ w.isRef = true))
    (D : D1 code pc i 1 pc') (hk : k ≤ R.cells) (hs : n ≤ R.slots) (q : Qv w h) : Go wd p l e R Z s m args below meth c (rvQ Qv) h k n (mkF m pc Ls (w :: st)) := by
  intro vm T L F B S eh
  replace X := X.re B
  have hlk : meth.locks = false := X.2.2.2.2.2.2.1
  obtain ⟨fs, hr, hrun, hended, hW, hsame⟩ := S.leave (v := some w) (fun z => by rw [X.2.2.2.2.2.1] at z; cases z) hlk
  exact ⟨_, _, retOut S X.1 X.2.2.2.2.2.1 hn hi (hb X.2.2.2.1 D.1) hr, hrun, hended, some w, L, rfl, ⟨⟨w, rfl, by show Qv w T.heap; rw [eh]; exact q⟩, F⟩, B.ended ⟨_, rfl⟩ hW (by show _ ≤ T.heap.size; rw [eh]; exact Nat.le_refl _) hsame hk hs⟩
theorem Go.iret (X : Cx p Z s m meth c own nm code ml (some .int)) {z : Int32} {Qv : Value → Heap → Prop} (D : D1 code pc .ireturn 1 pc') (hk : k ≤ R.cells) (hs : n ≤ R.slots) (q : Qv (.int z) h) : Go wd p l e R Z s m args below meth c (rvQ Qv) h k n (mkF m pc Ls (.int z :: st)) :=
  Go.retw X rfl (Or.inl ⟨rfl, Or.inl rfl, z, rfl⟩) D hk hs q
theorem Go.zret (X : Cx p Z s m meth c own nm code ml (some .boolean)) {z : Int32} {Qv : Value → Heap → Prop} (D : D1 code pc .ireturn 1 pc') (hz : z = 0 ∨ z = 1) (hk : k ≤ R.cells) (hs : n ≤ R.slots) (q : Qv (.int z) h) : Go wd p l e R Z s m args below meth c (rvQ Qv) h k n (mkF m pc Ls (.int z :: st)) :=
  Go.retw X (by rcases hz with rfl | rfl <;> rfl) (Or.inl ⟨rfl, Or.inr (Or.inl rfl), z, rfl⟩) D hk hs q
theorem Go.cret (X : Cx p Z s m meth c own nm code ml (some .char)) {z : Int32} {Qv : Value → Heap → Prop} (D : D1 code pc .ireturn 1 pc') (hz : narrow .char (.int z) = .int z) (hk : k ≤ R.cells) (hs : n ≤ R.slots) (q : Qv (.int z) h) : Go wd p l e R Z s m args below meth c (rvQ Qv) h k n (mkF m pc Ls (.int z :: st)) :=
  Go.retw X hz (Or.inl ⟨rfl, Or.inr (Or.inr (Or.inr (Or.inl rfl))), z, rfl⟩) D hk hs q
theorem Go.aret {t : FieldType} (X : Cx p Z s m meth c own nm code ml (some t)) {w : Value} {Qv : Value → Heap → Prop} (D : D1 code pc .areturn 1 pc') (ht : t.isReference = true) (hw : w.isRef = true) (hn : narrow t w = w) (hk : k ≤ R.cells) (hs : n ≤ R.slots) (q : Qv w h) : Go wd p l e R Z s m args below meth c (rvQ Qv) h k n (mkF m pc Ls (w :: st)) :=
  Go.retw X hn (Or.inr (Or.inr (Or.inr (Or.inr ⟨rfl, ht, hw⟩)))) D hk hs q
theorem Go.ret0 (X : Cx p Z s m meth c own nm code ml none) {Q0 : Heap → Prop} (D : D1 code pc .return_ 1 pc') (hk : k ≤ R.cells) (hs : n ≤ R.slots) (q : Q0 h) : Go wd p l e R Z s m args below meth c (r0Q Q0) h k n (mkF m pc Ls []) := by
  intro vm T L F B S eh
  replace X := X.re B
  have hlk : meth.locks = false := X.2.2.2.2.2.2.1
  obtain ⟨fs, hr, hrun, hended, hW, hsame⟩ := S.leave (v := none) (fun _ => rfl) hlk
  exact ⟨_, _, S.returnOut X.1 X.2.2.2.2.2.1 (hb X.2.2.2.1 D.1) hr, hrun, hended, none, L, rfl, ⟨⟨rfl, by show Q0 T.heap; rw [eh]; exact q⟩, F⟩, B.ended ⟨_, rfl⟩ hW (by show _ ≤ T.heap.size; rw [eh]; exact Nat.le_refl _) hsame hk hs⟩
end Steps
end Jvm.OwnKit
namespace Jvm.OwnKit
open Sem ClassFile Op Lib Jvm.Stand Jvm.Free Jvm.LawKit Jvm.RoadKit
/-! ## the known cells -/
def upd {α : Type} : List α → Nat → α → List α
  | [], _, _ => []
  | _ :: r, 0, x => x :: r
  | y :: r, i + 1, x => y :: upd r i x
theorem upd_nil {α : Type} (i : Nat) (x : α) : upd [] i x = [] := by cases i <;> rfl
theorem upd_zero {α : Type} (y : α) (r : List α) (x : α) : upd (y :: r) 0 x = x :: r := rfl
theorem upd_succ {α : Type} (y : α) (r : List α) (i : Nat) (x : α) : upd (y :: r) (i + 1) x = y :: upd r i x := rfl
theorem upd_mem {α : Type} : ∀ (L : List α) (i : Nat) (x y : α), y ∈ upd L i x → y = x ∨ ∃ j, j ≠ i ∧ L[j]? = some y
  | [], i, x, y, q => by rw [upd_nil] at q; cases q
  | z :: r, 0, x, y, q => by
    rcases List.mem_cons.mp q with u | u
    · exact Or.inl u
    · obtain ⟨j, hj⟩ := List.getElem?_of_mem u
      exact Or.inr ⟨j + 1, by omega, by simpa using hj⟩
  | z :: r, i + 1, x, y, q => by
    rcases List.mem_cons.mp q with u | u
    · exact Or.inr ⟨0, by omega, by simp [u]⟩
    · rcases upd_mem r i x y u with v | ⟨j, v, w⟩
      · exact Or.inl v
      · exact Or.inr ⟨j + 1, by omega, by simpa using w⟩
theorem upd_map {α β : Type} (f : α → β) : ∀ (L : List α) (i : Nat) (x y : α), L[i]? = some y → f x = f y → (upd L i x).map f = L.map f
  | [], _, _, _, q, _ => by cases q
  | z :: r, 0, x, y, q, e => by cases q; simp [upd, e]
  | z :: r, i + 1, x, y, q, e => by simp [upd, upd_map f r i x y q e]
theorem upd_at {α : Type} : ∀ (L : List α) (i : Nat) (x y : α), L[i]? = some y → (upd L i x)[i]? = some x
  | [], _, _, _, q => by cases q
  | z :: r, 0, x, y, q => rfl
  | z :: r, i + 1, x, y, q => upd_at r i x y q
theorem upd_ne {α : Type} : ∀ (L : List α) (i j : Nat) (x : α), j ≠ i → (upd L i x)[j]? = L[j]?
  | [], i, j, x, _ => by rw [upd_nil]
  | z :: r, 0, 0, x, q => absurd rfl q
  | z :: r, 0, j + 1, x, _ => rfl
  | z :: r, i + 1, 0, x, _ => rfl
  | z :: r, i + 1, j + 1, x, q => upd_ne r i j x (by omega)
theorem upd_len {α : Type} : ∀ (L : List α) (i : Nat) (x : α), (upd L i x).length = L.length
  | [], i, x => by rw [upd_nil]
  | z :: r, 0, x => rfl
  | z :: r, i + 1, x => by simp [upd, upd_len r i x]
abbrev Nm : Type := String × String × String
abbrev slo (Z : State) (q : Nm) : Nat := RoadKit.slotOf Z q.1 q.2.1 q.2.2
/-- an object of exactly the class C; its fields ns hold vs -/
def Ob (Z : State) (C : String) (ns : List Nm) (vs : List Value) (c : Cell) : Prop :=
  (∃ k, Z.vm.findClass C = some c.cls ∧ Z.vm.classes[c.cls]? = some k ∧ c.vm.isStatics = false ∧ (k.kind = .ordinary → c.slots.size = k.instanceTypes.size)) ∧ vs.length = ns.length ∧
  ∀ (j : Nat) (q : Nm) (v : Value), ns[j]? = some q → vs[j]? = some v → ∃ cf k i f, Z.fieldFound? q.1 q.2.1 q.2.2 = some (cf, k, i, f) ∧ f.isStatic = false ∧ c.vm ≠ .unknown ∧ c.vm.isStatics = false ∧ Z.vm.assignable c.cls cf = true ∧ c.slots[f.slot]? = some v
/-- an array of the class number K, its components' kind ty; it holds vs -/
def Ar (Z : State) (ty : FieldType) (K : ClassId) (vs : List Value) (c : Cell) : Prop := Z.isArrayOf c ty ∧ c.vm ≠ .unknown ∧ c.cls = K ∧ c.slots = vs.toArray ∧ vs.length < 2 ^ 31 ∧ ∀ v ∈ vs, fits ty v = true
/-- what stood at the start stands; the cells of L are new, each as it says, no two the same -/
def Hp (Z : State) (h : Heap) (L : List (Addr × (Cell → Prop))) : Prop := Ext Z.heap h ∧ (∀ x ∈ L, Z.heap.size ≤ x.1 ∧ ∃ c, h[x.1]? = some c ∧ x.2 c) ∧ (L.map (·.1)).Nodup
section Facts
variable {Z : State} {h h' : Heap} {L : List (Addr × (Cell → Prop))} {i j : Nat} {a b : Addr} {P P' : Cell → Prop} {C : String} {ns : List Nm} {vs : List Value} {v w : Value} {sl : Nat} {ty : FieldType} {K : ClassId}
theorem Hp.start (Z : State) : Hp Z Z.heap [] := ⟨⟨Nat.le_refl _, fun _ _ q => q⟩, (fun _ q => nomatch q), List.nodup_nil⟩
theorem Hp.at (H : Hp Z h L) (hi : L[i]? = some (a, P)) : ∃ c, h[a]? = some c ∧ P c := (H.2.1 _ (List.mem_of_getElem? hi)).2
theorem Hp.ge (H : Hp Z h L) (hi : L[i]? = some (a, P)) : Z.heap.size ≤ a := (H.2.1 _ (List.mem_of_getElem? hi)).1
theorem Hp.lt (H : Hp Z h L) (hi : L[i]? = some (a, P)) : a < h.size := by obtain ⟨c, q, -⟩ := H.at hi; exact (Array.getElem?_eq_some_iff.mp q).1
theorem Hp.ne (H : Hp Z h L) (hi : L[i]? = some (a, P)) (hj : L[j]? = some (b, P')) (ij : i ≠ j) : a ≠ b := fun e => by
  have hi' : (L.map (·.1))[i]? = some a := by simp [hi]
  have hj' : (L.map (·.1))[j]? = some a := by simp [hj, e]
  have li := (List.getElem?_eq_some_iff.mp hi').1
  exact ij ((List.getElem?_inj li H.2.2).mp (hi'.trans hj'.symm))
theorem Hp.ext0 (H : Hp Z h L) : Ext Z.heap h := H.1
theorem Hp.mono (H : Hp Z h L) (E : Ext h h') : Hp Z h' L := ⟨⟨Nat.le_trans H.1.1 E.1, fun x c q => E.2 x c (H.1.2 x c q)⟩, fun x hx => by obtain ⟨q1, c, q2, q3⟩ := H.2.1 x hx; exact ⟨q1, c, E.2 _ _ q2, q3⟩, H.2.2⟩
theorem Hp.push (H : Hp Z h L) (E : Ext h h') (ha : h.size ≤ a) (hc : ∃ c, h'[a]? = some c ∧ P c) : Hp Z h' ((a, P) :: L) := by
  have H' := H.mono E
  refine ⟨H'.1, fun x hx => ?_, ?_⟩
  · rcases List.mem_cons.mp hx with rfl | u
    · exact ⟨Nat.le_trans H.1.1 ha, hc⟩
    · exact H'.2.1 x u
  · rw [List.map_cons, List.nodup_cons]
    refine ⟨fun q => ?_, H.2.2⟩
    obtain ⟨x, hx, ex⟩ := List.mem_map.mp q
    obtain ⟨-, c, q2, -⟩ := H.2.1 x hx
    have := (Array.getElem?_eq_some_iff.mp q2).1
    have ex : x.1 = a := ex
    rw [ex] at this
    exact absurd this (Nat.not_lt.mpr ha)
theorem Hp.wr (H : Hp Z h L) (hi : L[i]? = some (a, P)) (W : Wr h h' a sl v) (hP : ∀ c : Cell, P c → c.vm.isStatics = false → sl < c.slots.size → P' (c.setSlot sl v)) : Hp Z h' (upd L i (a, P')) := by
  have ge := H.ge hi
  obtain ⟨cell, h1, h2, h3, rfl⟩ := W
  obtain ⟨c, hc, hPc⟩ := H.at hi
  cases hc.symm.trans h1
  have lt := (Array.getElem?_eq_some_iff.mp h1).1
  have hset : (h.setIfInBounds a (cell.setSlot sl v))[a]? = some (cell.setSlot sl v) := by simp [lt]
  refine ⟨⟨by simpa using H.1.1, fun x c q => ?_⟩, fun x hx => ?_, by rw [upd_map (·.1) L i (a, P') (a, P) hi rfl]; exact H.2.2⟩
  · have := (Array.getElem?_eq_some_iff.mp q).1
    rw [Array.getElem?_setIfInBounds_ne (by omega)]; exact H.1.2 x c q
  · rcases upd_mem _ _ _ _ hx with rfl | ⟨j, hj, hLj⟩
    · exact ⟨ge, _, hset, hP _ hPc h2 h3⟩
    · have ne : a ≠ x.1 := H.ne (P := P) (P' := x.2) hi hLj (Ne.symm hj)
      obtain ⟨q1, c, q2, q3⟩ := H.2.1 x (List.mem_of_getElem? hLj)
      exact ⟨q1, c, by rw [Array.getElem?_setIfInBounds_ne ne]; exact q2, q3⟩
theorem Hp.weak (H : Hp Z h L) (hi : L[i]? = some (a, P)) (hP : ∀ c, P c → P' c) : Hp Z h (upd L i (a, P')) := by
  refine ⟨H.1, fun x hx => ?_, by rw [upd_map (·.1) L i (a, P') (a, P) hi rfl]; exact H.2.2⟩
  rcases upd_mem _ _ _ _ hx with rfl | ⟨j, hj, hLj⟩
  · obtain ⟨c, q1, q2⟩ := H.at hi; exact ⟨H.ge hi, c, q1, hP c q2⟩
  · exact H.2.1 x (List.mem_of_getElem? hLj)
theorem Hp.sub {L' : List (Addr × (Cell → Prop))} (H : Hp Z h L) (q : ∀ x ∈ L', x ∈ L) (r : (L'.map (·.1)).Nodup) : Hp Z h L' := ⟨H.1, fun x hx => H.2.1 x (q x hx), r⟩
theorem Hp.perm {L' : List (Addr × (Cell → Prop))} (H : Hp Z h L) (q : L.Perm L') : Hp Z h L' := ⟨H.1, fun x hx => H.2.1 x (q.mem_iff.mpr hx), (q.map _).nodup_iff.mp H.2.2⟩
theorem Hp.exa (H : Hp Z h L) (hi : L[i]? = some (a, Ob Z C ns vs)) : Exa Z h a C := by
  obtain ⟨c, q, ⟨k, r⟩, -⟩ := H.at hi; exact ⟨c, k, q, r⟩
theorem Hp.fld (H : Hp Z h L) (hi : L[i]? = some (a, Ob Z C ns vs)) {q : Nm} (hj : ns[j]? = some q) (hv : vs[j]? = some v) : Fld Z h a q.1 q.2.1 q.2.2 v := by
  obtain ⟨c, hc, -, -, F⟩ := H.at hi
  obtain ⟨cf, k, i, f, r⟩ := F j q v hj hv
  exact ⟨c, cf, k, i, f, hc, r⟩
theorem Hp.arr (H : Hp Z h L) (hi : L[i]? = some (a, Ar Z ty K vs)) : ∃ cl, Arr Z h a cl ty ∧ cl.cls = K ∧ cl.slots = vs.toArray ∧ vs.length < 2 ^ 31 ∧ ∀ v ∈ vs, fits ty v = true := by
  obtain ⟨c, hc, q1, q2, q3, q4, q5, q6⟩ := H.at hi; exact ⟨c, ⟨hc, q1, q2⟩, q3, q4, q5, q6⟩
/-- a class's fields: each laid, their slots distinct -/
def Lay (Z : State) (a0 : Array Value) (C : String) (ns : List Nm) : Prop := (∀ q ∈ ns, Laid Z a0 C q.1 q.2.1 q.2.2) ∧ (ns.map (slo Z)).Nodup
theorem Lay.of {a0 : Array Value} (hl : ∀ q ∈ ns, Laid Z a0 C q.1 q.2.1 q.2.2) (hn : (ns.map (·.2.1)).Nodup) (hp : ∀ q ∈ ns, ∃ t, parseFieldDescriptor q.2.2 = some t) : Lay Z a0 C ns := by
  refine ⟨hl, ?_⟩
  revert hl hn hp
  induction ns with
  | nil => intros; exact List.nodup_nil
  | cons x r ih =>
    intro hl hn hp
    rw [List.map_cons, List.nodup_cons] at hn ⊢
    refine ⟨fun q => ?_, ih (fun q hq => hl q (List.mem_cons_of_mem _ hq)) hn.2 (fun q hq => hp q (List.mem_cons_of_mem _ hq))⟩
    obtain ⟨y, hy, ey⟩ := List.mem_map.mp q
    obtain ⟨t1, p1⟩ := hp x List.mem_cons_self
    obtain ⟨t2, p2⟩ := hp y (List.mem_cons_of_mem _ hy)
    refine slot_ne (hl y (List.mem_cons_of_mem _ hy)) (hl x List.mem_cons_self) (fun z => ?_) p2 p1 ey
    exact hn.1 (List.mem_map.mpr ⟨y, hy, z⟩)
theorem Ob.put {a0 : Array Value} (Y : Lay Z a0 C ns) {q : Nm} (hj : ns[j]? = some q) {c : Cell} (O : Ob Z C ns vs c) (hs : c.vm.isStatics = false) (lt : slo Z q < c.slots.size) : Ob Z C ns (upd vs j v) (c.setSlot (slo Z q) v) := by
  obtain ⟨⟨k, r1, r2, r3, r4⟩, hl, F⟩ := O
  refine ⟨⟨k, r1, r2, r3, by rw [sz_set]; exact r4⟩, by rw [upd_len]; exact hl, fun j' q' v' hj' hv' => ?_⟩
  by_cases e : j' = j
  · subst e
    cases hj.symm.trans hj'
    have lj : j' < vs.length := by rw [hl]; exact (List.getElem?_eq_some_iff.mp hj).1
    obtain ⟨cf, k, i, f, f1, f2, f3, f4, f5, f6⟩ := F j' q (vs[j']) hj (List.getElem?_eq_getElem lj)
    rw [upd_at _ _ _ _ (List.getElem?_eq_getElem lj)] at hv'
    cases hv'
    have es : slo Z q = f.slot := by simp [slo, RoadKit.slotOf, f1]
    exact ⟨cf, k, i, f, f1, f2, f3, f4, f5, by rw [es] at lt ⊢; simp [Cell.setSlot, lt]⟩
  · rw [upd_ne _ _ _ _ e] at hv'
    obtain ⟨cf, k, i, f, f1, f2, f3, f4, f5, f6⟩ := F j' q' v' hj' hv'
    refine ⟨cf, k, i, f, f1, f2, f3, f4, f5, ?_⟩
    have es : slo Z q' = f.slot := by simp [slo, RoadKit.slotOf, f1]
    have ne : slo Z q ≠ f.slot := by
      rw [← es]
      intro z
      have l1 : (ns.map (slo Z))[j]? = some (slo Z q) := by simp [hj]
      have l2 : (ns.map (slo Z))[j']? = some (slo Z q) := by simp [hj', z]
      exact e ((List.getElem?_inj (List.getElem?_eq_some_iff.mp l2).1 Y.2).mp (l2.trans l1.symm))
    show (c.slots.setIfInBounds _ _)[_]? = _
    rw [Array.getElem?_setIfInBounds_ne ne]; exact f6
theorem Ar.put {c : Cell} (A : Ar Z ty K vs c) (hv : fits ty v = true) : Ar Z ty K (vs.set j v) (c.setSlot j v) := by
  obtain ⟨q1, q2, q3, q4, q5, q6⟩ := A
  refine ⟨q1, q2, q3, ?_, by simpa using q5, fun u hu => (List.mem_or_eq_of_mem_set hu).elim (q6 u) fun e => e ▸ hv⟩
  show c.slots.setIfInBounds j v = _
  rw [q4]; simp
end Facts
section Steps
variable {wd : Bool} {p : Program} {l : Launch} {e : Env} {R : Room} {Z s : State} {m : MethodId} {args : Array Value} {below : List Frame} {meth : Method} {c : Code} {Q : Option Value → Heap → Prop} {h : Heap} {k n : Nat} {own nm : String} {code : ByteArray} {ml : Nat} {ret : Option FieldType} {a0 : Array Value}
variable {pc pc' : Nat} {Ls : Array Slot} {st : List Value} {L : List (Addr × (Cell → Prop))} {i j : Nat} {a : Addr} {C : String} {ns : List Nm} {vs : List Value} {v : Value}
def dfl (ns : List Nm) : List (Option Value) := ns.map fun q => (parseFieldDescriptor q.2.2).map defaultValue
theorem Go.new (X : Cx p Z s m meth c own nm code ml ret) (H : Hp Z h L) {idx kk : Nat} (w : (Cond.classLink own idx C).before a0 Z = true) (wi : (Cond.instantiable C kk).before a0 Z = true) (wz : (Cond.initialized C).before a0 Z = true) (Y : Lay Z a0 C ns) (hv : dfl ns = vs.map some) (D : D1 code pc (.new idx) 3 pc') (hc : k + 1 ≤ R.cells) (hl : n + kk ≤ R.slots)
    (K : ∀ a h, Hp Z h ((a, Ob Z C ns vs) :: L) → Go wd p l e R Z s m args below meth c Q h (k + 1) (n + kk) (mkF m pc' Ls (.ref a :: st))) : Go wd p l e R Z s m args below meth c Q h k n (mkF m pc Ls st) := by
  obtain ⟨d, rfl⟩ := D
  intro vm T L' F B S eh
  replace X := X.re B
  obtain ⟨T', h', S', e', E', A', D', -, stp⟩ := newO S X.1 X.2.1 X.2.2.1 w wi wz eh (g := mkF m pc Ls st) rfl (hb X.2.2.2.1 d) hc hl
  have H' : Hp Z h' ((h.size, Ob Z C ns vs) :: L) := by
    obtain ⟨cell, kC, a1, a2, a3, a4, a5⟩ := A'
    refine H.push E' (Nat.le_refl _) ⟨cell, a1, ⟨kC, a2, a3, a4, a5⟩, ?_, fun j q v hj hv' => ?_⟩
    · have := congrArg List.length hv; simpa [dfl] using this.symm
    · have e1 : (dfl ns)[j]? = some ((parseFieldDescriptor q.2.2).map defaultValue) := by simp [dfl, hj]
      rw [hv] at e1
      simp only [List.getElem?_map, hv', Option.map_some, Option.some.injEq] at e1
      cases ht : parseFieldDescriptor q.2.2 with
      | none => rw [ht] at e1; cases e1
      | some ty =>
        rw [ht] at e1
        cases e1
        obtain ⟨c', cf, k', i', f, f0, r⟩ := D' (Y.1 q (List.mem_of_getElem? hj)) ht
        cases a1.symm.trans f0
        exact ⟨cf, k', i', f, r⟩
  obtain ⟨u, o, st', r⟩ := K _ _ H' vm T' L' F (B.mono E'.1) S' e'
  exact ⟨u, o, stp _ st', r⟩
theorem Go.getFld (X : Cx p Z s m meth c own nm code ml ret) {R0 O f d : String} {idx : Nat} (w : (Cond.fieldLink own idx R0 f d).before a0 Z = true) (via : Via Z R0 O f d) (F : Fld Z h a O f d v) (D : D1 code pc (.getfield idx) 3 pc') (K : Go wd p l e R Z s m args below meth c Q h k n (mkF m pc' Ls (v :: st))) : Go wd p l e R Z s m args below meth c Q h k n (mkF m pc Ls (.ref a :: st)) := by
  obtain ⟨dd, rfl⟩ := D
  intro vm T L' F' B S eh
  replace X := X.re B
  obtain ⟨T', S', e', stp⟩ := getF S X.1 X.2.1 X.2.2.1 (host := "") (Or.inl w) via eh F (g := mkF m pc Ls (.ref a :: st)) rfl rfl (hb X.2.2.2.1 dd)
  obtain ⟨u, o, st', r⟩ := K vm T' L' F' B S' e'
  exact ⟨u, o, stp _ st', r⟩
theorem Go.getFldN (X : Cx p Z s m meth c own nm code ml ret) {R0 O f d host : String} {idx : Nat} (w : (Cond.fieldLinkNest own idx R0 f d host).before a0 Z = true) (via : Via Z R0 O f d) (F : Fld Z h a O f d v) (D : D1 code pc (.getfield idx) 3 pc') (K : Go wd p l e R Z s m args below meth c Q h k n (mkF m pc' Ls (v :: st))) : Go wd p l e R Z s m args below meth c Q h k n (mkF m pc Ls (.ref a :: st)) := by
  obtain ⟨dd, rfl⟩ := D
  intro vm T L' F' B S eh
  replace X := X.re B
  obtain ⟨T', S', e', stp⟩ := getF S X.1 X.2.1 X.2.2.1 (host := host) (Or.inr w) via eh F (g := mkF m pc Ls (.ref a :: st)) rfl rfl (hb X.2.2.2.1 dd)
  obtain ⟨u, o, st', r⟩ := K vm T' L' F' B S' e'
  exact ⟨u, o, stp _ st', r⟩
theorem Go.putFld (X : Cx p Z s m meth c own nm code ml ret) (H : Hp Z h L) {R0 O f d : String} {idx kk : Nat} {ty : FieldType} (hi : L[i]? = some (a, Ob Z C ns vs)) (hj : ns[j]? = some (O, f, d)) (Y : Lay Z a0 C ns) (w : (Cond.fieldLink own idx R0 f d).before a0 Z = true) (via : Via Z R0 O f d) (hL : (Cond.lays C O f d).before a0 Z = true ∨ ((Cond.laysFinal C O f d).before a0 Z = true ∧ own = O ∧ nm = "<init>")) (wi : (Cond.instantiable C kk).before a0 Z = true)
    (ht : parseFieldDescriptor d = some ty) (hn : narrow ty v = v) (hf : fits ty v = true) (D : D1 code pc (.putfield idx) 3 pc') (K : ∀ h, Hp Z h (upd L i (a, Ob Z C ns (upd vs j v))) → Go wd p l e R Z s m args below meth c Q h k n (mkF m pc' Ls st)) : Go wd p l e R Z s m args below meth c Q h k n (mkF m pc Ls (v :: .ref a :: st)) := by
  obtain ⟨dd, rfl⟩ := D
  intro vm T L' F' B S eh
  replace X := X.re B
  have lj : j < vs.length := by obtain ⟨c, hc, -, hl, -⟩ := H.at hi; rw [hl]; exact (List.getElem?_eq_some_iff.mp hj).1
  have F := H.fld hi hj (List.getElem?_eq_getElem lj)
  have E := H.exa hi
  obtain ⟨T', h', S', e', W, stp⟩ := putF S X.1 X.2.1 X.2.2.1 (host := "") (Or.inl w) via eh F E (hL.imp id fun q => ⟨q.1, q.2.1, X.2.2.2.2.2.2.2.trans q.2.2⟩) wi ht hn hf (g := mkF m pc Ls (v :: .ref a :: st)) rfl rfl (hb X.2.2.2.1 dd)
  have H' := H.wr (P' := Ob Z C ns (upd vs j v)) hi W fun c O hs lt => Ob.put Y hj O hs lt
  obtain ⟨u, o, st', r⟩ := K h' H' vm T' _ (F'.app fun y hy => by cases List.mem_singleton.mp hy; exact H.ge hi) (B.mono (Nat.le_of_eq W.size.symm)) S' e'
  exact ⟨u, o, stp _ st', r⟩
theorem Go.putFldN (X : Cx p Z s m meth c own nm code ml ret) (H : Hp Z h L) {R0 O f d host : String} {idx kk : Nat} {ty : FieldType} (hi : L[i]? = some (a, Ob Z C ns vs)) (hj : ns[j]? = some (O, f, d)) (Y : Lay Z a0 C ns) (w : (Cond.fieldLinkNest own idx R0 f d host).before a0 Z = true) (via : Via Z R0 O f d) (hL : (Cond.lays C O f d).before a0 Z = true ∨ ((Cond.laysFinal C O f d).before a0 Z = true ∧ own = O ∧ nm = "<init>")) (wi : (Cond.instantiable C kk).before a0 Z = true)
    (ht : parseFieldDescriptor d = some ty) (hn : narrow ty v = v) (hf : fits ty v = true) (D : D1 code pc (.putfield idx) 3 pc') (K : ∀ h, Hp Z h (upd L i (a, Ob Z C ns (upd vs j v))) → Go wd p l e R Z s m args below meth c Q h k n (mkF m pc' Ls st)) : Go wd p l e R Z s m args below meth c Q h k n (mkF m pc Ls (v :: .ref a :: st)) := by
  obtain ⟨dd, rfl⟩ := D
  intro vm T L' F' B S eh
  replace X := X.re B
  have lj : j < vs.length := by obtain ⟨c, hc, -, hl, -⟩ := H.at hi; rw [hl]; exact (List.getElem?_eq_some_iff.mp hj).1
  have F := H.fld hi hj (List.getElem?_eq_getElem lj)
  have E := H.exa hi
  obtain ⟨T', h', S', e', W, stp⟩ := putF S X.1 X.2.1 X.2.2.1 (host := host) (Or.inr w) via eh F E (hL.imp id fun q => ⟨q.1, q.2.1, X.2.2.2.2.2.2.2.trans q.2.2⟩) wi ht hn hf (g := mkF m pc Ls (v :: .ref a :: st)) rfl rfl (hb X.2.2.2.1 dd)
  have H' := H.wr (P' := Ob Z C ns (upd vs j v)) hi W fun c O hs lt => Ob.put Y hj O hs lt
  obtain ⟨u, o, st', r⟩ := K h' H' vm T' _ (F'.app fun y hy => by cases List.mem_singleton.mp hy; exact H.ge hi) (B.mono (Nat.le_of_eq W.size.symm)) S' e'
  exact ⟨u, o, stp _ st', r⟩
theorem Go.getSta (X : Cx p Z s m meth c own nm code ml ret) (E : Ext Z.heap h) {R0 O f d : String} {idx : Nat} (w : (Cond.fieldLink own idx R0 f d).before a0 Z = true) (via : Via Z R0 O f d) (F : Sta Z Z.heap O f d v) (D : D1 code pc (.getstatic idx) 3 pc') (K : Go wd p l e R Z s m args below meth c Q h k n (mkF m pc' Ls (v :: st))) : Go wd p l e R Z s m args below meth c Q h k n (mkF m pc Ls st) := by
  obtain ⟨dd, rfl⟩ := D
  intro vm T L' F' B S eh
  replace X := X.re B
  obtain ⟨T', S', e', stp⟩ := getS S X.1 X.2.1 (host := "") X.2.2.1 w via eh (F.ext E) (g := mkF m pc Ls st) rfl (hb X.2.2.2.1 dd)
  obtain ⟨u, o, st', r⟩ := K vm T' L' F' B S' e'
  exact ⟨u, o, stp _ st', r⟩
theorem Go.getStaN (X : Cx p Z s m meth c own nm code ml ret) (E : Ext Z.heap h) {R0 O f d host : String} {idx : Nat} (w : (Cond.fieldLinkNest own idx R0 f d host).before a0 Z = true) (via : Via Z R0 O f d) (F : Sta Z Z.heap O f d v) (D : D1 code pc (.getstatic idx) 3 pc') (K : Go wd p l e R Z s m args below meth c Q h k n (mkF m pc' Ls (v :: st))) : Go wd p l e R Z s m args below meth c Q h k n (mkF m pc Ls st) := by
  obtain ⟨dd, rfl⟩ := D
  intro vm T L' F' B S eh
  replace X := X.re B
  obtain ⟨T', S', e', stp⟩ := getS2 S X.1 X.2.1 X.2.2.1 (host := host) (Or.inr w) via eh (F.ext E) (g := mkF m pc Ls st) rfl (hb X.2.2.2.1 dd)
  obtain ⟨u, o, st', r⟩ := K vm T' L' F' B S' e'
  exact ⟨u, o, stp _ st', r⟩
/-! ### arrays -/
theorem Go.newarr (X : Cx p Z s m meth c own nm code ml ret) (H : Hp Z h L) {aty : ArrayType} {z : Int32} {N cap : Nat} (w : (Cond.arrayClass (newarray.typeOf aty)).before a0 Z = true) (hz : ¬ z < 0) (hN : z.toNatClampNeg = N) (hcap : N ≤ cap) (hb8 : cap * 8 ≤ 536870912) (D : D1 code pc (.newarray aty) 2 pc') (hc : k + 1 ≤ R.cells) (hl : n + cap ≤ R.slots)
    (K : ∀ a K' h, Hp Z h ((a, Ar Z (newarray.typeOf aty) K' (List.replicate N (defaultValue (newarray.typeOf aty)))) :: L) → Go wd p l e R Z s m args below meth c Q h (k + 1) (n + cap) (mkF m pc' Ls (.ref a :: st))) : Go wd p l e R Z s m args below meth c Q h k n (mkF m pc Ls (.int z :: st)) := by
  obtain ⟨d, rfl⟩ := D
  intro vm T L' F B S eh
  replace X := X.re B
  obtain ⟨T', h', cA, S', e', E', A', stp⟩ := newP S X.1 X.2.1 w eh (g := mkF m pc Ls (.int z :: st)) rfl (hb X.2.2.2.1 d) rfl hz (cap := cap) (by omega) hb8 hc hl
  have H' := H.push (P := Ar Z (newarray.typeOf aty) cA (List.replicate N (defaultValue (newarray.typeOf aty)))) E' (Nat.le_refl _) ⟨_, A'.1, A'.2.1, A'.2.2, rfl, by simp [newA, hN], by simp; omega, fun u hu => by rw [List.eq_of_mem_replicate hu]; cases aty <;> rfl⟩
  obtain ⟨u, o, st', r⟩ := K _ cA _ H' vm T' L' F (B.mono E'.1) S' e'
  exact ⟨u, o, stp _ st', r⟩
theorem Go.anew (X : Cx p Z s m meth c own nm code ml ret) (H : Hp Z h L) {idx : Nat} {z : Int32} {N cap : Nat} (w : (Cond.classLink own idx C).before a0 Z = true) (w2 : (Cond.arrayOver (.object C)).before a0 Z = true) (hz : ¬ z < 0) (hN : z.toNatClampNeg = N) (hcap : N ≤ cap) (hb8 : cap * 8 ≤ 536870912) (D : D1 code pc (.anewarray idx) 3 pc') (hc : k + 1 ≤ R.cells) (hl : n + cap ≤ R.slots)
    (K : ∀ a K' h, Ovr Z K' C → Hp Z h ((a, Ar Z (.object C) K' (List.replicate N .null)) :: L) → Go wd p l e R Z s m args below meth c Q h (k + 1) (n + cap) (mkF m pc' Ls (.ref a :: st))) : Go wd p l e R Z s m args below meth c Q h k n (mkF m pc Ls (.int z :: st)) := by
  obtain ⟨d, rfl⟩ := D
  intro vm T L' F B S eh
  replace X := X.re B
  obtain ⟨T', h', cA, S', e', E', A', O', stp⟩ := newR S X.1 X.2.1 X.2.2.1 w w2 eh (g := mkF m pc Ls (.int z :: st)) rfl (hb X.2.2.2.1 d) rfl hz (cap := cap) (by omega) hb8 hc hl
  have H' := H.push (P := Ar Z (.object C) cA (List.replicate N .null)) E' (Nat.le_refl _) ⟨_, A'.1, A'.2.1, A'.2.2, rfl, by simp [newA, hN, defaultValue], by simp; omega, fun u hu => by rw [List.eq_of_mem_replicate hu]; rfl⟩
  obtain ⟨u, o, st', r⟩ := K _ cA _ O' H' vm T' L' F (B.mono E'.1) S' e'
  exact ⟨u, o, stp _ st', r⟩
theorem inb {cl : Cell} {vs : List Value} {z : Int32} (q : cl.slots = vs.toArray) (hz : ¬ z < 0) (hN : z.toNatClampNeg < vs.length) : ¬ (z < 0 ∨ cl.slots.size ≤ z.toNatClampNeg) := by rw [q]; simp; exact ⟨Int32.not_lt.mp hz, hN⟩
theorem Go.alen (X : Cx p Z s m meth c own nm code ml ret) (H : Hp Z h L) {ty : FieldType} {K' : ClassId} (hi : L[i]? = some (a, Ar Z ty K' vs)) (D : D1 code pc .arraylength 1 pc') (K : Go wd p l e R Z s m args below meth c Q h k n (mkF m pc' Ls (.int vs.length.toInt32 :: st))) : Go wd p l e R Z s m args below meth c Q h k n (mkF m pc Ls (.ref a :: st)) := by
  obtain ⟨d, rfl⟩ := D
  intro vm T L' F B S eh
  replace X := X.re B
  obtain ⟨cl, A, -, q, -, -⟩ := H.arr hi
  obtain ⟨u, o, st', r⟩ := K vm T L' F B S eh
  refine ⟨u, o, S.arraylength X.1 (by rw [eh]; exact A.1) (State.isArrayOf_alike X.2.1.alike A.2.1) (g := mkF m pc Ls (.ref a :: st)) rfl rfl (hb X.2.2.2.1 d) _ ?_, r⟩
  rw [show cl.slots.size = vs.length by rw [q]; simp]; exact st'
theorem Go.iald (X : Cx p Z s m meth c own nm code ml ret) (H : Hp Z h L) {K' : ClassId} {z x : Int32} (hi : L[i]? = some (a, Ar Z .int K' vs)) (hz : ¬ z < 0) (hv : vs[z.toNatClampNeg]? = some (.int x)) (D : D1 code pc .iaload 1 pc') (K : Go wd p l e R Z s m args below meth c Q h k n (mkF m pc' Ls (.int x :: st))) : Go wd p l e R Z s m args below meth c Q h k n (mkF m pc Ls (.int z :: .ref a :: st)) := by
  obtain ⟨d, rfl⟩ := D
  intro vm T L' F B S eh
  replace X := X.re B
  obtain ⟨cl, A, -, q, -, -⟩ := H.arr hi
  obtain ⟨u, o, st', r⟩ := K vm T L' F B S eh
  exact ⟨u, o, S.iaload X.1 (by rw [eh]; exact A.1) (State.isArrayOf_alike X.2.1.alike A.2.1) A.2.2 (inb q hz (List.getElem?_eq_some_iff.mp hv).1) (by rw [q]; simpa using hv) (g := mkF m pc Ls (.int z :: .ref a :: st)) rfl rfl (hb X.2.2.2.1 d) _ st', r⟩
theorem Go.iast (X : Cx p Z s m meth c own nm code ml ret) (H : Hp Z h L) {K' : ClassId} {z x : Int32} (hi : L[i]? = some (a, Ar Z .int K' vs)) (hz : ¬ z < 0) (hN : z.toNatClampNeg < vs.length) (D : D1 code pc .iastore 1 pc') (K : ∀ h, Hp Z h (upd L i (a, Ar Z .int K' (vs.set z.toNatClampNeg (.int x)))) → Go wd p l e R Z s m args below meth c Q h k n (mkF m pc' Ls st)) : Go wd p l e R Z s m args below meth c Q h k n (mkF m pc Ls (.int x :: .int z :: .ref a :: st)) := by
  obtain ⟨d, rfl⟩ := D
  intro vm T L' F B S eh
  replace X := X.re B
  obtain ⟨cl, A, -, q, -, -⟩ := H.arr hi
  obtain ⟨T', h', S', e', W, stp⟩ := stI S X.1 X.2.1 eh A (inb q hz hN) (g := mkF m pc Ls (.int x :: .int z :: .ref a :: st)) rfl rfl (hb X.2.2.2.1 d)
  have H' := H.wr (P' := Ar Z .int K' (vs.set z.toNatClampNeg (.int x))) hi W fun c A _ _ => Ar.put A rfl
  obtain ⟨u, o, st', r⟩ := K h' H' vm T' _ (F.app fun y hy => by cases List.mem_singleton.mp hy; exact H.ge hi) (B.mono (Nat.le_of_eq W.size.symm)) S' e'
  exact ⟨u, o, stp _ st', r⟩
theorem Go.alenO (X : Cx p Z s m meth c own nm code ml ret) (E : Ext Z.heap h) {ty : FieldType} {cl : Cell} (A : Arr Z Z.heap a cl ty) (D : D1 code pc .arraylength 1 pc') (K : Go wd p l e R Z s m args below meth c Q h k n (mkF m pc' Ls (.int cl.slots.size.toInt32 :: st))) : Go wd p l e R Z s m args below meth c Q h k n (mkF m pc Ls (.ref a :: st)) := by
  obtain ⟨d, rfl⟩ := D
  intro vm T L' F B S eh
  replace X := X.re B
  have A := A.ext E
  obtain ⟨u, o, st', r⟩ := K vm T L' F B S eh
  exact ⟨u, o, S.arraylength X.1 (by rw [eh]; exact A.1) (State.isArrayOf_alike X.2.1.alike A.2.1) (g := mkF m pc Ls (.ref a :: st)) rfl rfl (hb X.2.2.2.1 d) _ st', r⟩
theorem Go.ialdO (X : Cx p Z s m meth c own nm code ml ret) (E : Ext Z.heap h) {z x : Int32} {cl : Cell} (A : Arr Z Z.heap a cl .int) (hz : ¬ z < 0) (hv : cl.slots[z.toNatClampNeg]? = some (.int x)) (D : D1 code pc .iaload 1 pc') (K : Go wd p l e R Z s m args below meth c Q h k n (mkF m pc' Ls (.int x :: st))) : Go wd p l e R Z s m args below meth c Q h k n (mkF m pc Ls (.int z :: .ref a :: st)) := by
  obtain ⟨d, rfl⟩ := D
  intro vm T L' F B S eh
  replace X := X.re B
  have A := A.ext E
  obtain ⟨u, o, st', r⟩ := K vm T L' F B S eh
  exact ⟨u, o, S.iaload X.1 (by rw [eh]; exact A.1) (State.isArrayOf_alike X.2.1.alike A.2.1) A.2.2 (fun q => q.elim hz fun q => absurd (Array.getElem?_eq_some_iff.mp hv).1 (Nat.not_lt.mpr q)) hv (g := mkF m pc Ls (.int z :: .ref a :: st)) rfl rfl (hb X.2.2.2.1 d) _ st', r⟩
/-! ### calls -/
theorem mroom (m : MethodId) (pc : Nat) (Ls : Array Slot) (st : List Value) : (mkF m pc Ls st).monitorRoom = 0 := rfl
section Ks
variable {F : Option Value → Heap → Prop} {rest : List Value} {k' n' : Nat}
theorem Kv {Qv : Value → Heap → Prop} (K : ∀ v h, Qv v h → Go wd p l e R Z s m args below meth c Q h k' n' (mkF m pc' Ls (v :: rest))) : ∀ o h, rvQ Qv o h → Go wd p l e R Z s m args below meth c Q h k' n' (mkF m pc' Ls (o.toList ++ rest)) := by
  rintro _ h ⟨v, rfl, q⟩; exact K v h q
theorem K0 {Q0 : Heap → Prop} (K : ∀ h, Q0 h → Go wd p l e R Z s m args below meth c Q h k' n' (mkF m pc' Ls rest)) : ∀ o h, r0Q Q0 o h → Go wd p l e R Z s m args below meth c Q h k' n' (mkF m pc' Ls (o.toList ++ rest)) := by
  rintro _ h ⟨rfl, q⟩; exact K h q
end Ks
variable {y : MethodName} {code' : ByteArray} {ml' : Nat} {ret' : Option FieldType} {rm : Room} {argsL rest : List Value} {Q' : Option Value → Heap → Prop}
theorem Go.byBackN {g : JFrame} (X : Cx p Z s m meth c own nm code ml ret)
    (f : ∀ s, Cx p Z s m meth c own nm code ml ret → ∀ T L, Stand p l e R s m args below meth c T L k n → T.heap = h → ∃ (v : Option Value) (vm : Vm) (B : Pt), s.WarmedH vm ∧ Stand p l e R s m args below meth c B.U B.locs B.cells B.slots ∧ (∃ L', (Q' v B.U.heap ∧ Fr Z.heap.size L') ∧ B.locs = L ++ L' ∧ B.cells = k + rm.cells ∧ B.slots = n + rm.slots) ∧ Steps p.tables e below (T.setTop g) (B.U.setTop (mkF m pc' Ls (v.toList ++ rest))))
    (K : ∀ o h, Q' o h → Go false p l e R Z s m args below meth c Q h (k + rm.cells) (n + rm.slots) (mkF m pc' Ls (o.toList ++ rest))) : Go false p l e R Z s m args below meth c Q h k n g := by
  intro vm T L F B S eh
  obtain ⟨v, vm', ⟨T', L2, k2, n2⟩, -, S', ⟨L3, ⟨hQ, F3⟩, e1, e2, e3⟩, stp⟩ := f _ (X.re B) T L S eh
  dsimp only [Pt.U, Pt.locs, Pt.cells, Pt.slots] at S' e1 e2 e3 stp hQ
  subst e1 e2 e3
  obtain ⟨u, o, st', r⟩ := K v _ hQ vm T' _ (F.app F3) B S' rfl
  exact ⟨u, o, stp.trans st', r⟩
theorem Go.byBackW {g : JFrame} (X : Cx p Z s m meth c own nm code ml ret)
    (f : ∀ s, Cx p Z s m meth c own nm code ml ret → ∀ T L, Stand p l e R s m args below meth c T L k n → T.heap = h → ∃ (v : Option Value) (vm : Vm) (B : Pt), s.WarmedH vm ∧ Stand p l e R (s.setVm B.U.vm) m args below meth c B.U B.locs B.cells B.slots ∧ s.Since B.U.vm B.U.heap.size ∧ T.heap.size ≤ B.U.heap.size ∧ (∃ L', (Q' v B.U.heap ∧ Fr Z.heap.size L') ∧ B.locs = L ++ L' ∧ B.cells = k + rm.cells ∧ B.slots = n + rm.slots) ∧ Steps p.tables e below (T.setTop g) (B.U.setTop (mkF m pc' Ls (v.toList ++ rest))))
    (K : ∀ o h, Q' o h → Go true p l e R Z s m args below meth c Q h (k + rm.cells) (n + rm.slots) (mkF m pc' Ls (o.toList ++ rest))) : Go true p l e R Z s m args below meth c Q h k n g := by
  intro vm T L F B S eh
  obtain ⟨v, vm', ⟨T', L2, k2, n2⟩, -, S', hS, hsz, ⟨L3, ⟨hQ, F3⟩, e1, e2, e3⟩, stp⟩ := f _ (X.re B) T L S eh
  dsimp only [Pt.U, Pt.locs, Pt.cells, Pt.slots] at S' e1 e2 e3 stp hQ hS hsz
  subst e1 e2 e3
  have B' : s.Since vm h.size := B
  obtain ⟨u, o, st', r⟩ := K v _ hQ T'.vm T' _ (F.app F3) (B'.trans hS (by rw [← eh]; exact hsz)) S' rfl
  exact ⟨u, o, stp.trans st', r⟩
theorem Go.callS (X : Cx p Z s m meth c own nm code ml ret) (B : Ct wd l Z y code' ml' ret' rm argsL.toArray h Q')
    {idx : Nat} (w1 : (Cond.methodLink own idx y).before a0 Z = true) (w2 : (Cond.static y).before a0 Z = true) (w3 : (Cond.initialized y.cls).before a0 Z = true) (w4 : (Cond.code y code' ml' ret').before a0 Z = true) (hy : y.cls ≠ "java/lang/invoke/MethodHandle" ∧ y.cls ≠ "java/lang/invoke/VarHandle")
    {ps : List FieldType} {rt : Option FieldType} (pd : parseMethodDescriptor y.desc = some ⟨ps, rt⟩) (hl : argsL.length = ps.length) (hs : st = argsL.reverse ++ rest) (D : D1 code pc (.invokestatic idx) 3 pc') (hm : Ls.size = ml)
    (hf : rm.frames + 1 ≤ R.frames) (hlo : (rest.map fun v => v.category).sum + (ml' + 11) + rm.locals ≤ R.locals) (hk : k + rm.cells ≤ R.cells) (hn : n + rm.slots ≤ R.slots)
    (K : ∀ o h, Q' o h → Go wd p l e R Z s m args below meth c Q h (k + rm.cells) (n + rm.slots) (mkF m pc' Ls (o.toList ++ rest))) : Go wd p l e R Z s m args below meth c Q h k n (mkF m pc Ls st) := by
  obtain ⟨d, rfl⟩ := D
  subst hs
  cases wd
  · refine Go.byBackN X (fun s X T L S eh => ?_) K
    obtain ⟨v, vm, B, b1, b2, b3, b4⟩ := Jvm.LawKit.callS S X.1 X.2.2.1 (mvT X.2.1 w1) (mvT X.2.1 w2) (mvT X.2.1 w3) (mvT X.2.1 w4) hy (backOf (W := (rest.map fun v => v.category).sum) (Q := fun v h L => Q' v h ∧ Fr Z.heap.size L) (B []) X.2.1 w4 w3 hf hlo) (g := mkF m pc Ls (argsL.reverse ++ rest)) rfl (by rw [X.2.2.2.2.1]; exact hm) (argsL := argsL) (rest := rest) (lenOf pd hl) rfl (by rw [mroom]; omega) (hb X.2.2.2.1 d) (fun _ _ => ⟨rfl, eh, hk, hn⟩)
    exact ⟨v, vm, B, b1, b2, b3, b4 _ (Steps.refl _)⟩
  · refine Go.byBackW X (fun s X T L S eh => ?_) K
    exact callSS S X.1 X.2.2.1 (mvT X.2.1 w1) (mvT X.2.1 w2) (mvT X.2.1 w3) (mvT X.2.1 w4) hy (backOfS (W := (rest.map fun v => v.category).sum) (Q := fun v h L => Q' v h ∧ Fr Z.heap.size L) (B []) X.2.1 w4 w3 hf hlo) (g := mkF m pc Ls (argsL.reverse ++ rest)) rfl (by rw [X.2.2.2.2.1]; exact hm) (argsL := argsL) (rest := rest) (lenOf pd hl) rfl (by rw [mroom]; omega) (hb X.2.2.2.1 d) (fun _ _ => ⟨rfl, eh, hk, hn⟩)
theorem Go.callI (X : Cx p Z s m meth c own nm code ml ret) (B : Ct wd l Z y code' ml' none rm (Value.ref a :: argsL).toArray h Q') (hy1 : y.name = "<init>")
    {idx : Nat} (w1 : (Cond.methodLink own idx y).before a0 Z = true) (w2 : (Cond.instanceMethod y).before a0 Z = true) (w3 : (Cond.initialized y.cls).before a0 Z = true) (w4 : (Cond.code y code' ml' none).before a0 Z = true) (hy : y.cls ≠ "java/lang/invoke/MethodHandle" ∧ y.cls ≠ "java/lang/invoke/VarHandle")
    {ps : List FieldType} {rt : Option FieldType} (pd : parseMethodDescriptor y.desc = some ⟨ps, rt⟩) (hl : argsL.length = ps.length) (hs : st = argsL.reverse ++ .ref a :: rest) (D : D1 code pc (.invokespecial idx) 3 pc') (hm : Ls.size = ml)
    (hf : rm.frames + 1 ≤ R.frames) (hlo : (rest.map fun v => v.category).sum + (ml' + 11) + rm.locals ≤ R.locals) (hk : k + rm.cells ≤ R.cells) (hn : n + rm.slots ≤ R.slots)
    (K : ∀ o h, Q' o h → Go wd p l e R Z s m args below meth c Q h (k + rm.cells) (n + rm.slots) (mkF m pc' Ls (o.toList ++ rest))) : Go wd p l e R Z s m args below meth c Q h k n (mkF m pc Ls st) := by
  obtain ⟨d, rfl⟩ := D
  subst hs
  cases wd
  · refine Go.byBackN X (fun s X T L S eh => ?_) K
    exact S.specialBack X.1 hy1 X.2.2.1 (mvT X.2.1 w1) (mvT X.2.1 w2) (mvT X.2.1 w4) hy (backOf (W := (rest.map fun v => v.category).sum) (Q := fun v h L => Q' v h ∧ Fr Z.heap.size L) (B []) X.2.1 w4 w3 hf hlo) (g := mkF m pc Ls (argsL.reverse ++ .ref a :: rest)) rfl (by rw [X.2.2.2.2.1]; exact hm) (Steps.refl _) (a := a) (argsL := argsL) (rest := rest) (lenOf pd hl) rfl (by rw [mroom]; omega) (hb X.2.2.2.1 d) (fun _ _ => ⟨rfl, eh, hk, hn⟩)
  · refine Go.byBackW X (fun s X T L S eh => ?_) K
    exact S.specialBackS X.1 hy1 X.2.2.1 (mvT X.2.1 w1) (mvT X.2.1 w2) (mvT X.2.1 w4) hy (backOfS (W := (rest.map fun v => v.category).sum) (Q := fun v h L => Q' v h ∧ Fr Z.heap.size L) (B []) X.2.1 w4 w3 hf hlo) (g := mkF m pc Ls (argsL.reverse ++ .ref a :: rest)) rfl (by rw [X.2.2.2.2.1]; exact hm) (Steps.refl _) (a := a) (argsL := argsL) (rest := rest) (lenOf pd hl) rfl (by rw [mroom]; omega) (hb X.2.2.2.1 d) (fun _ _ => ⟨rfl, eh, hk, hn⟩)
theorem Go.callV (X : Cx p Z s m meth c own nm code ml ret) {z : MethodName} (E : Exa Z h a C) (B : Ct wd l Z z code' ml' ret' rm (Value.ref a :: argsL).toArray h Q')
    {idx : Nat} (w1 : (Cond.methodLink own idx y).before a0 Z = true) (wdc : (Cond.declares y).before a0 Z = true) (hnf : ∀ s : State, Z.Warmed39 s.vm → NotFace s y) (ws : (Cond.selects C y z).before a0 Z = true) (w2 : (Cond.instanceMethod z).before a0 Z = true) (w3 : (Cond.initialized z.cls).before a0 Z = true) (w4 : (Cond.code z code' ml' ret').before a0 Z = true) (hy : y.cls ≠ "java/lang/invoke/MethodHandle" ∧ y.cls ≠ "java/lang/invoke/VarHandle")
    {ps : List FieldType} {rt : Option FieldType} (pd : parseMethodDescriptor y.desc = some ⟨ps, rt⟩) (hl : argsL.length = ps.length) (hs : st = argsL.reverse ++ .ref a :: rest) (D : D1 code pc (.invokevirtual idx) 3 pc') (hm : Ls.size = ml)
    (hf : rm.frames + 1 ≤ R.frames) (hlo : (rest.map fun v => v.category).sum + (ml' + 11) + rm.locals ≤ R.locals) (hk : k + rm.cells ≤ R.cells) (hn : n + rm.slots ≤ R.slots)
    (K : ∀ o h, Q' o h → Go wd p l e R Z s m args below meth c Q h (k + rm.cells) (n + rm.slots) (mkF m pc' Ls (o.toList ++ rest))) : Go wd p l e R Z s m args below meth c Q h k n (mkF m pc Ls st) := by
  obtain ⟨d, rfl⟩ := D
  subst hs
  cases wd
  · refine Go.byBackN X (fun s X T L S eh => ?_) K
    obtain ⟨cq, kq, qa, qb, qc⟩ := isOf (T := T) X.2.1 eh E
    exact S.virtualBack X.1 X.2.2.1 (mvT X.2.1 w1) (mvT X.2.1 wdc) (hnf s X.2.1) (mvT X.2.1 ws) (mvT X.2.1 w2) hy (backOf (W := (rest.map fun v => v.category).sum) (Q := fun v h L => Q' v h ∧ Fr Z.heap.size L) (B []) X.2.1 w4 w3 hf hlo) qa qc (g := mkF m pc Ls (argsL.reverse ++ .ref a :: rest)) rfl (by rw [X.2.2.2.2.1]; exact hm) (Steps.refl _) (argsL := argsL) (rest := rest) (lenOf pd hl) rfl (by rw [mroom]; omega) (hb X.2.2.2.1 d) (fun _ _ => ⟨rfl, eh, hk, hn⟩)
  · refine Go.byBackW X (fun s X T L S eh => ?_) K
    obtain ⟨cq, kq, qa, qb, qc⟩ := isOf (T := T) X.2.1 eh E
    exact S.virtualBackS X.1 X.2.2.1 (mvT X.2.1 w1) (mvT X.2.1 wdc) (hnf s X.2.1) (mvT X.2.1 ws) (mvT X.2.1 w2) hy (backOfS (W := (rest.map fun v => v.category).sum) (Q := fun v h L => Q' v h ∧ Fr Z.heap.size L) (B []) X.2.1 w4 w3 hf hlo) qa qc (g := mkF m pc Ls (argsL.reverse ++ .ref a :: rest)) rfl (by rw [X.2.2.2.2.1]; exact hm) (Steps.refl _) (argsL := argsL) (rest := rest) (lenOf pd hl) rfl (by rw [mroom]; omega) (hb X.2.2.2.1 d) (fun _ _ => ⟨rfl, eh, hk, hn⟩)
theorem nfS (ws : (Cond.selects C y y).before a0 Z = true) : ∀ s : State, Z.Warmed39 s.vm → NotFace s y := fun s q => notFace_of_selects (args := #[]) (mvT q ws)
theorem nfT (ws : (Cond.noSuperclass y.cls).before a0 Z = true) : ∀ s : State, Z.Warmed39 s.vm → NotFace s y := fun s q => nf_top (args := #[]) (mvT q ws)
theorem nfU {S : String} (ws : (Cond.superclass y.cls S).before a0 Z = true) : ∀ s : State, Z.Warmed39 s.vm → NotFace s y := fun s q => nf_super (args := #[]) (mvT q ws)
theorem Go.callP (X : Cx p Z s m meth c own nm code ml ret) (E : Exa Z h a C) (B : Ct wd l Z y code' ml' ret' rm (Value.ref a :: argsL).toArray h Q')
    {idx : Nat} (w1 : (Cond.methodLink own idx y).before a0 Z = true) (w2 : (Cond.instanceMethod y).before a0 Z = true) (ws : (Cond.selects y.cls y y).before a0 Z = true) (wp : (Cond.privateMethod y).before a0 Z = true) (w3 : (Cond.initialized y.cls).before a0 Z = true) (w4 : (Cond.code y code' ml' ret').before a0 Z = true) (hy : y.cls ≠ "java/lang/invoke/MethodHandle" ∧ y.cls ≠ "java/lang/invoke/VarHandle")
    {ps : List FieldType} {rt : Option FieldType} (pd : parseMethodDescriptor y.desc = some ⟨ps, rt⟩) (hl : argsL.length = ps.length) (hs : st = argsL.reverse ++ .ref a :: rest) (D : D1 code pc (.invokevirtual idx) 3 pc') (hm : Ls.size = ml)
    (hf : rm.frames + 1 ≤ R.frames) (hlo : (rest.map fun v => v.category).sum + (ml' + 11) + rm.locals ≤ R.locals) (hk : k + rm.cells ≤ R.cells) (hn : n + rm.slots ≤ R.slots)
    (K : ∀ o h, Q' o h → Go wd p l e R Z s m args below meth c Q h (k + rm.cells) (n + rm.slots) (mkF m pc' Ls (o.toList ++ rest))) : Go wd p l e R Z s m args below meth c Q h k n (mkF m pc Ls st) := by
  obtain ⟨d, rfl⟩ := D
  subst hs
  cases wd
  · refine Go.byBackN X (fun s X T L S eh => ?_) K
    obtain ⟨cq, q1, q2⟩ := E.cell
    exact S.privateBack X.1 X.2.2.1 (mvT X.2.1 w1) (mvT X.2.1 w2) (mvT X.2.1 ws) (Cond.privateMethod_at (mvP X.2.1 wp (args := #[]))) (mvT X.2.1 w4) hy (backOf (W := (rest.map fun v => v.category).sum) (Q := fun v h L => Q' v h ∧ Fr Z.heap.size L) (B []) X.2.1 w4 w3 hf hlo) (g := mkF m pc Ls (argsL.reverse ++ .ref a :: rest)) rfl (by rw [X.2.2.2.2.1]; exact hm) (Steps.refl _) (a := a) (by rw [eh]; exact q1) q2 (argsL := argsL) (rest := rest) (lenOf pd hl) rfl (by rw [mroom]; omega) (hb X.2.2.2.1 d) (fun _ _ => ⟨rfl, eh, hk, hn⟩)
  · refine Go.byBackW X (fun s X T L S eh => ?_) K
    obtain ⟨cq, q1, q2⟩ := E.cell
    exact S.privateBackS X.1 X.2.2.1 (mvT X.2.1 w1) (mvT X.2.1 w2) (mvT X.2.1 ws) (Cond.privateMethod_at (mvP X.2.1 wp (args := #[]))) (mvT X.2.1 w4) hy (backOfS (W := (rest.map fun v => v.category).sum) (Q := fun v h L => Q' v h ∧ Fr Z.heap.size L) (B []) X.2.1 w4 w3 hf hlo) (g := mkF m pc Ls (argsL.reverse ++ .ref a :: rest)) rfl (by rw [X.2.2.2.2.1]; exact hm) (Steps.refl _) (a := a) (by rw [eh]; exact q1) q2 (argsL := argsL) (rest := rest) (lenOf pd hl) rfl (by rw [mroom]; omega) (hb X.2.2.2.1 d) (fun _ _ => ⟨rfl, eh, hk, hn⟩)
theorem Go.callN (X : Cx p Z s m meth c own nm code ml ret) {xi : MethodName} (E : Exa Z h a C) (B : Ct wd l Z y code' ml' ret' rm (Value.ref a :: argsL).toArray h Q')
    {idx cnt : Nat} (w1 : (Cond.methodLink own idx xi).before a0 Z = true) (wdc : (Cond.declares xi).before a0 Z = true) (hfa : (Cond.interfaceMethod xi.cls xi.cls xi.name xi.desc).faceAtom = true) (wf : (Cond.interfaceMethod xi.cls xi.cls xi.name xi.desc).before a0 Z = true) (ws : (Cond.selects C xi y).before a0 Z = true) (w2 : (Cond.instanceMethod y).before a0 Z = true) (wp : (Cond.publicMethod y).before a0 Z = true) (wu : (Cond.unhidden C xi.name xi.desc).before a0 Z = true) (wc : (Cond.castable C xi.cls).before a0 Z = true) (w3 : (Cond.initialized y.cls).before a0 Z = true) (w4 : (Cond.code y code' ml' ret').before a0 Z = true) (hy : xi.cls ≠ "java/lang/invoke/MethodHandle" ∧ xi.cls ≠ "java/lang/invoke/VarHandle")
    {ps : List FieldType} {rt : Option FieldType} (pd : parseMethodDescriptor xi.desc = some ⟨ps, rt⟩) (hl : argsL.length = ps.length) (hs : st = argsL.reverse ++ .ref a :: rest) (D : D1 code pc (.invokeinterface idx cnt) 5 pc') (hm : Ls.size = ml)
    (hf : rm.frames + 1 ≤ R.frames) (hlo : (rest.map fun v => v.category).sum + (ml' + 11) + rm.locals ≤ R.locals) (hk : k + rm.cells ≤ R.cells) (hn : n + rm.slots ≤ R.slots)
    (K : ∀ o h, Q' o h → Go wd p l e R Z s m args below meth c Q h (k + rm.cells) (n + rm.slots) (mkF m pc' Ls (o.toList ++ rest))) : Go wd p l e R Z s m args below meth c Q h k n (mkF m pc Ls st) := by
  obtain ⟨d, rfl⟩ := D
  subst hs
  cases wd
  · refine Go.byBackN X (fun s X T L S eh => ?_) K
    obtain ⟨cq, kq, qa, qb, qc⟩ := isOf (T := T) X.2.1 eh E
    exact S.interfaceBack X.1 X.2.2.1 (mvT X.2.1 w1) (mvT X.2.1 wdc) (mvT X.2.1 wf (by simp [Cond.onTables, Cond.keepsFace, Cond.keeps, Cond.steady, hfa])) (mvT X.2.1 ws) (mvT X.2.1 w2) (mvT X.2.1 wp) (mvT X.2.1 wu) (mvT X.2.1 wc) hy (backOf (W := (rest.map fun v => v.category).sum) (Q := fun v h L => Q' v h ∧ Fr Z.heap.size L) (B []) X.2.1 w4 w3 hf hlo) qa qb qc (g := mkF m pc Ls (argsL.reverse ++ .ref a :: rest)) rfl (by rw [X.2.2.2.2.1]; exact hm) (Steps.refl _) (argsL := argsL) (rest := rest) (lenOf pd hl) rfl (by rw [mroom]; omega) (hb X.2.2.2.1 d) (fun _ _ => ⟨rfl, eh, hk, hn⟩)
  · refine Go.byBackW X (fun s X T L S eh => ?_) K
    obtain ⟨cq, kq, qa, qb, qc⟩ := isOf (T := T) X.2.1 eh E
    exact S.interfaceBackS X.1 X.2.2.1 (mvT X.2.1 w1) (mvT X.2.1 wdc) (mvT X.2.1 wf (by simp [Cond.onTables, Cond.keepsFace, Cond.keeps, Cond.steady, hfa])) (mvT X.2.1 ws) (mvT X.2.1 w2) (mvT X.2.1 wp) (mvT X.2.1 wu) (mvT X.2.1 wc) hy (backOfS (W := (rest.map fun v => v.category).sum) (Q := fun v h L => Q' v h ∧ Fr Z.heap.size L) (B []) X.2.1 w4 w3 hf hlo) qa qb qc (g := mkF m pc Ls (argsL.reverse ++ .ref a :: rest)) rfl (by rw [X.2.2.2.2.1]; exact hm) (Steps.refl _) (argsL := argsL) (rest := rest) (lenOf pd hl) rfl (by rw [mroom]; omega) (hb X.2.2.2.1 d) (fun _ _ => ⟨rfl, eh, hk, hn⟩)
theorem Ct.wide {as : Array Value} (B : Ct false l Z y code' ml' ret' rm as h Q') : Ct true l Z y code' ml' ret' rm as h Q' := fun ws =>
  (B ws).mono (fun _ _ q => q) (fun _ _ _ _ _ q => q) fun a U o U' _ ⟨v, L, q1, q2, q3⟩ => ⟨v, L, q1, q2, RoadKit.wide q3⟩
theorem Go.initObj (X : Cx p Z s m meth c own nm code ml ret) {idx : Nat} (w1 : (Cond.methodLink own idx Lib.objectInit).before a0 Z = true) (w2 : (Cond.instanceMethod Lib.objectInit).before a0 Z = true) (w3 : (Cond.code Lib.objectInit ⟨#[0xb1]⟩ 1 none).before a0 Z = true) (D : D1 code pc (.invokespecial idx) 3 pc') (hm : Ls.size = ml) (hf : 1 ≤ R.frames) (hlo : (st.map fun v => v.category).sum + 12 ≤ R.locals)
    (K : Go wd p l e R Z s m args below meth c Q h k n (mkF m pc' Ls st)) : Go wd p l e R Z s m args below meth c Q h k n (mkF m pc Ls (.ref a :: st)) := by
  obtain ⟨dd, rfl⟩ := D
  intro vm T L' F' B S eh
  replace X := X.re B
  obtain ⟨T', S', e', stp⟩ := initO S X.1 X.2.1 X.2.2.1 w1 w2 w3 eh (g := mkF m pc Ls (.ref a :: st)) rfl (by rw [X.2.2.2.2.1]; exact hm) rfl (hb X.2.2.2.1 dd) hf (W := (st.map fun v => v.category).sum) (by rw [mroom]; omega) hlo
  obtain ⟨u, o, st', r⟩ := K vm T' L' F' B S' e'
  exact ⟨u, o, stp _ st', r⟩
end Steps
end Jvm.OwnKit
namespace Jvm.OwnKit
open Sem ClassFile Op Lib Jvm.Stand Jvm.Free Jvm.LawKit Jvm.RoadKit
section Steps
variable {wd : Bool} {p : Program} {l : Launch} {e : Env} {R : Room} {Z s : State} {m : MethodId} {args : Array Value} {below : List Frame} {meth : Method} {c : Code} {Q : Option Value → Heap → Prop} {h : Heap} {k n : Nat} {own nm : String} {code : ByteArray} {ml : Nat} {ret : Option FieldType} {a0 : Array Value}
variable {pc pc' : Nat} {Ls : Array Slot} {st : List Value} {L : List (Addr × (Cell → Prop))} {i j : Nat} {a b : Addr} {C : String} {ns : List Nm} {vs : List Value} {v : Value}
theorem Go.ishl (X : Cx p Z s m meth c own nm code ml ret) {x y : Int32} (D : D1 code pc .ishl 1 pc') (K : Go wd p l e R Z s m args below meth c Q h k n (mkF m pc' Ls (.int (x <<< (y &&& 31)) :: st))) : Go wd p l e R Z s m args below meth c Q h k n (mkF m pc Ls (.int y :: .int x :: st)) := by
  obtain ⟨d, rfl⟩ := D
  exact K.to X fun s X T L S t r => XT.ishl S.here X.1 rfl (hb X.2.2.2.1 d) rfl r
theorem Go.ishr (X : Cx p Z s m meth c own nm code ml ret) {x y : Int32} (D : D1 code pc .ishr 1 pc') (K : Go wd p l e R Z s m args below meth c Q h k n (mkF m pc' Ls (.int (x >>> (y &&& 31)) :: st))) : Go wd p l e R Z s m args below meth c Q h k n (mkF m pc Ls (.int y :: .int x :: st)) := by
  obtain ⟨d, rfl⟩ := D
  exact K.to X fun s X T L S t r => XT.ishr S.here X.1 rfl (hb X.2.2.2.1 d) rfl r
theorem Go.iushr (X : Cx p Z s m meth c own nm code ml ret) {x y : Int32} (D : D1 code pc .iushr 1 pc') (K : Go wd p l e R Z s m args below meth c Q h k n (mkF m pc' Ls (.int (XT.ushr x y) :: st))) : Go wd p l e R Z s m args below meth c Q h k n (mkF m pc Ls (.int y :: .int x :: st)) := by
  obtain ⟨d, rfl⟩ := D
  exact K.to X fun s X T L S t r => XT.iushr S.here X.1 rfl (hb X.2.2.2.1 d) rfl r
theorem Go.ineg (X : Cx p Z s m meth c own nm code ml ret) {x : Int32} (D : D1 code pc .ineg 1 pc') (K : Go wd p l e R Z s m args below meth c Q h k n (mkF m pc' Ls (.int (-x) :: st))) : Go wd p l e R Z s m args below meth c Q h k n (mkF m pc Ls (.int x :: st)) := by
  obtain ⟨d, rfl⟩ := D
  exact K.to X fun s X T L S t r => XS.ineg S.here X.1 rfl (hb X.2.2.2.1 d) rfl r
theorem Go.i2c (X : Cx p Z s m meth c own nm code ml ret) {x : Int32} (D : D1 code pc .i2c 1 pc') (K : Go wd p l e R Z s m args below meth c Q h k n (mkF m pc' Ls (.int (x.toUInt32.toUInt16.toUInt32.toInt32) :: st))) : Go wd p l e R Z s m args below meth c Q h k n (mkF m pc Ls (.int x :: st)) := by
  obtain ⟨d, rfl⟩ := D
  exact K.to X fun s X T L S t r => XT.i2c S.here X.1 rfl (hb X.2.2.2.1 d) rfl r
theorem Go.i2b (X : Cx p Z s m meth c own nm code ml ret) {x : Int32} (D : D1 code pc .i2b 1 pc') (K : Go wd p l e R Z s m args below meth c Q h k n (mkF m pc' Ls (.int (x.toInt8.toInt32) :: st))) : Go wd p l e R Z s m args below meth c Q h k n (mkF m pc Ls (.int x :: st)) := by
  obtain ⟨d, rfl⟩ := D
  exact K.to X fun s X T L S t r => XT.i2b S.here X.1 rfl (hb X.2.2.2.1 d) rfl r
theorem Go.cald (X : Cx p Z s m meth c own nm code ml ret) (H : Hp Z h L) {K' : ClassId} {z x : Int32} (hi : L[i]? = some (a, Ar Z .char K' vs)) (hz : ¬ z < 0) (hv : vs[z.toNatClampNeg]? = some (.int x)) (D : D1 code pc .caload 1 pc') (K : Go wd p l e R Z s m args below meth c Q h k n (mkF m pc' Ls (.int x :: st))) : Go wd p l e R Z s m args below meth c Q h k n (mkF m pc Ls (.int z :: .ref a :: st)) := by
  obtain ⟨d, rfl⟩ := D
  intro vm T L' F B S eh
  replace X := X.re B
  obtain ⟨cl, A, -, q, -, -⟩ := H.arr hi
  obtain ⟨u, o, st', r⟩ := K vm T L' F B S eh
  exact ⟨u, o, S.caload X.1 (by rw [eh]; exact A.1) (State.isArrayOf_alike X.2.1.alike A.2.1) A.2.2 (inb q hz (List.getElem?_eq_some_iff.mp hv).1) (by rw [q]; simpa using hv) (g := mkF m pc Ls (.int z :: .ref a :: st)) rfl rfl (hb X.2.2.2.1 d) _ st', r⟩
theorem Go.bald (X : Cx p Z s m meth c own nm code ml ret) (H : Hp Z h L) {K' : ClassId} {z x : Int32} (hi : L[i]? = some (a, Ar Z .byte K' vs)) (hz : ¬ z < 0) (hv : vs[z.toNatClampNeg]? = some (.int x)) (D : D1 code pc .baload 1 pc') (K : Go wd p l e R Z s m args below meth c Q h k n (mkF m pc' Ls (.int x :: st))) : Go wd p l e R Z s m args below meth c Q h k n (mkF m pc Ls (.int z :: .ref a :: st)) := by
  obtain ⟨d, rfl⟩ := D
  intro vm T L' F B S eh
  replace X := X.re B
  obtain ⟨cl, A, -, q, -, -⟩ := H.arr hi
  obtain ⟨u, o, st', r⟩ := K vm T L' F B S eh
  exact ⟨u, o, S.baloadBytes X.1 (by rw [eh]; exact A.1) (State.isArrayOf_alike X.2.1.alike A.2.1) A.2.2 (inb q hz (List.getElem?_eq_some_iff.mp hv).1) (by rw [q]; simpa using hv) (g := mkF m pc Ls (.int z :: .ref a :: st)) rfl rfl (hb X.2.2.2.1 d) _ st', r⟩
theorem Go.aald (X : Cx p Z s m meth c own nm code ml ret) (H : Hp Z h L) {K' : ClassId} {ty : FieldType} {z : Int32} (hi : L[i]? = some (a, Ar Z ty K' vs)) (ht : ty.isReference = true) (hz : ¬ z < 0) (hv : vs[z.toNatClampNeg]? = some v) (D : D1 code pc .aaload 1 pc') (K : Go wd p l e R Z s m args below meth c Q h k n (mkF m pc' Ls (v :: st))) : Go wd p l e R Z s m args below meth c Q h k n (mkF m pc Ls (.int z :: .ref a :: st)) := by
  obtain ⟨d, rfl⟩ := D
  intro vm T L' F B S eh
  replace X := X.re B
  obtain ⟨cl, A, -, q, -, -⟩ := H.arr hi
  obtain ⟨u, o, st', r⟩ := K vm T L' F B S eh
  exact ⟨u, o, S.aaload X.1 (by rw [eh]; exact A.1) (State.isArrayOf_alike X.2.1.alike A.2.1) ht A.2.2 (inb q hz (List.getElem?_eq_some_iff.mp hv).1) (by rw [q]; simpa using hv) (g := mkF m pc Ls (.int z :: .ref a :: st)) rfl rfl (hb X.2.2.2.1 d) _ st', r⟩
theorem Go.aaldO (X : Cx p Z s m meth c own nm code ml ret) (E : Ext Z.heap h) {ty : FieldType} {z : Int32} {cl : Cell} (A : Arr Z Z.heap a cl ty) (ht : ty.isReference = true) (hz : ¬ z < 0) (hv : cl.slots[z.toNatClampNeg]? = some v) (D : D1 code pc .aaload 1 pc') (K : Go wd p l e R Z s m args below meth c Q h k n (mkF m pc' Ls (v :: st))) : Go wd p l e R Z s m args below meth c Q h k n (mkF m pc Ls (.int z :: .ref a :: st)) := by
  obtain ⟨d, rfl⟩ := D
  intro vm T L' F B S eh
  replace X := X.re B
  have A := A.ext E
  obtain ⟨u, o, st', r⟩ := K vm T L' F B S eh
  exact ⟨u, o, S.aaload X.1 (by rw [eh]; exact A.1) (State.isArrayOf_alike X.2.1.alike A.2.1) ht A.2.2 (fun q => q.elim hz fun q => absurd (Array.getElem?_eq_some_iff.mp hv).1 (Nat.not_lt.mpr q)) hv (g := mkF m pc Ls (.int z :: .ref a :: st)) rfl rfl (hb X.2.2.2.1 d) _ st', r⟩
theorem Go.cast' (X : Cx p Z s m meth c own nm code ml ret) (H : Hp Z h L) {K' : ClassId} {z x y : Int32} (hi : L[i]? = some (a, Ar Z .char K' vs)) (hz : ¬ z < 0) (hN : z.toNatClampNeg < vs.length) (hx : x.toUInt32.toUInt16.toUInt32.toInt32 = y) (D : D1 code pc .castore 1 pc') (K : ∀ h, Hp Z h (upd L i (a, Ar Z .char K' (vs.set z.toNatClampNeg (.int y)))) → Go wd p l e R Z s m args below meth c Q h k n (mkF m pc' Ls st)) : Go wd p l e R Z s m args below meth c Q h k n (mkF m pc Ls (.int x :: .int z :: .ref a :: st)) := by
  obtain ⟨d, rfl⟩ := D
  subst hx
  intro vm T L' F B S eh
  replace X := X.re B
  obtain ⟨cl, A, -, q, -, -⟩ := H.arr hi
  obtain ⟨T', h', S', e', W, stp⟩ := stC S X.1 X.2.1 eh A (inb q hz hN) (g := mkF m pc Ls (.int x :: .int z :: .ref a :: st)) rfl rfl (hb X.2.2.2.1 d)
  have H' := H.wr (P' := Ar Z .char K' (vs.set z.toNatClampNeg (.int (nar .char x)))) hi W fun c A _ _ => Ar.put A (fits_nar_char x)
  obtain ⟨u, o, st', r⟩ := K h' H' vm T' _ (F.app fun y hy => by cases List.mem_singleton.mp hy; exact H.ge hi) (B.mono (Nat.le_of_eq W.size.symm)) S' e'
  exact ⟨u, o, stp _ st', r⟩
theorem Go.bast (X : Cx p Z s m meth c own nm code ml ret) (H : Hp Z h L) {K' : ClassId} {z x y : Int32} (hi : L[i]? = some (a, Ar Z .byte K' vs)) (hz : ¬ z < 0) (hN : z.toNatClampNeg < vs.length) (hx : x.toInt8.toInt32 = y) (D : D1 code pc .bastore 1 pc') (K : ∀ h, Hp Z h (upd L i (a, Ar Z .byte K' (vs.set z.toNatClampNeg (.int y)))) → Go wd p l e R Z s m args below meth c Q h k n (mkF m pc' Ls st)) : Go wd p l e R Z s m args below meth c Q h k n (mkF m pc Ls (.int x :: .int z :: .ref a :: st)) := by
  obtain ⟨d, rfl⟩ := D
  subst hx
  intro vm T L' F B S eh
  replace X := X.re B
  obtain ⟨cl, A, -, q, -, -⟩ := H.arr hi
  obtain ⟨T', h', S', e', W, stp⟩ := stB S X.1 X.2.1 eh A (inb q hz hN) (g := mkF m pc Ls (.int x :: .int z :: .ref a :: st)) rfl rfl (hb X.2.2.2.1 d)
  have H' := H.wr (P' := Ar Z .byte K' (vs.set z.toNatClampNeg (.int (x.toInt8.toInt32)))) hi W fun c A _ _ => Ar.put A (fits_nar_byte x)
  obtain ⟨u, o, st', r⟩ := K h' H' vm T' _ (F.app fun y hy => by cases List.mem_singleton.mp hy; exact H.ge hi) (B.mono (Nat.le_of_eq W.size.symm)) S' e'
  exact ⟨u, o, stp _ st', r⟩
theorem Go.aast (X : Cx p Z s m meth c own nm code ml ret) (H : Hp Z h L) {K' : ClassId} {t : String} {z : Int32} (hi : L[i]? = some (a, Ar Z (.object t) K' vs)) (hz : ¬ z < 0) (hN : z.toNatClampNeg < vs.length) (hs : Sto Z h a v) (hf : fits (.object t) v = true) (D : D1 code pc .aastore 1 pc') (K : ∀ h, Hp Z h (upd L i (a, Ar Z (.object t) K' (vs.set z.toNatClampNeg v))) → Go wd p l e R Z s m args below meth c Q h k n (mkF m pc' Ls st)) : Go wd p l e R Z s m args below meth c Q h k n (mkF m pc Ls (v :: .int z :: .ref a :: st)) := by
  obtain ⟨d, rfl⟩ := D
  intro vm T L' F B S eh
  replace X := X.re B
  obtain ⟨cl, A, -, q, -, -⟩ := H.arr hi
  obtain ⟨T', h', S', e', W, stp⟩ := stR S X.1 X.2.1 eh A (inb q hz hN) rfl hs (g := mkF m pc Ls (v :: .int z :: .ref a :: st)) rfl rfl (hb X.2.2.2.1 d)
  have H' := H.wr (P' := Ar Z (.object t) K' (vs.set z.toNatClampNeg v)) hi W fun c A _ _ => Ar.put A hf
  obtain ⟨u, o, st', r⟩ := K h' H' vm T' _ (F.app fun y hy => by cases List.mem_singleton.mp hy; exact H.ge hi) (B.mono (Nat.le_of_eq W.size.symm)) S' e'
  exact ⟨u, o, stp _ st', r⟩
/-- what may lie in an array of the class number K' -/
theorem Hp.sto (H : Hp Z h L) {K' : ClassId} {ty : FieldType} (hi : L[i]? = some (a, Ar Z ty K' vs)) (O : Ovr Z K' C) (I : Ins Z h b C true) : Sto Z h a (.ref b) := by
  obtain ⟨cl, A, q, -⟩ := H.arr hi
  exact Sto.of A (q ▸ O) I
theorem Go.ccast (X : Cx p Z s m meth c own nm code ml ret) {idx : Nat} (w : (Cond.classLink own idx C).before a0 Z = true) (I : Ins Z h a C true) (D : D1 code pc (.checkcast idx) 3 pc') (K : Go wd p l e R Z s m args below meth c Q h k n (mkF m pc' Ls (.ref a :: st))) : Go wd p l e R Z s m args below meth c Q h k n (mkF m pc Ls (.ref a :: st)) := by
  obtain ⟨d, rfl⟩ := D
  intro vm T L' F B S eh
  replace X := X.re B
  obtain ⟨T', S', e', stp⟩ := castY S X.1 X.2.1 X.2.2.1 w eh I (g := mkF m pc Ls (.ref a :: st)) rfl rfl (hb X.2.2.2.1 d)
  obtain ⟨u, o, st', r⟩ := K vm T' L' F B S' e'
  exact ⟨u, o, stp _ st', r⟩
theorem Go.inst1 (X : Cx p Z s m meth c own nm code ml ret) {idx : Nat} (w : (Cond.classLink own idx C).before a0 Z = true) (I : Ins Z h a C true) (D : D1 code pc (.instanceof idx) 3 pc') (K : Go wd p l e R Z s m args below meth c Q h k n (mkF m pc' Ls (.int 1 :: st))) : Go wd p l e R Z s m args below meth c Q h k n (mkF m pc Ls (.ref a :: st)) := by
  obtain ⟨d, rfl⟩ := D
  intro vm T L' F B S eh
  replace X := X.re B
  obtain ⟨T', S', e', stp⟩ := instY S X.1 X.2.1 X.2.2.1 w eh I (g := mkF m pc Ls (.ref a :: st)) rfl rfl (hb X.2.2.2.1 d)
  obtain ⟨u, o, st', r⟩ := K vm T' L' F B S' e'
  exact ⟨u, o, stp _ st', r⟩
end Steps
end Jvm.OwnKit
namespace Jvm.Pilot.@@N@@
open Jvm Jvm.ClassFile Sem Op Lib Jvm.Free Jvm.Stand Jvm.LawKit Jvm.RoadKit Jvm.OwnKit Bundle Jvm.Pilot.@@N@@.Jvm.D
abbrev Hw (a0 : Array Value) (Z : State) : Prop := ∀ d ∈ tables_1, d.before a0 Z = true
theorem w0 {a0 : Array Value} {Z : State} (hw : Hw a0 Z) : (Jvm.Cond.arrayClass Jvm.ClassFile.FieldType.int).before a0 Z = true := hw _ (List.mem_of_getElem? (i := 0) rfl)
theorem w1 {a0 : Array Value} {Z : State} (hw : Hw a0 Z) : (Jvm.Cond.constant "com/example/boxwood/boxwood/VerifierIsNameStartPinLaw" (13 : Nat) (55295 : Int32)).before a0 Z = true := hw _ (List.mem_of_getElem? (i := 1) rfl)
theorem w2 {a0 : Array Value} {Z : State} (hw : Hw a0 Z) : (Jvm.Cond.constant "com/example/boxwood/boxwood/VerifierIsNameStartPinLaw" (14 : Nat) (63744 : Int32)).before a0 Z = true := hw _ (List.mem_of_getElem? (i := 2) rfl)
theorem w3 {a0 : Array Value} {Z : State} (hw : Hw a0 Z) : (Jvm.Cond.constant "com/example/boxwood/boxwood/VerifierIsNameStartPinLaw" (15 : Nat) (64975 : Int32)).before a0 Z = true := hw _ (List.mem_of_getElem? (i := 3) rfl)
theorem w4 {a0 : Array Value} {Z : State} (hw : Hw a0 Z) : (Jvm.Cond.constant "com/example/boxwood/boxwood/VerifierIsNameStartPinLaw" (16 : Nat) (65008 : Int32)).before a0 Z = true := hw _ (List.mem_of_getElem? (i := 4) rfl)
theorem w5 {a0 : Array Value} {Z : State} (hw : Hw a0 Z) : (Jvm.Cond.constant "com/example/boxwood/boxwood/VerifierIsNameStartPinLaw" (17 : Nat) (65533 : Int32)).before a0 Z = true := hw _ (List.mem_of_getElem? (i := 5) rfl)
theorem w6 {a0 : Array Value} {Z : State} (hw : Hw a0 Z) : (Jvm.Cond.constant "com/example/boxwood/boxwood/VerifierIsNameStartPinLaw" (18 : Nat) (65536 : Int32)).before a0 Z = true := hw _ (List.mem_of_getElem? (i := 6) rfl)
theorem w7 {a0 : Array Value} {Z : State} (hw : Hw a0 Z) : (Jvm.Cond.constant "com/example/boxwood/boxwood/VerifierIsNameStartPinLaw" (19 : Nat) (983039 : Int32)).before a0 Z = true := hw _ (List.mem_of_getElem? (i := 7) rfl)
theorem w8 {a0 : Array Value} {Z : State} (hw : Hw a0 Z) : (Jvm.Cond.constant "com/example/boxwood/boxwood/VerifierIsNameStartPinLaw" (20 : Nat) (1114111 : Int32)).before a0 Z = true := hw _ (List.mem_of_getElem? (i := 8) rfl)
theorem w9 {a0 : Array Value} {Z : State} (hw : Hw a0 Z) : (Jvm.Cond.constant "com/example/boxwood/boxwood/VerifierIsNameStartPinLaw" (23 : Nat) (-2147483648 : Int32)).before a0 Z = true := hw _ (List.mem_of_getElem? (i := 9) rfl)
theorem w10 {a0 : Array Value} {Z : State} (hw : Hw a0 Z) : (Jvm.Cond.constant "com/example/boxwood/boxwood/VerifierIsNameStartPinLaw" (24 : Nat) (2147483647 : Int32)).before a0 Z = true := hw _ (List.mem_of_getElem? (i := 10) rfl)
theorem w11 {a0 : Array Value} {Z : State} (hw : Hw a0 Z) : (Jvm.Cond.methodLink "com/example/boxwood/boxwood/VerifierIsNameStartPinLaw" (25 : Nat) ({ cls := "com/example/boxwood/boxwood/Verifier", name := "isNameStart", desc := "(I)Z" } : Jvm.MethodName)).before a0 Z = true := hw _ (List.mem_of_getElem? (i := 11) rfl)
theorem w12 {a0 : Array Value} {Z : State} (hw : Hw a0 Z) : (Jvm.Cond.static ({ cls := "com/example/boxwood/boxwood/Verifier", name := "isNameStart", desc := "(I)Z" } : Jvm.MethodName)).before a0 Z = true := hw _ (List.mem_of_getElem? (i := 12) rfl)
theorem w13 {a0 : Array Value} {Z : State} (hw : Hw a0 Z) : (Jvm.Cond.initialized "com/example/boxwood/boxwood/Verifier").before a0 Z = true := hw _ (List.mem_of_getElem? (i := 13) rfl)
theorem w14 {a0 : Array Value} {Z : State} (hw : Hw a0 Z) : (Jvm.Cond.code ({ cls := "com/example/boxwood/boxwood/Verifier", name := "isNameStart", desc := "(I)Z" } : Jvm.MethodName) prog_51_method_19_code (1 : Nat) (Option.some Jvm.ClassFile.FieldType.boolean)).before a0 Z = true := hw _ (List.mem_of_getElem? (i := 14) rfl)
theorem w15 {a0 : Array Value} {Z : State} (hw : Hw a0 Z) : (Jvm.Cond.methodLink "com/example/boxwood/boxwood/VerifierIsNameStartPinLaw" (31 : Nat) ({ cls := "com/example/boxwood/boxwood/VerifierIsNameStartPinLaw", name := "spec", desc := "(I)Z" } : Jvm.MethodName)).before a0 Z = true := hw _ (List.mem_of_getElem? (i := 15) rfl)
theorem w16 {a0 : Array Value} {Z : State} (hw : Hw a0 Z) : (Jvm.Cond.static ({ cls := "com/example/boxwood/boxwood/VerifierIsNameStartPinLaw", name := "spec", desc := "(I)Z" } : Jvm.MethodName)).before a0 Z = true := hw _ (List.mem_of_getElem? (i := 16) rfl)
theorem w17 {a0 : Array Value} {Z : State} (hw : Hw a0 Z) : (Jvm.Cond.initialized "com/example/boxwood/boxwood/VerifierIsNameStartPinLaw").before a0 Z = true := hw _ (List.mem_of_getElem? (i := 17) rfl)
theorem w18 {a0 : Array Value} {Z : State} (hw : Hw a0 Z) : (Jvm.Cond.code ({ cls := "com/example/boxwood/boxwood/VerifierIsNameStartPinLaw", name := "spec", desc := "(I)Z" } : Jvm.MethodName) method_3_code (1 : Nat) (Option.some Jvm.ClassFile.FieldType.boolean)).before a0 Z = true := hw _ (List.mem_of_getElem? (i := 18) rfl)
theorem w19 {a0 : Array Value} {Z : State} (hw : Hw a0 Z) : (Jvm.Cond.methodLink "com/example/boxwood/boxwood/VerifierIsNameStartPinLaw" (7 : Nat) ({ cls := "com/example/boxwood/boxwood/VerifierIsNameStartPinLaw", name := "in", desc := "(III)Z" } : Jvm.MethodName)).before a0 Z = true := hw _ (List.mem_of_getElem? (i := 19) rfl)
theorem w20 {a0 : Array Value} {Z : State} (hw : Hw a0 Z) : (Jvm.Cond.static ({ cls := "com/example/boxwood/boxwood/VerifierIsNameStartPinLaw", name := "in", desc := "(III)Z" } : Jvm.MethodName)).before a0 Z = true := hw _ (List.mem_of_getElem? (i := 20) rfl)
theorem w21 {a0 : Array Value} {Z : State} (hw : Hw a0 Z) : (Jvm.Cond.code ({ cls := "com/example/boxwood/boxwood/VerifierIsNameStartPinLaw", name := "in", desc := "(III)Z" } : Jvm.MethodName) method_2_code (3 : Nat) (Option.some Jvm.ClassFile.FieldType.boolean)).before a0 Z = true := hw _ (List.mem_of_getElem? (i := 21) rfl)
theorem w22 {a0 : Array Value} {Z : State} (hw : Hw a0 Z) : (Jvm.Cond.fieldLink "com/example/boxwood/boxwood/Verifier" (206 : Nat) "com/example/boxwood/boxwood/Verifier" "NAME_START" "[I").before a0 Z = true := hw _ (List.mem_of_getElem? (i := 22) rfl)
theorem w23 {a0 : Array Value} {Z : State} (hw : Hw a0 Z) : (Jvm.Cond.laysStatic "com/example/boxwood/boxwood/Verifier" "NAME_START" "[I").before a0 Z = true := hw _ (List.mem_of_getElem? (i := 23) rfl)
theorem w24 {a0 : Array Value} {Z : State} (hw : Hw a0 Z) : (Jvm.Cond.methodLink "com/example/boxwood/boxwood/Verifier" (210 : Nat) ({ cls := "com/example/boxwood/boxwood/Verifier", name := "inRanges", desc := "(I[I)Z" } : Jvm.MethodName)).before a0 Z = true := hw _ (List.mem_of_getElem? (i := 24) rfl)
theorem w25 {a0 : Array Value} {Z : State} (hw : Hw a0 Z) : (Jvm.Cond.static ({ cls := "com/example/boxwood/boxwood/Verifier", name := "inRanges", desc := "(I[I)Z" } : Jvm.MethodName)).before a0 Z = true := hw _ (List.mem_of_getElem? (i := 25) rfl)
theorem w26 {a0 : Array Value} {Z : State} (hw : Hw a0 Z) : (Jvm.Cond.code ({ cls := "com/example/boxwood/boxwood/Verifier", name := "inRanges", desc := "(I[I)Z" } : Jvm.MethodName) prog_51_method_21_code (3 : Nat) (Option.some Jvm.ClassFile.FieldType.boolean)).before a0 Z = true := hw _ (List.mem_of_getElem? (i := 26) rfl)
theorem d0_0 : D1 code 0 (.bipush 37) 2 2 := ⟨at_0, rfl⟩
theorem d0_2 : D1 code 2 (.newarray .int) 2 4 := ⟨at_2, rfl⟩
theorem d0_4 : D1 code 4 (.dup) 1 5 := ⟨at_4, rfl⟩
theorem d0_5 : D1 code 5 (.iconst 0) 1 6 := ⟨at_5, rfl⟩
theorem d0_6 : D1 code 6 (.iconst 0) 1 7 := ⟨at_6, rfl⟩
theorem d0_7 : D1 code 7 (.iastore) 1 8 := ⟨at_7, rfl⟩
theorem d0_8 : D1 code 8 (.dup) 1 9 := ⟨at_8, rfl⟩
theorem d0_9 : D1 code 9 (.iconst 1) 1 10 := ⟨at_9, rfl⟩
theorem d0_10 : D1 code 10 (.bipush 58) 2 12 := ⟨at_10, rfl⟩
theorem d0_12 : D1 code 12 (.iastore) 1 13 := ⟨at_12, rfl⟩
theorem d0_13 : D1 code 13 (.dup) 1 14 := ⟨at_13, rfl⟩
theorem d0_14 : D1 code 14 (.iconst 2) 1 15 := ⟨at_14, rfl⟩
theorem d0_15 : D1 code 15 (.bipush 65) 2 17 := ⟨at_15, rfl⟩
theorem d0_17 : D1 code 17 (.iastore) 1 18 := ⟨at_17, rfl⟩
theorem d0_18 : D1 code 18 (.dup) 1 19 := ⟨at_18, rfl⟩
theorem d0_19 : D1 code 19 (.iconst 3) 1 20 := ⟨at_19, rfl⟩
theorem d0_20 : D1 code 20 (.bipush 90) 2 22 := ⟨at_20, rfl⟩
theorem d0_22 : D1 code 22 (.iastore) 1 23 := ⟨at_22, rfl⟩
theorem d0_23 : D1 code 23 (.dup) 1 24 := ⟨at_23, rfl⟩
theorem d0_24 : D1 code 24 (.iconst 4) 1 25 := ⟨at_24, rfl⟩
theorem d0_25 : D1 code 25 (.bipush 95) 2 27 := ⟨at_25, rfl⟩
theorem d0_27 : D1 code 27 (.iastore) 1 28 := ⟨at_27, rfl⟩
theorem d0_28 : D1 code 28 (.dup) 1 29 := ⟨at_28, rfl⟩
theorem d0_29 : D1 code 29 (.iconst 5) 1 30 := ⟨at_29, rfl⟩
theorem d0_30 : D1 code 30 (.bipush 97) 2 32 := ⟨at_30, rfl⟩
theorem d0_32 : D1 code 32 (.iastore) 1 33 := ⟨at_32, rfl⟩
theorem d0_33 : D1 code 33 (.dup) 1 34 := ⟨at_33, rfl⟩
theorem d0_34 : D1 code 34 (.bipush 6) 2 36 := ⟨at_34, rfl⟩
theorem d0_36 : D1 code 36 (.bipush 122) 2 38 := ⟨at_36, rfl⟩
theorem d0_38 : D1 code 38 (.iastore) 1 39 := ⟨at_38, rfl⟩
theorem d0_39 : D1 code 39 (.dup) 1 40 := ⟨at_39, rfl⟩
theorem d0_40 : D1 code 40 (.bipush 7) 2 42 := ⟨at_40, rfl⟩
theorem d0_42 : D1 code 42 (.bipush 127) 2 44 := ⟨at_42, rfl⟩
theorem d0_44 : D1 code 44 (.iastore) 1 45 := ⟨at_44, rfl⟩
theorem d0_45 : D1 code 45 (.dup) 1 46 := ⟨at_45, rfl⟩
theorem d0_46 : D1 code 46 (.bipush 8) 2 48 := ⟨at_46, rfl⟩
theorem d0_48 : D1 code 48 (.sipush 128) 3 51 := ⟨at_48, rfl⟩
theorem d0_51 : D1 code 51 (.iastore) 1 52 := ⟨at_51, rfl⟩
theorem d0_52 : D1 code 52 (.dup) 1 53 := ⟨at_52, rfl⟩
theorem d0_53 : D1 code 53 (.bipush 9) 2 55 := ⟨at_53, rfl⟩
theorem d0_55 : D1 code 55 (.sipush 183) 3 58 := ⟨at_55, rfl⟩
theorem d0_58 : D1 code 58 (.iastore) 1 59 := ⟨at_58, rfl⟩
theorem d0_59 : D1 code 59 (.dup) 1 60 := ⟨at_59, rfl⟩
theorem d0_60 : D1 code 60 (.bipush 10) 2 62 := ⟨at_60, rfl⟩
theorem d0_62 : D1 code 62 (.sipush 192) 3 65 := ⟨at_62, rfl⟩
theorem d0_65 : D1 code 65 (.iastore) 1 66 := ⟨at_65, rfl⟩
theorem d0_66 : D1 code 66 (.dup) 1 67 := ⟨at_66, rfl⟩
theorem d0_67 : D1 code 67 (.bipush 11) 2 69 := ⟨at_67, rfl⟩
theorem d0_69 : D1 code 69 (.sipush 214) 3 72 := ⟨at_69, rfl⟩
theorem d0_72 : D1 code 72 (.iastore) 1 73 := ⟨at_72, rfl⟩
theorem d0_73 : D1 code 73 (.dup) 1 74 := ⟨at_73, rfl⟩
theorem d0_74 : D1 code 74 (.bipush 12) 2 76 := ⟨at_74, rfl⟩
theorem d0_76 : D1 code 76 (.sipush 216) 3 79 := ⟨at_76, rfl⟩
theorem d0_79 : D1 code 79 (.iastore) 1 80 := ⟨at_79, rfl⟩
theorem d0_80 : D1 code 80 (.dup) 1 81 := ⟨at_80, rfl⟩
theorem d0_81 : D1 code 81 (.bipush 13) 2 83 := ⟨at_81, rfl⟩
theorem d0_83 : D1 code 83 (.sipush 246) 3 86 := ⟨at_83, rfl⟩
theorem d0_86 : D1 code 86 (.iastore) 1 87 := ⟨at_86, rfl⟩
theorem d0_87 : D1 code 87 (.dup) 1 88 := ⟨at_87, rfl⟩
theorem d0_88 : D1 code 88 (.bipush 14) 2 90 := ⟨at_88, rfl⟩
theorem d0_90 : D1 code 90 (.sipush 248) 3 93 := ⟨at_90, rfl⟩
theorem d0_93 : D1 code 93 (.iastore) 1 94 := ⟨at_93, rfl⟩
theorem d0_94 : D1 code 94 (.dup) 1 95 := ⟨at_94, rfl⟩
theorem d0_95 : D1 code 95 (.bipush 15) 2 97 := ⟨at_95, rfl⟩
theorem d0_97 : D1 code 97 (.sipush 767) 3 100 := ⟨at_97, rfl⟩
theorem d0_100 : D1 code 100 (.iastore) 1 101 := ⟨at_100, rfl⟩
theorem d0_101 : D1 code 101 (.dup) 1 102 := ⟨at_101, rfl⟩
theorem d0_102 : D1 code 102 (.bipush 16) 2 104 := ⟨at_102, rfl⟩
theorem d0_104 : D1 code 104 (.sipush 880) 3 107 := ⟨at_104, rfl⟩
theorem d0_107 : D1 code 107 (.iastore) 1 108 := ⟨at_107, rfl⟩
theorem d0_108 : D1 code 108 (.dup) 1 109 := ⟨at_108, rfl⟩
theorem d0_109 : D1 code 109 (.bipush 17) 2 111 := ⟨at_109, rfl⟩
theorem d0_111 : D1 code 111 (.sipush 893) 3 114 := ⟨at_111, rfl⟩
theorem d0_114 : D1 code 114 (.iastore) 1 115 := ⟨at_114, rfl⟩
theorem d0_115 : D1 code 115 (.dup) 1 116 := ⟨at_115, rfl⟩
theorem d0_116 : D1 code 116 (.bipush 18) 2 118 := ⟨at_116, rfl⟩
theorem d0_118 : D1 code 118 (.sipush 895) 3 121 := ⟨at_118, rfl⟩
theorem d0_121 : D1 code 121 (.iastore) 1 122 := ⟨at_121, rfl⟩
theorem d0_122 : D1 code 122 (.dup) 1 123 := ⟨at_122, rfl⟩
theorem d0_123 : D1 code 123 (.bipush 19) 2 125 := ⟨at_123, rfl⟩
theorem d0_125 : D1 code 125 (.sipush 8191) 3 128 := ⟨at_125, rfl⟩
theorem d0_128 : D1 code 128 (.iastore) 1 129 := ⟨at_128, rfl⟩
theorem d0_129 : D1 code 129 (.dup) 1 130 := ⟨at_129, rfl⟩
theorem d0_130 : D1 code 130 (.bipush 20) 2 132 := ⟨at_130, rfl⟩
theorem d0_132 : D1 code 132 (.sipush 8204) 3 135 := ⟨at_132, rfl⟩
theorem d0_135 : D1 code 135 (.iastore) 1 136 := ⟨at_135, rfl⟩
theorem d0_136 : D1 code 136 (.dup) 1 137 := ⟨at_136, rfl⟩
theorem d0_137 : D1 code 137 (.bipush 21) 2 139 := ⟨at_137, rfl⟩
theorem d0_139 : D1 code 139 (.sipush 8205) 3 142 := ⟨at_139, rfl⟩
theorem d0_142 : D1 code 142 (.iastore) 1 143 := ⟨at_142, rfl⟩
theorem d0_143 : D1 code 143 (.dup) 1 144 := ⟨at_143, rfl⟩
theorem d0_144 : D1 code 144 (.bipush 22) 2 146 := ⟨at_144, rfl⟩
theorem d0_146 : D1 code 146 (.sipush 8304) 3 149 := ⟨at_146, rfl⟩
theorem d0_149 : D1 code 149 (.iastore) 1 150 := ⟨at_149, rfl⟩
theorem d0_150 : D1 code 150 (.dup) 1 151 := ⟨at_150, rfl⟩
theorem d0_151 : D1 code 151 (.bipush 23) 2 153 := ⟨at_151, rfl⟩
theorem d0_153 : D1 code 153 (.sipush 8591) 3 156 := ⟨at_153, rfl⟩
theorem d0_156 : D1 code 156 (.iastore) 1 157 := ⟨at_156, rfl⟩
theorem d0_157 : D1 code 157 (.dup) 1 158 := ⟨at_157, rfl⟩
theorem d0_158 : D1 code 158 (.bipush 24) 2 160 := ⟨at_158, rfl⟩
theorem d0_160 : D1 code 160 (.sipush 11264) 3 163 := ⟨at_160, rfl⟩
theorem d0_163 : D1 code 163 (.iastore) 1 164 := ⟨at_163, rfl⟩
theorem d0_164 : D1 code 164 (.dup) 1 165 := ⟨at_164, rfl⟩
theorem d0_165 : D1 code 165 (.bipush 25) 2 167 := ⟨at_165, rfl⟩
theorem d0_167 : D1 code 167 (.sipush 12271) 3 170 := ⟨at_167, rfl⟩
theorem d0_170 : D1 code 170 (.iastore) 1 171 := ⟨at_170, rfl⟩
theorem d0_171 : D1 code 171 (.dup) 1 172 := ⟨at_171, rfl⟩
theorem d0_172 : D1 code 172 (.bipush 26) 2 174 := ⟨at_172, rfl⟩
theorem d0_174 : D1 code 174 (.sipush 12289) 3 177 := ⟨at_174, rfl⟩
theorem d0_177 : D1 code 177 (.iastore) 1 178 := ⟨at_177, rfl⟩
theorem d0_178 : D1 code 178 (.dup) 1 179 := ⟨at_178, rfl⟩
theorem d0_179 : D1 code 179 (.bipush 27) 2 181 := ⟨at_179, rfl⟩
theorem d0_181 : D1 code 181 (.ldc 13) 2 183 := ⟨at_181, rfl⟩
theorem d0_183 : D1 code 183 (.iastore) 1 184 := ⟨at_183, rfl⟩
theorem d0_184 : D1 code 184 (.dup) 1 185 := ⟨at_184, rfl⟩
theorem d0_185 : D1 code 185 (.bipush 28) 2 187 := ⟨at_185, rfl⟩
theorem d0_187 : D1 code 187 (.ldc 14) 2 189 := ⟨at_187, rfl⟩
theorem d0_189 : D1 code 189 (.iastore) 1 190 := ⟨at_189, rfl⟩
theorem d0_190 : D1 code 190 (.dup) 1 191 := ⟨at_190, rfl⟩
theorem d0_191 : D1 code 191 (.bipush 29) 2 193 := ⟨at_191, rfl⟩
theorem d0_193 : D1 code 193 (.ldc 15) 2 195 := ⟨at_193, rfl⟩
theorem d0_195 : D1 code 195 (.iastore) 1 196 := ⟨at_195, rfl⟩
theorem d0_196 : D1 code 196 (.dup) 1 197 := ⟨at_196, rfl⟩
theorem d0_197 : D1 code 197 (.bipush 30) 2 199 := ⟨at_197, rfl⟩
theorem d0_199 : D1 code 199 (.ldc 16) 2 201 := ⟨at_199, rfl⟩
theorem d0_201 : D1 code 201 (.iastore) 1 202 := ⟨at_201, rfl⟩
theorem d0_202 : D1 code 202 (.dup) 1 203 := ⟨at_202, rfl⟩
theorem d0_203 : D1 code 203 (.bipush 31) 2 205 := ⟨at_203, rfl⟩
theorem d0_205 : D1 code 205 (.ldc 17) 2 207 := ⟨at_205, rfl⟩
theorem d0_207 : D1 code 207 (.iastore) 1 208 := ⟨at_207, rfl⟩
theorem d0_208 : D1 code 208 (.dup) 1 209 := ⟨at_208, rfl⟩
theorem d0_209 : D1 code 209 (.bipush 32) 2 211 := ⟨at_209, rfl⟩
theorem d0_211 : D1 code 211 (.ldc 18) 2 213 := ⟨at_211, rfl⟩
theorem d0_213 : D1 code 213 (.iastore) 1 214 := ⟨at_213, rfl⟩
theorem d0_214 : D1 code 214 (.dup) 1 215 := ⟨at_214, rfl⟩
theorem d0_215 : D1 code 215 (.bipush 33) 2 217 := ⟨at_215, rfl⟩
theorem d0_217 : D1 code 217 (.ldc 19) 2 219 := ⟨at_217, rfl⟩
theorem d0_219 : D1 code 219 (.iastore) 1 220 := ⟨at_219, rfl⟩
theorem d0_220 : D1 code 220 (.dup) 1 221 := ⟨at_220, rfl⟩
theorem d0_221 : D1 code 221 (.bipush 34) 2 223 := ⟨at_221, rfl⟩
theorem d0_223 : D1 code 223 (.ldc 20) 2 225 := ⟨at_223, rfl⟩
theorem d0_225 : D1 code 225 (.iastore) 1 226 := ⟨at_225, rfl⟩
theorem d0_226 : D1 code 226 (.dup) 1 227 := ⟨at_226, rfl⟩
theorem d0_227 : D1 code 227 (.bipush 35) 2 229 := ⟨at_227, rfl⟩
theorem d0_229 : D1 code 229 (.ldc 23) 2 231 := ⟨at_229, rfl⟩
theorem d0_231 : D1 code 231 (.iastore) 1 232 := ⟨at_231, rfl⟩
theorem d0_232 : D1 code 232 (.dup) 1 233 := ⟨at_232, rfl⟩
theorem d0_233 : D1 code 233 (.bipush 36) 2 235 := ⟨at_233, rfl⟩
theorem d0_235 : D1 code 235 (.ldc 24) 2 237 := ⟨at_235, rfl⟩
theorem d0_237 : D1 code 237 (.iastore) 1 238 := ⟨at_237, rfl⟩
theorem d0_238 : D1 code 238 (.astore 4) 2 240 := ⟨at_238, rfl⟩
theorem d0_240 : D1 code 240 (.iload_n 3) 1 241 := ⟨at_240, rfl⟩
theorem d0_241 : D1 code 241 (.iconst 3) 1 242 := ⟨at_241, rfl⟩
theorem d0_242 : D1 code 242 (.iand) 1 243 := ⟨at_242, rfl⟩
theorem d0_243 : D1 code 243 (.ifCond .ne 9) 3 246 := ⟨at_243, rfl⟩
theorem d0_246 : D1 code 246 (.iload_n 0) 1 247 := ⟨at_246, rfl⟩
theorem d0_247 : D1 code 247 (.istore 5) 2 249 := ⟨at_247, rfl⟩
theorem d0_249 : D1 code 249 (.goto 27) 3 252 := ⟨at_249, rfl⟩
theorem d0_252 : D1 code 252 (.iload_n 1) 1 253 := ⟨at_252, rfl⟩
theorem d0_253 : D1 code 253 (.ldc 24) 2 255 := ⟨at_253, rfl⟩
theorem d0_255 : D1 code 255 (.iand) 1 256 := ⟨at_255, rfl⟩
theorem d0_256 : D1 code 256 (.aload 4) 2 258 := ⟨at_256, rfl⟩
theorem d0_258 : D1 code 258 (.arraylength) 1 259 := ⟨at_258, rfl⟩
theorem d0_259 : D1 code 259 (.irem) 1 260 := ⟨at_259, rfl⟩
theorem d0_260 : D1 code 260 (.istore 6) 2 262 := ⟨at_260, rfl⟩
theorem d0_262 : D1 code 262 (.aload 4) 2 264 := ⟨at_262, rfl⟩
theorem d0_264 : D1 code 264 (.iload 6) 2 266 := ⟨at_264, rfl⟩
theorem d0_266 : D1 code 266 (.iaload) 1 267 := ⟨at_266, rfl⟩
theorem d0_267 : D1 code 267 (.iload_n 2) 1 268 := ⟨at_267, rfl⟩
theorem d0_268 : D1 code 268 (.bipush 7) 2 270 := ⟨at_268, rfl⟩
theorem d0_270 : D1 code 270 (.iand) 1 271 := ⟨at_270, rfl⟩
theorem d0_271 : D1 code 271 (.iconst 4) 1 272 := ⟨at_271, rfl⟩
theorem d0_272 : D1 code 272 (.isub) 1 273 := ⟨at_272, rfl⟩
theorem d0_273 : D1 code 273 (.iadd) 1 274 := ⟨at_273, rfl⟩
theorem d0_274 : D1 code 274 (.istore 5) 2 276 := ⟨at_274, rfl⟩
theorem d0_276 : D1 code 276 (.iload 5) 2 278 := ⟨at_276, rfl⟩
theorem d0_278 : D1 code 278 (.invokestatic 25) 3 281 := ⟨at_278, rfl⟩
theorem d0_281 : D1 code 281 (.iload 5) 2 283 := ⟨at_281, rfl⟩
theorem d0_283 : D1 code 283 (.invokestatic 31) 3 286 := ⟨at_283, rfl⟩
theorem d0_286 : D1 code 286 (.if_icmp .ne 7) 3 289 := ⟨at_286, rfl⟩
theorem d0_289 : D1 code 289 (.iconst 1) 1 290 := ⟨at_289, rfl⟩
theorem d0_290 : D1 code 290 (.goto 4) 3 293 := ⟨at_290, rfl⟩
theorem d0_294 : D1 code 294 (.ireturn) 1 295 := ⟨at_294, rfl⟩
theorem d1_0 : D1 prog_51_method_19_code 0 (.iload_n 0) 1 1 := ⟨by decide +kernel, rfl⟩
theorem d1_1 : D1 prog_51_method_19_code 1 (.sipush 128) 3 4 := ⟨by decide +kernel, rfl⟩
theorem d1_4 : D1 prog_51_method_19_code 4 (.if_icmp .ge 39) 3 7 := ⟨by decide +kernel, rfl⟩
theorem d1_7 : D1 prog_51_method_19_code 7 (.iload_n 0) 1 8 := ⟨by decide +kernel, rfl⟩
theorem d1_8 : D1 prog_51_method_19_code 8 (.bipush 97) 2 10 := ⟨by decide +kernel, rfl⟩
theorem d1_10 : D1 prog_51_method_19_code 10 (.if_icmp .lt 9) 3 13 := ⟨by decide +kernel, rfl⟩
theorem d1_13 : D1 prog_51_method_19_code 13 (.iload_n 0) 1 14 := ⟨by decide +kernel, rfl⟩
theorem d1_14 : D1 prog_51_method_19_code 14 (.bipush 122) 2 16 := ⟨by decide +kernel, rfl⟩
theorem d1_16 : D1 prog_51_method_19_code 16 (.if_icmp .le 21) 3 19 := ⟨by decide +kernel, rfl⟩
theorem d1_19 : D1 prog_51_method_19_code 19 (.iload_n 0) 1 20 := ⟨by decide +kernel, rfl⟩
theorem d1_20 : D1 prog_51_method_19_code 20 (.bipush 65) 2 22 := ⟨by decide +kernel, rfl⟩
theorem d1_22 : D1 prog_51_method_19_code 22 (.if_icmp .lt 9) 3 25 := ⟨by decide +kernel, rfl⟩
theorem d1_25 : D1 prog_51_method_19_code 25 (.iload_n 0) 1 26 := ⟨by decide +kernel, rfl⟩
theorem d1_26 : D1 prog_51_method_19_code 26 (.bipush 90) 2 28 := ⟨by decide +kernel, rfl⟩
theorem d1_28 : D1 prog_51_method_19_code 28 (.if_icmp .le 9) 3 31 := ⟨by decide +kernel, rfl⟩
theorem d1_31 : D1 prog_51_method_19_code 31 (.iload_n 0) 1 32 := ⟨by decide +kernel, rfl⟩
theorem d1_32 : D1 prog_51_method_19_code 32 (.bipush 95) 2 34 := ⟨by decide +kernel, rfl⟩
theorem d1_34 : D1 prog_51_method_19_code 34 (.if_icmp .ne 7) 3 37 := ⟨by decide +kernel, rfl⟩
theorem d1_37 : D1 prog_51_method_19_code 37 (.iconst 1) 1 38 := ⟨by decide +kernel, rfl⟩
theorem d1_38 : D1 prog_51_method_19_code 38 (.goto 4) 3 41 := ⟨by decide +kernel, rfl⟩
theorem d1_41 : D1 prog_51_method_19_code 41 (.iconst 0) 1 42 := ⟨by decide +kernel, rfl⟩
theorem d1_42 : D1 prog_51_method_19_code 42 (.ireturn) 1 43 := ⟨by decide +kernel, rfl⟩
theorem d1_43 : D1 prog_51_method_19_code 43 (.iload_n 0) 1 44 := ⟨by decide +kernel, rfl⟩
theorem d1_44 : D1 prog_51_method_19_code 44 (.getstatic 206) 3 47 := ⟨by decide +kernel, rfl⟩
theorem d1_47 : D1 prog_51_method_19_code 47 (.invokestatic 210) 3 50 := ⟨by decide +kernel, rfl⟩
theorem d1_50 : D1 prog_51_method_19_code 50 (.ireturn) 1 51 := ⟨by decide +kernel, rfl⟩
theorem d2_0 : D1 method_3_code 0 (.iload_n 0) 1 1 := ⟨by decide +kernel, rfl⟩
theorem d2_1 : D1 method_3_code 1 (.bipush 65) 2 3 := ⟨by decide +kernel, rfl⟩
theorem d2_3 : D1 method_3_code 3 (.bipush 90) 2 5 := ⟨by decide +kernel, rfl⟩
theorem d2_5 : D1 method_3_code 5 (.invokestatic 7) 3 8 := ⟨by decide +kernel, rfl⟩
theorem d2_8 : D1 method_3_code 8 (.ifCond .eq 5) 3 11 := ⟨by decide +kernel, rfl⟩
theorem d2_11 : D1 method_3_code 11 (.iconst 1) 1 12 := ⟨by decide +kernel, rfl⟩
theorem d2_12 : D1 method_3_code 12 (.ireturn) 1 13 := ⟨by decide +kernel, rfl⟩
theorem d2_13 : D1 method_3_code 13 (.iload_n 0) 1 14 := ⟨by decide +kernel, rfl⟩
theorem d2_14 : D1 method_3_code 14 (.bipush 95) 2 16 := ⟨by decide +kernel, rfl⟩
theorem d2_16 : D1 method_3_code 16 (.if_icmp .ne 5) 3 19 := ⟨by decide +kernel, rfl⟩
theorem d2_19 : D1 method_3_code 19 (.iconst 1) 1 20 := ⟨by decide +kernel, rfl⟩
theorem d2_20 : D1 method_3_code 20 (.ireturn) 1 21 := ⟨by decide +kernel, rfl⟩
theorem d2_21 : D1 method_3_code 21 (.iload_n 0) 1 22 := ⟨by decide +kernel, rfl⟩
theorem d2_22 : D1 method_3_code 22 (.bipush 97) 2 24 := ⟨by decide +kernel, rfl⟩
theorem d2_24 : D1 method_3_code 24 (.bipush 122) 2 26 := ⟨by decide +kernel, rfl⟩
theorem d2_26 : D1 method_3_code 26 (.invokestatic 7) 3 29 := ⟨by decide +kernel, rfl⟩
theorem d2_29 : D1 method_3_code 29 (.ifCond .eq 5) 3 32 := ⟨by decide +kernel, rfl⟩
theorem d2_32 : D1 method_3_code 32 (.iconst 1) 1 33 := ⟨by decide +kernel, rfl⟩
theorem d2_33 : D1 method_3_code 33 (.ireturn) 1 34 := ⟨by decide +kernel, rfl⟩
theorem d2_34 : D1 method_3_code 34 (.iload_n 0) 1 35 := ⟨by decide +kernel, rfl⟩
theorem d2_35 : D1 method_3_code 35 (.sipush 192) 3 38 := ⟨by decide +kernel, rfl⟩
theorem d2_38 : D1 method_3_code 38 (.sipush 214) 3 41 := ⟨by decide +kernel, rfl⟩
theorem d2_41 : D1 method_3_code 41 (.invokestatic 7) 3 44 := ⟨by decide +kernel, rfl⟩
theorem d2_44 : D1 method_3_code 44 (.ifCond .ne 29) 3 47 := ⟨by decide +kernel, rfl⟩
theorem d2_47 : D1 method_3_code 47 (.iload_n 0) 1 48 := ⟨by decide +kernel, rfl⟩
theorem d2_48 : D1 method_3_code 48 (.sipush 216) 3 51 := ⟨by decide +kernel, rfl⟩
theorem d2_51 : D1 method_3_code 51 (.sipush 246) 3 54 := ⟨by decide +kernel, rfl⟩
theorem d2_54 : D1 method_3_code 54 (.invokestatic 7) 3 57 := ⟨by decide +kernel, rfl⟩
theorem d2_57 : D1 method_3_code 57 (.ifCond .ne 16) 3 60 := ⟨by decide +kernel, rfl⟩
theorem d2_60 : D1 method_3_code 60 (.iload_n 0) 1 61 := ⟨by decide +kernel, rfl⟩
theorem d2_61 : D1 method_3_code 61 (.sipush 248) 3 64 := ⟨by decide +kernel, rfl⟩
theorem d2_64 : D1 method_3_code 64 (.sipush 767) 3 67 := ⟨by decide +kernel, rfl⟩
theorem d2_67 : D1 method_3_code 67 (.invokestatic 7) 3 70 := ⟨by decide +kernel, rfl⟩
theorem d2_70 : D1 method_3_code 70 (.ifCond .eq 5) 3 73 := ⟨by decide +kernel, rfl⟩
theorem d2_73 : D1 method_3_code 73 (.iconst 1) 1 74 := ⟨by decide +kernel, rfl⟩
theorem d2_74 : D1 method_3_code 74 (.ireturn) 1 75 := ⟨by decide +kernel, rfl⟩
theorem d2_75 : D1 method_3_code 75 (.iload_n 0) 1 76 := ⟨by decide +kernel, rfl⟩
theorem d2_76 : D1 method_3_code 76 (.sipush 880) 3 79 := ⟨by decide +kernel, rfl⟩
theorem d2_79 : D1 method_3_code 79 (.sipush 893) 3 82 := ⟨by decide +kernel, rfl⟩
theorem d2_82 : D1 method_3_code 82 (.invokestatic 7) 3 85 := ⟨by decide +kernel, rfl⟩
theorem d2_85 : D1 method_3_code 85 (.ifCond .ne 29) 3 88 := ⟨by decide +kernel, rfl⟩
theorem d2_88 : D1 method_3_code 88 (.iload_n 0) 1 89 := ⟨by decide +kernel, rfl⟩
theorem d2_89 : D1 method_3_code 89 (.sipush 895) 3 92 := ⟨by decide +kernel, rfl⟩
theorem d2_92 : D1 method_3_code 92 (.sipush 8191) 3 95 := ⟨by decide +kernel, rfl⟩
theorem d2_95 : D1 method_3_code 95 (.invokestatic 7) 3 98 := ⟨by decide +kernel, rfl⟩
theorem d2_98 : D1 method_3_code 98 (.ifCond .ne 16) 3 101 := ⟨by decide +kernel, rfl⟩
theorem d2_101 : D1 method_3_code 101 (.iload_n 0) 1 102 := ⟨by decide +kernel, rfl⟩
theorem d2_102 : D1 method_3_code 102 (.sipush 8204) 3 105 := ⟨by decide +kernel, rfl⟩
theorem d2_105 : D1 method_3_code 105 (.sipush 8205) 3 108 := ⟨by decide +kernel, rfl⟩
theorem d2_108 : D1 method_3_code 108 (.invokestatic 7) 3 111 := ⟨by decide +kernel, rfl⟩
theorem d2_111 : D1 method_3_code 111 (.ifCond .eq 5) 3 114 := ⟨by decide +kernel, rfl⟩
theorem d2_114 : D1 method_3_code 114 (.iconst 1) 1 115 := ⟨by decide +kernel, rfl⟩
theorem d2_115 : D1 method_3_code 115 (.ireturn) 1 116 := ⟨by decide +kernel, rfl⟩
theorem d2_116 : D1 method_3_code 116 (.iload_n 0) 1 117 := ⟨by decide +kernel, rfl⟩
theorem d2_117 : D1 method_3_code 117 (.sipush 8304) 3 120 := ⟨by decide +kernel, rfl⟩
theorem d2_120 : D1 method_3_code 120 (.sipush 8591) 3 123 := ⟨by decide +kernel, rfl⟩
theorem d2_123 : D1 method_3_code 123 (.invokestatic 7) 3 126 := ⟨by decide +kernel, rfl⟩
theorem d2_126 : D1 method_3_code 126 (.ifCond .ne 28) 3 129 := ⟨by decide +kernel, rfl⟩
theorem d2_129 : D1 method_3_code 129 (.iload_n 0) 1 130 := ⟨by decide +kernel, rfl⟩
theorem d2_130 : D1 method_3_code 130 (.sipush 11264) 3 133 := ⟨by decide +kernel, rfl⟩
theorem d2_133 : D1 method_3_code 133 (.sipush 12271) 3 136 := ⟨by decide +kernel, rfl⟩
theorem d2_136 : D1 method_3_code 136 (.invokestatic 7) 3 139 := ⟨by decide +kernel, rfl⟩
theorem d2_139 : D1 method_3_code 139 (.ifCond .ne 15) 3 142 := ⟨by decide +kernel, rfl⟩
theorem d2_142 : D1 method_3_code 142 (.iload_n 0) 1 143 := ⟨by decide +kernel, rfl⟩
theorem d2_143 : D1 method_3_code 143 (.sipush 12289) 3 146 := ⟨by decide +kernel, rfl⟩
theorem d2_146 : D1 method_3_code 146 (.ldc 13) 2 148 := ⟨by decide +kernel, rfl⟩
theorem d2_148 : D1 method_3_code 148 (.invokestatic 7) 3 151 := ⟨by decide +kernel, rfl⟩
theorem d2_151 : D1 method_3_code 151 (.ifCond .eq 5) 3 154 := ⟨by decide +kernel, rfl⟩
theorem d2_154 : D1 method_3_code 154 (.iconst 1) 1 155 := ⟨by decide +kernel, rfl⟩
theorem d2_155 : D1 method_3_code 155 (.ireturn) 1 156 := ⟨by decide +kernel, rfl⟩
theorem d2_156 : D1 method_3_code 156 (.iload_n 0) 1 157 := ⟨by decide +kernel, rfl⟩
theorem d2_157 : D1 method_3_code 157 (.ldc 14) 2 159 := ⟨by decide +kernel, rfl⟩
theorem d2_159 : D1 method_3_code 159 (.ldc 15) 2 161 := ⟨by decide +kernel, rfl⟩
theorem d2_161 : D1 method_3_code 161 (.invokestatic 7) 3 164 := ⟨by decide +kernel, rfl⟩
theorem d2_164 : D1 method_3_code 164 (.ifCond .ne 25) 3 167 := ⟨by decide +kernel, rfl⟩
theorem d2_167 : D1 method_3_code 167 (.iload_n 0) 1 168 := ⟨by decide +kernel, rfl⟩
theorem d2_168 : D1 method_3_code 168 (.ldc 16) 2 170 := ⟨by decide +kernel, rfl⟩
theorem d2_170 : D1 method_3_code 170 (.ldc 17) 2 172 := ⟨by decide +kernel, rfl⟩
theorem d2_172 : D1 method_3_code 172 (.invokestatic 7) 3 175 := ⟨by decide +kernel, rfl⟩
theorem d2_175 : D1 method_3_code 175 (.ifCond .ne 14) 3 178 := ⟨by decide +kernel, rfl⟩
theorem d2_178 : D1 method_3_code 178 (.iload_n 0) 1 179 := ⟨by decide +kernel, rfl⟩
theorem d2_179 : D1 method_3_code 179 (.ldc 18) 2 181 := ⟨by decide +kernel, rfl⟩
theorem d2_181 : D1 method_3_code 181 (.ldc 19) 2 183 := ⟨by decide +kernel, rfl⟩
theorem d2_183 : D1 method_3_code 183 (.invokestatic 7) 3 186 := ⟨by decide +kernel, rfl⟩
theorem d2_186 : D1 method_3_code 186 (.ifCond .eq 5) 3 189 := ⟨by decide +kernel, rfl⟩
theorem d2_189 : D1 method_3_code 189 (.iconst 1) 1 190 := ⟨by decide +kernel, rfl⟩
theorem d2_190 : D1 method_3_code 190 (.ireturn) 1 191 := ⟨by decide +kernel, rfl⟩
theorem d2_191 : D1 method_3_code 191 (.iconst 0) 1 192 := ⟨by decide +kernel, rfl⟩
theorem d2_192 : D1 method_3_code 192 (.ireturn) 1 193 := ⟨by decide +kernel, rfl⟩
theorem d3_0 : D1 method_2_code 0 (.iload_n 0) 1 1 := ⟨by decide +kernel, rfl⟩
theorem d3_1 : D1 method_2_code 1 (.iload_n 1) 1 2 := ⟨by decide +kernel, rfl⟩
theorem d3_2 : D1 method_2_code 2 (.if_icmp .lt 12) 3 5 := ⟨by decide +kernel, rfl⟩
theorem d3_5 : D1 method_2_code 5 (.iload_n 0) 1 6 := ⟨by decide +kernel, rfl⟩
theorem d3_6 : D1 method_2_code 6 (.iload_n 2) 1 7 := ⟨by decide +kernel, rfl⟩
theorem d3_7 : D1 method_2_code 7 (.if_icmp .gt 7) 3 10 := ⟨by decide +kernel, rfl⟩
theorem d3_10 : D1 method_2_code 10 (.iconst 1) 1 11 := ⟨by decide +kernel, rfl⟩
theorem d3_11 : D1 method_2_code 11 (.goto 4) 3 14 := ⟨by decide +kernel, rfl⟩
theorem d3_14 : D1 method_2_code 14 (.iconst 0) 1 15 := ⟨by decide +kernel, rfl⟩
theorem d3_15 : D1 method_2_code 15 (.ireturn) 1 16 := ⟨by decide +kernel, rfl⟩
theorem d4_0 : D1 prog_51_method_21_code 0 (.iconst 0) 1 1 := ⟨by decide +kernel, rfl⟩
theorem d4_1 : D1 prog_51_method_21_code 1 (.istore_n 2) 1 2 := ⟨by decide +kernel, rfl⟩
theorem d4_2 : D1 prog_51_method_21_code 2 (.iload_n 2) 1 3 := ⟨by decide +kernel, rfl⟩
theorem d4_3 : D1 prog_51_method_21_code 3 (.aload_n 1) 1 4 := ⟨by decide +kernel, rfl⟩
theorem d4_4 : D1 prog_51_method_21_code 4 (.arraylength) 1 5 := ⟨by decide +kernel, rfl⟩
theorem d4_5 : D1 prog_51_method_21_code 5 (.if_icmp .ge 27) 3 8 := ⟨by decide +kernel, rfl⟩
theorem d4_8 : D1 prog_51_method_21_code 8 (.iload_n 0) 1 9 := ⟨by decide +kernel, rfl⟩
theorem d4_9 : D1 prog_51_method_21_code 9 (.aload_n 1) 1 10 := ⟨by decide +kernel, rfl⟩
theorem d4_10 : D1 prog_51_method_21_code 10 (.iload_n 2) 1 11 := ⟨by decide +kernel, rfl⟩
theorem d4_11 : D1 prog_51_method_21_code 11 (.iaload) 1 12 := ⟨by decide +kernel, rfl⟩
theorem d4_12 : D1 prog_51_method_21_code 12 (.if_icmp .lt 14) 3 15 := ⟨by decide +kernel, rfl⟩
theorem d4_15 : D1 prog_51_method_21_code 15 (.iload_n 0) 1 16 := ⟨by decide +kernel, rfl⟩
theorem d4_16 : D1 prog_51_method_21_code 16 (.aload_n 1) 1 17 := ⟨by decide +kernel, rfl⟩
theorem d4_17 : D1 prog_51_method_21_code 17 (.iload_n 2) 1 18 := ⟨by decide +kernel, rfl⟩
theorem d4_18 : D1 prog_51_method_21_code 18 (.iconst 1) 1 19 := ⟨by decide +kernel, rfl⟩
theorem d4_19 : D1 prog_51_method_21_code 19 (.iadd) 1 20 := ⟨by decide +kernel, rfl⟩
theorem d4_20 : D1 prog_51_method_21_code 20 (.iaload) 1 21 := ⟨by decide +kernel, rfl⟩
theorem d4_21 : D1 prog_51_method_21_code 21 (.if_icmp .gt 5) 3 24 := ⟨by decide +kernel, rfl⟩
theorem d4_24 : D1 prog_51_method_21_code 24 (.iconst 1) 1 25 := ⟨by decide +kernel, rfl⟩
theorem d4_25 : D1 prog_51_method_21_code 25 (.ireturn) 1 26 := ⟨by decide +kernel, rfl⟩
theorem d4_26 : D1 prog_51_method_21_code 26 (.iinc 2 2) 3 29 := ⟨by decide +kernel, rfl⟩
theorem d4_29 : D1 prog_51_method_21_code 29 (.goto (-27)) 3 32 := ⟨by decide +kernel, rfl⟩
theorem d4_32 : D1 prog_51_method_21_code 32 (.iconst 0) 1 33 := ⟨by decide +kernel, rfl⟩
theorem d4_33 : D1 prog_51_method_21_code 33 (.ireturn) 1 34 := ⟨by decide +kernel, rfl⟩
theorem pd0 : parseMethodDescriptor "(III)Z" = some ⟨[.int, .int, .int], some .boolean⟩ := by decide +kernel
theorem pd1 : parseMethodDescriptor "(I[I)Z" = some ⟨[.int, (.array .int)], some .boolean⟩ := by decide +kernel
theorem pd2 : parseMethodDescriptor "(I)Z" = some ⟨[.int], some .boolean⟩ := by decide +kernel

abbrev rm0 : Room := { frames := 0, cells := 0, slots := 0, locals := 0 }
abbrev rm1r : Room := { frames := 1, cells := 0, slots := 0, locals := 14 }
/-- the ranges beyond ASCII -/
def own_rs : List (Int32 × Int32) := [(192, 214), (216, 246), (248, 767), (880, 893), (895, 8191), (8204, 8205), (8304, 8591), (11264, 12271), (12289, 55295), (63744, 64975), (65008, 65533), (65536, 983039)]
def own_any (t : Int) : List (Int32 × Int32) → Bool
  | [] => false
  | r :: rs => (decide (r.1.toInt ≤ t) && decide (t ≤ r.2.toInt)) || own_any t rs
def own_spec (t : Int) : Prop := (65 ≤ t ∧ t ≤ 90) ∨ t = 95 ∨ (97 ≤ t ∧ t ≤ 122) ∨ (192 ≤ t ∧ t ≤ 214) ∨ (216 ≤ t ∧ t ≤ 246) ∨ (248 ≤ t ∧ t ≤ 767) ∨ (880 ≤ t ∧ t ≤ 893) ∨ (895 ≤ t ∧ t ≤ 8191) ∨ (8204 ≤ t ∧ t ≤ 8205) ∨ (8304 ≤ t ∧ t ≤ 8591) ∨ (11264 ≤ t ∧ t ≤ 12271) ∨ (12289 ≤ t ∧ t ≤ 55295) ∨ (63744 ≤ t ∧ t ≤ 64975) ∨ (65008 ≤ t ∧ t ≤ 65533) ∨ (65536 ≤ t ∧ t ≤ 983039)
instance (t : Int) : Decidable (own_spec t) := by unfold own_spec; infer_instance
theorem own_ite {P Q : Prop} [Decidable P] [Decidable Q] (h : P ↔ Q) : (if P then 1 else 0 : Int32) = if Q then 1 else 0 := by by_cases q : P <;> simp [q, h.symm] <;> simp_all
theorem own_any_spec (t : Int) : own_any t own_rs = true ↔ (192 ≤ t ∧ t ≤ 214) ∨ (216 ≤ t ∧ t ≤ 246) ∨ (248 ≤ t ∧ t ≤ 767) ∨ (880 ≤ t ∧ t ≤ 893) ∨ (895 ≤ t ∧ t ≤ 8191) ∨ (8204 ≤ t ∧ t ≤ 8205) ∨ (8304 ≤ t ∧ t ≤ 8591) ∨ (11264 ≤ t ∧ t ≤ 12271) ∨ (12289 ≤ t ∧ t ≤ 55295) ∨ (63744 ≤ t ∧ t ≤ 64975) ∨ (65008 ≤ t ∧ t ≤ 65533) ∨ (65536 ≤ t ∧ t ≤ 983039) := by
  simp only [own_rs, own_any, Bool.or_eq_true, Bool.and_eq_true, decide_eq_true_eq, Bool.false_eq_true, or_false]
  rfl

set_option maxRecDepth 65536 in
set_option maxHeartbeats 4000000 in
theorem rmIn (l : Launch) {Z : State} {a0 : Array Value} (hw : Hw a0 Z) {h : Heap} (x0 lo hi : Int32) (a b : Int) (e1 : lo.toInt = a) (e2 : hi.toInt = b) : Ct false l Z (⟨"com/example/boxwood/boxwood/VerifierIsNameStartPinLaw", "in", "(III)Z"⟩ : MethodName) method_2_code 3 (some .boolean) rm0 #[.int x0, .int lo, .int hi] h (rvQ (fun v h1 => v = .int (if a ≤ x0.toInt ∧ x0.toInt ≤ b then 1 else 0) ∧ h1 = h)) := by
  refine Ct.intro (plainFor_of_name (by first | (simp [plainName, overriddenIn]; done) | decide +kernel)) ?_
  intro p e s m below meth c X
  replace X : Cx p Z s m meth c "com/example/boxwood/boxwood/VerifierIsNameStartPinLaw" "in" method_2_code 3 (some .boolean) := X
  refine Go.cast (g' := mkF m 0 #[.val (.int x0), .val (.int lo), .val (.int hi)] []) (by first | rfl | (simp [entryFrame, mkF, argsToLocals, Value.category, maxLocals]; done)) ?_
  refine Go.iloadN X d3_0 rfl ?_
  refine Go.iloadN X d3_1 rfl ?_
  refine Go.icmp X d3_2 (pt := 14) ⟨by decide, by decide⟩ ?_ ?_
  · intro q
    have q : x0.toInt < a := ccL q rfl e1
    refine Go.iconst X (v := 0) d3_14 (by decide) ?_
    exact Go.zret X d3_15 (Or.inl rfl) (Nat.zero_le _) (Nat.zero_le _) ⟨by rw [if_neg (by omega)], rfl⟩
  intro q1
  have q1 : ¬ x0.toInt < a := ccN q1 rfl e1
  refine Go.iloadN X d3_5 rfl ?_
  refine Go.iloadN X d3_6 rfl ?_
  refine Go.icmp X d3_7 (pt := 14) ⟨by decide, by decide⟩ ?_ ?_
  · intro q
    have q : b < x0.toInt := ccL q rfl e2
    refine Go.iconst X (v := 0) d3_14 (by decide) ?_
    exact Go.zret X d3_15 (Or.inl rfl) (Nat.zero_le _) (Nat.zero_le _) ⟨by rw [if_neg (by omega)], rfl⟩
  intro q2
  have q2 : ¬ b < x0.toInt := ccN q2 rfl e2
  refine Go.iconst X (v := 1) d3_10 (by decide) ?_
  refine Go.goto X d3_11 (pt := 15) ⟨by decide, by decide⟩ ?_
  exact Go.zret X d3_15 (Or.inr rfl) (Nat.zero_le _) (Nat.zero_le _) ⟨by rw [if_pos (by omega)], rfl⟩
set_option maxRecDepth 65536 in
set_option maxHeartbeats 4000000 in
theorem rmSpec (l : Launch) {Z : State} {a0 : Array Value} (hw : Hw a0 Z) {h : Heap} (x0 : Int32) : Ct false l Z (⟨"com/example/boxwood/boxwood/VerifierIsNameStartPinLaw", "spec", "(I)Z"⟩ : MethodName) method_3_code 1 (some .boolean) rm1r #[.int x0] h (rvQ (fun v h1 => v = .int (if own_spec x0.toInt then 1 else 0) ∧ h1 = h)) := by
  refine Ct.intro (plainFor_of_name (by first | (simp [plainName, overriddenIn]; done) | decide +kernel)) ?_
  intro p e s m below meth c X
  replace X : Cx p Z s m meth c "com/example/boxwood/boxwood/VerifierIsNameStartPinLaw" "spec" method_3_code 1 (some .boolean) := X
  refine Go.cast (g' := mkF m 0 #[.val (.int x0)] []) (by first | rfl | (simp [entryFrame, mkF, argsToLocals, Value.category, maxLocals]; done)) ?_
  refine Go.iloadN X d2_0 rfl ?_
  refine Go.bipush X (v := 65) d2_1 (by decide) ?_
  refine Go.bipush X (v := 90) d2_3 (by decide) ?_
  refine Go.callS X (rmIn l hw x0 65 90 65 90 rfl rfl) (rest := []) (w19 hw) (w20 hw) (w17 hw) (w21 hw) (by decide) pd0 rfl rfl d2_5 rfl (Nat.le_of_ble_eq_true rfl) (Nat.le_of_ble_eq_true rfl) (Nat.le_of_ble_eq_true rfl) (Nat.le_of_ble_eq_true rfl) (Kv ?_)
  rintro v h1 ⟨rfl, rfl⟩
  refine Go.ifc X d2_8 (pt := 13) ⟨by decide, by decide⟩ ?_ ?_
  rotate_left
  · intro q
    have q := ite_n0 q
    refine Go.iconst X (v := 1) d2_11 (by decide) ?_
    exact Go.zret X d2_12 (Or.inr rfl) (Nat.zero_le _) (Nat.zero_le _) ⟨by rw [if_pos (by unfold own_spec; omega)], rfl⟩
  intro q0
  replace q0 := ite_0 q0
  refine Go.iloadN X d2_13 rfl ?_
  refine Go.bipush X (v := 95) d2_14 (by decide) ?_
  refine Go.icmp X d2_16 (pt := 21) ⟨by decide, by decide⟩ ?_ ?_
  rotate_left
  · intro q
    have q : x0.toInt = 95 := Decidable.of_not_not (ccN (b := 95) q rfl rfl)
    refine Go.iconst X (v := 1) d2_19 (by decide) ?_
    exact Go.zret X d2_20 (Or.inr rfl) (Nat.zero_le _) (Nat.zero_le _) ⟨by rw [if_pos (by unfold own_spec; omega)], rfl⟩
  intro q1
  have q1 : ¬ x0.toInt = 95 := ccL (b := 95) q1 rfl rfl
  refine Go.iloadN X d2_21 rfl ?_
  refine Go.bipush X (v := 97) d2_22 (by decide) ?_
  refine Go.bipush X (v := 122) d2_24 (by decide) ?_
  refine Go.callS X (rmIn l hw x0 97 122 97 122 rfl rfl) (rest := []) (w19 hw) (w20 hw) (w17 hw) (w21 hw) (by decide) pd0 rfl rfl d2_26 rfl (Nat.le_of_ble_eq_true rfl) (Nat.le_of_ble_eq_true rfl) (Nat.le_of_ble_eq_true rfl) (Nat.le_of_ble_eq_true rfl) (Kv ?_)
  rintro v h1 ⟨rfl, rfl⟩
  refine Go.ifc X d2_29 (pt := 34) ⟨by decide, by decide⟩ ?_ ?_
  rotate_left
  · intro q
    have q := ite_n0 q
    refine Go.iconst X (v := 1) d2_32 (by decide) ?_
    exact Go.zret X d2_33 (Or.inr rfl) (Nat.zero_le _) (Nat.zero_le _) ⟨by rw [if_pos (by unfold own_spec; omega)], rfl⟩
  intro q2
  replace q2 := ite_0 q2
  refine Go.iloadN X d2_34 rfl ?_
  refine Go.sipush X (v := 192) d2_35 (by decide) ?_
  refine Go.sipush X (v := 214) d2_38 (by decide) ?_
  refine Go.callS X (rmIn l hw x0 192 214 192 214 rfl rfl) (rest := []) (w19 hw) (w20 hw) (w17 hw) (w21 hw) (by decide) pd0 rfl rfl d2_41 rfl (Nat.le_of_ble_eq_true rfl) (Nat.le_of_ble_eq_true rfl) (Nat.le_of_ble_eq_true rfl) (Nat.le_of_ble_eq_true rfl) (Kv ?_)
  rintro v h1 ⟨rfl, rfl⟩
  refine Go.ifc X d2_44 (pt := 73) ⟨by decide, by decide⟩ ?_ ?_
  · intro q
    have q := ite_1 q
    refine Go.iconst X (v := 1) d2_73 (by decide) ?_
    exact Go.zret X d2_74 (Or.inr rfl) (Nat.zero_le _) (Nat.zero_le _) ⟨by rw [if_pos (by unfold own_spec; omega)], rfl⟩
  intro q3
  replace q3 := ite_n1 q3
  refine Go.iloadN X d2_47 rfl ?_
  refine Go.sipush X (v := 216) d2_48 (by decide) ?_
  refine Go.sipush X (v := 246) d2_51 (by decide) ?_
  refine Go.callS X (rmIn l hw x0 216 246 216 246 rfl rfl) (rest := []) (w19 hw) (w20 hw) (w17 hw) (w21 hw) (by decide) pd0 rfl rfl d2_54 rfl (Nat.le_of_ble_eq_true rfl) (Nat.le_of_ble_eq_true rfl) (Nat.le_of_ble_eq_true rfl) (Nat.le_of_ble_eq_true rfl) (Kv ?_)
  rintro v h1 ⟨rfl, rfl⟩
  refine Go.ifc X d2_57 (pt := 73) ⟨by decide, by decide⟩ ?_ ?_
  · intro q
    have q := ite_1 q
    refine Go.iconst X (v := 1) d2_73 (by decide) ?_
    exact Go.zret X d2_74 (Or.inr rfl) (Nat.zero_le _) (Nat.zero_le _) ⟨by rw [if_pos (by unfold own_spec; omega)], rfl⟩
  intro q4
  replace q4 := ite_n1 q4
  refine Go.iloadN X d2_60 rfl ?_
  refine Go.sipush X (v := 248) d2_61 (by decide) ?_
  refine Go.sipush X (v := 767) d2_64 (by decide) ?_
  refine Go.callS X (rmIn l hw x0 248 767 248 767 rfl rfl) (rest := []) (w19 hw) (w20 hw) (w17 hw) (w21 hw) (by decide) pd0 rfl rfl d2_67 rfl (Nat.le_of_ble_eq_true rfl) (Nat.le_of_ble_eq_true rfl) (Nat.le_of_ble_eq_true rfl) (Nat.le_of_ble_eq_true rfl) (Kv ?_)
  rintro v h1 ⟨rfl, rfl⟩
  refine Go.ifc X d2_70 (pt := 75) ⟨by decide, by decide⟩ ?_ ?_
  rotate_left
  · intro q
    have q := ite_n0 q
    refine Go.iconst X (v := 1) d2_73 (by decide) ?_
    exact Go.zret X d2_74 (Or.inr rfl) (Nat.zero_le _) (Nat.zero_le _) ⟨by rw [if_pos (by unfold own_spec; omega)], rfl⟩
  intro q5
  replace q5 := ite_0 q5
  refine Go.iloadN X d2_75 rfl ?_
  refine Go.sipush X (v := 880) d2_76 (by decide) ?_
  refine Go.sipush X (v := 893) d2_79 (by decide) ?_
  refine Go.callS X (rmIn l hw x0 880 893 880 893 rfl rfl) (rest := []) (w19 hw) (w20 hw) (w17 hw) (w21 hw) (by decide) pd0 rfl rfl d2_82 rfl (Nat.le_of_ble_eq_true rfl) (Nat.le_of_ble_eq_true rfl) (Nat.le_of_ble_eq_true rfl) (Nat.le_of_ble_eq_true rfl) (Kv ?_)
  rintro v h1 ⟨rfl, rfl⟩
  refine Go.ifc X d2_85 (pt := 114) ⟨by decide, by decide⟩ ?_ ?_
  · intro q
    have q := ite_1 q
    refine Go.iconst X (v := 1) d2_114 (by decide) ?_
    exact Go.zret X d2_115 (Or.inr rfl) (Nat.zero_le _) (Nat.zero_le _) ⟨by rw [if_pos (by unfold own_spec; omega)], rfl⟩
  intro q6
  replace q6 := ite_n1 q6
  refine Go.iloadN X d2_88 rfl ?_
  refine Go.sipush X (v := 895) d2_89 (by decide) ?_
  refine Go.sipush X (v := 8191) d2_92 (by decide) ?_
  refine Go.callS X (rmIn l hw x0 895 8191 895 8191 rfl rfl) (rest := []) (w19 hw) (w20 hw) (w17 hw) (w21 hw) (by decide) pd0 rfl rfl d2_95 rfl (Nat.le_of_ble_eq_true rfl) (Nat.le_of_ble_eq_true rfl) (Nat.le_of_ble_eq_true rfl) (Nat.le_of_ble_eq_true rfl) (Kv ?_)
  rintro v h1 ⟨rfl, rfl⟩
  refine Go.ifc X d2_98 (pt := 114) ⟨by decide, by decide⟩ ?_ ?_
  · intro q
    have q := ite_1 q
    refine Go.iconst X (v := 1) d2_114 (by decide) ?_
    exact Go.zret X d2_115 (Or.inr rfl) (Nat.zero_le _) (Nat.zero_le _) ⟨by rw [if_pos (by unfold own_spec; omega)], rfl⟩
  intro q7
  replace q7 := ite_n1 q7
  refine Go.iloadN X d2_101 rfl ?_
  refine Go.sipush X (v := 8204) d2_102 (by decide) ?_
  refine Go.sipush X (v := 8205) d2_105 (by decide) ?_
  refine Go.callS X (rmIn l hw x0 8204 8205 8204 8205 rfl rfl) (rest := []) (w19 hw) (w20 hw) (w17 hw) (w21 hw) (by decide) pd0 rfl rfl d2_108 rfl (Nat.le_of_ble_eq_true rfl) (Nat.le_of_ble_eq_true rfl) (Nat.le_of_ble_eq_true rfl) (Nat.le_of_ble_eq_true rfl) (Kv ?_)
  rintro v h1 ⟨rfl, rfl⟩
  refine Go.ifc X d2_111 (pt := 116) ⟨by decide, by decide⟩ ?_ ?_
  rotate_left
  · intro q
    have q := ite_n0 q
    refine Go.iconst X (v := 1) d2_114 (by decide) ?_
    exact Go.zret X d2_115 (Or.inr rfl) (Nat.zero_le _) (Nat.zero_le _) ⟨by rw [if_pos (by unfold own_spec; omega)], rfl⟩
  intro q8
  replace q8 := ite_0 q8
  refine Go.iloadN X d2_116 rfl ?_
  refine Go.sipush X (v := 8304) d2_117 (by decide) ?_
  refine Go.sipush X (v := 8591) d2_120 (by decide) ?_
  refine Go.callS X (rmIn l hw x0 8304 8591 8304 8591 rfl rfl) (rest := []) (w19 hw) (w20 hw) (w17 hw) (w21 hw) (by decide) pd0 rfl rfl d2_123 rfl (Nat.le_of_ble_eq_true rfl) (Nat.le_of_ble_eq_true rfl) (Nat.le_of_ble_eq_true rfl) (Nat.le_of_ble_eq_true rfl) (Kv ?_)
  rintro v h1 ⟨rfl, rfl⟩
  refine Go.ifc X d2_126 (pt := 154) ⟨by decide, by decide⟩ ?_ ?_
  · intro q
    have q := ite_1 q
    refine Go.iconst X (v := 1) d2_154 (by decide) ?_
    exact Go.zret X d2_155 (Or.inr rfl) (Nat.zero_le _) (Nat.zero_le _) ⟨by rw [if_pos (by unfold own_spec; omega)], rfl⟩
  intro q9
  replace q9 := ite_n1 q9
  refine Go.iloadN X d2_129 rfl ?_
  refine Go.sipush X (v := 11264) d2_130 (by decide) ?_
  refine Go.sipush X (v := 12271) d2_133 (by decide) ?_
  refine Go.callS X (rmIn l hw x0 11264 12271 11264 12271 rfl rfl) (rest := []) (w19 hw) (w20 hw) (w17 hw) (w21 hw) (by decide) pd0 rfl rfl d2_136 rfl (Nat.le_of_ble_eq_true rfl) (Nat.le_of_ble_eq_true rfl) (Nat.le_of_ble_eq_true rfl) (Nat.le_of_ble_eq_true rfl) (Kv ?_)
  rintro v h1 ⟨rfl, rfl⟩
  refine Go.ifc X d2_139 (pt := 154) ⟨by decide, by decide⟩ ?_ ?_
  · intro q
    have q := ite_1 q
    refine Go.iconst X (v := 1) d2_154 (by decide) ?_
    exact Go.zret X d2_155 (Or.inr rfl) (Nat.zero_le _) (Nat.zero_le _) ⟨by rw [if_pos (by unfold own_spec; omega)], rfl⟩
  intro q10
  replace q10 := ite_n1 q10
  refine Go.iloadN X d2_142 rfl ?_
  refine Go.sipush X (v := 12289) d2_143 (by decide) ?_
  refine Go.ldcI X (w1 hw) d2_146 ?_
  refine Go.callS X (rmIn l hw x0 12289 55295 12289 55295 rfl rfl) (rest := []) (w19 hw) (w20 hw) (w17 hw) (w21 hw) (by decide) pd0 rfl rfl d2_148 rfl (Nat.le_of_ble_eq_true rfl) (Nat.le_of_ble_eq_true rfl) (Nat.le_of_ble_eq_true rfl) (Nat.le_of_ble_eq_true rfl) (Kv ?_)
  rintro v h1 ⟨rfl, rfl⟩
  refine Go.ifc X d2_151 (pt := 156) ⟨by decide, by decide⟩ ?_ ?_
  rotate_left
  · intro q
    have q := ite_n0 q
    refine Go.iconst X (v := 1) d2_154 (by decide) ?_
    exact Go.zret X d2_155 (Or.inr rfl) (Nat.zero_le _) (Nat.zero_le _) ⟨by rw [if_pos (by unfold own_spec; omega)], rfl⟩
  intro q11
  replace q11 := ite_0 q11
  refine Go.iloadN X d2_156 rfl ?_
  refine Go.ldcI X (w2 hw) d2_157 ?_
  refine Go.ldcI X (w3 hw) d2_159 ?_
  refine Go.callS X (rmIn l hw x0 63744 64975 63744 64975 rfl rfl) (rest := []) (w19 hw) (w20 hw) (w17 hw) (w21 hw) (by decide) pd0 rfl rfl d2_161 rfl (Nat.le_of_ble_eq_true rfl) (Nat.le_of_ble_eq_true rfl) (Nat.le_of_ble_eq_true rfl) (Nat.le_of_ble_eq_true rfl) (Kv ?_)
  rintro v h1 ⟨rfl, rfl⟩
  refine Go.ifc X d2_164 (pt := 189) ⟨by decide, by decide⟩ ?_ ?_
  · intro q
    have q := ite_1 q
    refine Go.iconst X (v := 1) d2_189 (by decide) ?_
    exact Go.zret X d2_190 (Or.inr rfl) (Nat.zero_le _) (Nat.zero_le _) ⟨by rw [if_pos (by unfold own_spec; omega)], rfl⟩
  intro q12
  replace q12 := ite_n1 q12
  refine Go.iloadN X d2_167 rfl ?_
  refine Go.ldcI X (w4 hw) d2_168 ?_
  refine Go.ldcI X (w5 hw) d2_170 ?_
  refine Go.callS X (rmIn l hw x0 65008 65533 65008 65533 rfl rfl) (rest := []) (w19 hw) (w20 hw) (w17 hw) (w21 hw) (by decide) pd0 rfl rfl d2_172 rfl (Nat.le_of_ble_eq_true rfl) (Nat.le_of_ble_eq_true rfl) (Nat.le_of_ble_eq_true rfl) (Nat.le_of_ble_eq_true rfl) (Kv ?_)
  rintro v h1 ⟨rfl, rfl⟩
  refine Go.ifc X d2_175 (pt := 189) ⟨by decide, by decide⟩ ?_ ?_
  · intro q
    have q := ite_1 q
    refine Go.iconst X (v := 1) d2_189 (by decide) ?_
    exact Go.zret X d2_190 (Or.inr rfl) (Nat.zero_le _) (Nat.zero_le _) ⟨by rw [if_pos (by unfold own_spec; omega)], rfl⟩
  intro q13
  replace q13 := ite_n1 q13
  refine Go.iloadN X d2_178 rfl ?_
  refine Go.ldcI X (w6 hw) d2_179 ?_
  refine Go.ldcI X (w7 hw) d2_181 ?_
  refine Go.callS X (rmIn l hw x0 65536 983039 65536 983039 rfl rfl) (rest := []) (w19 hw) (w20 hw) (w17 hw) (w21 hw) (by decide) pd0 rfl rfl d2_183 rfl (Nat.le_of_ble_eq_true rfl) (Nat.le_of_ble_eq_true rfl) (Nat.le_of_ble_eq_true rfl) (Nat.le_of_ble_eq_true rfl) (Kv ?_)
  rintro v h1 ⟨rfl, rfl⟩
  refine Go.ifc X d2_186 (pt := 191) ⟨by decide, by decide⟩ ?_ ?_
  rotate_left
  · intro q
    have q := ite_n0 q
    refine Go.iconst X (v := 1) d2_189 (by decide) ?_
    exact Go.zret X d2_190 (Or.inr rfl) (Nat.zero_le _) (Nat.zero_le _) ⟨by rw [if_pos (by unfold own_spec; omega)], rfl⟩
  intro q14
  replace q14 := ite_0 q14
  refine Go.iconst X (v := 0) d2_191 (by decide) ?_
  exact Go.zret X d2_192 (Or.inl rfl) (Nat.zero_le _) (Nat.zero_le _) ⟨by rw [if_neg (by unfold own_spec; omega)], rfl⟩
set_option maxHeartbeats 4000000 in
theorem own_loop {p : Program} {l : Launch} {e : Env} {R : Room} {Z s : State} {m : MethodId} {args : Array Value} {below : List Frame} {meth : Method} {c : Code} {h : Heap} (E : Ext Z.heap h) {a : Addr} {cl : Cell} (A : Arr Z Z.heap a cl .int) (S : cl.slots.size = 24) (x0 : Int32)
    (X : Cx p Z s m meth c "com/example/boxwood/boxwood/Verifier" "inRanges" prog_51_method_21_code 3 (some .boolean)) : ∀ (rs : List (Int32 × Int32)) (i : Nat), i + 2 * rs.length = 24 → (∀ j r, rs[j]? = some r → cl.slots[i + 2 * j]? = some (.int r.1) ∧ cl.slots[i + 2 * j + 1]? = some (.int r.2)) →
    Go false p l e R Z s m args below meth c (rvQ fun v h1 => v = .int (if own_any x0.toInt rs = true then 1 else 0) ∧ h1 = h) h 0 0 (mkF m 2 #[.val (.int x0), .val (.ref a), .val (.int (Int32.ofNat i))] []) := by
  intro rs
  induction rs with
  | nil =>
    intro i hi hrs
    have hi : i = 24 := by simpa using hi
    subst hi
    refine Go.iloadN X d4_2 rfl ?_
    refine Go.aloadN X d4_3 rfl rfl ?_
    refine Go.alenO X E A d4_4 ?_
    rw [S]
    refine Go.icmp X d4_5 (pt := 32) ⟨by decide, by decide⟩ ?_ ?_
    · intro _
      refine Go.iconst X (v := 0) d4_32 (by decide) ?_
      exact Go.zret X d4_33 (Or.inl rfl) (Nat.zero_le _) (Nat.zero_le _) ⟨rfl, rfl⟩
    intro q
    exact absurd (show (Nat.toInt32 24) ≤ (Int32.ofNat 24) by decide) q
  | cons r rs ih =>
    intro i hi hrs
    have hi' : i + 2 + 2 * rs.length = 24 := by simp at hi; omega
    obtain ⟨a1, a2⟩ := hrs 0 r rfl
    obtain ⟨n1, n2, n3⟩ := nat32 (i := i) (by omega)
    obtain ⟨m1, m2, m3⟩ := nat32 (i := i + 1) (by omega)
    refine Go.iloadN X d4_2 rfl ?_
    refine Go.aloadN X d4_3 rfl rfl ?_
    refine Go.alenO X E A d4_4 ?_
    rw [S]
    refine Go.icmp X d4_5 (pt := 32) ⟨by decide, by decide⟩ ?_ ?_
    · intro q
      have q : (24 : Int) ≤ i := ccL q n1 rfl
      omega
    intro _
    refine Go.iloadN X d4_8 rfl ?_
    refine Go.aloadN X d4_9 rfl rfl ?_
    refine Go.iloadN X d4_10 rfl ?_
    refine Go.ialdO X E A n2 (x := r.1) (by rw [n3]; simpa using a1) d4_11 ?_
    have nxt : ¬ (r.1.toInt ≤ x0.toInt ∧ x0.toInt ≤ r.2.toInt) → Go false p l e R Z s m args below meth c (rvQ fun v h1 => v = .int (if own_any x0.toInt (r :: rs) = true then 1 else 0) ∧ h1 = h) h 0 0 (mkF m 26 #[.val (.int x0), .val (.ref a), .val (.int (Int32.ofNat i))] []) := by
      intro q
      have e1 : own_any x0.toInt (r :: rs) = own_any x0.toInt rs := by
        have : (decide (r.1.toInt ≤ x0.toInt) && decide (x0.toInt ≤ r.2.toInt)) = false := by
          rw [Bool.and_eq_false_iff, decide_eq_false_iff_not, decide_eq_false_iff_not]; omega
        simp only [own_any, this, Bool.false_or]
      rw [e1]
      refine Go.iinc X d4_26 rfl rfl ?_
      refine Go.goto X d4_29 (pt := 2) ⟨by decide, by decide⟩ ?_
      have e2 : Int32.ofNat i + Int32.ofInt 2 = Int32.ofNat (i + 2) := by rw [lit2]; exact (inc2_ofNat i).symm
      rw [e2]
      exact ih (i + 2) hi' fun j r hj => by
        obtain ⟨b1, b2⟩ := hrs (j + 1) r (by simpa using hj)
        exact ⟨by rw [show i + 2 + 2 * j = i + 2 * (j + 1) by omega]; exact b1, by rw [show i + 2 + 2 * j = i + 2 * (j + 1) by omega]; exact b2⟩
    refine Go.icmp X d4_12 (pt := 26) ⟨by decide, by decide⟩ ?_ ?_
    · intro q
      have q : x0.toInt < r.1.toInt := ccL q rfl rfl
      exact nxt (by omega)
    intro q1
    have q1 : ¬ x0.toInt < r.1.toInt := ccN q1 rfl rfl
    refine Go.iloadN X d4_15 rfl ?_
    refine Go.aloadN X d4_16 rfl rfl ?_
    refine Go.iloadN X d4_17 rfl ?_
    refine Go.iconst X (v := 1) d4_18 (by decide) ?_
    refine Go.iadd X d4_19 ?_
    have e3 : Int32.ofNat i + 1 = Int32.ofNat (i + 1) := (inc_ofNat i).symm
    rw [e3]
    refine Go.ialdO X E A m2 (x := r.2) (by rw [m3]; simpa using a2) d4_20 ?_
    refine Go.icmp X d4_21 (pt := 26) ⟨by decide, by decide⟩ ?_ ?_
    · intro q
      have q : r.2.toInt < x0.toInt := ccL q rfl rfl
      exact nxt (by omega)
    intro q2
    have q2 : ¬ r.2.toInt < x0.toInt := ccN q2 rfl rfl
    refine Go.iconst X (v := 1) d4_24 (by decide) ?_
    have e4 : own_any x0.toInt (r :: rs) = true := by simp only [own_any, Bool.or_eq_true, Bool.and_eq_true, decide_eq_true_eq]; left; omega
    exact Go.zret X d4_25 (Or.inr rfl) (Nat.zero_le _) (Nat.zero_le _) ⟨by rw [if_pos e4], rfl⟩
set_option maxRecDepth 65536 in
set_option maxHeartbeats 4000000 in
theorem rmRng (l : Launch) {Z : State} {a0 : Array Value} (hw : Hw a0 Z) {h : Heap} (E : Ext Z.heap h) {a : Addr} {cl : Cell} (A : Arr Z Z.heap a cl .int) (S : cl.slots.size = 24) (x0 : Int32) (HS : ∀ j r, own_rs[j]? = some r → cl.slots[0 + 2 * j]? = some (.int r.1) ∧ cl.slots[0 + 2 * j + 1]? = some (.int r.2)) : Ct false l Z (⟨"com/example/boxwood/boxwood/Verifier", "inRanges", "(I[I)Z"⟩ : MethodName) prog_51_method_21_code 3 (some .boolean) rm0 #[.int x0, .ref a] h (rvQ (fun v h1 => v = .int (if own_any x0.toInt own_rs = true then 1 else 0) ∧ h1 = h)) := by
  refine Ct.intro (plainFor_of_name (by first | (simp [plainName, overriddenIn]; done) | decide +kernel)) ?_
  intro p e s m below meth c X
  replace X : Cx p Z s m meth c "com/example/boxwood/boxwood/Verifier" "inRanges" prog_51_method_21_code 3 (some .boolean) := X
  refine Go.cast (g' := mkF m 0 #[.val (.int x0), .val (.ref a), .unset] []) (by first | rfl | (simp [entryFrame, mkF, argsToLocals, Value.category, maxLocals]; done)) ?_
  refine Go.iconst X (v := 0) d4_0 (by decide) ?_
  refine Go.istoreN X d4_1 rfl ?_
  exact own_loop E A S x0 X own_rs 0 rfl HS
set_option maxRecDepth 65536 in
set_option maxHeartbeats 4000000 in
theorem rmIs (l : Launch) {Z : State} {a0 : Array Value} (hw : Hw a0 Z) {h : Heap} (E : Ext Z.heap h) {a : Addr} {cl : Cell} (A : Arr Z Z.heap a cl .int) (S : cl.slots.size = 24) (x0 : Int32) (HS : ∀ j r, own_rs[j]? = some r → cl.slots[0 + 2 * j]? = some (.int r.1) ∧ cl.slots[0 + 2 * j + 1]? = some (.int r.2)) (F : Sta Z Z.heap "com/example/boxwood/boxwood/Verifier" "NAME_START" "[I" (.ref a)) : Ct false l Z (⟨"com/example/boxwood/boxwood/Verifier", "isNameStart", "(I)Z"⟩ : MethodName) prog_51_method_19_code 1 (some .boolean) rm1r #[.int x0] h (rvQ (fun v h1 => v = .int (if own_spec x0.toInt then 1 else 0) ∧ h1 = h)) := by
  refine Ct.intro (plainFor_of_name (by first | (simp [plainName, overriddenIn]; done) | decide +kernel)) ?_
  intro p e s m below meth c X
  replace X : Cx p Z s m meth c "com/example/boxwood/boxwood/Verifier" "isNameStart" prog_51_method_19_code 1 (some .boolean) := X
  refine Go.cast (g' := mkF m 0 #[.val (.int x0)] []) (by first | rfl | (simp [entryFrame, mkF, argsToLocals, Value.category, maxLocals]; done)) ?_
  refine Go.iloadN X d1_0 rfl ?_
  refine Go.sipush X (v := 128) d1_1 (by decide) ?_
  refine Go.icmp X d1_4 (pt := 43) ⟨by decide, by decide⟩ ?_ ?_
  · intro q
    have q : 128 ≤ x0.toInt := ccL (b := 128) q rfl rfl
    refine Go.iloadN X d1_43 rfl ?_
    refine Go.getSta X E (w22 hw) Via.refl F d1_44 ?_
    refine Go.callS X (rmRng l hw E A S x0 HS) (rest := []) (w24 hw) (w25 hw) (w13 hw) (w26 hw) (by decide) pd1 rfl rfl d1_47 rfl (Nat.le_of_ble_eq_true rfl) (Nat.le_of_ble_eq_true rfl) (Nat.le_of_ble_eq_true rfl) (Nat.le_of_ble_eq_true rfl) (Kv ?_)
    rintro v h1 ⟨rfl, rfl⟩
    exact Go.zret X d1_50 ite_01 (Nat.zero_le _) (Nat.zero_le _) ⟨by congr 1; exact own_ite (by rw [own_any_spec]; unfold own_spec; omega), rfl⟩
  intro q
  have q : ¬ 128 ≤ x0.toInt := ccN (b := 128) q rfl rfl
  have last : ¬ (97 ≤ x0.toInt ∧ x0.toInt ≤ 122) → ¬ (65 ≤ x0.toInt ∧ x0.toInt ≤ 90) → Go false p l e rm1r Z s m #[.int x0] below meth c (rvQ (fun v h1 => v = .int (if own_spec x0.toInt then 1 else 0) ∧ h1 = h)) h 0 0 (mkF m 31 #[.val (.int x0)] []) := by
    intro q1 q2
    refine Go.iloadN X d1_31 rfl ?_
    refine Go.bipush X (v := 95) d1_32 (by decide) ?_
    refine Go.icmp X d1_34 (pt := 41) ⟨by decide, by decide⟩ ?_ ?_
    · intro q3
      have q3 : ¬ x0.toInt = 95 := ccL (b := 95) q3 rfl rfl
      refine Go.iconst X (v := 0) d1_41 (by decide) ?_
      exact Go.zret X d1_42 (Or.inl rfl) (Nat.zero_le _) (Nat.zero_le _) ⟨by rw [if_neg (by unfold own_spec; omega)], rfl⟩
    intro q3
    have q3 : x0.toInt = 95 := Decidable.of_not_not (ccN (b := 95) q3 rfl rfl)
    refine Go.iconst X (v := 1) d1_37 (by decide) ?_
    refine Go.goto X d1_38 (pt := 42) ⟨by decide, by decide⟩ ?_
    exact Go.zret X d1_42 (Or.inr rfl) (Nat.zero_le _) (Nat.zero_le _) ⟨by rw [if_pos (by unfold own_spec; omega)], rfl⟩
  have mid : ¬ (97 ≤ x0.toInt ∧ x0.toInt ≤ 122) → Go false p l e rm1r Z s m #[.int x0] below meth c (rvQ (fun v h1 => v = .int (if own_spec x0.toInt then 1 else 0) ∧ h1 = h)) h 0 0 (mkF m 19 #[.val (.int x0)] []) := by
    intro q1
    refine Go.iloadN X d1_19 rfl ?_
    refine Go.bipush X (v := 65) d1_20 (by decide) ?_
    refine Go.icmp X d1_22 (pt := 31) ⟨by decide, by decide⟩ ?_ ?_
    · intro q2
      have q2 : x0.toInt < 65 := ccL (b := 65) q2 rfl rfl
      exact last q1 (by omega)
    intro q2
    have q2 : ¬ x0.toInt < 65 := ccN (b := 65) q2 rfl rfl
    refine Go.iloadN X d1_25 rfl ?_
    refine Go.bipush X (v := 90) d1_26 (by decide) ?_
    refine Go.icmp X d1_28 (pt := 37) ⟨by decide, by decide⟩ ?_ ?_
    · intro q3
      have q3 : x0.toInt ≤ 90 := ccL (b := 90) q3 rfl rfl
      refine Go.iconst X (v := 1) d1_37 (by decide) ?_
      refine Go.goto X d1_38 (pt := 42) ⟨by decide, by decide⟩ ?_
      exact Go.zret X d1_42 (Or.inr rfl) (Nat.zero_le _) (Nat.zero_le _) ⟨by rw [if_pos (by unfold own_spec; omega)], rfl⟩
    intro q3
    have q3 : ¬ x0.toInt ≤ 90 := ccN (b := 90) q3 rfl rfl
    exact last q1 (by omega)
  refine Go.iloadN X d1_7 rfl ?_
  refine Go.bipush X (v := 97) d1_8 (by decide) ?_
  refine Go.icmp X d1_10 (pt := 19) ⟨by decide, by decide⟩ ?_ ?_
  · intro q2
    have q2 : x0.toInt < 97 := ccL (b := 97) q2 rfl rfl
    exact mid (by omega)
  intro q2
  have q2 : ¬ x0.toInt < 97 := ccN (b := 97) q2 rfl rfl
  refine Go.iloadN X d1_13 rfl ?_
  refine Go.bipush X (v := 122) d1_14 (by decide) ?_
  refine Go.icmp X d1_16 (pt := 37) ⟨by decide, by decide⟩ ?_ ?_
  · intro q3
    have q3 : x0.toInt ≤ 122 := ccL (b := 122) q3 rfl rfl
    refine Go.iconst X (v := 1) d1_37 (by decide) ?_
    refine Go.goto X d1_38 (pt := 42) ⟨by decide, by decide⟩ ?_
    exact Go.zret X d1_42 (Or.inr rfl) (Nat.zero_le _) (Nat.zero_le _) ⟨by rw [if_pos (by unfold own_spec; omega)], rfl⟩
  intro q3
  have q3 : ¬ x0.toInt ≤ 122 := ccN (b := 122) q3 rfl rfl
  exact mid (by omega)

theorem own_rem (z : Int32) : ¬ (z &&& 2147483647) % 37 < 0 ∧ ((z &&& 2147483647) % 37).toNatClampNeg < 37 := by
  have h0 : 0 ≤ (z &&& 2147483647).toInt := by
    have : (z &&& 2147483647).toBitVec.msb = false := by
      rw [Int32.toBitVec_and, BitVec.msb_and]; simp; intro _; decide
    rw [← Int32.toInt_toBitVec, BitVec.toInt_eq_toNat_of_msb this]; omega
  have e : ((z &&& 2147483647) % 37).toInt = (z &&& 2147483647).toInt.tmod 37 := by rw [Int32.toInt_mod]; rfl
  rw [Int32.lt_iff_toInt_lt]
  simp only [Int32.toNatClampNeg]
  rw [e, Int.tmod_eq_emod_of_nonneg h0]
  have e0 : (0 : Int32).toInt = 0 := rfl
  rw [e0]; omega
theorem own_int (vs : List Int32) (N : Nat) (q : N < vs.length) : ∃ x : Int32, (vs.map Value.int)[N]? = some (.int x) := ⟨vs[N], by simp [q]⟩

set_option maxRecDepth 65536 in
set_option maxHeartbeats 4000000 in
theorem law_ct (l : Launch) {Z : State} {a0 : Array Value} (hw : Hw a0 Z) {a : Addr} {cl : Cell} (A : Arr Z Z.heap a cl .int) (S : cl.slots.size = 24) (HS : ∀ j r, own_rs[j]? = some r → cl.slots[0 + 2 * j]? = some (.int r.1) ∧ cl.slots[0 + 2 * j + 1]? = some (.int r.2)) (F : Sta Z Z.heap "com/example/boxwood/boxwood/Verifier" "NAME_START" "[I" (.ref a)) (i0 i1 i2 i3 : Int32) : Ct false l Z x code maxLocals ret room_1 #[.int i0, .int i1, .int i2, .int i3] Z.heap (rvQ (fun v _ => v = .int 1)) := by
  refine Ct.intro (plainFor_of_name (by first | (simp [plainName, overriddenIn]; done) | decide +kernel)) ?_
  intro p e s m below meth c X
  replace X : Cx p Z s m meth c "com/example/boxwood/boxwood/VerifierIsNameStartPinLaw" "law" code 7 (some .boolean) := X
  refine Go.cast (g' := mkF m 0 #[.val (.int i0), .val (.int i1), .val (.int i2), .val (.int i3), .unset, .unset, .unset] []) (by first | rfl | (simp [entryFrame, mkF, argsToLocals, Value.category, maxLocals]; done)) ?_
  have H := Hp.start Z
  refine Go.bipush X (v := 37) d0_0 (by decide) ?_
  refine Go.newarr X H (aty := .int) (N := 37) (cap := 37) (w0 hw) (by decide) (by decide) (by decide) (by decide) d0_2 (by decide) (by decide) ?_
  intro b K h H
  replace H : Hp Z h [(b, Ar Z .int K [.int 0, .int 0, .int 0, .int 0, .int 0, .int 0, .int 0, .int 0, .int 0, .int 0, .int 0, .int 0, .int 0, .int 0, .int 0, .int 0, .int 0, .int 0, .int 0, .int 0, .int 0, .int 0, .int 0, .int 0, .int 0, .int 0, .int 0, .int 0, .int 0, .int 0, .int 0, .int 0, .int 0, .int 0, .int 0, .int 0, .int 0])] := H
  refine Go.dup X d0_4 rfl ?_
  refine Go.iconst X (v := 0) d0_5 (by decide) ?_
  refine Go.iconst X (v := 0) d0_6 (by decide) ?_
  refine Go.iast X H (i := 0) rfl (by decide) (by decide) d0_7 ?_
  intro h H
  replace H : Hp Z h [(b, Ar Z .int K [.int 0, .int 0, .int 0, .int 0, .int 0, .int 0, .int 0, .int 0, .int 0, .int 0, .int 0, .int 0, .int 0, .int 0, .int 0, .int 0, .int 0, .int 0, .int 0, .int 0, .int 0, .int 0, .int 0, .int 0, .int 0, .int 0, .int 0, .int 0, .int 0, .int 0, .int 0, .int 0, .int 0, .int 0, .int 0, .int 0, .int 0])] := H
  refine Go.dup X d0_8 rfl ?_
  refine Go.iconst X (v := 1) d0_9 (by decide) ?_
  refine Go.bipush X (v := 58) d0_10 (by decide) ?_
  refine Go.iast X H (i := 0) rfl (by decide) (by decide) d0_12 ?_
  intro h H
  replace H : Hp Z h [(b, Ar Z .int K [.int 0, .int 58, .int 0, .int 0, .int 0, .int 0, .int 0, .int 0, .int 0, .int 0, .int 0, .int 0, .int 0, .int 0, .int 0, .int 0, .int 0, .int 0, .int 0, .int 0, .int 0, .int 0, .int 0, .int 0, .int 0, .int 0, .int 0, .int 0, .int 0, .int 0, .int 0, .int 0, .int 0, .int 0, .int 0, .int 0, .int 0])] := H
  refine Go.dup X d0_13 rfl ?_
  refine Go.iconst X (v := 2) d0_14 (by decide) ?_
  refine Go.bipush X (v := 65) d0_15 (by decide) ?_
  refine Go.iast X H (i := 0) rfl (by decide) (by decide) d0_17 ?_
  intro h H
  replace H : Hp Z h [(b, Ar Z .int K [.int 0, .int 58, .int 65, .int 0, .int 0, .int 0, .int 0, .int 0, .int 0, .int 0, .int 0, .int 0, .int 0, .int 0, .int 0, .int 0, .int 0, .int 0, .int 0, .int 0, .int 0, .int 0, .int 0, .int 0, .int 0, .int 0, .int 0, .int 0, .int 0, .int 0, .int 0, .int 0, .int 0, .int 0, .int 0, .int 0, .int 0])] := H
  refine Go.dup X d0_18 rfl ?_
  refine Go.iconst X (v := 3) d0_19 (by decide) ?_
  refine Go.bipush X (v := 90) d0_20 (by decide) ?_
  refine Go.iast X H (i := 0) rfl (by decide) (by decide) d0_22 ?_
  intro h H
  replace H : Hp Z h [(b, Ar Z .int K [.int 0, .int 58, .int 65, .int 90, .int 0, .int 0, .int 0, .int 0, .int 0, .int 0, .int 0, .int 0, .int 0, .int 0, .int 0, .int 0, .int 0, .int 0, .int 0, .int 0, .int 0, .int 0, .int 0, .int 0, .int 0, .int 0, .int 0, .int 0, .int 0, .int 0, .int 0, .int 0, .int 0, .int 0, .int 0, .int 0, .int 0])] := H
  refine Go.dup X d0_23 rfl ?_
  refine Go.iconst X (v := 4) d0_24 (by decide) ?_
  refine Go.bipush X (v := 95) d0_25 (by decide) ?_
  refine Go.iast X H (i := 0) rfl (by decide) (by decide) d0_27 ?_
  intro h H
  replace H : Hp Z h [(b, Ar Z .int K [.int 0, .int 58, .int 65, .int 90, .int 95, .int 0, .int 0, .int 0, .int 0, .int 0, .int 0, .int 0, .int 0, .int 0, .int 0, .int 0, .int 0, .int 0, .int 0, .int 0, .int 0, .int 0, .int 0, .int 0, .int 0, .int 0, .int 0, .int 0, .int 0, .int 0, .int 0, .int 0, .int 0, .int 0, .int 0, .int 0, .int 0])] := H
  refine Go.dup X d0_28 rfl ?_
  refine Go.iconst X (v := 5) d0_29 (by decide) ?_
  refine Go.bipush X (v := 97) d0_30 (by decide) ?_
  refine Go.iast X H (i := 0) rfl (by decide) (by decide) d0_32 ?_
  intro h H
  replace H : Hp Z h [(b, Ar Z .int K [.int 0, .int 58, .int 65, .int 90, .int 95, .int 97, .int 0, .int 0, .int 0, .int 0, .int 0, .int 0, .int 0, .int 0, .int 0, .int 0, .int 0, .int 0, .int 0, .int 0, .int 0, .int 0, .int 0, .int 0, .int 0, .int 0, .int 0, .int 0, .int 0, .int 0, .int 0, .int 0, .int 0, .int 0, .int 0, .int 0, .int 0])] := H
  refine Go.dup X d0_33 rfl ?_
  refine Go.bipush X (v := 6) d0_34 (by decide) ?_
  refine Go.bipush X (v := 122) d0_36 (by decide) ?_
  refine Go.iast X H (i := 0) rfl (by decide) (by decide) d0_38 ?_
  intro h H
  replace H : Hp Z h [(b, Ar Z .int K [.int 0, .int 58, .int 65, .int 90, .int 95, .int 97, .int 122, .int 0, .int 0, .int 0, .int 0, .int 0, .int 0, .int 0, .int 0, .int 0, .int 0, .int 0, .int 0, .int 0, .int 0, .int 0, .int 0, .int 0, .int 0, .int 0, .int 0, .int 0, .int 0, .int 0, .int 0, .int 0, .int 0, .int 0, .int 0, .int 0, .int 0])] := H
  refine Go.dup X d0_39 rfl ?_
  refine Go.bipush X (v := 7) d0_40 (by decide) ?_
  refine Go.bipush X (v := 127) d0_42 (by decide) ?_
  refine Go.iast X H (i := 0) rfl (by decide) (by decide) d0_44 ?_
  intro h H
  replace H : Hp Z h [(b, Ar Z .int K [.int 0, .int 58, .int 65, .int 90, .int 95, .int 97, .int 122, .int 127, .int 0, .int 0, .int 0, .int 0, .int 0, .int 0, .int 0, .int 0, .int 0, .int 0, .int 0, .int 0, .int 0, .int 0, .int 0, .int 0, .int 0, .int 0, .int 0, .int 0, .int 0, .int 0, .int 0, .int 0, .int 0, .int 0, .int 0, .int 0, .int 0])] := H
  refine Go.dup X d0_45 rfl ?_
  refine Go.bipush X (v := 8) d0_46 (by decide) ?_
  refine Go.sipush X (v := 128) d0_48 (by decide) ?_
  refine Go.iast X H (i := 0) rfl (by decide) (by decide) d0_51 ?_
  intro h H
  replace H : Hp Z h [(b, Ar Z .int K [.int 0, .int 58, .int 65, .int 90, .int 95, .int 97, .int 122, .int 127, .int 128, .int 0, .int 0, .int 0, .int 0, .int 0, .int 0, .int 0, .int 0, .int 0, .int 0, .int 0, .int 0, .int 0, .int 0, .int 0, .int 0, .int 0, .int 0, .int 0, .int 0, .int 0, .int 0, .int 0, .int 0, .int 0, .int 0, .int 0, .int 0])] := H
  refine Go.dup X d0_52 rfl ?_
  refine Go.bipush X (v := 9) d0_53 (by decide) ?_
  refine Go.sipush X (v := 183) d0_55 (by decide) ?_
  refine Go.iast X H (i := 0) rfl (by decide) (by decide) d0_58 ?_
  intro h H
  replace H : Hp Z h [(b, Ar Z .int K [.int 0, .int 58, .int 65, .int 90, .int 95, .int 97, .int 122, .int 127, .int 128, .int 183, .int 0, .int 0, .int 0, .int 0, .int 0, .int 0, .int 0, .int 0, .int 0, .int 0, .int 0, .int 0, .int 0, .int 0, .int 0, .int 0, .int 0, .int 0, .int 0, .int 0, .int 0, .int 0, .int 0, .int 0, .int 0, .int 0, .int 0])] := H
  refine Go.dup X d0_59 rfl ?_
  refine Go.bipush X (v := 10) d0_60 (by decide) ?_
  refine Go.sipush X (v := 192) d0_62 (by decide) ?_
  refine Go.iast X H (i := 0) rfl (by decide) (by decide) d0_65 ?_
  intro h H
  replace H : Hp Z h [(b, Ar Z .int K [.int 0, .int 58, .int 65, .int 90, .int 95, .int 97, .int 122, .int 127, .int 128, .int 183, .int 192, .int 0, .int 0, .int 0, .int 0, .int 0, .int 0, .int 0, .int 0, .int 0, .int 0, .int 0, .int 0, .int 0, .int 0, .int 0, .int 0, .int 0, .int 0, .int 0, .int 0, .int 0, .int 0, .int 0, .int 0, .int 0, .int 0])] := H
  refine Go.dup X d0_66 rfl ?_
  refine Go.bipush X (v := 11) d0_67 (by decide) ?_
  refine Go.sipush X (v := 214) d0_69 (by decide) ?_
  refine Go.iast X H (i := 0) rfl (by decide) (by decide) d0_72 ?_
  intro h H
  replace H : Hp Z h [(b, Ar Z .int K [.int 0, .int 58, .int 65, .int 90, .int 95, .int 97, .int 122, .int 127, .int 128, .int 183, .int 192, .int 214, .int 0, .int 0, .int 0, .int 0, .int 0, .int 0, .int 0, .int 0, .int 0, .int 0, .int 0, .int 0, .int 0, .int 0, .int 0, .int 0, .int 0, .int 0, .int 0, .int 0, .int 0, .int 0, .int 0, .int 0, .int 0])] := H
  refine Go.dup X d0_73 rfl ?_
  refine Go.bipush X (v := 12) d0_74 (by decide) ?_
  refine Go.sipush X (v := 216) d0_76 (by decide) ?_
  refine Go.iast X H (i := 0) rfl (by decide) (by decide) d0_79 ?_
  intro h H
  replace H : Hp Z h [(b, Ar Z .int K [.int 0, .int 58, .int 65, .int 90, .int 95, .int 97, .int 122, .int 127, .int 128, .int 183, .int 192, .int 214, .int 216, .int 0, .int 0, .int 0, .int 0, .int 0, .int 0, .int 0, .int 0, .int 0, .int 0, .int 0, .int 0, .int 0, .int 0, .int 0, .int 0, .int 0, .int 0, .int 0, .int 0, .int 0, .int 0, .int 0, .int 0])] := H
  refine Go.dup X d0_80 rfl ?_
  refine Go.bipush X (v := 13) d0_81 (by decide) ?_
  refine Go.sipush X (v := 246) d0_83 (by decide) ?_
  refine Go.iast X H (i := 0) rfl (by decide) (by decide) d0_86 ?_
  intro h H
  replace H : Hp Z h [(b, Ar Z .int K [.int 0, .int 58, .int 65, .int 90, .int 95, .int 97, .int 122, .int 127, .int 128, .int 183, .int 192, .int 214, .int 216, .int 246, .int 0, .int 0, .int 0, .int 0, .int 0, .int 0, .int 0, .int 0, .int 0, .int 0, .int 0, .int 0, .int 0, .int 0, .int 0, .int 0, .int 0, .int 0, .int 0, .int 0, .int 0, .int 0, .int 0])] := H
  refine Go.dup X d0_87 rfl ?_
  refine Go.bipush X (v := 14) d0_88 (by decide) ?_
  refine Go.sipush X (v := 248) d0_90 (by decide) ?_
  refine Go.iast X H (i := 0) rfl (by decide) (by decide) d0_93 ?_
  intro h H
  replace H : Hp Z h [(b, Ar Z .int K [.int 0, .int 58, .int 65, .int 90, .int 95, .int 97, .int 122, .int 127, .int 128, .int 183, .int 192, .int 214, .int 216, .int 246, .int 248, .int 0, .int 0, .int 0, .int 0, .int 0, .int 0, .int 0, .int 0, .int 0, .int 0, .int 0, .int 0, .int 0, .int 0, .int 0, .int 0, .int 0, .int 0, .int 0, .int 0, .int 0, .int 0])] := H
  refine Go.dup X d0_94 rfl ?_
  refine Go.bipush X (v := 15) d0_95 (by decide) ?_
  refine Go.sipush X (v := 767) d0_97 (by decide) ?_
  refine Go.iast X H (i := 0) rfl (by decide) (by decide) d0_100 ?_
  intro h H
  replace H : Hp Z h [(b, Ar Z .int K [.int 0, .int 58, .int 65, .int 90, .int 95, .int 97, .int 122, .int 127, .int 128, .int 183, .int 192, .int 214, .int 216, .int 246, .int 248, .int 767, .int 0, .int 0, .int 0, .int 0, .int 0, .int 0, .int 0, .int 0, .int 0, .int 0, .int 0, .int 0, .int 0, .int 0, .int 0, .int 0, .int 0, .int 0, .int 0, .int 0, .int 0])] := H
  refine Go.dup X d0_101 rfl ?_
  refine Go.bipush X (v := 16) d0_102 (by decide) ?_
  refine Go.sipush X (v := 880) d0_104 (by decide) ?_
  refine Go.iast X H (i := 0) rfl (by decide) (by decide) d0_107 ?_
  intro h H
  replace H : Hp Z h [(b, Ar Z .int K [.int 0, .int 58, .int 65, .int 90, .int 95, .int 97, .int 122, .int 127, .int 128, .int 183, .int 192, .int 214, .int 216, .int 246, .int 248, .int 767, .int 880, .int 0, .int 0, .int 0, .int 0, .int 0, .int 0, .int 0, .int 0, .int 0, .int 0, .int 0, .int 0, .int 0, .int 0, .int 0, .int 0, .int 0, .int 0, .int 0, .int 0])] := H
  refine Go.dup X d0_108 rfl ?_
  refine Go.bipush X (v := 17) d0_109 (by decide) ?_
  refine Go.sipush X (v := 893) d0_111 (by decide) ?_
  refine Go.iast X H (i := 0) rfl (by decide) (by decide) d0_114 ?_
  intro h H
  replace H : Hp Z h [(b, Ar Z .int K [.int 0, .int 58, .int 65, .int 90, .int 95, .int 97, .int 122, .int 127, .int 128, .int 183, .int 192, .int 214, .int 216, .int 246, .int 248, .int 767, .int 880, .int 893, .int 0, .int 0, .int 0, .int 0, .int 0, .int 0, .int 0, .int 0, .int 0, .int 0, .int 0, .int 0, .int 0, .int 0, .int 0, .int 0, .int 0, .int 0, .int 0])] := H
  refine Go.dup X d0_115 rfl ?_
  refine Go.bipush X (v := 18) d0_116 (by decide) ?_
  refine Go.sipush X (v := 895) d0_118 (by decide) ?_
  refine Go.iast X H (i := 0) rfl (by decide) (by decide) d0_121 ?_
  intro h H
  replace H : Hp Z h [(b, Ar Z .int K [.int 0, .int 58, .int 65, .int 90, .int 95, .int 97, .int 122, .int 127, .int 128, .int 183, .int 192, .int 214, .int 216, .int 246, .int 248, .int 767, .int 880, .int 893, .int 895, .int 0, .int 0, .int 0, .int 0, .int 0, .int 0, .int 0, .int 0, .int 0, .int 0, .int 0, .int 0, .int 0, .int 0, .int 0, .int 0, .int 0, .int 0])] := H
  refine Go.dup X d0_122 rfl ?_
  refine Go.bipush X (v := 19) d0_123 (by decide) ?_
  refine Go.sipush X (v := 8191) d0_125 (by decide) ?_
  refine Go.iast X H (i := 0) rfl (by decide) (by decide) d0_128 ?_
  intro h H
  replace H : Hp Z h [(b, Ar Z .int K [.int 0, .int 58, .int 65, .int 90, .int 95, .int 97, .int 122, .int 127, .int 128, .int 183, .int 192, .int 214, .int 216, .int 246, .int 248, .int 767, .int 880, .int 893, .int 895, .int 8191, .int 0, .int 0, .int 0, .int 0, .int 0, .int 0, .int 0, .int 0, .int 0, .int 0, .int 0, .int 0, .int 0, .int 0, .int 0, .int 0, .int 0])] := H
  refine Go.dup X d0_129 rfl ?_
  refine Go.bipush X (v := 20) d0_130 (by decide) ?_
  refine Go.sipush X (v := 8204) d0_132 (by decide) ?_
  refine Go.iast X H (i := 0) rfl (by decide) (by decide) d0_135 ?_
  intro h H
  replace H : Hp Z h [(b, Ar Z .int K [.int 0, .int 58, .int 65, .int 90, .int 95, .int 97, .int 122, .int 127, .int 128, .int 183, .int 192, .int 214, .int 216, .int 246, .int 248, .int 767, .int 880, .int 893, .int 895, .int 8191, .int 8204, .int 0, .int 0, .int 0, .int 0, .int 0, .int 0, .int 0, .int 0, .int 0, .int 0, .int 0, .int 0, .int 0, .int 0, .int 0, .int 0])] := H
  refine Go.dup X d0_136 rfl ?_
  refine Go.bipush X (v := 21) d0_137 (by decide) ?_
  refine Go.sipush X (v := 8205) d0_139 (by decide) ?_
  refine Go.iast X H (i := 0) rfl (by decide) (by decide) d0_142 ?_
  intro h H
  replace H : Hp Z h [(b, Ar Z .int K [.int 0, .int 58, .int 65, .int 90, .int 95, .int 97, .int 122, .int 127, .int 128, .int 183, .int 192, .int 214, .int 216, .int 246, .int 248, .int 767, .int 880, .int 893, .int 895, .int 8191, .int 8204, .int 8205, .int 0, .int 0, .int 0, .int 0, .int 0, .int 0, .int 0, .int 0, .int 0, .int 0, .int 0, .int 0, .int 0, .int 0, .int 0])] := H
  refine Go.dup X d0_143 rfl ?_
  refine Go.bipush X (v := 22) d0_144 (by decide) ?_
  refine Go.sipush X (v := 8304) d0_146 (by decide) ?_
  refine Go.iast X H (i := 0) rfl (by decide) (by decide) d0_149 ?_
  intro h H
  replace H : Hp Z h [(b, Ar Z .int K [.int 0, .int 58, .int 65, .int 90, .int 95, .int 97, .int 122, .int 127, .int 128, .int 183, .int 192, .int 214, .int 216, .int 246, .int 248, .int 767, .int 880, .int 893, .int 895, .int 8191, .int 8204, .int 8205, .int 8304, .int 0, .int 0, .int 0, .int 0, .int 0, .int 0, .int 0, .int 0, .int 0, .int 0, .int 0, .int 0, .int 0, .int 0])] := H
  refine Go.dup X d0_150 rfl ?_
  refine Go.bipush X (v := 23) d0_151 (by decide) ?_
  refine Go.sipush X (v := 8591) d0_153 (by decide) ?_
  refine Go.iast X H (i := 0) rfl (by decide) (by decide) d0_156 ?_
  intro h H
  replace H : Hp Z h [(b, Ar Z .int K [.int 0, .int 58, .int 65, .int 90, .int 95, .int 97, .int 122, .int 127, .int 128, .int 183, .int 192, .int 214, .int 216, .int 246, .int 248, .int 767, .int 880, .int 893, .int 895, .int 8191, .int 8204, .int 8205, .int 8304, .int 8591, .int 0, .int 0, .int 0, .int 0, .int 0, .int 0, .int 0, .int 0, .int 0, .int 0, .int 0, .int 0, .int 0])] := H
  refine Go.dup X d0_157 rfl ?_
  refine Go.bipush X (v := 24) d0_158 (by decide) ?_
  refine Go.sipush X (v := 11264) d0_160 (by decide) ?_
  refine Go.iast X H (i := 0) rfl (by decide) (by decide) d0_163 ?_
  intro h H
  replace H : Hp Z h [(b, Ar Z .int K [.int 0, .int 58, .int 65, .int 90, .int 95, .int 97, .int 122, .int 127, .int 128, .int 183, .int 192, .int 214, .int 216, .int 246, .int 248, .int 767, .int 880, .int 893, .int 895, .int 8191, .int 8204, .int 8205, .int 8304, .int 8591, .int 11264, .int 0, .int 0, .int 0, .int 0, .int 0, .int 0, .int 0, .int 0, .int 0, .int 0, .int 0, .int 0])] := H
  refine Go.dup X d0_164 rfl ?_
  refine Go.bipush X (v := 25) d0_165 (by decide) ?_
  refine Go.sipush X (v := 12271) d0_167 (by decide) ?_
  refine Go.iast X H (i := 0) rfl (by decide) (by decide) d0_170 ?_
  intro h H
  replace H : Hp Z h [(b, Ar Z .int K [.int 0, .int 58, .int 65, .int 90, .int 95, .int 97, .int 122, .int 127, .int 128, .int 183, .int 192, .int 214, .int 216, .int 246, .int 248, .int 767, .int 880, .int 893, .int 895, .int 8191, .int 8204, .int 8205, .int 8304, .int 8591, .int 11264, .int 12271, .int 0, .int 0, .int 0, .int 0, .int 0, .int 0, .int 0, .int 0, .int 0, .int 0, .int 0])] := H
  refine Go.dup X d0_171 rfl ?_
  refine Go.bipush X (v := 26) d0_172 (by decide) ?_
  refine Go.sipush X (v := 12289) d0_174 (by decide) ?_
  refine Go.iast X H (i := 0) rfl (by decide) (by decide) d0_177 ?_
  intro h H
  replace H : Hp Z h [(b, Ar Z .int K [.int 0, .int 58, .int 65, .int 90, .int 95, .int 97, .int 122, .int 127, .int 128, .int 183, .int 192, .int 214, .int 216, .int 246, .int 248, .int 767, .int 880, .int 893, .int 895, .int 8191, .int 8204, .int 8205, .int 8304, .int 8591, .int 11264, .int 12271, .int 12289, .int 0, .int 0, .int 0, .int 0, .int 0, .int 0, .int 0, .int 0, .int 0, .int 0])] := H
  refine Go.dup X d0_178 rfl ?_
  refine Go.bipush X (v := 27) d0_179 (by decide) ?_
  refine Go.ldcI X (w1 hw) d0_181 ?_
  refine Go.iast X H (i := 0) rfl (by decide) (by decide) d0_183 ?_
  intro h H
  replace H : Hp Z h [(b, Ar Z .int K [.int 0, .int 58, .int 65, .int 90, .int 95, .int 97, .int 122, .int 127, .int 128, .int 183, .int 192, .int 214, .int 216, .int 246, .int 248, .int 767, .int 880, .int 893, .int 895, .int 8191, .int 8204, .int 8205, .int 8304, .int 8591, .int 11264, .int 12271, .int 12289, .int 55295, .int 0, .int 0, .int 0, .int 0, .int 0, .int 0, .int 0, .int 0, .int 0])] := H
  refine Go.dup X d0_184 rfl ?_
  refine Go.bipush X (v := 28) d0_185 (by decide) ?_
  refine Go.ldcI X (w2 hw) d0_187 ?_
  refine Go.iast X H (i := 0) rfl (by decide) (by decide) d0_189 ?_
  intro h H
  replace H : Hp Z h [(b, Ar Z .int K [.int 0, .int 58, .int 65, .int 90, .int 95, .int 97, .int 122, .int 127, .int 128, .int 183, .int 192, .int 214, .int 216, .int 246, .int 248, .int 767, .int 880, .int 893, .int 895, .int 8191, .int 8204, .int 8205, .int 8304, .int 8591, .int 11264, .int 12271, .int 12289, .int 55295, .int 63744, .int 0, .int 0, .int 0, .int 0, .int 0, .int 0, .int 0, .int 0])] := H
  refine Go.dup X d0_190 rfl ?_
  refine Go.bipush X (v := 29) d0_191 (by decide) ?_
  refine Go.ldcI X (w3 hw) d0_193 ?_
  refine Go.iast X H (i := 0) rfl (by decide) (by decide) d0_195 ?_
  intro h H
  replace H : Hp Z h [(b, Ar Z .int K [.int 0, .int 58, .int 65, .int 90, .int 95, .int 97, .int 122, .int 127, .int 128, .int 183, .int 192, .int 214, .int 216, .int 246, .int 248, .int 767, .int 880, .int 893, .int 895, .int 8191, .int 8204, .int 8205, .int 8304, .int 8591, .int 11264, .int 12271, .int 12289, .int 55295, .int 63744, .int 64975, .int 0, .int 0, .int 0, .int 0, .int 0, .int 0, .int 0])] := H
  refine Go.dup X d0_196 rfl ?_
  refine Go.bipush X (v := 30) d0_197 (by decide) ?_
  refine Go.ldcI X (w4 hw) d0_199 ?_
  refine Go.iast X H (i := 0) rfl (by decide) (by decide) d0_201 ?_
  intro h H
  replace H : Hp Z h [(b, Ar Z .int K [.int 0, .int 58, .int 65, .int 90, .int 95, .int 97, .int 122, .int 127, .int 128, .int 183, .int 192, .int 214, .int 216, .int 246, .int 248, .int 767, .int 880, .int 893, .int 895, .int 8191, .int 8204, .int 8205, .int 8304, .int 8591, .int 11264, .int 12271, .int 12289, .int 55295, .int 63744, .int 64975, .int 65008, .int 0, .int 0, .int 0, .int 0, .int 0, .int 0])] := H
  refine Go.dup X d0_202 rfl ?_
  refine Go.bipush X (v := 31) d0_203 (by decide) ?_
  refine Go.ldcI X (w5 hw) d0_205 ?_
  refine Go.iast X H (i := 0) rfl (by decide) (by decide) d0_207 ?_
  intro h H
  replace H : Hp Z h [(b, Ar Z .int K [.int 0, .int 58, .int 65, .int 90, .int 95, .int 97, .int 122, .int 127, .int 128, .int 183, .int 192, .int 214, .int 216, .int 246, .int 248, .int 767, .int 880, .int 893, .int 895, .int 8191, .int 8204, .int 8205, .int 8304, .int 8591, .int 11264, .int 12271, .int 12289, .int 55295, .int 63744, .int 64975, .int 65008, .int 65533, .int 0, .int 0, .int 0, .int 0, .int 0])] := H
  refine Go.dup X d0_208 rfl ?_
  refine Go.bipush X (v := 32) d0_209 (by decide) ?_
  refine Go.ldcI X (w6 hw) d0_211 ?_
  refine Go.iast X H (i := 0) rfl (by decide) (by decide) d0_213 ?_
  intro h H
  replace H : Hp Z h [(b, Ar Z .int K [.int 0, .int 58, .int 65, .int 90, .int 95, .int 97, .int 122, .int 127, .int 128, .int 183, .int 192, .int 214, .int 216, .int 246, .int 248, .int 767, .int 880, .int 893, .int 895, .int 8191, .int 8204, .int 8205, .int 8304, .int 8591, .int 11264, .int 12271, .int 12289, .int 55295, .int 63744, .int 64975, .int 65008, .int 65533, .int 65536, .int 0, .int 0, .int 0, .int 0])] := H
  refine Go.dup X d0_214 rfl ?_
  refine Go.bipush X (v := 33) d0_215 (by decide) ?_
  refine Go.ldcI X (w7 hw) d0_217 ?_
  refine Go.iast X H (i := 0) rfl (by decide) (by decide) d0_219 ?_
  intro h H
  replace H : Hp Z h [(b, Ar Z .int K [.int 0, .int 58, .int 65, .int 90, .int 95, .int 97, .int 122, .int 127, .int 128, .int 183, .int 192, .int 214, .int 216, .int 246, .int 248, .int 767, .int 880, .int 893, .int 895, .int 8191, .int 8204, .int 8205, .int 8304, .int 8591, .int 11264, .int 12271, .int 12289, .int 55295, .int 63744, .int 64975, .int 65008, .int 65533, .int 65536, .int 983039, .int 0, .int 0, .int 0])] := H
  refine Go.dup X d0_220 rfl ?_
  refine Go.bipush X (v := 34) d0_221 (by decide) ?_
  refine Go.ldcI X (w8 hw) d0_223 ?_
  refine Go.iast X H (i := 0) rfl (by decide) (by decide) d0_225 ?_
  intro h H
  replace H : Hp Z h [(b, Ar Z .int K [.int 0, .int 58, .int 65, .int 90, .int 95, .int 97, .int 122, .int 127, .int 128, .int 183, .int 192, .int 214, .int 216, .int 246, .int 248, .int 767, .int 880, .int 893, .int 895, .int 8191, .int 8204, .int 8205, .int 8304, .int 8591, .int 11264, .int 12271, .int 12289, .int 55295, .int 63744, .int 64975, .int 65008, .int 65533, .int 65536, .int 983039, .int 1114111, .int 0, .int 0])] := H
  refine Go.dup X d0_226 rfl ?_
  refine Go.bipush X (v := 35) d0_227 (by decide) ?_
  refine Go.ldcI X (w9 hw) d0_229 ?_
  refine Go.iast X H (i := 0) rfl (by decide) (by decide) d0_231 ?_
  intro h H
  replace H : Hp Z h [(b, Ar Z .int K [.int 0, .int 58, .int 65, .int 90, .int 95, .int 97, .int 122, .int 127, .int 128, .int 183, .int 192, .int 214, .int 216, .int 246, .int 248, .int 767, .int 880, .int 893, .int 895, .int 8191, .int 8204, .int 8205, .int 8304, .int 8591, .int 11264, .int 12271, .int 12289, .int 55295, .int 63744, .int 64975, .int 65008, .int 65533, .int 65536, .int 983039, .int 1114111, .int (-2147483648), .int 0])] := H
  refine Go.dup X d0_232 rfl ?_
  refine Go.bipush X (v := 36) d0_233 (by decide) ?_
  refine Go.ldcI X (w10 hw) d0_235 ?_
  refine Go.iast X H (i := 0) rfl (by decide) (by decide) d0_237 ?_
  intro h H
  replace H : Hp Z h [(b, Ar Z .int K [.int 0, .int 58, .int 65, .int 90, .int 95, .int 97, .int 122, .int 127, .int 128, .int 183, .int 192, .int 214, .int 216, .int 246, .int 248, .int 767, .int 880, .int 893, .int 895, .int 8191, .int 8204, .int 8205, .int 8304, .int 8591, .int 11264, .int 12271, .int 12289, .int 55295, .int 63744, .int 64975, .int 65008, .int 65533, .int 65536, .int 983039, .int 1114111, .int (-2147483648), .int 2147483647])] := H
  refine Go.astore X d0_238 rfl rfl ?_
  refine Go.iloadN X d0_240 rfl ?_
  refine Go.iconst X (v := 3) d0_241 (by decide) ?_
  refine Go.iand X d0_242 ?_
  have tail : ∀ (x : Int32) (u : Slot), Go false p l e room_1 Z s m #[.int i0, .int i1, .int i2, .int i3] below meth c (rvQ fun v _ => v = .int 1) h (0 + 1) (0 + 37) (mkF m 276 #[.val (.int i0), .val (.int i1), .val (.int i2), .val (.int i3), .val (.ref b), .val (.int x), u] []) := by
    intro x u
    refine Go.iload X d0_276 rfl ?_
    refine Go.callS X (rmIs l hw H.1 A S x HS F) (rest := []) (w11 hw) (w12 hw) (w13 hw) (w14 hw) (by decide) pd2 rfl rfl d0_278 rfl (Nat.le_of_ble_eq_true rfl) (Nat.le_of_ble_eq_true rfl) (Nat.le_of_ble_eq_true rfl) (Nat.le_of_ble_eq_true rfl) (Kv ?_)
    rintro v h1 ⟨rfl, rfl⟩
    refine Go.iload X d0_281 rfl ?_
    refine Go.callS X (rmSpec l hw x) (rest := [.int (if own_spec x.toInt then 1 else 0)]) (w15 hw) (w16 hw) (w17 hw) (w18 hw) (by decide) pd2 rfl rfl d0_283 rfl (Nat.le_of_ble_eq_true rfl) (Nat.le_of_ble_eq_true rfl) (Nat.le_of_ble_eq_true rfl) (Nat.le_of_ble_eq_true rfl) (Kv ?_)
    rintro v h1 ⟨rfl, rfl⟩
    refine Go.icmp X d0_286 (pt := 293) ⟨by decide, by decide⟩ ?_ ?_
    · intro q; exact absurd rfl q
    intro _
    refine Go.iconst X (v := 1) d0_289 (by decide) ?_
    refine Go.goto X d0_290 (pt := 294) ⟨by decide, by decide⟩ ?_
    exact Go.zret X d0_294 (Or.inr rfl) (by decide) (by decide) rfl
  refine Go.ifc X d0_243 (pt := 252) ⟨by decide, by decide⟩ ?_ ?_
  rotate_left
  · intro _
    refine Go.iloadN X d0_246 rfl ?_
    refine Go.istore X d0_247 rfl ?_
    refine Go.goto X d0_249 (pt := 276) ⟨by decide, by decide⟩ ?_
    exact tail i0 .unset
  intro _
  refine Go.iloadN X d0_252 rfl ?_
  refine Go.ldcI X (w10 hw) d0_253 ?_
  refine Go.iand X d0_255 ?_
  refine Go.aload X d0_256 rfl rfl ?_
  refine Go.alen X H (i := 0) rfl d0_258 ?_
  show Go _ _ _ _ _ _ _ _ _ _ _ _ _ _ _ _ (mkF m 259 _ [.int 37, _])
  refine Go.irem X d0_259 (by decide) ?_
  refine Go.istore X d0_260 rfl ?_
  refine Go.aload X d0_262 rfl rfl ?_
  refine Go.iload X d0_264 rfl ?_
  obtain ⟨z0, z1⟩ := own_rem i1
  generalize (i1 &&& 2147483647) % 37 = z at z0 z1 ⊢
  obtain ⟨x, hx⟩ := own_int [0, 58, 65, 90, 95, 97, 122, 127, 128, 183, 192, 214, 216, 246, 248, 767, 880, 893, 895, 8191, 8204, 8205, 8304, 8591, 11264, 12271, 12289, 55295, 63744, 64975, 65008, 65533, 65536, 983039, 1114111, (-2147483648), 2147483647] z.toNatClampNeg z1
  refine Go.iald X H (i := 0) rfl z0 hx d0_266 ?_
  refine Go.iloadN X d0_267 rfl ?_
  refine Go.bipush X (v := 7) d0_268 (by decide) ?_
  refine Go.iand X d0_270 ?_
  refine Go.iconst X (v := 4) d0_271 (by decide) ?_
  refine Go.isub X d0_272 ?_
  refine Go.iadd X d0_273 ?_
  refine Go.istore X d0_274 rfl ?_
  exact tail _ _

theorem own_eqi {args : Array Value} {s : State} {t : Term} {k : Int32} (q : (Cond.eq t (.int k)).value args s none s [] = some true) : t.eval args s none [] s = some (.int k) := by
  have hn : (Term.int k).eval args s none [] s = some (.int k) := rfl
  cases ht : t.eval args s none [] s with
  | none => simp [Cond.value, ht] at q
  | some v => cases v <;> simp [Cond.value, ht, hn] at q ⊢ <;> exact q
theorem own_len {args : Array Value} {s : State} {t : Term} {a : Addr} {cl : Cell} (q : (Term.length t).eval args s none [] s = some (.int 24)) (hat : s.arrayAt? a = some cl) (F : t.eval args s none [] s = some (.ref a)) : cl.slots.size = 24 := by
  simp only [Term.eval, F, hat, Option.bind_eq_bind, Option.bind_some, Option.pure_def] at q
  split at q
  · rename_i hlt
    have e := Value.int.inj (Option.some.inj q)
    have := congrArg Int32.toInt e
    rw [len_toInt hlt] at this
    have e24 : (24 : Int32).toInt = 24 := rfl
    omega
  · cases q

set_option maxRecDepth 65536 in
set_option maxHeartbeats 4000000 in
theorem comes_1 {Post : Tables → Env → Array Value → State → Outcome → State → Prop} (hpost : ∀ tb e args s v u, (limb_1_1.after args s (.returned v) u = true ∧ limb_1_2.after args s (.returned v) u = true ∧ True) → FrameEnd s (.returned v) u (Jvm.fieldLocs frame_1_writes args s ++ Jvm.arrayLocs frame_1_arrays args s ++ Jvm.staticLocs frame_1_statics s) 16 192 → Post tb e args s (.returned v) u) :
    ArmFor flags0 classFile x code maxLocals ret World_1 tables_1 room_1 Calls_1 rest_1 Pre_1 Post := by
  intro l hfl _ _ p e ha hc hk s m args below hf hA hF happ hP
  obtain ⟨hcalls, hrest, hpre⟩ := hP
  obtain ⟨-, -, -, hnamed, -, -, -, hat⟩ := (Spec.applies_iff hf).mp happ
  obtain ⟨hg, hn⟩ := and_e (Cond.before_iff.mp (show (Jvm.Cond.and given_1 narrow_1).before args s = true from hpre))
  obtain ⟨h1, h2⟩ := and_e hg
  obtain ⟨w0, w1, w2, w3, rfl⟩ : ∃ w0 w1 w2 w3 : Value, args = #[w0, w1, w2, w3] := by
    have hs : args.size = 4 := by simpa [Cond.value, given_1] using h1
    obtain ⟨L⟩ := args
    match L, hs with
    | [w0, w1, w2, w3], _ => exact ⟨w0, w1, w2, w3, rfl⟩
  have hw : Hw #[w0, w1, w2, w3] s := fun d (hd : d ∈ tables_1) => atoms_spec (ws := Jvm.Cond.code x code maxLocals ret :: tables_1) hat d (List.mem_cons_of_mem _ hd)
  have hfit : Fit s := fun {y c} hc i hi => by
    obtain ⟨ha, rfl⟩ := Array.getElem?_eq_some_iff.mp hc
    have q := List.all_eq_true.mp ((Array.all_eq_true_iff_forall_mem.mp hF) _ (Array.getElem_mem ha)) i (List.mem_range.mpr hi)
    simpa [Array.getElem?_eq_getElem hi] using q
  obtain ⟨a0, h3⟩ := and_e h2
  obtain ⟨i0, e0⟩ := is_v a0
  obtain rfl : w0 = (.int i0) := Option.some.inj e0
  obtain ⟨a1, h4⟩ := and_e h3
  obtain ⟨i1, e1⟩ := is_v a1
  obtain rfl : w1 = (.int i1) := Option.some.inj e1
  obtain ⟨a2, h5⟩ := and_e h4
  obtain ⟨i2, e2⟩ := is_v a2
  obtain rfl : w2 = (.int i2) := Option.some.inj e2
  obtain ⟨i3, e3⟩ := is_v h5
  obtain rfl : w3 = (.int i3) := Option.some.inj e3
  obtain ⟨n0, m0⟩ := and_e hn
  obtain ⟨n1, m1⟩ := and_e m0
  obtain ⟨c0, m2⟩ := and_e m1
  obtain ⟨c1, m3⟩ := and_e m2
  obtain ⟨c2, m4⟩ := and_e m3
  obtain ⟨c3, m5⟩ := and_e m4
  obtain ⟨c4, m6⟩ := and_e m5
  obtain ⟨c5, m7⟩ := and_e m6
  obtain ⟨c6, m8⟩ := and_e m7
  obtain ⟨c7, m9⟩ := and_e m8
  obtain ⟨c8, m10⟩ := and_e m9
  obtain ⟨c9, m11⟩ := and_e m10
  obtain ⟨c10, m12⟩ := and_e m11
  obtain ⟨c11, m13⟩ := and_e m12
  obtain ⟨c12, m14⟩ := and_e m13
  obtain ⟨c13, m15⟩ := and_e m14
  obtain ⟨c14, m16⟩ := and_e m15
  obtain ⟨c15, m17⟩ := and_e m16
  obtain ⟨c16, m18⟩ := and_e m17
  obtain ⟨c17, m19⟩ := and_e m18
  obtain ⟨c18, m20⟩ := and_e m19
  obtain ⟨c19, m21⟩ := and_e m20
  obtain ⟨c20, m22⟩ := and_e m21
  obtain ⟨c21, m23⟩ := and_e m22
  obtain ⟨c22, m24⟩ := and_e m23
  have c23 := m24
  obtain ⟨v0, F0, fv⟩ := static_fit (ty := .array .int) hfit (w23 hw) (by decide +kernel)
  obtain ⟨b, rfl⟩ : ∃ b, v0 = .ref b := by
    rcases ref_cases (fit_R fv rfl) with rfl | q
    · simp [Cond.value, F0] at n0
    · exact q
  obtain ⟨cl, A⟩ := Arr.start F0 n0
  have F : Sta s s.heap "com/example/boxwood/boxwood/Verifier" "NAME_START" "[I" (.ref b) := Sta.start F0 (Or.inr ⟨(w13 hw), (w23 hw)⟩)
  have val : ∀ (t : Term) (k : Int32), (Cond.eq t (.int k)).value #[.int i0, .int i1, .int i2, .int i3] s none s [] = some true → t.eval #[.int i0, .int i1, .int i2, .int i3] s none [] s = some (.int k) := fun t k q => own_eqi q
  have S : cl.slots.size = 24 := by
    have q := val _ _ n1
    obtain ⟨a', cell, ha', hat, hv⟩ := Term.length_spec q
    cases F0.symm.trans ha'
    cases (State.arrayAt?_spec hat).1.symm.trans A.1
    exact own_len q hat F0
  have el : ∀ (j k : Int32), (Cond.eq (.elem (.static "com/example/boxwood/boxwood/Verifier" "NAME_START" "[I") (.int j)) (.int k)).value #[.int i0, .int i1, .int i2, .int i3] s none s [] = some true → cl.slots[j.toNatClampNeg]? = some (.int k) := fun j k q => by
    obtain ⟨cell, g1, -, g3⟩ := elem_at (val _ _ q) F0 (Term.int_eval _)
    cases g1.symm.trans A.1
    exact g3
  have HS : ∀ j r, own_rs[j]? = some r → cl.slots[0 + 2 * j]? = some (.int r.1) ∧ cl.slots[0 + 2 * j + 1]? = some (.int r.2) := by
    intro j r hj
    match j, hj with
    | 0, hj => cases hj; exact ⟨el 0 _ c0, el 1 _ c1⟩
    | 1, hj => cases hj; exact ⟨el 2 _ c2, el 3 _ c3⟩
    | 2, hj => cases hj; exact ⟨el 4 _ c4, el 5 _ c5⟩
    | 3, hj => cases hj; exact ⟨el 6 _ c6, el 7 _ c7⟩
    | 4, hj => cases hj; exact ⟨el 8 _ c8, el 9 _ c9⟩
    | 5, hj => cases hj; exact ⟨el 10 _ c10, el 11 _ c11⟩
    | 6, hj => cases hj; exact ⟨el 12 _ c12, el 13 _ c13⟩
    | 7, hj => cases hj; exact ⟨el 14 _ c14, el 15 _ c15⟩
    | 8, hj => cases hj; exact ⟨el 16 _ c16, el 17 _ c17⟩
    | 9, hj => cases hj; exact ⟨el 18 _ c18, el 19 _ c19⟩
    | 10, hj => cases hj; exact ⟨el 20 _ c20, el 21 _ c21⟩
    | 11, hj => cases hj; exact ⟨el 22 _ c22, el 23 _ c23⟩
    | j + 12, hj => simp [own_rs] at hj
  obtain ⟨n, o, h1, h2, h3, _, L, rfl, ⟨⟨_, rfl, rfl⟩, N⟩, hq⟩ := (law_ct l hw A S HS F i0 i1 i2 i3) tables_1 p e ha hc hk s m _ below hf ((Spec.applies_iff_loose hf).mp happ).1 ⟨rfl, State.Warmed39.refl s, rfl⟩ trivial
  exact ⟨n, _, h1, h2, h3, hpost _ _ _ _ _ _ ⟨Cond.after_iff.mpr rfl, Cond.after_iff.mpr (eq_i res_at (Term.int_eval (1)) rfl), trivial⟩ ⟨hq.1, hq.2.1, (hq.2.2.sift fun y hy => Or.inr (N y hy)).mono (by decide) (by decide)⟩⟩
theorem main_1_1 : Claimed_1_1 := comes_1 fun _ _ _ _ _ _ h hF => ⟨h.1, hF⟩
theorem main_1_2 : Claimed_1_2 := comes_1 fun _ _ _ _ _ _ h hF => ⟨h.2.1, hF⟩
end Jvm.Pilot.@@N@@
namespace Jvm.Pilot.@@N@@
open Jvm Jvm.ClassFile Sem Op Lib Jvm.Free Jvm.Stand Jvm.Pilot.@@N@@.Jvm.D
/-! MADE BY PROGRAM (witnessworld.py) out of the Statement's table words and the real class files: 9 classes; the members and pool entries that the words name. The judged class is class 1, her method 3. -/
namespace start1
open Jvm.ClassFile
def u (s : String) : CpInfo := .utf8 (stringToUtf16 s)
/-- a pool by its gaps: so many unusable entries, then the entry; so many at the end -/
def gap : Nat → List CpInfo → List CpInfo
  | 0, r => r
  | n + 1, r => .unusable :: gap n r
def poolList (es : List (Nat × CpInfo)) (last : Nat) : List CpInfo := es.foldr (fun e r => gap e.1 (e.2 :: r)) (gap last [])
def pool (es : List (Nat × CpInfo)) (last : Nat) : Array CpInfo := ⟨poolList es last⟩
def fileOf (pool : Array CpInfo) (this : Nat) (attrs : Array Attribute := #[]) (ms : Array MethodInfo := #[]) (fl : Nat := 33) (sup : Nat := 0) (ifs : Array Nat := #[]) (fds : Array FieldInfo := #[]) : ClassFile where
  minorVersion := 0
  majorVersion := 65
  constantPool := pool
  accessFlags := fl
  thisClass := this
  superClass := sup
  interfaces := ifs
  fields := fds
  methods := ms
  attributes := attrs
def plain (name : String) (sup : Option ClassId) : Class where
  name := name
  kind := .ordinary
  loader := none
  accessFlags := 33
  super := sup
  interfaces := #[]
  cf := none
  fields := #[]
  methods := #[]
  instanceTypes := #[]
  staticTypes := #[]
  resolved := #[]
  callSites := []
  init := .initialized
  statics := none
  mirror := none

def pool0 : Array CpInfo := pool [(5, u "<init>"), (0, u "()V"), (1, .class_ 10), (1, u "java/lang/Object")] 113

def k0m0 : Method := { name := "<init>", desc := "()V", sig := { parameters := [], returnType := none }, accessFlags := 1, code := none }
/-- java/lang/Object -/
def k0 : Class := { plain "java/lang/Object" none with
  accessFlags := 33
  interfaces := #[]
  cf := some (fileOf pool0 8 #[] #[{ accessFlags := 1, nameIndex := 5, descriptorIndex := 6, attributes := #[] }] 33 0 #[] #[])
  fields := #[]
  methods := #[k0m0]
  instanceTypes := #[]
  staticTypes := #[]
  resolved := Array.replicate 124 none
  statics := none }

def pool1 : Array CpInfo := pool [(2, .class_ 4), (1, u "java/lang/Object"), (0, u "<init>"), (0, u "()V"), (0, .methodref 8 9), (0, .class_ 10), (0, .nameAndType 11 12), (0, u "com/example/boxwood/boxwood/VerifierIsNameStartPinLaw"), (0, u "in"), (0, u "(III)Z"), (0, .integer 55295), (0, .integer 63744), (0, .integer 64975), (0, .integer 65008), (0, .integer 65533), (0, .integer 65536), (0, .integer 983039), (0, .integer 1114111), (2, .integer 2147483648), (0, .integer 2147483647), (0, .methodref 26 27), (0, .class_ 28), (0, .nameAndType 29 30), (0, u "com/example/boxwood/boxwood/Verifier"), (0, u "isNameStart"), (0, u "(I)Z"), (0, .methodref 8 32), (0, .nameAndType 33 30), (0, u "spec"), (3, u "law"), (0, u "(IIII)Z")] 4

def k1m0 : Method := { name := "<init>", desc := "()V", sig := { parameters := [], returnType := none }, accessFlags := 2, code := none }
def k1c1 : Code := { maxStack := 2, maxLocals := 3, code := method_2_code, exceptionTable := #[], attributes := #[] }
def k1m1 : Method := { name := "in", desc := "(III)Z", sig := { parameters := [.int, .int, .int], returnType := some .boolean }, accessFlags := 10, code := some k1c1 }
def k1c2 : Code := { maxStack := 3, maxLocals := 1, code := method_3_code, exceptionTable := #[], attributes := #[] }
def k1m2 : Method := { name := "spec", desc := "(I)Z", sig := { parameters := [.int], returnType := some .boolean }, accessFlags := 10, code := some k1c2 }
def k1c3 : Code := { maxStack := 4, maxLocals := 7, code := code, exceptionTable := #[], attributes := #[] }
def k1m3 : Method := { name := "law", desc := "(IIII)Z", sig := { parameters := [.int, .int, .int, .int], returnType := some .boolean }, accessFlags := 9, code := some k1c3 }
/-- com/example/boxwood/boxwood/VerifierIsNameStartPinLaw -/
def k1 : Class := { plain "com/example/boxwood/boxwood/VerifierIsNameStartPinLaw" (some 0) with
  accessFlags := 49
  interfaces := #[]
  cf := some (fileOf pool1 8 #[] #[{ accessFlags := 2, nameIndex := 5, descriptorIndex := 6, attributes := #[] }, { accessFlags := 10, nameIndex := 11, descriptorIndex := 12, attributes := #[] }, { accessFlags := 10, nameIndex := 33, descriptorIndex := 30, attributes := #[] }, { accessFlags := 9, nameIndex := 37, descriptorIndex := 38, attributes := #[] }] 49 2 #[] #[])
  fields := #[]
  methods := #[k1m0, k1m1, k1m2, k1m3]
  instanceTypes := #[]
  staticTypes := #[]
  resolved := Array.replicate 43 none
  statics := none }

def pool2 : Array CpInfo := pool [(2, .class_ 4), (1, u "java/lang/Object"), (0, u "<init>"), (0, u "()V"), (1, .class_ 10), (1, u "com/example/boxwood/boxwood/Verifier"), (0, u "NC_NAMES"), (0, u "Lcom/example/boxwood/boxwood/KnownNames;"), (28, u "QUALIFIED_NAMES"), (154, u "isNameStart"), (0, u "(I)Z"), (8, .fieldref 8 207), (0, .nameAndType 208 209), (0, u "NAME_START"), (0, u "[I"), (0, .methodref 8 211), (0, .nameAndType 212 213), (0, u "inRanges"), (0, u "(I[I)Z"), (2, u "NAME_PART"), (19, u "XMLNS_URI"), (0, u "Ljava/lang/String;"), (1, u "RESERVED_FOR_DECLARATIONS"), (0, u "PUBLIC_ID_SYMBOLS")] 45

def k2m0 : Method := { name := "<init>", desc := "()V", sig := { parameters := [], returnType := none }, accessFlags := 2, code := none }
def k2c1 : Code := { maxStack := 2, maxLocals := 1, code := prog_51_method_19_code, exceptionTable := #[], attributes := #[] }
def k2m1 : Method := { name := "isNameStart", desc := "(I)Z", sig := { parameters := [.int], returnType := some .boolean }, accessFlags := 8, code := some k2c1 }
def k2c2 : Code := { maxStack := 4, maxLocals := 3, code := prog_51_method_21_code, exceptionTable := #[], attributes := #[] }
def k2m2 : Method := { name := "inRanges", desc := "(I[I)Z", sig := { parameters := [.int, (.array .int)], returnType := some .boolean }, accessFlags := 10, code := some k2c2 }
/-- com/example/boxwood/boxwood/Verifier -/
def k2 : Class := { plain "com/example/boxwood/boxwood/Verifier" (some 0) with
  accessFlags := 49
  interfaces := #[]
  cf := some (fileOf pool2 8 #[] #[{ accessFlags := 2, nameIndex := 5, descriptorIndex := 6, attributes := #[] }, { accessFlags := 8, nameIndex := 196, descriptorIndex := 197, attributes := #[] }, { accessFlags := 10, nameIndex := 212, descriptorIndex := 213, attributes := #[] }] 49 2 #[] #[{ accessFlags := 26, nameIndex := 208, descriptorIndex := 209, attributes := #[] }, { accessFlags := 26, nameIndex := 216, descriptorIndex := 209, attributes := #[] }, { accessFlags := 26, nameIndex := 236, descriptorIndex := 237, attributes := #[] }, { accessFlags := 26, nameIndex := 11, descriptorIndex := 12, attributes := #[] }, { accessFlags := 26, nameIndex := 41, descriptorIndex := 12, attributes := #[] }, { accessFlags := 26, nameIndex := 239, descriptorIndex := 237, attributes := #[] }, { accessFlags := 26, nameIndex := 240, descriptorIndex := 237, attributes := #[] }])
  fields := #[{ name := "NAME_START", type := (.array .int), accessFlags := 26, slot := 0, constantValue := 0 }, { name := "NAME_PART", type := (.array .int), accessFlags := 26, slot := 1, constantValue := 0 }, { name := "XMLNS_URI", type := (.object "java/lang/String"), accessFlags := 26, slot := 2, constantValue := 0 }, { name := "NC_NAMES", type := (.object "com/example/boxwood/boxwood/KnownNames"), accessFlags := 26, slot := 3, constantValue := 0 }, { name := "QUALIFIED_NAMES", type := (.object "com/example/boxwood/boxwood/KnownNames"), accessFlags := 26, slot := 4, constantValue := 0 }, { name := "RESERVED_FOR_DECLARATIONS", type := (.object "java/lang/String"), accessFlags := 26, slot := 5, constantValue := 0 }, { name := "PUBLIC_ID_SYMBOLS", type := (.object "java/lang/String"), accessFlags := 26, slot := 6, constantValue := 0 }]
  methods := #[k2m0, k2m1, k2m2]
  instanceTypes := #[]
  staticTypes := #[(.array .int), (.array .int), (.object "java/lang/String"), (.object "com/example/boxwood/boxwood/KnownNames"), (.object "com/example/boxwood/boxwood/KnownNames"), (.object "java/lang/String"), (.object "java/lang/String")]
  resolved := Array.replicate 286 none
  statics := some 0 }

def pool3 : Array CpInfo := pool [(1, u "java/lang/Cloneable"), (0, .class_ 1), (0, u "java/lang/Object"), (0, .class_ 3)] 3

/-- java/lang/Cloneable -/
def k3 : Class := { plain "java/lang/Cloneable" (some 0) with
  accessFlags := 1537
  interfaces := #[]
  cf := some (fileOf pool3 2 #[] #[] 1537 4 #[] #[])
  fields := #[]
  methods := #[]
  instanceTypes := #[]
  staticTypes := #[]
  resolved := Array.replicate 8 none
  statics := none }

def pool4 : Array CpInfo := pool [(1, u "java/io/Serializable"), (0, .class_ 1), (0, u "java/lang/Object"), (0, .class_ 3)] 3

/-- java/io/Serializable -/
def k4 : Class := { plain "java/io/Serializable" (some 0) with
  accessFlags := 1537
  interfaces := #[]
  cf := some (fileOf pool4 2 #[] #[] 1537 4 #[] #[])
  fields := #[]
  methods := #[]
  instanceTypes := #[]
  staticTypes := #[]
  resolved := Array.replicate 8 none
  statics := none }

/-- the primitive byte -/
def k5 : Class := { plain "byte" none with kind := .primitive 'B', accessFlags := 0x411 }
/-- [B -/
def k6 : Class := { plain "[B" (some 0) with kind := .array 5 .byte, interfaces := #[3, 4], accessFlags := 1041 }

/-- the primitive int -/
def k7 : Class := { plain "int" none with kind := .primitive 'I', accessFlags := 0x411 }
/-- [I -/
def k8 : Class := { plain "[I" (some 0) with kind := .array 7 .int, interfaces := #[3, 4], accessFlags := 1041 }

def heap : Heap := #[{ cls := 2, slots := #[.ref 1, .null, .null, .null, .null, .null, .null], vm := .statics 2 },
  { cls := 8, slots := #[.int 192, .int 214, .int 216, .int 246, .int 248, .int 767, .int 880, .int 893, .int 895, .int 8191, .int 8204, .int 8205, .int 8304, .int 8591, .int 11264, .int 12271, .int 12289, .int 55295, .int 63744, .int 64975, .int 65008, .int 65533, .int 65536, .int 983039], vm := .none }]
def classes : Array Class := #[k0, k1, k2, k3, k4, k5, k6, k7, k8]
def interned : List (Array UInt16 × Addr) := []
def slotsUsed : Nat := 31
def theMethod : MethodId := ⟨1, 3⟩
def args0 : Array Value := #[.int 5, .int 7, .int 1, .int 2]
def aboutOver (below : List Frame) : State where
  vm := { classes := classes, interned := interned.toArray }
  heap := heap
  slotsUsed := slotsUsed
  threads := #[{ frames := .invoking theMethod args0 :: below }]
def below0 : List Frame := [.native { method := ⟨0, 0⟩, args := #[] }]
def about1 : State := aboutOver below0
def p0 : Program := .bare "" "" ""
def e0 : Env := launch0.env 0 0 0
theorem w_frames : about1.frames = Frame.invoking theMethod args0 :: below0 := rfl
set_option maxRecDepth 65536 in
theorem w_args : argsFit about1.vm theMethod args0 = true := by decide +kernel
set_option maxRecDepth 65536 in
theorem w_heap : heapFits about1 = true := by decide +kernel
set_option maxRecDepth 65536 in
theorem w_runnable : about1.curStatus? = some .runnable := by decide +kernel
set_option maxRecDepth 65536 in
theorem w_alone : about1.alone = true := by decide +kernel
set_option maxRecDepth 65536 in
theorem w_named : about1.methodNamed? x = some theMethod := by decide +kernel
set_option maxRecDepth 65536 in
theorem w_hears : about1.hears theMethod below0 = true := by decide +kernel
set_option maxRecDepth 65536 in
theorem w_ripe : about1.ripe theMethod args0 below0 = true := by decide +kernel
theorem w_running : about1.status = .running := rfl
set_option maxRecDepth 65536 in
theorem w_room : about1.hasRoom e0.platform room_1 = true :=
  launch0.hasRoom_least _ room_1 (by decide +kernel) (by decide +kernel) (by decide +kernel) (by decide +kernel) (by decide +kernel) (by decide +kernel)
theorem allAtoms_all (ts : List Jvm.Cond) (a : Array Jvm.Value) (st : Jvm.State) : (allAtoms ts).before a st = ts.all (fun c => c.before a st) := by
  induction ts with
  | nil => rfl
  | cons c t ih =>
    show (Jvm.Cond.and c (allAtoms t)).before a st = _
    rw [Jvm.Cond.before_and, ih, List.all_cons]
def words1 : List Jvm.Cond := Jvm.Cond.code x code maxLocals ret :: tables_1
/-- a 'code' word, met by the world's own term for the bytes: nothing is compared byte by byte -/
theorem code_word {y : MethodName} {bytes : ByteArray} {mx : Nat} {rt : Option FieldType} {a : Array Value} {s : State} {m : MethodId} {meth : Method} {c : Code} (h1 : s.methodNamed? y = some m) (h2 : s.vm.method? m = some meth) (h3 : meth.code = some c) (h4 : c.code = bytes)
    (h5 : (c.maxLocals == mx && c.exceptionTable.isEmpty && decide (c.maxStack ≤ mostOperands) && decide (meth.sig.returnType = rt) && !meth.locks && decide (parseMethodDescriptor y.desc = some meth.sig)) = true) : (Jvm.Cond.code y bytes mx rt).before a s = true := by
  simp only [Bool.and_eq_true, beq_iff_eq, Bool.not_eq_true', decide_eq_true_eq] at h5
  obtain ⟨⟨⟨⟨⟨g1, g2⟩, g3⟩, g4⟩, g5⟩, g6⟩ := h5
  simp [Cond.before, Cond.holds, Cond.value, h1, h2, h3, h4, g1, g2, g3, g4, g5, g6]
def isCode : Jvm.Cond → Bool
  | .code _ _ _ _ => true
  | _ => false
theorem all_split {L : List Jvm.Cond} {P : Jvm.Cond → Bool} (h1 : L.all (fun c => isCode c || P c) = true) (h2 : ∀ c ∈ L.filter isCode, P c = true) : L.all P = true := by
  refine List.all_eq_true.mpr fun c hc => ?_
  have h := List.all_eq_true.mp h1 c hc
  rcases Bool.eq_false_or_eq_true (isCode c) with hi | hi
  · exact h2 c (List.mem_filter.mpr ⟨hc, hi⟩)
  · simpa [hi] using h
set_option maxRecDepth 65536 in
theorem w_c0 : (Jvm.Cond.code x code maxLocals ret).before args0 about1 = true := code_word (m := ⟨1, 3⟩) (meth := k1m3) (c := k1c3) (by decide +kernel) rfl rfl rfl (by decide +kernel)
set_option maxRecDepth 65536 in
theorem w_c1 : (Jvm.Cond.code ({ cls := "com/example/boxwood/boxwood/Verifier", name := "isNameStart", desc := "(I)Z" } : Jvm.MethodName) prog_51_method_19_code (1 : Nat) (Option.some Jvm.ClassFile.FieldType.boolean)).before args0 about1 = true := code_word (m := ⟨2, 1⟩) (meth := k2m1) (c := k2c1) (by decide +kernel) rfl rfl rfl (by decide +kernel)
set_option maxRecDepth 65536 in
theorem w_c2 : (Jvm.Cond.code ({ cls := "com/example/boxwood/boxwood/VerifierIsNameStartPinLaw", name := "spec", desc := "(I)Z" } : Jvm.MethodName) method_3_code (1 : Nat) (Option.some Jvm.ClassFile.FieldType.boolean)).before args0 about1 = true := code_word (m := ⟨1, 2⟩) (meth := k1m2) (c := k1c2) (by decide +kernel) rfl rfl rfl (by decide +kernel)
set_option maxRecDepth 65536 in
theorem w_c3 : (Jvm.Cond.code ({ cls := "com/example/boxwood/boxwood/VerifierIsNameStartPinLaw", name := "in", desc := "(III)Z" } : Jvm.MethodName) method_2_code (3 : Nat) (Option.some Jvm.ClassFile.FieldType.boolean)).before args0 about1 = true := code_word (m := ⟨1, 1⟩) (meth := k1m1) (c := k1c1) (by decide +kernel) rfl rfl rfl (by decide +kernel)
set_option maxRecDepth 65536 in
theorem w_c4 : (Jvm.Cond.code ({ cls := "com/example/boxwood/boxwood/Verifier", name := "inRanges", desc := "(I[I)Z" } : Jvm.MethodName) prog_51_method_21_code (3 : Nat) (Option.some Jvm.ClassFile.FieldType.boolean)).before args0 about1 = true := code_word (m := ⟨2, 2⟩) (meth := k2m2) (c := k2c2) (by decide +kernel) rfl rfl rfl (by decide +kernel)
def codes1 : List Jvm.Cond := [Jvm.Cond.code x code maxLocals ret, Jvm.Cond.code ({ cls := "com/example/boxwood/boxwood/Verifier", name := "isNameStart", desc := "(I)Z" } : Jvm.MethodName) prog_51_method_19_code (1 : Nat) (Option.some Jvm.ClassFile.FieldType.boolean), Jvm.Cond.code ({ cls := "com/example/boxwood/boxwood/VerifierIsNameStartPinLaw", name := "spec", desc := "(I)Z" } : Jvm.MethodName) method_3_code (1 : Nat) (Option.some Jvm.ClassFile.FieldType.boolean), Jvm.Cond.code ({ cls := "com/example/boxwood/boxwood/VerifierIsNameStartPinLaw", name := "in", desc := "(III)Z" } : Jvm.MethodName) method_2_code (3 : Nat) (Option.some Jvm.ClassFile.FieldType.boolean), Jvm.Cond.code ({ cls := "com/example/boxwood/boxwood/Verifier", name := "inRanges", desc := "(I[I)Z" } : Jvm.MethodName) prog_51_method_21_code (3 : Nat) (Option.some Jvm.ClassFile.FieldType.boolean)]
set_option maxRecDepth 65536 in
theorem codes_eq : words1.filter isCode = codes1 := rfl
theorem w_codes : ∀ c ∈ words1.filter isCode, c.before args0 about1 = true := by
  rw [codes_eq]
  intro c hc
  simp only [codes1, List.mem_cons, List.not_mem_nil, or_false] at hc
  rcases hc with rfl | rfl | rfl | rfl | rfl
  · exact w_c0
  · exact w_c1
  · exact w_c2
  · exact w_c3
  · exact w_c4
set_option maxRecDepth 65536 in
theorem w_t1 : (words1.take 24).all (fun c => isCode c || c.before args0 about1) = true := by decide +kernel
set_option maxRecDepth 65536 in
theorem w_t2 : (words1.drop 24).all (fun c => isCode c || c.before args0 about1) = true := by decide +kernel
theorem w_tables : (allAtoms (Jvm.Cond.code x code maxLocals ret :: tables_1)).before args0 about1 = true := by
  rw [allAtoms_all]
  show words1.all (fun c => c.before args0 about1) = true
  refine all_split ?_ w_codes
  rw [← List.take_append_drop 24 words1, List.all_append, w_t1, w_t2]
  rfl
set_option maxRecDepth 65536 in
theorem w_case : (Jvm.Cond.and given_1 narrow_1).before args0 about1 = true := by decide +kernel
theorem w_applies : (headSpec (Jvm.Cond.code x code maxLocals ret :: tables_1) room_1).applies x e0.platform about1 = true :=
  (Spec.applies_iff w_frames).mpr ⟨w_running, w_runnable, w_alone, w_named, w_hears, w_ripe, w_room, w_tables⟩
theorem atStart : AtStart classFile x code maxLocals ret World_1 tables_1 room_1 Calls_1 rest_1 Pre_1 launch0 p0 e0 about1 theMethod args0 below0 :=
  ⟨lists_1, trivial, launch0.admits_env _ _ _, launch0.least_env, fairChoices_fair.cas, fairChoices_fair.clock, w_frames, w_args, w_heap, w_applies, trivial, trivial, w_case⟩
end start1
theorem witness_1 : WitnessClaimed_1 := ⟨start1.p0, start1.e0, start1.about1, start1.theMethod, start1.args0, start1.below0, start1.atStart⟩
end Jvm.Pilot.@@N@@
