import JvmDerived
import JvmDerived.Pilot.@@N@@Statement
import JvmDerived.Pilot.@@N@@Code
set_option linter.unusedVariables false
set_option linter.unusedSimpArgs false
namespace Jvm.OwnKit
open Sem ClassFile Op Lib Jvm.Stand Jvm.Free Jvm.LawKit Jvm.RoadKit
/-! ## own kit: a body's walk as 'what is left to run' (Go), contracts (Ct), the known cells (Hp) -/
/-- the tables over which the walk stands: the start's own, or (wd: it may have interned strings) re-based ones -/
def Bse (wd : Bool) (s : State) (vm : Vm) (N : Nat) : Prop := match wd with | false => vm = s.vm | true => s.Since vm N
/-- the frame that is promised at the end -/
def FrE (wd : Bool) (s : State) (o : Outcome) (t : State) (L : List Loc) (k n : Nat) : Prop := match wd with | false => FrameEnd s o t L k n | true => ReturnedEndW s o t L k n
/-- from frame g over heap h the body goes to its end, and its end is as Q says -/
def Go (wd : Bool) (p : Program) (l : Launch) (e : Env) (R : Room) (Z s : State) (m : MethodId) (args : Array Value) (below : List Frame) (meth : Method) (c : Code) (Q : Option Value → Heap → Prop) (h : Heap) (k n : Nat) (g : JFrame) : Prop :=
  ∀ (vm : Vm) (T : State) (L : List Loc), Fr Z.heap.size L → Bse wd s vm h.size → Stand p l e R (s.setVm vm) m args below meth c T L k n → T.heap = h →
    ∃ u o, Steps p.tables e below (T.setTop g) u ∧ u.status = .running ∧ Ended u below o ∧ ∃ v L', o = .returned v ∧ (Q v u.heap ∧ Fr Z.heap.size L') ∧ FrE wd s o u L' R.cells R.slots
/-- what a body's walk knows throughout -/
def Cx (p : Program) (Z s : State) (m : MethodId) (meth : Method) (c : Code) (own nm : String) (code : ByteArray) (ml : Nat) (ret : Option FieldType) : Prop :=
  p.tables.exec = Jvm.exec ∧ Z.Warmed39 s.vm ∧ s.vm.findClass own = some m.cls ∧ c.code = code ∧ c.maxLocals = ml ∧ meth.sig.returnType = ret ∧ meth.locks = false ∧ meth.name = nm
/-- a body's contract: called with 'as' over heap h it returns as Q says -/
def Ct (wd : Bool) (l : Launch) (Z : State) (y : MethodName) (code : ByteArray) (ml : Nat) (ret : Option FieldType) (rm : Room) (as : Array Value) (h : Heap) (Q : Option Value → Heap → Prop) : Prop :=
  ∀ ws : List Jvm.Cond, MetFree l y (head1 (Jvm.Cond.code y code ml ret :: ws) rm) (fun a U => a = as ∧ Z.Warmed39 U.vm ∧ U.heap = h) (fun _ _ _ _ _ => True) (fun _ U o U' => ∃ v L, o = .returned v ∧ (Q v U'.heap ∧ Fr Z.heap.size L) ∧ FrE wd U o U' L rm.cells rm.slots)
def rvQ (Q : Value → Heap → Prop) : Option Value → Heap → Prop := fun o h => ∃ v, o = some v ∧ Q v h
def r0Q (Q : Heap → Prop) : Option Value → Heap → Prop := fun o h => o = none ∧ Q h
/-- the instruction at pc, and the pc behind it -/
def D1 (code : ByteArray) (pc : Nat) (i : Instr) (len pc' : Nat) : Prop := decode code pc = .ok (i, len) ∧ pc + len = pc'
section Steps
variable {wd : Bool} {p : Program} {l : Launch} {e : Env} {R : Room} {Z s : State} {m : MethodId} {args : Array Value} {below : List Frame} {meth : Method} {c : Code} {Q : Option Value → Heap → Prop} {h : Heap} {k n : Nat} {own nm : String} {code : ByteArray} {ml : Nat} {ret : Option FieldType} {a0 : Array Value}
variable {pc pc' : Nat} {Ls : Array Slot} {st : List Value}
theorem Bse.start (s : State) (N : Nat) : Bse wd s s.vm N := by
  cases wd
  · exact rfl
  · exact (State.WarmedH.refl s).since N
theorem Bse.mono {vm : Vm} {N N' : Nat} (B : Bse wd s vm N) (q : N ≤ N') : Bse wd s vm N' := by
  cases wd
  · exact B
  · exact ⟨B.1, fun j p hj hp => by obtain ⟨x, y⟩ := B.2 j p hj hp; exact ⟨x, Nat.lt_of_lt_of_le y q⟩⟩
theorem Bse.wide {vm : Vm} {N : Nat} (B : Bse wd s vm N) : s.Warmed39 vm := by
  cases wd
  · rw [show vm = s.vm from B]; exact State.Warmed39.refl s
  · exact B.1
theorem Cx.re {vm : Vm} {N : Nat} (X : Cx p Z s m meth c own nm code ml ret) (B : Bse wd s vm N) : Cx p Z (s.setVm vm) m meth c own nm code ml ret :=
  ⟨X.1, State.Warmed39.trans X.2.1 B.wide, by rw [show (s.setVm vm).vm = vm from rfl, B.wide.alike.findClass]; exact X.2.2.1, X.2.2.2⟩
theorem Bse.ended {vm : Vm} {N : Nat} (B : Bse wd s vm N) {U : State} {o : Outcome} {L : List Loc} {k n k' n' : Nat} (hr : ∃ v, o = .returned v) (hW : (s.setVm vm).WarmedH U.vm) (hn : N ≤ U.heap.size) (hs : (s.setVm vm).sameButNew ({ U with vm := vm } : State) L k n) (hk : k ≤ k') (hl : n ≤ n') : FrE wd s o U L k' n' := by
  cases wd
  · obtain rfl : vm = s.vm := B
    exact ⟨hr, hW, hs.mono hk hl⟩
  · obtain ⟨q1, q2, q3⟩ := State.Since.ended B hW hn hs
    exact ⟨hr, q1, q2, q3.mono hk hl⟩
theorem Ct.intro {y : MethodName} {rm : Room} {as : Array Value} (hp : plainFor y = true)
    (B : ∀ (p : Program) e s m below meth c, Cx p Z s m meth c y.cls y.name code ml ret → Go wd p l e rm Z s m as below meth c Q h 0 0 (entryFrame m as ml)) : Ct wd l Z y code ml ret rm as h Q := by
  intro ws
  refine MetFree.of_bodySF hp hisR ?_
  intro p e s m args below meth c s₁ Bd hml hP hK
  obtain ⟨rfl, hZ, hh⟩ := hP
  have X0 : Stand p l e rm s m args below meth c s₁ [] 0 0 := Stand.of_body Bd
  have e0 : s₁.heap = h := by rw [← hh, Bd.state]; rfl
  exact B p e s m below meth c ⟨Bd.exec, hZ, findClass_of_methodNamed Bd.named, Bd.bytes, hml, Bd.returns, Bd.notSynchronized, (name_of_methodNamed Bd.named Bd.method).1⟩ s.vm s₁ [] (Fr.nil _) (Bse.start s _) X0 e0
theorem Go.to {g g' : JFrame} (K : Go wd p l e R Z s m args below meth c Q h k n g') (X : Cx p Z s m meth c own nm code ml ret) (f : ∀ s, Cx p Z s m meth c own nm code ml ret → ∀ T L, Stand p l e R s m args below meth c T L k n → ∀ target, Steps p.tables e below (T.setTop g') target → Steps p.tables e below (T.setTop g) target) : Go wd p l e R Z s m args below meth c Q h k n g := by
  intro vm T L F B S eh
  obtain ⟨u, o, st, r⟩ := K vm T L F B S eh
  exact ⟨u, o, f _ (X.re B) T L S u st, r⟩
theorem Go.cast {g g' : JFrame} (q : g = g') (K : Go wd p l e R Z s m args below meth c Q h k n g') : Go wd p l e R Z s m args below meth c Q h k n g := q ▸ K
/-! ### plain steps -/
theorem Go.iloadN (X : Cx p Z s m meth c own nm code ml ret) {i : Fin 4} {v : Int32} (D : D1 code pc (.iload_n i) 1 pc') (hl : Ls[i.val]? = some (.val (.int v))) (K : Go wd p l e R Z s m args below meth c Q h k n (mkF m pc' Ls (.int v :: st))) : Go wd p l e R Z s m args below meth c Q h k n (mkF m pc Ls st) := by
  obtain ⟨d, rfl⟩ := D
  exact K.to X fun s X T L S t r => XS.iloadN S.here X.1 rfl (hb X.2.2.2.1 d) hl r
theorem Go.iload (X : Cx p Z s m meth c own nm code ml ret) {i : Nat} {v : Int32} (D : D1 code pc (.iload i) 2 pc') (hl : Ls[i]? = some (.val (.int v))) (K : Go wd p l e R Z s m args below meth c Q h k n (mkF m pc' Ls (.int v :: st))) : Go wd p l e R Z s m args below meth c Q h k n (mkF m pc Ls st) := by
  obtain ⟨d, rfl⟩ := D
  exact K.to X fun s X T L S t r => XS.iload S.here X.1 rfl (hb X.2.2.2.1 d) hl r
theorem Go.aloadN (X : Cx p Z s m meth c own nm code ml ret) {i : Fin 4} {v : Value} (D : D1 code pc (.aload_n i) 1 pc') (hl : Ls[i.val]? = some (.val v)) (hv : v.isRef = true) (K : Go wd p l e R Z s m args below meth c Q h k n (mkF m pc' Ls (v :: st))) : Go wd p l e R Z s m args below meth c Q h k n (mkF m pc Ls st) := by
  obtain ⟨d, rfl⟩ := D
  exact K.to X fun s X T L S t r => XS.aloadN S.here X.1 rfl (hb X.2.2.2.1 d) hl hv r
theorem Go.aload (X : Cx p Z s m meth c own nm code ml ret) {i : Nat} {v : Value} (D : D1 code pc (.aload i) 2 pc') (hl : Ls[i]? = some (.val v)) (hv : v.isRef = true) (K : Go wd p l e R Z s m args below meth c Q h k n (mkF m pc' Ls (v :: st))) : Go wd p l e R Z s m args below meth c Q h k n (mkF m pc Ls st) := by
  obtain ⟨d, rfl⟩ := D
  exact K.to X fun s X T L S t r => XS.aload S.here X.1 rfl (hb X.2.2.2.1 d) hl hv r
theorem Go.iconst (X : Cx p Z s m meth c own nm code ml ret) {i : Int} {v : Int32} (D : D1 code pc (.iconst i) 1 pc') (hv : Int32.ofInt i = v) (K : Go wd p l e R Z s m args below meth c Q h k n (mkF m pc' Ls (.int v :: st))) : Go wd p l e R Z s m args below meth c Q h k n (mkF m pc Ls st) := by
  obtain ⟨d, rfl⟩ := D; subst hv
  exact K.to X fun s X T L S t r => XS.iconst S.here X.1 rfl (hb X.2.2.2.1 d) r
theorem Go.bipush (X : Cx p Z s m meth c own nm code ml ret) {i : Int} {v : Int32} (D : D1 code pc (.bipush i) 2 pc') (hv : (Int8.ofInt i).toInt32 = v) (K : Go wd p l e R Z s m args below meth c Q h k n (mkF m pc' Ls (.int v :: st))) : Go wd p l e R Z s m args below meth c Q h k n (mkF m pc Ls st) := by
  obtain ⟨d, rfl⟩ := D; subst hv
  exact K.to X fun s X T L S t r => XS.bipush S.here X.1 rfl (hb X.2.2.2.1 d) r
theorem Go.sipush (X : Cx p Z s m meth c own nm code ml ret) {i : Int} {v : Int32} (D : D1 code pc (.sipush i) 3 pc') (hv : (Int16.ofInt i).toInt32 = v) (K : Go wd p l e R Z s m args below meth c Q h k n (mkF m pc' Ls (.int v :: st))) : Go wd p l e R Z s m args below meth c Q h k n (mkF m pc Ls st) := by
  obtain ⟨d, rfl⟩ := D; subst hv
  exact K.to X fun s X T L S t r => XS.sipush S.here X.1 rfl (hb X.2.2.2.1 d) r
theorem Go.ldcI (X : Cx p Z s m meth c own nm code ml ret) {i : Nat} {v : Int32} (w : (Cond.constant own i v).before a0 Z = true) (D : D1 code pc (.ldc i) 2 pc') (K : Go wd p l e R Z s m args below meth c Q h k n (mkF m pc' Ls (.int v :: st))) : Go wd p l e R Z s m args below meth c Q h k n (mkF m pc Ls st) := by
  obtain ⟨d, rfl⟩ := D
  exact K.to X fun s X T L S t r => S.ldcI X.1 X.2.2.1 (mv X.2.1 w) rfl (hb X.2.2.2.1 d) r
theorem Go.aconstNull (X : Cx p Z s m meth c own nm code ml ret) (D : D1 code pc .aconst_null 1 pc') (K : Go wd p l e R Z s m args below meth c Q h k n (mkF m pc' Ls (.null :: st))) : Go wd p l e R Z s m args below meth c Q h k n (mkF m pc Ls st) := by
  obtain ⟨d, rfl⟩ := D
  exact K.to X fun s X T L S t r => XS.aconstNull S.here X.1 rfl (hb X.2.2.2.1 d) r
theorem Go.istoreN (X : Cx p Z s m meth c own nm code ml ret) {i : Fin 4} {x : Int32} {L' : Array Slot} (D : D1 code pc (.istore_n i) 1 pc') (hl : storeLocals Ls i.val (.int x) = some L') (K : Go wd p l e R Z s m args below meth c Q h k n (mkF m pc' L' st)) : Go wd p l e R Z s m args below meth c Q h k n (mkF m pc Ls (.int x :: st)) := by
  obtain ⟨d, rfl⟩ := D
  exact K.to X fun s X T L S t r => XS.istoreN S.here X.1 rfl (hb X.2.2.2.1 d) rfl hl r
theorem Go.istore (X : Cx p Z s m meth c own nm code ml ret) {i : Nat} {x : Int32} {L' : Array Slot} (D : D1 code pc (.istore i) 2 pc') (hl : storeLocals Ls i (.int x) = some L') (K : Go wd p l e R Z s m args below meth c Q h k n (mkF m pc' L' st)) : Go wd p l e R Z s m args below meth c Q h k n (mkF m pc Ls (.int x :: st)) := by
  obtain ⟨d, rfl⟩ := D
  exact K.to X fun s X T L S t r => XS.istore S.here X.1 rfl (hb X.2.2.2.1 d) rfl hl r
theorem Go.astoreN (X : Cx p Z s m meth c own nm code ml ret) {i : Fin 4} {x : Value} {L' : Array Slot} (D : D1 code pc (.astore_n i) 1 pc') (hv : x.isRef = true) (hl : storeLocals Ls i.val x = some L') (K : Go wd p l e R Z s m args below meth c Q h k n (mkF m pc' L' st)) : Go wd p l e R Z s m args below meth c Q h k n (mkF m pc Ls (x :: st)) := by
  obtain ⟨d, rfl⟩ := D
  exact K.to X fun s X T L S t r => XS.astoreN S.here X.1 rfl (hb X.2.2.2.1 d) rfl hv hl r
theorem Go.astore (X : Cx p Z s m meth c own nm code ml ret) {i : Nat} {x : Value} {L' : Array Slot} (D : D1 code pc (.astore i) 2 pc') (hv : x.isRef = true) (hl : storeLocals Ls i x = some L') (K : Go wd p l e R Z s m args below meth c Q h k n (mkF m pc' L' st)) : Go wd p l e R Z s m args below meth c Q h k n (mkF m pc Ls (x :: st)) := by
  obtain ⟨d, rfl⟩ := D
  exact K.to X fun s X T L S t r => XS.astore S.here X.1 rfl (hb X.2.2.2.1 d) rfl hv hl r
theorem Go.iinc (X : Cx p Z s m meth c own nm code ml ret) {i : Nat} {cst : Int} {x : Int32} {L' : Array Slot} (D : D1 code pc (.iinc i cst) 3 pc') (hl : Ls[i]? = some (.val (.int x))) (hl' : storeLocals Ls i (.int (x + Int32.ofInt cst)) = some L') (K : Go wd p l e R Z s m args below meth c Q h k n (mkF m pc' L' st)) : Go wd p l e R Z s m args below meth c Q h k n (mkF m pc Ls st) := by
  obtain ⟨d, rfl⟩ := D
  exact K.to X fun s X T L S t r => XS.iinc S.here X.1 rfl (hb X.2.2.2.1 d) hl hl' r
theorem Go.dup (X : Cx p Z s m meth c own nm code ml ret) {x : Value} (D : D1 code pc .dup 1 pc') (hc : x.category = 1) (K : Go wd p l e R Z s m args below meth c Q h k n (mkF m pc' Ls (x :: x :: st))) : Go wd p l e R Z s m args below meth c Q h k n (mkF m pc Ls (x :: st)) := by
  obtain ⟨d, rfl⟩ := D
  exact K.to X fun s X T L S t r => XS.dup S.here X.1 rfl (hb X.2.2.2.1 d) rfl hc r
theorem Go.dupX1 (X : Cx p Z s m meth c own nm code ml ret) {x y : Value} (D : D1 code pc .dup_x1 1 pc') (hc : x.category = 1) (hc' : y.category = 1) (K : Go wd p l e R Z s m args below meth c Q h k n (mkF m pc' Ls (x :: y :: x :: st))) : Go wd p l e R Z s m args below meth c Q h k n (mkF m pc Ls (x :: y :: st)) := by
  obtain ⟨d, rfl⟩ := D
  exact K.to X fun s X T L S t r => XT.dupX1 S.here X.1 rfl (hb X.2.2.2.1 d) rfl hc hc' r
theorem Go.dup2 (X : Cx p Z s m meth c own nm code ml ret) {x y : Value} (D : D1 code pc .dup2 1 pc') (hc : x.category = 1) (hc' : y.category = 1) (K : Go wd p l e R Z s m args below meth c Q h k n (mkF m pc' Ls (x :: y :: x :: y :: st))) : Go wd p l e R Z s m args below meth c Q h k n (mkF m pc Ls (x :: y :: st)) := by
  obtain ⟨d, rfl⟩ := D
  exact K.to X fun s X T L S t r => XT.dup2 S.here X.1 rfl (hb X.2.2.2.1 d) rfl hc hc' r
theorem Go.pop (X : Cx p Z s m meth c own nm code ml ret) {x : Value} (D : D1 code pc .pop 1 pc') (hc : x.category = 1) (K : Go wd p l e R Z s m args below meth c Q h k n (mkF m pc' Ls st)) : Go wd p l e R Z s m args below meth c Q h k n (mkF m pc Ls (x :: st)) := by
  obtain ⟨d, rfl⟩ := D
  exact K.to X fun s X T L S t r => XT.pop S.here X.1 rfl (hb X.2.2.2.1 d) rfl hc r
theorem Go.iadd (X : Cx p Z s m meth c own nm code ml ret) {x y : Int32} (D : D1 code pc .iadd 1 pc') (K : Go wd p l e R Z s m args below meth c Q h k n (mkF m pc' Ls (.int (x + y) :: st))) : Go wd p l e R Z s m args below meth c Q h k n (mkF m pc Ls (.int y :: .int x :: st)) := by
  obtain ⟨d, rfl⟩ := D
  exact K.to X fun s X T L S t r => XS.iadd S.here X.1 rfl (hb X.2.2.2.1 d) rfl r
theorem Go.isub (X : Cx p Z s m meth c own nm code ml ret) {x y : Int32} (D : D1 code pc .isub 1 pc') (K : Go wd p l e R Z s m args below meth c Q h k n (mkF m pc' Ls (.int (x - y) :: st))) : Go wd p l e R Z s m args below meth c Q h k n (mkF m pc Ls (.int y :: .int x :: st)) := by
  obtain ⟨d, rfl⟩ := D
  exact K.to X fun s X T L S t r => XS.isub S.here X.1 rfl (hb X.2.2.2.1 d) rfl r
theorem Go.imul (X : Cx p Z s m meth c own nm code ml ret) {x y : Int32} (D : D1 code pc .imul 1 pc') (K : Go wd p l e R Z s m args below meth c Q h k n (mkF m pc' Ls (.int (x * y) :: st))) : Go wd p l e R Z s m args below meth c Q h k n (mkF m pc Ls (.int y :: .int x :: st)) := by
  obtain ⟨d, rfl⟩ := D
  exact K.to X fun s X T L S t r => XS.imul S.here X.1 rfl (hb X.2.2.2.1 d) rfl r
theorem Go.iand (X : Cx p Z s m meth c own nm code ml ret) {x y : Int32} (D : D1 code pc .iand 1 pc') (K : Go wd p l e R Z s m args below meth c Q h k n (mkF m pc' Ls (.int (x &&& y) :: st))) : Go wd p l e R Z s m args below meth c Q h k n (mkF m pc Ls (.int y :: .int x :: st)) := by
  obtain ⟨d, rfl⟩ := D
  exact K.to X fun s X T L S t r => XS.iand S.here X.1 rfl (hb X.2.2.2.1 d) rfl r
theorem Go.ior (X : Cx p Z s m meth c own nm code ml ret) {x y : Int32} (D : D1 code pc .ior 1 pc') (K : Go wd p l e R Z s m args below meth c Q h k n (mkF m pc' Ls (.int (x ||| y) :: st))) : Go wd p l e R Z s m args below meth c Q h k n (mkF m pc Ls (.int y :: .int x :: st)) := by
  obtain ⟨d, rfl⟩ := D
  exact K.to X fun s X T L S t r => XT.ior S.here X.1 rfl (hb X.2.2.2.1 d) rfl r
theorem Go.ixor (X : Cx p Z s m meth c own nm code ml ret) {x y : Int32} (D : D1 code pc .ixor 1 pc') (K : Go wd p l e R Z s m args below meth c Q h k n (mkF m pc' Ls (.int (x ^^^ y) :: st))) : Go wd p l e R Z s m args below meth c Q h k n (mkF m pc Ls (.int y :: .int x :: st)) := by
  obtain ⟨d, rfl⟩ := D
  exact K.to X fun s X T L S t r => XT.ixor S.here X.1 rfl (hb X.2.2.2.1 d) rfl r
theorem Go.irem (X : Cx p Z s m meth c own nm code ml ret) {x y : Int32} (D : D1 code pc .irem 1 pc') (hy : y ≠ 0) (K : Go wd p l e R Z s m args below meth c Q h k n (mkF m pc' Ls (.int (x % y) :: st))) : Go wd p l e R Z s m args below meth c Q h k n (mkF m pc Ls (.int y :: .int x :: st)) := by
  obtain ⟨d, rfl⟩ := D
  exact K.to X fun s X T L S t r => iremM S X.1 rfl (hb X.2.2.2.1 d) rfl hy r
theorem Go.goto (X : Cx p Z s m meth c own nm code ml ret) {o : Int} {pt : Nat} (D : D1 code pc (.goto o) 3 pc') (ho : 0 ≤ (pc : Int) + o ∧ ((pc : Int) + o).toNat = pt) (K : Go wd p l e R Z s m args below meth c Q h k n (mkF m pt Ls st)) : Go wd p l e R Z s m args below meth c Q h k n (mkF m pc Ls st) := by
  obtain ⟨d, rfl⟩ := D
  exact K.to X fun s X T L S t r => XS.goto S.here X.1 rfl rfl (hb X.2.2.2.1 d) ho.1 ho.2 r
/-! ### branches -/
def ccP (cd : ClassFile.Cond) (x y : Int32) : Prop := match cd with
  | .eq => x = y | .ne => x ≠ y | .lt => x < y | .ge => y ≤ x | .gt => y < x | .le => x ≤ y
theorem cc_icmp (cd : ClassFile.Cond) (x y : Int32) : if_icmp.holds cd x y = true ↔ ccP cd x y := by cases cd <;> simp [if_icmp.holds, ccP]
theorem cc_if (cd : ClassFile.Cond) (x : Int32) : ifCond.holds cd x = true ↔ ccP cd x 0 := by cases cd <;> simp [ifCond.holds, ccP]
def ccI (cd : ClassFile.Cond) (x y : Int) : Prop := match cd with
  | .eq => x = y | .ne => x ≠ y | .lt => x < y | .ge => y ≤ x | .gt => y < x | .le => x ≤ y
theorem cc_int (cd : ClassFile.Cond) (x y : Int32) : ccP cd x y ↔ ccI cd x.toInt y.toInt := by cases cd <;> simp only [ccP, ccI, Int32.lt_iff_toInt_lt, Int32.le_iff_toInt_le, ne_eq, Int32.toInt_inj]
theorem ccL {cd : ClassFile.Cond} {x y : Int32} {a b : Int} (q : ccP cd x y) (hx : x.toInt = a) (hy : y.toInt = b) : ccI cd a b := by subst hx hy; exact (cc_int cd x y).mp q
theorem ccN {cd : ClassFile.Cond} {x y : Int32} {a b : Int} (q : ¬ ccP cd x y) (hx : x.toInt = a) (hy : y.toInt = b) : ¬ ccI cd a b := by subst hx hy; exact fun r => q ((cc_int cd x y).mpr r)
theorem ite_0 {P : Prop} [Decidable P] (q : ccP .eq (if P then 1 else 0 : Int32) 0) : ¬ P := fun r => by rw [if_pos r] at q; exact absurd q (by show ¬ (1 : Int32) = 0; decide)
theorem ite_n0 {P : Prop} [Decidable P] (q : ¬ ccP .eq (if P then 1 else 0 : Int32) 0) : P := Decidable.byContradiction fun r => q (by rw [if_neg r]; rfl)
theorem ite_1 {P : Prop} [Decidable P] (q : ccP .ne (if P then 1 else 0 : Int32) 0) : P := Decidable.byContradiction fun r => q (by rw [if_neg r])
theorem ite_n1 {P : Prop} [Decidable P] (q : ¬ ccP .ne (if P then 1 else 0 : Int32) 0) : ¬ P := fun r => q (by rw [if_pos r]; show (1 : Int32) ≠ 0; decide)
theorem ite_01 {P : Prop} [Decidable P] : (if P then 1 else 0 : Int32) = 0 ∨ (if P then 1 else 0 : Int32) = 1 := by by_cases q : P <;> simp [q]
theorem nat32 {i : Nat} (q : i < 2 ^ 31) : (Int32.ofNat i).toInt = i ∧ ¬ Int32.ofNat i < 0 ∧ (Int32.ofNat i).toNatClampNeg = i := by
  have e : (Int32.ofNat i).toInt = i := Int32.toInt_ofNat_small q
  refine ⟨e, ?_, ?_⟩
  · rw [Int32.lt_iff_toInt_lt, e, show (0 : Int32).toInt = 0 from rfl]; omega
  · simp only [Int32.toNatClampNeg, e]; rfl
theorem Go.icmp (X : Cx p Z s m meth c own nm code ml ret) {cd : ClassFile.Cond} {o : Int} {pt : Nat} {x y : Int32} (D : D1 code pc (.if_icmp cd o) 3 pc') (ho : 0 ≤ (pc : Int) + o ∧ ((pc : Int) + o).toNat = pt) (K1 : ccP cd x y → Go wd p l e R Z s m args below meth c Q h k n (mkF m pt Ls st)) (K2 : ¬ ccP cd x y → Go wd p l e R Z s m args below meth c Q h k n (mkF m pc' Ls st)) : Go wd p l e R Z s m args below meth c Q h k n (mkF m pc Ls (.int y :: .int x :: st)) := by
  obtain ⟨d, rfl⟩ := D
  cases hq : if_icmp.holds cd x y
  · exact (K2 fun q => by rw [(cc_icmp cd x y).mpr q] at hq; cases hq).to X fun s X T L S t r => XS.icmpNo S.here X.1 rfl (hb X.2.2.2.1 d) rfl hq r
  · exact (K1 ((cc_icmp cd x y).mp hq)).to X fun s X T L S t r => XS.icmpYes S.here X.1 rfl rfl (hb X.2.2.2.1 d) rfl hq ho.1 ho.2 r
theorem Go.ifc (X : Cx p Z s m meth c own nm code ml ret) {cd : ClassFile.Cond} {o : Int} {pt : Nat} {x : Int32} (D : D1 code pc (.ifCond cd o) 3 pc') (ho : 0 ≤ (pc : Int) + o ∧ ((pc : Int) + o).toNat = pt) (K1 : ccP cd x 0 → Go wd p l e R Z s m args below meth c Q h k n (mkF m pt Ls st)) (K2 : ¬ ccP cd x 0 → Go wd p l e R Z s m args below meth c Q h k n (mkF m pc' Ls st)) : Go wd p l e R Z s m args below meth c Q h k n (mkF m pc Ls (.int x :: st)) := by
  obtain ⟨d, rfl⟩ := D
  cases hq : ifCond.holds cd x
  · exact (K2 fun q => by rw [(cc_if cd x).mpr q] at hq; cases hq).to X fun s X T L S t r => XS.ifNo S.here X.1 rfl (hb X.2.2.2.1 d) rfl hq r
  · exact (K1 ((cc_if cd x).mp hq)).to X fun s X T L S t r => XS.ifYes S.here X.1 rfl rfl (hb X.2.2.2.1 d) rfl hq ho.1 ho.2 r
theorem Go.ifnullY (X : Cx p Z s m meth c own nm code ml ret) {o : Int} {pt : Nat} (D : D1 code pc (.ifnull o) 3 pc') (ho : 0 ≤ (pc : Int) + o ∧ ((pc : Int) + o).toNat = pt) (K : Go wd p l e R Z s m args below meth c Q h k n (mkF m pt Ls st)) : Go wd p l e R Z s m args below meth c Q h k n (mkF m pc Ls (.null :: st)) := by
  obtain ⟨d, rfl⟩ := D
  exact K.to X fun s X T L S t r => XS.ifnullYes S.here X.1 rfl rfl (hb X.2.2.2.1 d) rfl ho.1 ho.2 r
theorem Go.ifnullN (X : Cx p Z s m meth c own nm code ml ret) {o : Int} {b : Addr} (D : D1 code pc (.ifnull o) 3 pc') (K : Go wd p l e R Z s m args below meth c Q h k n (mkF m pc' Ls st)) : Go wd p l e R Z s m args below meth c Q h k n (mkF m pc Ls (.ref b :: st)) := by
  obtain ⟨d, rfl⟩ := D
  exact K.to X fun s X T L S t r => XS.ifnullNo S.here X.1 rfl (hb X.2.2.2.1 d) rfl r
theorem Go.ifnonnullY (X : Cx p Z s m meth c own nm code ml ret) {o : Int} {pt : Nat} {b : Addr} (D : D1 code pc (.ifnonnull o) 3 pc') (ho : 0 ≤ (pc : Int) + o ∧ ((pc : Int) + o).toNat = pt) (K : Go wd p l e R Z s m args below meth c Q h k n (mkF m pt Ls st)) : Go wd p l e R Z s m args below meth c Q h k n (mkF m pc Ls (.ref b :: st)) := by
  obtain ⟨d, rfl⟩ := D
  exact K.to X fun s X T L S t r => XT.ifnonnullYes S.here X.1 rfl rfl (hb X.2.2.2.1 d) rfl ho.1 ho.2 r
theorem Go.ifnonnullN (X : Cx p Z s m meth c own nm code ml ret) {o : Int} (D : D1 code pc (.ifnonnull o) 3 pc') (K : Go wd p l e R Z s m args below meth c Q h k n (mkF m pc' Ls st)) : Go wd p l e R Z s m args below meth c Q h k n (mkF m pc Ls (.null :: st)) := by
  obtain ⟨d, rfl⟩ := D
  exact K.to X fun s X T L S t r => XT.ifnonnullNo S.here X.1 rfl (hb X.2.2.2.1 d) rfl r
def acP (cd : ACond) (x y : Value) : Prop := match cd with | .eq => x = y | .ne => x ≠ y
theorem ac_iff (cd : ACond) (x y : Value) : acV cd (decide (x = y)) = true ↔ acP cd x y := by cases cd <;> simp [acV, acP]
theorem Go.acmp (X : Cx p Z s m meth c own nm code ml ret) {cd : ACond} {o : Int} {pt : Nat} {x y : Value} (D : D1 code pc (.if_acmp cd o) 3 pc') (ho : 0 ≤ (pc : Int) + o ∧ ((pc : Int) + o).toNat = pt) (hx : x.isRef = true) (hy : y.isRef = true) (K1 : acP cd x y → Go wd p l e R Z s m args below meth c Q h k n (mkF m pt Ls st)) (K2 : ¬ acP cd x y → Go wd p l e R Z s m args below meth c Q h k n (mkF m pc' Ls st)) : Go wd p l e R Z s m args below meth c Q h k n (mkF m pc Ls (y :: x :: st)) := by
  obtain ⟨d, rfl⟩ := D
  cases hq : acV cd (decide (x = y))
  · exact (K2 fun q => by rw [(ac_iff cd x y).mpr q] at hq; cases hq).to X fun s X T L S t r => RoadKit.acmp S X.1 rfl hx hy rfl (hb X.2.2.2.1 d) rfl rfl ho.1 (by rw [hq]; rfl) r
  · exact (K1 ((ac_iff cd x y).mp hq)).to X fun s X T L S t r => RoadKit.acmp S X.1 rfl hx hy rfl (hb X.2.2.2.1 d) rfl rfl ho.1 (by rw [hq]; exact ho.2.symm) r
theorem Go.lswY (X : Cx p Z s m meth c own nm code ml ret) {dflt : Int} {pairs : Array (Int × Int)} {len : Nat} {x : Int32} {a off : Int} {pt : Nat} (D : D1 code pc (.lookupswitch dflt pairs) len pc') (hs : (pairs.toList.zip (pairs.toList.drop 1)).all (fun (a, next) => a.1 < next.1) = true) (hf : pairs.find? (·.1 == x.toInt) = some (a, off)) (ho : 0 ≤ (pc : Int) + off ∧ ((pc : Int) + off).toNat = pt) (K : Go wd p l e R Z s m args below meth c Q h k n (mkF m pt Ls st)) : Go wd p l e R Z s m args below meth c Q h k n (mkF m pc Ls (.int x :: st)) := by
  obtain ⟨d, rfl⟩ := D
  exact K.to X fun s X T L S t r => S.lookupswitchHit X.1 (g := mkF m pc Ls (.int x :: st)) rfl rfl (hb X.2.2.2.1 d) hs hf ho.1 t (by show Steps _ _ _ (T.setTop (mkF m ((pc : Int) + off).toNat Ls st)) _; rw [ho.2]; exact r)
theorem Go.lswN (X : Cx p Z s m meth c own nm code ml ret) {dflt : Int} {pairs : Array (Int × Int)} {len : Nat} {x : Int32} {pt : Nat} (D : D1 code pc (.lookupswitch dflt pairs) len pc') (hs : (pairs.toList.zip (pairs.toList.drop 1)).all (fun (a, next) => a.1 < next.1) = true) (hf : pairs.find? (·.1 == x.toInt) = none) (ho : 0 ≤ (pc : Int) + dflt ∧ ((pc : Int) + dflt).toNat = pt) (K : Go wd p l e R Z s m args below meth c Q h k n (mkF m pt Ls st)) : Go wd p l e R Z s m args below meth c Q h k n (mkF m pc Ls (.int x :: st)) := by
  obtain ⟨d, rfl⟩ := D
  exact K.to X fun s X T L S t r => S.lookupswitchMiss X.1 (g := mkF m pc Ls (.int x :: st)) rfl rfl (hb X.2.2.2.1 d) hs hf ho.1 t (by show Steps _ _ _ (T.setTop (mkF m ((pc : Int) + dflt).toNat Ls st)) _; rw [ho.2]; exact r)
/-! ### returns -/
theorem Go.retw {t : FieldType} (X : Cx p Z s m meth c own nm code ml (some t)) {i : Instr} {w : Value} {Qv : Value → Heap → Prop} (hn : narrow t w = w)
    (hi : (i = .ireturn ∧ (t = .int ∨ t = .boolean ∨ t = .byte ∨ t = .char ∨ t = .short) ∧ ∃ z, w = .int z) ∨ (i = .lreturn ∧ t = .long ∧ ∃ z, w = .long z) ∨ (i = .dreturn ∧ t = .double ∧ ∃ z, w = .double z) ∨ (i = .freturn ∧ t = .float ∧ ∃ z, w = .float z) ∨ (i = .areturn ∧ t.isReference = true ∧ w.isRef = true))
    (D : D1 code pc i 1 pc') (hk : k ≤ R.cells) (hs : n ≤ R.slots) (q : Qv w h) : Go wd p l e R Z s m args below meth c (rvQ Qv) h k n (mkF m pc Ls (w :: st)) := by
  intro vm T L F B S eh
  replace X := X.re B
  have hlk : meth.locks = false := X.2.2.2.2.2.2.1
  obtain ⟨fs, hr, hrun, hended, hW, hsame⟩ := S.leave (v := some w) (fun z => by rw [X.2.2.2.2.2.1] at z; cases z) hlk
  exact ⟨_, _, retOut S X.1 X.2.2.2.2.2.1 hn hi (hb X.2.2.2.1 D.1) hr, hrun, hended, some w, L, rfl, ⟨⟨w, rfl, by show Qv w T.heap; rw [eh]; exact q⟩, F⟩, B.ended ⟨_, rfl⟩ hW (by show _ ≤ T.heap.size; rw [eh]; exact Nat.le_refl _) hsame hk hs⟩
theorem Go.iret (X : Cx p Z s m meth c own nm code ml (some .int)) {z : Int32} {Qv : Value → Heap → Prop} (D : D1 code pc .ireturn 1 pc') (hk : k ≤ R.cells) (hs : n ≤ R.slots) (q : Qv (.int z) h) : Go wd p l e R Z s m args below meth c (rvQ Qv) h k n (mkF m pc Ls (.int z :: st)) :=
  Go.retw X rfl (Or.inl ⟨rfl, Or.inl rfl, z, rfl⟩) D hk hs q
theorem Go.zret (X : Cx p Z s m meth c own nm code ml (some .boolean)) {z : Int32} {Qv : Value → Heap → Prop} (D : D1 code pc .ireturn 1 pc') (hz : z = 0 ∨ z = 1) (hk : k ≤ R.cells) (hs : n ≤ R.slots) (q : Qv (.int z) h) : Go wd p l e R Z s m args below meth c (rvQ Qv) h k n (mkF m pc Ls (.int z :: st)) :=
  Go.retw X (by rcases hz with rfl | rfl <;> rfl) (Or.inl ⟨rfl, Or.inr (Or.inl rfl), z, rfl⟩) D hk hs q
theorem Go.cret (X : Cx p Z s m meth c own nm code ml (some .char)) {z : Int32} {Qv : Value → Heap → Prop} (D : D1 code pc .ireturn 1 pc') (hz : narrow .char (.int z) = .int z) (hk : k ≤ R.cells) (hs : n ≤ R.slots) (q : Qv (.int z) h) : Go wd p l e R Z s m args below meth c (rvQ Qv) h k n (mkF m pc Ls (.int z :: st)) :=
  Go.retw X hz (Or.inl ⟨rfl, Or.inr (Or.inr (Or.inr (Or.inl rfl))), z, rfl⟩) D hk hs q
theorem Go.aret {t : FieldType} (X : Cx p Z s m meth c own nm code ml (some t)) {w : Value} {Qv : Value → Heap → Prop} (D : D1 code pc .areturn 1 pc') (ht : t.isReference = true) (hw : w.isRef = true) (hn : narrow t w = w) (hk : k ≤ R.cells) (hs : n ≤ R.slots) (q : Qv w h) : Go wd p l e R Z s m args below meth c (rvQ Qv) h k n (mkF m pc Ls (w :: st)) :=
  Go.retw X hn (Or.inr (Or.inr (Or.inr (Or.inr ⟨rfl, ht, hw⟩)))) D hk hs q
theorem Go.ret0 (X : Cx p Z s m meth c own nm code ml none) {Q0 : Heap → Prop} (D : D1 code pc .return_ 1 pc') (hk : k ≤ R.cells) (hs : n ≤ R.slots) (q : Q0 h) : Go wd p l e R Z s m args below meth c (r0Q Q0) h k n (mkF m pc Ls []) := by
  intro vm T L F B S eh
  replace X := X.re B
  have hlk : meth.locks = false := X.2.2.2.2.2.2.1
  obtain ⟨fs, hr, hrun, hended, hW, hsame⟩ := S.leave (v := none) (fun _ => rfl) hlk
  exact ⟨_, _, S.returnOut X.1 X.2.2.2.2.2.1 (hb X.2.2.2.1 D.1) hr, hrun, hended, none, L, rfl, ⟨⟨rfl, by show Q0 T.heap; rw [eh]; exact q⟩, F⟩, B.ended ⟨_, rfl⟩ hW (by show _ ≤ T.heap.size; rw [eh]; exact Nat.le_refl _) hsame hk hs⟩
end Steps
end Jvm.OwnKit
namespace Jvm.OwnKit
open Sem ClassFile Op Lib Jvm.Stand Jvm.Free Jvm.LawKit Jvm.RoadKit
/-! ## the known cells -/
def upd {α : Type} : List α → Nat → α → List α
  | [], _, _ => []
  | _ :: r, 0, x => x :: r
  | y :: r, i + 1, x => y :: upd r i x
theorem upd_nil {α : Type} (i : Nat) (x : α) : upd [] i x = [] := by cases i <;> rfl
theorem upd_zero {α : Type} (y : α) (r : List α) (x : α) : upd (y :: r) 0 x = x :: r := rfl
theorem upd_succ {α : Type} (y : α) (r : List α) (i : Nat) (x : α) : upd (y :: r) (i + 1) x = y :: upd r i x := rfl
theorem upd_mem {α : Type} : ∀ (L : List α) (i : Nat) (x y : α), y ∈ upd L i x → y = x ∨ ∃ j, j ≠ i ∧ L[j]? = some y
  | [], i, x, y, q => by rw [upd_nil] at q; cases q
  | z :: r, 0, x, y, q => by
    rcases List.mem_cons.mp q with u | u
    · exact Or.inl u
    · obtain ⟨j, hj⟩ := List.getElem?_of_mem u
      exact Or.inr ⟨j + 1, by omega, by simpa using hj⟩
  | z :: r, i + 1, x, y, q => by
    rcases List.mem_cons.mp q with u | u
    · exact Or.inr ⟨0, by omega, by simp [u]⟩
    · rcases upd_mem r i x y u with v | ⟨j, v, w⟩
      · exact Or.inl v
      · exact Or.inr ⟨j + 1, by omega, by simpa using w⟩
theorem upd_map {α β : Type} (f : α → β) : ∀ (L : List α) (i : Nat) (x y : α), L[i]? = some y → f x = f y → (upd L i x).map f = L.map f
  | [], _, _, _, q, _ => by cases q
  | z :: r, 0, x, y, q, e => by cases q; simp [upd, e]
  | z :: r, i + 1, x, y, q, e => by simp [upd, upd_map f r i x y q e]
theorem upd_at {α : Type} : ∀ (L : List α) (i : Nat) (x y : α), L[i]? = some y → (upd L i x)[i]? = some x
  | [], _, _, _, q => by cases q
  | z :: r, 0, x, y, q => rfl
  | z :: r, i + 1, x, y, q => upd_at r i x y q
theorem upd_ne {α : Type} : ∀ (L : List α) (i j : Nat) (x : α), j ≠ i → (upd L i x)[j]? = L[j]?
  | [], i, j, x, _ => by rw [upd_nil]
  | z :: r, 0, 0, x, q => absurd rfl q
  | z :: r, 0, j + 1, x, _ => rfl
  | z :: r, i + 1, 0, x, _ => rfl
  | z :: r, i + 1, j + 1, x, q => upd_ne r i j x (by omega)
theorem upd_len {α : Type} : ∀ (L : List α) (i : Nat) (x : α), (upd L i x).length = L.length
  | [], i, x => by rw [upd_nil]
  | z :: r, 0, x => rfl
  | z :: r, i + 1, x => by simp [upd, upd_len r i x]
abbrev Nm : Type := String × String × String
abbrev slo (Z : State) (q : Nm) : Nat := RoadKit.slotOf Z q.1 q.2.1 q.2.2
/-- an object of exactly the class C; its fields ns hold vs -/
def Ob (Z : State) (C : String) (ns : List Nm) (vs : List Value) (c : Cell) : Prop :=
  (∃ k, Z.vm.findClass C = some c.cls ∧ Z.vm.classes[c.cls]? = some k ∧ c.vm.isStatics = false ∧ (k.kind = .ordinary → c.slots.size = k.instanceTypes.size)) ∧ vs.length = ns.length ∧
  ∀ (j : Nat) (q : Nm) (v : Value), ns[j]? = some q → vs[j]? = some v → ∃ cf k i f, Z.fieldFound? q.1 q.2.1 q.2.2 = some (cf, k, i, f) ∧ f.isStatic = false ∧ c.vm ≠ .unknown ∧ c.vm.isStatics = false ∧ Z.vm.assignable c.cls cf = true ∧ c.slots[f.slot]? = some v
/-- an array of the class number K, its components' kind ty; it holds vs -/
def Ar (Z : State) (ty : FieldType) (K : ClassId) (vs : List Value) (c : Cell) : Prop := Z.isArrayOf c ty ∧ c.vm ≠ .unknown ∧ c.cls = K ∧ c.slots = vs.toArray ∧ vs.length < 2 ^ 31 ∧ ∀ v ∈ vs, fits ty v = true
/-- what stood at the start stands; the cells of L are new, each as it says, no two the same -/
def Hp (Z : State) (h : Heap) (L : List (Addr × (Cell → Prop))) : Prop := Ext Z.heap h ∧ (∀ x ∈ L, Z.heap.size ≤ x.1 ∧ ∃ c, h[x.1]? = some c ∧ x.2 c) ∧ (L.map (·.1)).Nodup
section Facts
variable {Z : State} {h h' : Heap} {L : List (Addr × (Cell → Prop))} {i j : Nat} {a b : Addr} {P P' : Cell → Prop} {C : String} {ns : List Nm} {vs : List Value} {v w : Value} {sl : Nat} {ty : FieldType} {K : ClassId}
theorem Hp.start (Z : State) : Hp Z Z.heap [] := ⟨⟨Nat.le_refl _, fun _ _ q => q⟩, (fun _ q => nomatch q), List.nodup_nil⟩
theorem Hp.at (H : Hp Z h L) (hi : L[i]? = some (a, P)) : ∃ c, h[a]? = some c ∧ P c := (H.2.1 _ (List.mem_of_getElem? hi)).2
theorem Hp.ge (H : Hp Z h L) (hi : L[i]? = some (a, P)) : Z.heap.size ≤ a := (H.2.1 _ (List.mem_of_getElem? hi)).1
theorem Hp.lt (H : Hp Z h L) (hi : L[i]? = some (a, P)) : a < h.size := by obtain ⟨c, q, -⟩ := H.at hi; exact (Array.getElem?_eq_some_iff.mp q).1
theorem Hp.ne (H : Hp Z h L) (hi : L[i]? = some (a, P)) (hj : L[j]? = some (b, P')) (ij : i ≠ j) : a ≠ b := fun e => by
  have hi' : (L.map (·.1))[i]? = some a := by simp [hi]
  have hj' : (L.map (·.1))[j]? = some a := by simp [hj, e]
  have li := (List.getElem?_eq_some_iff.mp hi').1
  exact ij ((List.getElem?_inj li H.2.2).mp (hi'.trans hj'.symm))
theorem Hp.ext0 (H : Hp Z h L) : Ext Z.heap h := H.1
theorem Hp.mono (H : Hp Z h L) (E : Ext h h') : Hp Z h' L := ⟨⟨Nat.le_trans H.1.1 E.1, fun x c q => E.2 x c (H.1.2 x c q)⟩, fun x hx => by obtain ⟨q1, c, q2, q3⟩ := H.2.1 x hx; exact ⟨q1, c, E.2 _ _ q2, q3⟩, H.2.2⟩
theorem Hp.push (H : Hp Z h L) (E : Ext h h') (ha : h.size ≤ a) (hc : ∃ c, h'[a]? = some c ∧ P c) : Hp Z h' ((a, P) :: L) := by
  have H' := H.mono E
  refine ⟨H'.1, fun x hx => ?_, ?_⟩
  · rcases List.mem_cons.mp hx with rfl | u
    · exact ⟨Nat.le_trans H.1.1 ha, hc⟩
    · exact H'.2.1 x u
  · rw [List.map_cons, List.nodup_cons]
    refine ⟨fun q => ?_, H.2.2⟩
    obtain ⟨x, hx, ex⟩ := List.mem_map.mp q
    obtain ⟨-, c, q2, -⟩ := H.2.1 x hx
    have := (Array.getElem?_eq_some_iff.mp q2).1
    have ex : x.1 = a := ex
    rw [ex] at this
    exact absurd this (Nat.not_lt.mpr ha)
theorem Hp.wr (H : Hp Z h L) (hi : L[i]? = some (a, P)) (W : Wr h h' a sl v) (hP : ∀ c : Cell, P c → c.vm.isStatics = false → sl < c.slots.size → P' (c.setSlot sl v)) : Hp Z h' (upd L i (a, P')) := by
  have ge := H.ge hi
  obtain ⟨cell, h1, h2, h3, rfl⟩ := W
  obtain ⟨c, hc, hPc⟩ := H.at hi
  cases hc.symm.trans h1
  have lt := (Array.getElem?_eq_some_iff.mp h1).1
  have hset : (h.setIfInBounds a (cell.setSlot sl v))[a]? = some (cell.setSlot sl v) := by simp [lt]
  refine ⟨⟨by simpa using H.1.1, fun x c q => ?_⟩, fun x hx => ?_, by rw [upd_map (·.1) L i (a, P') (a, P) hi rfl]; exact H.2.2⟩
  · have := (Array.getElem?_eq_some_iff.mp q).1
    rw [Array.getElem?_setIfInBounds_ne (by omega)]; exact H.1.2 x c q
  · rcases upd_mem _ _ _ _ hx with rfl | ⟨j, hj, hLj⟩
    · exact ⟨ge, _, hset, hP _ hPc h2 h3⟩
    · have ne : a ≠ x.1 := H.ne (P := P) (P' := x.2) hi hLj (Ne.symm hj)
      obtain ⟨q1, c, q2, q3⟩ := H.2.1 x (List.mem_of_getElem? hLj)
      exact ⟨q1, c, by rw [Array.getElem?_setIfInBounds_ne ne]; exact q2, q3⟩
theorem Hp.weak (H : Hp Z h L) (hi : L[i]? = some (a, P)) (hP : ∀ c, P c → P' c) : Hp Z h (upd L i (a, P')) := by
  refine ⟨H.1, fun x hx => ?_, by rw [upd_map (·.1) L i (a, P') (a, P) hi rfl]; exact H.2.2⟩
  rcases upd_mem _ _ _ _ hx with rfl | ⟨j, hj, hLj⟩
  · obtain ⟨c, q1, q2⟩ := H.at hi; exact ⟨H.ge hi, c, q1, hP c q2⟩
  · exact H.2.1 x (List.mem_of_getElem? hLj)
theorem Hp.sub {L' : List (Addr × (Cell → Prop))} (H : Hp Z h L) (q : ∀ x ∈ L', x ∈ L) (r : (L'.map (·.1)).Nodup) : Hp Z h L' := ⟨H.1, fun x hx => H.2.1 x (q x hx), r⟩
theorem Hp.perm {L' : List (Addr × (Cell → Prop))} (H : Hp Z h L) (q : L.Perm L') : Hp Z h L' := ⟨H.1, fun x hx => H.2.1 x (q.mem_iff.mpr hx), (q.map _).nodup_iff.mp H.2.2⟩
theorem Hp.exa (H : Hp Z h L) (hi : L[i]? = some (a, Ob Z C ns vs)) : Exa Z h a C := by
  obtain ⟨c, q, ⟨k, r⟩, -⟩ := H.at hi; exact ⟨c, k, q, r⟩
theorem Hp.fld (H : Hp Z h L) (hi : L[i]? = some (a, Ob Z C ns vs)) {q : Nm} (hj : ns[j]? = some q) (hv : vs[j]? = some v) : Fld Z h a q.1 q.2.1 q.2.2 v := by
  obtain ⟨c, hc, -, -, F⟩ := H.at hi
  obtain ⟨cf, k, i, f, r⟩ := F j q v hj hv
  exact ⟨c, cf, k, i, f, hc, r⟩
theorem Hp.arr (H : Hp Z h L) (hi : L[i]? = some (a, Ar Z ty K vs)) : ∃ cl, Arr Z h a cl ty ∧ cl.cls = K ∧ cl.slots = vs.toArray ∧ vs.length < 2 ^ 31 ∧ ∀ v ∈ vs, fits ty v = true := by
  obtain ⟨c, hc, q1, q2, q3, q4, q5, q6⟩ := H.at hi; exact ⟨c, ⟨hc, q1, q2⟩, q3, q4, q5, q6⟩
/-- a class's fields: each laid, their slots distinct -/
def Lay (Z : State) (a0 : Array Value) (C : String) (ns : List Nm) : Prop := (∀ q ∈ ns, Laid Z a0 C q.1 q.2.1 q.2.2) ∧ (ns.map (slo Z)).Nodup
theorem Lay.of {a0 : Array Value} (hl : ∀ q ∈ ns, Laid Z a0 C q.1 q.2.1 q.2.2) (hn : (ns.map (·.2.1)).Nodup) (hp : ∀ q ∈ ns, ∃ t, parseFieldDescriptor q.2.2 = some t) : Lay Z a0 C ns := by
  refine ⟨hl, ?_⟩
  revert hl hn hp
  induction ns with
  | nil => intros; exact List.nodup_nil
  | cons x r ih =>
    intro hl hn hp
    rw [List.map_cons, List.nodup_cons] at hn ⊢
    refine ⟨fun q => ?_, ih (fun q hq => hl q (List.mem_cons_of_mem _ hq)) hn.2 (fun q hq => hp q (List.mem_cons_of_mem _ hq))⟩
    obtain ⟨y, hy, ey⟩ := List.mem_map.mp q
    obtain ⟨t1, p1⟩ := hp x List.mem_cons_self
    obtain ⟨t2, p2⟩ := hp y (List.mem_cons_of_mem _ hy)
    refine slot_ne (hl y (List.mem_cons_of_mem _ hy)) (hl x List.mem_cons_self) (fun z => ?_) p2 p1 ey
    exact hn.1 (List.mem_map.mpr ⟨y, hy, z⟩)
theorem Ob.put {a0 : Array Value} (Y : Lay Z a0 C ns) {q : Nm} (hj : ns[j]? = some q) {c : Cell} (O : Ob Z C ns vs c) (hs : c.vm.isStatics = false) (lt : slo Z q < c.slots.size) : Ob Z C ns (upd vs j v) (c.setSlot (slo Z q) v) := by
  obtain ⟨⟨k, r1, r2, r3, r4⟩, hl, F⟩ := O
  refine ⟨⟨k, r1, r2, r3, by rw [sz_set]; exact r4⟩, by rw [upd_len]; exact hl, fun j' q' v' hj' hv' => ?_⟩
  by_cases e : j' = j
  · subst e
    cases hj.symm.trans hj'
    have lj : j' < vs.length := by rw [hl]; exact (List.getElem?_eq_some_iff.mp hj).1
    obtain ⟨cf, k, i, f, f1, f2, f3, f4, f5, f6⟩ := F j' q (vs[j']) hj (List.getElem?_eq_getElem lj)
    rw [upd_at _ _ _ _ (List.getElem?_eq_getElem lj)] at hv'
    cases hv'
    have es : slo Z q = f.slot := by simp [slo, RoadKit.slotOf, f1]
    exact ⟨cf, k, i, f, f1, f2, f3, f4, f5, by rw [es] at lt ⊢; simp [Cell.setSlot, lt]⟩
  · rw [upd_ne _ _ _ _ e] at hv'
    obtain ⟨cf, k, i, f, f1, f2, f3, f4, f5, f6⟩ := F j' q' v' hj' hv'
    refine ⟨cf, k, i, f, f1, f2, f3, f4, f5, ?_⟩
    have es : slo Z q' = f.slot := by simp [slo, RoadKit.slotOf, f1]
    have ne : slo Z q ≠ f.slot := by
      rw [← es]
      intro z
      have l1 : (ns.map (slo Z))[j]? = some (slo Z q) := by simp [hj]
      have l2 : (ns.map (slo Z))[j']? = some (slo Z q) := by simp [hj', z]
      exact e ((List.getElem?_inj (List.getElem?_eq_some_iff.mp l2).1 Y.2).mp (l2.trans l1.symm))
    show (c.slots.setIfInBounds _ _)[_]? = _
    rw [Array.getElem?_setIfInBounds_ne ne]; exact f6
theorem Ar.put {c : Cell} (A : Ar Z ty K vs c) (hv : fits ty v = true) : Ar Z ty K (vs.set j v) (c.setSlot j v) := by
  obtain ⟨q1, q2, q3, q4, q5, q6⟩ := A
  refine ⟨q1, q2, q3, ?_, by simpa using q5, fun u hu => (List.mem_or_eq_of_mem_set hu).elim (q6 u) fun e => e ▸ hv⟩
  show c.slots.setIfInBounds j v = _
  rw [q4]; simp
end Facts
section Steps
variable {wd : Bool} {p : Program} {l : Launch} {e : Env} {R : Room} {Z s : State} {m : MethodId} {args : Array Value} {below : List Frame} {meth : Method} {c : Code} {Q : Option Value → Heap → Prop} {h : Heap} {k n : Nat} {own nm : String} {code : ByteArray} {ml : Nat} {ret : Option FieldType} {a0 : Array Value}
variable {pc pc' : Nat} {Ls : Array Slot} {st : List Value} {L : List (Addr × (Cell → Prop))} {i j : Nat} {a : Addr} {C : String} {ns : List Nm} {vs : List Value} {v : Value}
def dfl (ns : List Nm) : List (Option Value) := ns.map fun q => (parseFieldDescriptor q.2.2).map defaultValue
theorem Go.new (X : Cx p Z s m meth c own nm code ml ret) (H : Hp Z h L) {idx kk : Nat} (w : (Cond.classLink own idx C).before a0 Z = true) (wi : (Cond.instantiable C kk).before a0 Z = true) (wz : (Cond.initialized C).before a0 Z = true) (Y : Lay Z a0 C ns) (hv : dfl ns = vs.map some) (D : D1 code pc (.new idx) 3 pc') (hc : k + 1 ≤ R.cells) (hl : n + kk ≤ R.slots)
    (K : ∀ a h, Hp Z h ((a, Ob Z C ns vs) :: L) → Go wd p l e R Z s m args below meth c Q h (k + 1) (n + kk) (mkF m pc' Ls (.ref a :: st))) : Go wd p l e R Z s m args below meth c Q h k n (mkF m pc Ls st) := by
  obtain ⟨d, rfl⟩ := D
  intro vm T L' F B S eh
  replace X := X.re B
  obtain ⟨T', h', S', e', E', A', D', -, stp⟩ := newO S X.1 X.2.1 X.2.2.1 w wi wz eh (g := mkF m pc Ls st) rfl (hb X.2.2.2.1 d) hc hl
  have H' : Hp Z h' ((h.size, Ob Z C ns vs) :: L) := by
    obtain ⟨cell, kC, a1, a2, a3, a4, a5⟩ := A'
    refine H.push E' (Nat.le_refl _) ⟨cell, a1, ⟨kC, a2, a3, a4, a5⟩, ?_, fun j q v hj hv' => ?_⟩
    · have := congrArg List.length hv; simpa [dfl] using this.symm
    · have e1 : (dfl ns)[j]? = some ((parseFieldDescriptor q.2.2).map defaultValue) := by simp [dfl, hj]
      rw [hv] at e1
      simp only [List.getElem?_map, hv', Option.map_some, Option.some.injEq] at e1
      cases ht : parseFieldDescriptor q.2.2 with
      | none => rw [ht] at e1; cases e1
      | some ty =>
        rw [ht] at e1
        cases e1
        obtain ⟨c', cf, k', i', f, f0, r⟩ := D' (Y.1 q (List.mem_of_getElem? hj)) ht
        cases a1.symm.trans f0
        exact ⟨cf, k', i', f, r⟩
  obtain ⟨u, o, st', r⟩ := K _ _ H' vm T' L' F (B.mono E'.1) S' e'
  exact ⟨u, o, stp _ st', r⟩
theorem Go.getFld (X : Cx p Z s m meth c own nm code ml ret) {R0 O f d : String} {idx : Nat} (w : (Cond.fieldLink own idx R0 f d).before a0 Z = true) (via : Via Z R0 O f d) (F : Fld Z h a O f d v) (D : D1 code pc (.getfield idx) 3 pc') (K : Go wd p l e R Z s m args below meth c Q h k n (mkF m pc' Ls (v :: st))) : Go wd p l e R Z s m args below meth c Q h k n (mkF m pc Ls (.ref a :: st)) := by
  obtain ⟨dd, rfl⟩ := D
  intro vm T L' F' B S eh
  replace X := X.re B
  obtain ⟨T', S', e', stp⟩ := getF S X.1 X.2.1 X.2.2.1 (host := "") (Or.inl w) via eh F (g := mkF m pc Ls (.ref a :: st)) rfl rfl (hb X.2.2.2.1 dd)
  obtain ⟨u, o, st', r⟩ := K vm T' L' F' B S' e'
  exact ⟨u, o, stp _ st', r⟩
theorem Go.getFldN (X : Cx p Z s m meth c own nm code ml ret) {R0 O f d host : String} {idx : Nat} (w : (Cond.fieldLinkNest own idx R0 f d host).before a0 Z = true) (via : Via Z R0 O f d) (F : Fld Z h a O f d v) (D : D1 code pc (.getfield idx) 3 pc') (K : Go wd p l e R Z s m args below meth c Q h k n (mkF m pc' Ls (v :: st))) : Go wd p l e R Z s m args below meth c Q h k n (mkF m pc Ls (.ref a :: st)) := by
  obtain ⟨dd, rfl⟩ := D
  intro vm T L' F' B S eh
  replace X := X.re B
  obtain ⟨T', S', e', stp⟩ := getF S X.1 X.2.1 X.2.2.1 (host := host) (Or.inr w) via eh F (g := mkF m pc Ls (.ref a :: st)) rfl rfl (hb X.2.2.2.1 dd)
  obtain ⟨u, o, st', r⟩ := K vm T' L' F' B S' e'
  exact ⟨u, o, stp _ st', r⟩
theorem Go.putFld (X : Cx p Z s m meth c own nm code ml ret) (H : Hp Z h L) {R0 O f d : String} {idx kk : Nat} {ty : FieldType} (hi : L[i]? = some (a, Ob Z C ns vs)) (hj : ns[j]? = some (O, f, d)) (Y : Lay Z a0 C ns) (w : (Cond.fieldLink own idx R0 f d).before a0 Z = true) (via : Via Z R0 O f d) (hL : (Cond.lays C O f d).before a0 Z = true ∨ ((Cond.laysFinal C O f d).before a0 Z = true ∧ own = O ∧ nm = "<init>")) (wi : (Cond.instantiable C kk).before a0 Z = true)
    (ht : parseFieldDescriptor d = some ty) (hn : narrow ty v = v) (hf : fits ty v = true) (D : D1 code pc (.putfield idx) 3 pc') (K : ∀ h, Hp Z h (upd L i (a, Ob Z C ns (upd vs j v))) → Go wd p l e R Z s m args below meth c Q h k n (mkF m pc' Ls st)) : Go wd p l e R Z s m args below meth c Q h k n (mkF m pc Ls (v :: .ref a :: st)) := by
  obtain ⟨dd, rfl⟩ := D
  intro vm T L' F' B S eh
  replace X := X.re B
  have lj : j < vs.length := by obtain ⟨c, hc, -, hl, -⟩ := H.at hi; rw [hl]; exact (List.getElem?_eq_some_iff.mp hj).1
  have F := H.fld hi hj (List.getElem?_eq_getElem lj)
  have E := H.exa hi
  obtain ⟨T', h', S', e', W, stp⟩ := putF S X.1 X.2.1 X.2.2.1 (host := "") (Or.inl w) via eh F E (hL.imp id fun q => ⟨q.1, q.2.1, X.2.2.2.2.2.2.2.trans q.2.2⟩) wi ht hn hf (g := mkF m pc Ls (v :: .ref a :: st)) rfl rfl (hb X.2.2.2.1 dd)
  have H' := H.wr (P' := Ob Z C ns (upd vs j v)) hi W fun c O hs lt => Ob.put Y hj O hs lt
  obtain ⟨u, o, st', r⟩ := K h' H' vm T' _ (F'.app fun y hy => by cases List.mem_singleton.mp hy; exact H.ge hi) (B.mono (Nat.le_of_eq W.size.symm)) S' e'
  exact ⟨u, o, stp _ st', r⟩
theorem Go.putFldN (X : Cx p Z s m meth c own nm code ml ret) (H : Hp Z h L) {R0 O f d host : String} {idx kk : Nat} {ty : FieldType} (hi : L[i]? = some (a, Ob Z C ns vs)) (hj : ns[j]? = some (O, f, d)) (Y : Lay Z a0 C ns) (w : (Cond.fieldLinkNest own idx R0 f d host).before a0 Z = true) (via : Via Z R0 O f d) (hL : (Cond.lays C O f d).before a0 Z = true ∨ ((Cond.laysFinal C O f d).before a0 Z = true ∧ own = O ∧ nm = "<init>")) (wi : (Cond.instantiable C kk).before a0 Z = true)
    (ht : parseFieldDescriptor d = some ty) (hn : narrow ty v = v) (hf : fits ty v = true) (D : D1 code pc (.putfield idx) 3 pc') (K : ∀ h, Hp Z h (upd L i (a, Ob Z C ns (upd vs j v))) → Go wd p l e R Z s m args below meth c Q h k n (mkF m pc' Ls st)) : Go wd p l e R Z s m args below meth c Q h k n (mkF m pc Ls (v :: .ref a :: st)) := by
  obtain ⟨dd, rfl⟩ := D
  intro vm T L' F' B S eh
  replace X := X.re B
  have lj : j < vs.length := by obtain ⟨c, hc, -, hl, -⟩ := H.at hi; rw [hl]; exact (List.getElem?_eq_some_iff.mp hj).1
  have F := H.fld hi hj (List.getElem?_eq_getElem lj)
  have E := H.exa hi
  obtain ⟨T', h', S', e', W, stp⟩ := putF S X.1 X.2.1 X.2.2.1 (host := host) (Or.inr w) via eh F E (hL.imp id fun q => ⟨q.1, q.2.1, X.2.2.2.2.2.2.2.trans q.2.2⟩) wi ht hn hf (g := mkF m pc Ls (v :: .ref a :: st)) rfl rfl (hb X.2.2.2.1 dd)
  have H' := H.wr (P' := Ob Z C ns (upd vs j v)) hi W fun c O hs lt => Ob.put Y hj O hs lt
  obtain ⟨u, o, st', r⟩ := K h' H' vm T' _ (F'.app fun y hy => by cases List.mem_singleton.mp hy; exact H.ge hi) (B.mono (Nat.le_of_eq W.size.symm)) S' e'
  exact ⟨u, o, stp _ st', r⟩
theorem Go.getSta (X : Cx p Z s m meth c own nm code ml ret) (E : Ext Z.heap h) {R0 O f d : String} {idx : Nat} (w : (Cond.fieldLink own idx R0 f d).before a0 Z = true) (via : Via Z R0 O f d) (F : Sta Z Z.heap O f d v) (D : D1 code pc (.getstatic idx) 3 pc') (K : Go wd p l e R Z s m args below meth c Q h k n (mkF m pc' Ls (v :: st))) : Go wd p l e R Z s m args below meth c Q h k n (mkF m pc Ls st) := by
  obtain ⟨dd, rfl⟩ := D
  intro vm T L' F' B S eh
  replace X := X.re B
  obtain ⟨T', S', e', stp⟩ := getS S X.1 X.2.1 (host := "") X.2.2.1 w via eh (F.ext E) (g := mkF m pc Ls st) rfl (hb X.2.2.2.1 dd)
  obtain ⟨u, o, st', r⟩ := K vm T' L' F' B S' e'
  exact ⟨u, o, stp _ st', r⟩
theorem Go.getStaN (X : Cx p Z s m meth c own nm code ml ret) (E : Ext Z.heap h) {R0 O f d host : String} {idx : Nat} (w : (Cond.fieldLinkNest own idx R0 f d host).before a0 Z = true) (via : Via Z R0 O f d) (F : Sta Z Z.heap O f d v) (D : D1 code pc (.getstatic idx) 3 pc') (K : Go wd p l e R Z s m args below meth c Q h k n (mkF m pc' Ls (v :: st))) : Go wd p l e R Z s m args below meth c Q h k n (mkF m pc Ls st) := by
  obtain ⟨dd, rfl⟩ := D
  intro vm T L' F' B S eh
  replace X := X.re B
  obtain ⟨T', S', e', stp⟩ := getS2 S X.1 X.2.1 X.2.2.1 (host := host) (Or.inr w) via eh (F.ext E) (g := mkF m pc Ls st) rfl (hb X.2.2.2.1 dd)
  obtain ⟨u, o, st', r⟩ := K vm T' L' F' B S' e'
  exact ⟨u, o, stp _ st', r⟩
/-! ### arrays -/
theorem Go.newarr (X : Cx p Z s m meth c own nm code ml ret) (H : Hp Z h L) {aty : ArrayType} {z : Int32} {N cap : Nat} (w : (Cond.arrayClass (newarray.typeOf aty)).before a0 Z = true) (hz : ¬ z < 0) (hN : z.toNatClampNeg = N) (hcap : N ≤ cap) (hb8 : cap * 8 ≤ 536870912) (D : D1 code pc (.newarray aty) 2 pc') (hc : k + 1 ≤ R.cells) (hl : n + cap ≤ R.slots)
    (K : ∀ a K' h, Hp Z h ((a, Ar Z (newarray.typeOf aty) K' (List.replicate N (defaultValue (newarray.typeOf aty)))) :: L) → Go wd p l e R Z s m args below meth c Q h (k + 1) (n + cap) (mkF m pc' Ls (.ref a :: st))) : Go wd p l e R Z s m args below meth c Q h k n (mkF m pc Ls (.int z :: st)) := by
  obtain ⟨d, rfl⟩ := D
  intro vm T L' F B S eh
  replace X := X.re B
  obtain ⟨T', h', cA, S', e', E', A', stp⟩ := newP S X.1 X.2.1 w eh (g := mkF m pc Ls (.int z :: st)) rfl (hb X.2.2.2.1 d) rfl hz (cap := cap) (by omega) hb8 hc hl
  have H' := H.push (P := Ar Z (newarray.typeOf aty) cA (List.replicate N (defaultValue (newarray.typeOf aty)))) E' (Nat.le_refl _) ⟨_, A'.1, A'.2.1, A'.2.2, rfl, by simp [newA, hN], by simp; omega, fun u hu => by rw [List.eq_of_mem_replicate hu]; cases aty <;> rfl⟩
  obtain ⟨u, o, st', r⟩ := K _ cA _ H' vm T' L' F (B.mono E'.1) S' e'
  exact ⟨u, o, stp _ st', r⟩
theorem Go.anew (X : Cx p Z s m meth c own nm code ml ret) (H : Hp Z h L) {idx : Nat} {z : Int32} {N cap : Nat} (w : (Cond.classLink own idx C).before a0 Z = true) (w2 : (Cond.arrayOver (.object C)).before a0 Z = true) (hz : ¬ z < 0) (hN : z.toNatClampNeg = N) (hcap : N ≤ cap) (hb8 : cap * 8 ≤ 536870912) (D : D1 code pc (.anewarray idx) 3 pc') (hc : k + 1 ≤ R.cells) (hl : n + cap ≤ R.slots)
    (K : ∀ a K' h, Ovr Z K' C → Hp Z h ((a, Ar Z (.object C) K' (List.replicate N .null)) :: L) → Go wd p l e R Z s m args below meth c Q h (k + 1) (n + cap) (mkF m pc' Ls (.ref a :: st))) : Go wd p l e R Z s m args below meth c Q h k n (mkF m pc Ls (.int z :: st)) := by
  obtain ⟨d, rfl⟩ := D
  intro vm T L' F B S eh
  replace X := X.re B
  obtain ⟨T', h', cA, S', e', E', A', O', stp⟩ := newR S X.1 X.2.1 X.2.2.1 w w2 eh (g := mkF m pc Ls (.int z :: st)) rfl (hb X.2.2.2.1 d) rfl hz (cap := cap) (by omega) hb8 hc hl
  have H' := H.push (P := Ar Z (.object C) cA (List.replicate N .null)) E' (Nat.le_refl _) ⟨_, A'.1, A'.2.1, A'.2.2, rfl, by simp [newA, hN, defaultValue], by simp; omega, fun u hu => by rw [List.eq_of_mem_replicate hu]; rfl⟩
  obtain ⟨u, o, st', r⟩ := K _ cA _ O' H' vm T' L' F (B.mono E'.1) S' e'
  exact ⟨u, o, stp _ st', r⟩
theorem inb {cl : Cell} {vs : List Value} {z : Int32} (q : cl.slots = vs.toArray) (hz : ¬ z < 0) (hN : z.toNatClampNeg < vs.length) : ¬ (z < 0 ∨ cl.slots.size ≤ z.toNatClampNeg) := by rw [q]; simp; exact ⟨Int32.not_lt.mp hz, hN⟩
theorem Go.alen (X : Cx p Z s m meth c own nm code ml ret) (H : Hp Z h L) {ty : FieldType} {K' : ClassId} (hi : L[i]? = some (a, Ar Z ty K' vs)) (D : D1 code pc .arraylength 1 pc') (K : Go wd p l e R Z s m args below meth c Q h k n (mkF m pc' Ls (.int vs.length.toInt32 :: st))) : Go wd p l e R Z s m args below meth c Q h k n (mkF m pc Ls (.ref a :: st)) := by
  obtain ⟨d, rfl⟩ := D
  intro vm T L' F B S eh
  replace X := X.re B
  obtain ⟨cl, A, -, q, -, -⟩ := H.arr hi
  obtain ⟨u, o, st', r⟩ := K vm T L' F B S eh
  refine ⟨u, o, S.arraylength X.1 (by rw [eh]; exact A.1) (State.isArrayOf_alike X.2.1.alike A.2.1) (g := mkF m pc Ls (.ref a :: st)) rfl rfl (hb X.2.2.2.1 d) _ ?_, r⟩
  rw [show cl.slots.size = vs.length by rw [q]; simp]; exact st'
theorem Go.iald (X : Cx p Z s m meth c own nm code ml ret) (H : Hp Z h L) {K' : ClassId} {z x : Int32} (hi : L[i]? = some (a, Ar Z .int K' vs)) (hz : ¬ z < 0) (hv : vs[z.toNatClampNeg]? = some (.int x)) (D : D1 code pc .iaload 1 pc') (K : Go wd p l e R Z s m args below meth c Q h k n (mkF m pc' Ls (.int x :: st))) : Go wd p l e R Z s m args below meth c Q h k n (mkF m pc Ls (.int z :: .ref a :: st)) := by
  obtain ⟨d, rfl⟩ := D
  intro vm T L' F B S eh
  replace X := X.re B
  obtain ⟨cl, A, -, q, -, -⟩ := H.arr hi
  obtain ⟨u, o, st', r⟩ := K vm T L' F B S eh
  exact ⟨u, o, S.iaload X.1 (by rw [eh]; exact A.1) (State.isArrayOf_alike X.2.1.alike A.2.1) A.2.2 (inb q hz (List.getElem?_eq_some_iff.mp hv).1) (by rw [q]; simpa using hv) (g := mkF m pc Ls (.int z :: .ref a :: st)) rfl rfl (hb X.2.2.2.1 d) _ st', r⟩
theorem Go.iast (X : Cx p Z s m meth c own nm code ml ret) (H : Hp Z h L) {K' : ClassId} {z x : Int32} (hi : L[i]? = some (a, Ar Z .int K' vs)) (hz : ¬ z < 0) (hN : z.toNatClampNeg < vs.length) (D : D1 code pc .iastore 1 pc') (K : ∀ h, Hp Z h (upd L i (a, Ar Z .int K' (vs.set z.toNatClampNeg (.int x)))) → Go wd p l e R Z s m args below meth c Q h k n (mkF m pc' Ls st)) : Go wd p l e R Z s m args below meth c Q h k n (mkF m pc Ls (.int x :: .int z :: .ref a :: st)) := by
  obtain ⟨d, rfl⟩ := D
  intro vm T L' F B S eh
  replace X := X.re B
  obtain ⟨cl, A, -, q, -, -⟩ := H.arr hi
  obtain ⟨T', h', S', e', W, stp⟩ := stI S X.1 X.2.1 eh A (inb q hz hN) (g := mkF m pc Ls (.int x :: .int z :: .ref a :: st)) rfl rfl (hb X.2.2.2.1 d)
  have H' := H.wr (P' := Ar Z .int K' (vs.set z.toNatClampNeg (.int x))) hi W fun c A _ _ => Ar.put A rfl
  obtain ⟨u, o, st', r⟩ := K h' H' vm T' _ (F.app fun y hy => by cases List.mem_singleton.mp hy; exact H.ge hi) (B.mono (Nat.le_of_eq W.size.symm)) S' e'
  exact ⟨u, o, stp _ st', r⟩
theorem Go.alenO (X : Cx p Z s m meth c own nm code ml ret) (E : Ext Z.heap h) {ty : FieldType} {cl : Cell} (A : Arr Z Z.heap a cl ty) (D : D1 code pc .arraylength 1 pc') (K : Go wd p l e R Z s m args below meth c Q h k n (mkF m pc' Ls (.int cl.slots.size.toInt32 :: st))) : Go wd p l e R Z s m args below meth c Q h k n (mkF m pc Ls (.ref a :: st)) := by
  obtain ⟨d, rfl⟩ := D
  intro vm T L' F B S eh
  replace X := X.re B
  have A := A.ext E
  obtain ⟨u, o, st', r⟩ := K vm T L' F B S eh
  exact ⟨u, o, S.arraylength X.1 (by rw [eh]; exact A.1) (State.isArrayOf_alike X.2.1.alike A.2.1) (g := mkF m pc Ls (.ref a :: st)) rfl rfl (hb X.2.2.2.1 d) _ st', r⟩
theorem Go.ialdO (X : Cx p Z s m meth c own nm code ml ret) (E : Ext Z.heap h) {z x : Int32} {cl : Cell} (A : Arr Z Z.heap a cl .int) (hz : ¬ z < 0) (hv : cl.slots[z.toNatClampNeg]? = some (.int x)) (D : D1 code pc .iaload 1 pc') (K : Go wd p l e R Z s m args below meth c Q h k n (mkF m pc' Ls (.int x :: st))) : Go wd p l e R Z s m args below meth c Q h k n (mkF m pc Ls (.int z :: .ref a :: st)) := by
  obtain ⟨d, rfl⟩ := D
  intro vm T L' F B S eh
  replace X := X.re B
  have A := A.ext E
  obtain ⟨u, o, st', r⟩ := K vm T L' F B S eh
  exact ⟨u, o, S.iaload X.1 (by rw [eh]; exact A.1) (State.isArrayOf_alike X.2.1.alike A.2.1) A.2.2 (fun q => q.elim hz fun q => absurd (Array.getElem?_eq_some_iff.mp hv).1 (Nat.not_lt.mpr q)) hv (g := mkF m pc Ls (.int z :: .ref a :: st)) rfl rfl (hb X.2.2.2.1 d) _ st', r⟩
/-! ### calls -/
theorem mroom (m : MethodId) (pc : Nat) (Ls : Array Slot) (st : List Value) : (mkF m pc Ls st).monitorRoom = 0 := rfl
section Ks
variable {F : Option Value → Heap → Prop} {rest : List Value} {k' n' : Nat}
theorem Kv {Qv : Value → Heap → Prop} (K : ∀ v h, Qv v h → Go wd p l e R Z s m args below meth c Q h k' n' (mkF m pc' Ls (v :: rest))) : ∀ o h, rvQ Qv o h → Go wd p l e R Z s m args below meth c Q h k' n' (mkF m pc' Ls (o.toList ++ rest)) := by
  rintro _ h ⟨v, rfl, q⟩; exact K v h q
theorem K0 {Q0 : Heap → Prop} (K : ∀ h, Q0 h → Go wd p l e R Z s m args below meth c Q h k' n' (mkF m pc' Ls rest)) : ∀ o h, r0Q Q0 o h → Go wd p l e R Z s m args below meth c Q h k' n' (mkF m pc' Ls (o.toList ++ rest)) := by
  rintro _ h ⟨rfl, q⟩; exact K h q
end Ks
variable {y : MethodName} {code' : ByteArray} {ml' : Nat} {ret' : Option FieldType} {rm : Room} {argsL rest : List Value} {Q' : Option Value → Heap → Prop}
theorem Go.byBackN {g : JFrame} (X : Cx p Z s m meth c own nm code ml ret)
    (f : ∀ s, Cx p Z s m meth c own nm code ml ret → ∀ T L, Stand p l e R s m args below meth c T L k n → T.heap = h → ∃ (v : Option Value) (vm : Vm) (B : Pt), s.WarmedH vm ∧ Stand p l e R s m args below meth c B.U B.locs B.cells B.slots ∧ (∃ L', (Q' v B.U.heap ∧ Fr Z.heap.size L') ∧ B.locs = L ++ L' ∧ B.cells = k + rm.cells ∧ B.slots = n + rm.slots) ∧ Steps p.tables e below (T.setTop g) (B.U.setTop (mkF m pc' Ls (v.toList ++ rest))))
    (K : ∀ o h, Q' o h → Go false p l e R Z s m args below meth c Q h (k + rm.cells) (n + rm.slots) (mkF m pc' Ls (o.toList ++ rest))) : Go false p l e R Z s m args below meth c Q h k n g := by
  intro vm T L F B S eh
  obtain ⟨v, vm', ⟨T', L2, k2, n2⟩, -, S', ⟨L3, ⟨hQ, F3⟩, e1, e2, e3⟩, stp⟩ := f _ (X.re B) T L S eh
  dsimp only [Pt.U, Pt.locs, Pt.cells, Pt.slots] at S' e1 e2 e3 stp hQ
  subst e1 e2 e3
  obtain ⟨u, o, st', r⟩ := K v _ hQ vm T' _ (F.app F3) B S' rfl
  exact ⟨u, o, stp.trans st', r⟩
theorem Go.byBackW {g : JFrame} (X : Cx p Z s m meth c own nm code ml ret)
    (f : ∀ s, Cx p Z s m meth c own nm code ml ret → ∀ T L, Stand p l e R s m args below meth c T L k n → T.heap = h → ∃ (v : Option Value) (vm : Vm) (B : Pt), s.WarmedH vm ∧ Stand p l e R (s.setVm B.U.vm) m args below meth c B.U B.locs B.cells B.slots ∧ s.Since B.U.vm B.U.heap.size ∧ T.heap.size ≤ B.U.heap.size ∧ (∃ L', (Q' v B.U.heap ∧ Fr Z.heap.size L') ∧ B.locs = L ++ L' ∧ B.cells = k + rm.cells ∧ B.slots = n + rm.slots) ∧ Steps p.tables e below (T.setTop g) (B.U.setTop (mkF m pc' Ls (v.toList ++ rest))))
    (K : ∀ o h, Q' o h → Go true p l e R Z s m args below meth c Q h (k + rm.cells) (n + rm.slots) (mkF m pc' Ls (o.toList ++ rest))) : Go true p l e R Z s m args below meth c Q h k n g := by
  intro vm T L F B S eh
  obtain ⟨v, vm', ⟨T', L2, k2, n2⟩, -, S', hS, hsz, ⟨L3, ⟨hQ, F3⟩, e1, e2, e3⟩, stp⟩ := f _ (X.re B) T L S eh
  dsimp only [Pt.U, Pt.locs, Pt.cells, Pt.slots] at S' e1 e2 e3 stp hQ hS hsz
  subst e1 e2 e3
  have B' : s.Since vm h.size := B
  obtain ⟨u, o, st', r⟩ := K v _ hQ T'.vm T' _ (F.app F3) (B'.trans hS (by rw [← eh]; exact hsz)) S' rfl
  exact ⟨u, o, stp.trans st', r⟩
theorem Go.callS (X : Cx p Z s m meth c own nm code ml ret) (B : Ct wd l Z y code' ml' ret' rm argsL.toArray h Q')
    {idx : Nat} (w1 : (Cond.methodLink own idx y).before a0 Z = true) (w2 : (Cond.static y).before a0 Z = true) (w3 : (Cond.initialized y.cls).before a0 Z = true) (w4 : (Cond.code y code' ml' ret').before a0 Z = true) (hy : y.cls ≠ "java/lang/invoke/MethodHandle" ∧ y.cls ≠ "java/lang/invoke/VarHandle")
    {ps : List FieldType} {rt : Option FieldType} (pd : parseMethodDescriptor y.desc = some ⟨ps, rt⟩) (hl : argsL.length = ps.length) (hs : st = argsL.reverse ++ rest) (D : D1 code pc (.invokestatic idx) 3 pc') (hm : Ls.size = ml)
    (hf : rm.frames + 1 ≤ R.frames) (hlo : (rest.map fun v => v.category).sum + (ml' + 11) + rm.locals ≤ R.locals) (hk : k + rm.cells ≤ R.cells) (hn : n + rm.slots ≤ R.slots)
    (K : ∀ o h, Q' o h → Go wd p l e R Z s m args below meth c Q h (k + rm.cells) (n + rm.slots) (mkF m pc' Ls (o.toList ++ rest))) : Go wd p l e R Z s m args below meth c Q h k n (mkF m pc Ls st) := by
  obtain ⟨d, rfl⟩ := D
  subst hs
  cases wd
  · refine Go.byBackN X (fun s X T L S eh => ?_) K
    obtain ⟨v, vm, B, b1, b2, b3, b4⟩ := Jvm.LawKit.callS S X.1 X.2.2.1 (mvT X.2.1 w1) (mvT X.2.1 w2) (mvT X.2.1 w3) (mvT X.2.1 w4) hy (backOf (W := (rest.map fun v => v.category).sum) (Q := fun v h L => Q' v h ∧ Fr Z.heap.size L) (B []) X.2.1 w4 w3 hf hlo) (g := mkF m pc Ls (argsL.reverse ++ rest)) rfl (by rw [X.2.2.2.2.1]; exact hm) (argsL := argsL) (rest := rest) (lenOf pd hl) rfl (by rw [mroom]; omega) (hb X.2.2.2.1 d) (fun _ _ => ⟨rfl, eh, hk, hn⟩)
    exact ⟨v, vm, B, b1, b2, b3, b4 _ (Steps.refl _)⟩
  · refine Go.byBackW X (fun s X T L S eh => ?_) K
    exact callSS S X.1 X.2.2.1 (mvT X.2.1 w1) (mvT X.2.1 w2) (mvT X.2.1 w3) (mvT X.2.1 w4) hy (backOfS (W := (rest.map fun v => v.category).sum) (Q := fun v h L => Q' v h ∧ Fr Z.heap.size L) (B []) X.2.1 w4 w3 hf hlo) (g := mkF m pc Ls (argsL.reverse ++ rest)) rfl (by rw [X.2.2.2.2.1]; exact hm) (argsL := argsL) (rest := rest) (lenOf pd hl) rfl (by rw [mroom]; omega) (hb X.2.2.2.1 d) (fun _ _ => ⟨rfl, eh, hk, hn⟩)
theorem Go.callI (X : Cx p Z s m meth c own nm code ml ret) (B : Ct wd l Z y code' ml' none rm (Value.ref a :: argsL).toArray h Q') (hy1 : y.name = "<init>")
    {idx : Nat} (w1 : (Cond.methodLink own idx y).before a0 Z = true) (w2 : (Cond.instanceMethod y).before a0 Z = true) (w3 : (Cond.initialized y.cls).before a0 Z = true) (w4 : (Cond.code y code' ml' none).before a0 Z = true) (hy : y.cls ≠ "java/lang/invoke/MethodHandle" ∧ y.cls ≠ "java/lang/invoke/VarHandle")
    {ps : List FieldType} {rt : Option FieldType} (pd : parseMethodDescriptor y.desc = some ⟨ps, rt⟩) (hl : argsL.length = ps.length) (hs : st = argsL.reverse ++ .ref a :: rest) (D : D1 code pc (.invokespecial idx) 3 pc') (hm : Ls.size = ml)
    (hf : rm.frames + 1 ≤ R.frames) (hlo : (rest.map fun v => v.category).sum + (ml' + 11) + rm.locals ≤ R.locals) (hk : k + rm.cells ≤ R.cells) (hn : n + rm.slots ≤ R.slots)
    (K : ∀ o h, Q' o h → Go wd p l e R Z s m args below meth c Q h (k + rm.cells) (n + rm.slots) (mkF m pc' Ls (o.toList ++ rest))) : Go wd p l e R Z s m args below meth c Q h k n (mkF m pc Ls st) := by
  obtain ⟨d, rfl⟩ := D
  subst hs
  cases wd
  · refine Go.byBackN X (fun s X T L S eh => ?_) K
    exact S.specialBack X.1 hy1 X.2.2.1 (mvT X.2.1 w1) (mvT X.2.1 w2) (mvT X.2.1 w4) hy (backOf (W := (rest.map fun v => v.category).sum) (Q := fun v h L => Q' v h ∧ Fr Z.heap.size L) (B []) X.2.1 w4 w3 hf hlo) (g := mkF m pc Ls (argsL.reverse ++ .ref a :: rest)) rfl (by rw [X.2.2.2.2.1]; exact hm) (Steps.refl _) (a := a) (argsL := argsL) (rest := rest) (lenOf pd hl) rfl (by rw [mroom]; omega) (hb X.2.2.2.1 d) (fun _ _ => ⟨rfl, eh, hk, hn⟩)
  · refine Go.byBackW X (fun s X T L S eh => ?_) K
    exact S.specialBackS X.1 hy1 X.2.2.1 (mvT X.2.1 w1) (mvT X.2.1 w2) (mvT X.2.1 w4) hy (backOfS (W := (rest.map fun v => v.category).sum) (Q := fun v h L => Q' v h ∧ Fr Z.heap.size L) (B []) X.2.1 w4 w3 hf hlo) (g := mkF m pc Ls (argsL.reverse ++ .ref a :: rest)) rfl (by rw [X.2.2.2.2.1]; exact hm) (Steps.refl _) (a := a) (argsL := argsL) (rest := rest) (lenOf pd hl) rfl (by rw [mroom]; omega) (hb X.2.2.2.1 d) (fun _ _ => ⟨rfl, eh, hk, hn⟩)
theorem Go.callV (X : Cx p Z s m meth c own nm code ml ret) {z : MethodName} (E : Exa Z h a C) (B : Ct wd l Z z code' ml' ret' rm (Value.ref a :: argsL).toArray h Q')
    {idx : Nat} (w1 : (Cond.methodLink own idx y).before a0 Z = true) (wdc : (Cond.declares y).before a0 Z = true) (hnf : ∀ s : State, Z.Warmed39 s.vm → NotFace s y) (ws : (Cond.selects C y z).before a0 Z = true) (w2 : (Cond.instanceMethod z).before a0 Z = true) (w3 : (Cond.initialized z.cls).before a0 Z = true) (w4 : (Cond.code z code' ml' ret').before a0 Z = true) (hy : y.cls ≠ "java/lang/invoke/MethodHandle" ∧ y.cls ≠ "java/lang/invoke/VarHandle")
    {ps : List FieldType} {rt : Option FieldType} (pd : parseMethodDescriptor y.desc = some ⟨ps, rt⟩) (hl : argsL.length = ps.length) (hs : st = argsL.reverse ++ .ref a :: rest) (D : D1 code pc (.invokevirtual idx) 3 pc') (hm : Ls.size = ml)
    (hf : rm.frames + 1 ≤ R.frames) (hlo : (rest.map fun v => v.category).sum + (ml' + 11) + rm.locals ≤ R.locals) (hk : k + rm.cells ≤ R.cells) (hn : n + rm.slots ≤ R.slots)
    (K : ∀ o h, Q' o h → Go wd p l e R Z s m args below meth c Q h (k + rm.cells) (n + rm.slots) (mkF m pc' Ls (o.toList ++ rest))) : Go wd p l e R Z s m args below meth c Q h k n (mkF m pc Ls st) := by
  obtain ⟨d, rfl⟩ := D
  subst hs
  cases wd
  · refine Go.byBackN X (fun s X T L S eh => ?_) K
    obtain ⟨cq, kq, qa, qb, qc⟩ := isOf (T := T) X.2.1 eh E
    exact S.virtualBack X.1 X.2.2.1 (mvT X.2.1 w1) (mvT X.2.1 wdc) (hnf s X.2.1) (mvT X.2.1 ws) (mvT X.2.1 w2) hy (backOf (W := (rest.map fun v => v.category).sum) (Q := fun v h L => Q' v h ∧ Fr Z.heap.size L) (B []) X.2.1 w4 w3 hf hlo) qa qc (g := mkF m pc Ls (argsL.reverse ++ .ref a :: rest)) rfl (by rw [X.2.2.2.2.1]; exact hm) (Steps.refl _) (argsL := argsL) (rest := rest) (lenOf pd hl) rfl (by rw [mroom]; omega) (hb X.2.2.2.1 d) (fun _ _ => ⟨rfl, eh, hk, hn⟩)
  · refine Go.byBackW X (fun s X T L S eh => ?_) K
    obtain ⟨cq, kq, qa, qb, qc⟩ := isOf (T := T) X.2.1 eh E
    exact S.virtualBackS X.1 X.2.2.1 (mvT X.2.1 w1) (mvT X.2.1 wdc) (hnf s X.2.1) (mvT X.2.1 ws) (mvT X.2.1 w2) hy (backOfS (W := (rest.map fun v => v.category).sum) (Q := fun v h L => Q' v h ∧ Fr Z.heap.size L) (B []) X.2.1 w4 w3 hf hlo) qa qc (g := mkF m pc Ls (argsL.reverse ++ .ref a :: rest)) rfl (by rw [X.2.2.2.2.1]; exact hm) (Steps.refl _) (argsL := argsL) (rest := rest) (lenOf pd hl) rfl (by rw [mroom]; omega) (hb X.2.2.2.1 d) (fun _ _ => ⟨rfl, eh, hk, hn⟩)
theorem nfS (ws : (Cond.selects C y y).before a0 Z = true) : ∀ s : State, Z.Warmed39 s.vm → NotFace s y := fun s q => notFace_of_selects (args := #[]) (mvT q ws)
theorem nfT (ws : (Cond.noSuperclass y.cls).before a0 Z = true) : ∀ s : State, Z.Warmed39 s.vm → NotFace s y := fun s q => nf_top (args := #[]) (mvT q ws)
theorem nfU {S : String} (ws : (Cond.superclass y.cls S).before a0 Z = true) : ∀ s : State, Z.Warmed39 s.vm → NotFace s y := fun s q => nf_super (args := #[]) (mvT q ws)
theorem Go.callP (X : Cx p Z s m meth c own nm code ml ret) (E : Exa Z h a C) (B : Ct wd l Z y code' ml' ret' rm (Value.ref a :: argsL).toArray h Q')
    {idx : Nat} (w1 : (Cond.methodLink own idx y).before a0 Z = true) (w2 : (Cond.instanceMethod y).before a0 Z = true) (ws : (Cond.selects y.cls y y).before a0 Z = true) (wp : (Cond.privateMethod y).before a0 Z = true) (w3 : (Cond.initialized y.cls).before a0 Z = true) (w4 : (Cond.code y code' ml' ret').before a0 Z = true) (hy : y.cls ≠ "java/lang/invoke/MethodHandle" ∧ y.cls ≠ "java/lang/invoke/VarHandle")
    {ps : List FieldType} {rt : Option FieldType} (pd : parseMethodDescriptor y.desc = some ⟨ps, rt⟩) (hl : argsL.length = ps.length) (hs : st = argsL.reverse ++ .ref a :: rest) (D : D1 code pc (.invokevirtual idx) 3 pc') (hm : Ls.size = ml)
    (hf : rm.frames + 1 ≤ R.frames) (hlo : (rest.map fun v => v.category).sum + (ml' + 11) + rm.locals ≤ R.locals) (hk : k + rm.cells ≤ R.cells) (hn : n + rm.slots ≤ R.slots)
    (K : ∀ o h, Q' o h → Go wd p l e R Z s m args below meth c Q h (k + rm.cells) (n + rm.slots) (mkF m pc' Ls (o.toList ++ rest))) : Go wd p l e R Z s m args below meth c Q h k n (mkF m pc Ls st) := by
  obtain ⟨d, rfl⟩ := D
  subst hs
  cases wd
  · refine Go.byBackN X (fun s X T L S eh => ?_) K
    obtain ⟨cq, q1, q2⟩ := E.cell
    exact S.privateBack X.1 X.2.2.1 (mvT X.2.1 w1) (mvT X.2.1 w2) (mvT X.2.1 ws) (Cond.privateMethod_at (mvP X.2.1 wp (args := #[]))) (mvT X.2.1 w4) hy (backOf (W := (rest.map fun v => v.category).sum) (Q := fun v h L => Q' v h ∧ Fr Z.heap.size L) (B []) X.2.1 w4 w3 hf hlo) (g := mkF m pc Ls (argsL.reverse ++ .ref a :: rest)) rfl (by rw [X.2.2.2.2.1]; exact hm) (Steps.refl _) (a := a) (by rw [eh]; exact q1) q2 (argsL := argsL) (rest := rest) (lenOf pd hl) rfl (by rw [mroom]; omega) (hb X.2.2.2.1 d) (fun _ _ => ⟨rfl, eh, hk, hn⟩)
  · refine Go.byBackW X (fun s X T L S eh => ?_) K
    obtain ⟨cq, q1, q2⟩ := E.cell
    exact S.privateBackS X.1 X.2.2.1 (mvT X.2.1 w1) (mvT X.2.1 w2) (mvT X.2.1 ws) (Cond.privateMethod_at (mvP X.2.1 wp (args := #[]))) (mvT X.2.1 w4) hy (backOfS (W := (rest.map fun v => v.category).sum) (Q := fun v h L => Q' v h ∧ Fr Z.heap.size L) (B []) X.2.1 w4 w3 hf hlo) (g := mkF m pc Ls (argsL.reverse ++ .ref a :: rest)) rfl (by rw [X.2.2.2.2.1]; exact hm) (Steps.refl _) (a := a) (by rw [eh]; exact q1) q2 (argsL := argsL) (rest := rest) (lenOf pd hl) rfl (by rw [mroom]; omega) (hb X.2.2.2.1 d) (fun _ _ => ⟨rfl, eh, hk, hn⟩)
theorem Go.callN (X : Cx p Z s m meth c own nm code ml ret) {xi : MethodName} (E : Exa Z h a C) (B : Ct wd l Z y code' ml' ret' rm (Value.ref a :: argsL).toArray h Q')
    {idx cnt : Nat} (w1 : (Cond.methodLink own idx xi).before a0 Z = true) (wdc : (Cond.declares xi).before a0 Z = true) (hfa : (Cond.interfaceMethod xi.cls xi.cls xi.name xi.desc).faceAtom = true) (wf : (Cond.interfaceMethod xi.cls xi.cls xi.name xi.desc).before a0 Z = true) (ws : (Cond.selects C xi y).before a0 Z = true) (w2 : (Cond.instanceMethod y).before a0 Z = true) (wp : (Cond.publicMethod y).before a0 Z = true) (wu : (Cond.unhidden C xi.name xi.desc).before a0 Z = true) (wc : (Cond.castable C xi.cls).before a0 Z = true) (w3 : (Cond.initialized y.cls).before a0 Z = true) (w4 : (Cond.code y code' ml' ret').before a0 Z = true) (hy : xi.cls ≠ "java/lang/invoke/MethodHandle" ∧ xi.cls ≠ "java/lang/invoke/VarHandle")
    {ps : List FieldType} {rt : Option FieldType} (pd : parseMethodDescriptor xi.desc = some ⟨ps, rt⟩) (hl : argsL.length = ps.length) (hs : st = argsL.reverse ++ .ref a :: rest) (D : D1 code pc (.invokeinterface idx cnt) 5 pc') (hm : Ls.size = ml)
    (hf : rm.frames + 1 ≤ R.frames) (hlo : (rest.map fun v => v.category).sum + (ml' + 11) + rm.locals ≤ R.locals) (hk : k + rm.cells ≤ R.cells) (hn : n + rm.slots ≤ R.slots)
    (K : ∀ o h, Q' o h → Go wd p l e R Z s m args below meth c Q h (k + rm.cells) (n + rm.slots) (mkF m pc' Ls (o.toList ++ rest))) : Go wd p l e R Z s m args below meth c Q h k n (mkF m pc Ls st) := by
  obtain ⟨d, rfl⟩ := D
  subst hs
  cases wd
  · refine Go.byBackN X (fun s X T L S eh => ?_) K
    obtain ⟨cq, kq, qa, qb, qc⟩ := isOf (T := T) X.2.1 eh E
    exact S.interfaceBack X.1 X.2.2.1 (mvT X.2.1 w1) (mvT X.2.1 wdc) (mvT X.2.1 wf (by simp [Cond.onTables, Cond.keepsFace, Cond.keeps, Cond.steady, hfa])) (mvT X.2.1 ws) (mvT X.2.1 w2) (mvT X.2.1 wp) (mvT X.2.1 wu) (mvT X.2.1 wc) hy (backOf (W := (rest.map fun v => v.category).sum) (Q := fun v h L => Q' v h ∧ Fr Z.heap.size L) (B []) X.2.1 w4 w3 hf hlo) qa qb qc (g := mkF m pc Ls (argsL.reverse ++ .ref a :: rest)) rfl (by rw [X.2.2.2.2.1]; exact hm) (Steps.refl _) (argsL := argsL) (rest := rest) (lenOf pd hl) rfl (by rw [mroom]; omega) (hb X.2.2.2.1 d) (fun _ _ => ⟨rfl, eh, hk, hn⟩)
  · refine Go.byBackW X (fun s X T L S eh => ?_) K
    obtain ⟨cq, kq, qa, qb, qc⟩ := isOf (T := T) X.2.1 eh E
    exact S.interfaceBackS X.1 X.2.2.1 (mvT X.2.1 w1) (mvT X.2.1 wdc) (mvT X.2.1 wf (by simp [Cond.onTables, Cond.keepsFace, Cond.keeps, Cond.steady, hfa])) (mvT X.2.1 ws) (mvT X.2.1 w2) (mvT X.2.1 wp) (mvT X.2.1 wu) (mvT X.2.1 wc) hy (backOfS (W := (rest.map fun v => v.category).sum) (Q := fun v h L => Q' v h ∧ Fr Z.heap.size L) (B []) X.2.1 w4 w3 hf hlo) qa qb qc (g := mkF m pc Ls (argsL.reverse ++ .ref a :: rest)) rfl (by rw [X.2.2.2.2.1]; exact hm) (Steps.refl _) (argsL := argsL) (rest := rest) (lenOf pd hl) rfl (by rw [mroom]; omega) (hb X.2.2.2.1 d) (fun _ _ => ⟨rfl, eh, hk, hn⟩)
theorem Ct.wide {as : Array Value} (B : Ct false l Z y code' ml' ret' rm as h Q') : Ct true l Z y code' ml' ret' rm as h Q' := fun ws =>
  (B ws).mono (fun _ _ q => q) (fun _ _ _ _ _ q => q) fun a U o U' _ ⟨v, L, q1, q2, q3⟩ => ⟨v, L, q1, q2, RoadKit.wide q3⟩
theorem Go.initObj (X : Cx p Z s m meth c own nm code ml ret) {idx : Nat} (w1 : (Cond.methodLink own idx Lib.objectInit).before a0 Z = true) (w2 : (Cond.instanceMethod Lib.objectInit).before a0 Z = true) (w3 : (Cond.code Lib.objectInit ⟨#[0xb1]⟩ 1 none).before a0 Z = true) (D : D1 code pc (.invokespecial idx) 3 pc') (hm : Ls.size = ml) (hf : 1 ≤ R.frames) (hlo : (st.map fun v => v.category).sum + 12 ≤ R.locals)
    (K : Go wd p l e R Z s m args below meth c Q h k n (mkF m pc' Ls st)) : Go wd p l e R Z s m args below meth c Q h k n (mkF m pc Ls (.ref a :: st)) := by
  obtain ⟨dd, rfl⟩ := D
  intro vm T L' F' B S eh
  replace X := X.re B
  obtain ⟨T', S', e', stp⟩ := initO S X.1 X.2.1 X.2.2.1 w1 w2 w3 eh (g := mkF m pc Ls (.ref a :: st)) rfl (by rw [X.2.2.2.2.1]; exact hm) rfl (hb X.2.2.2.1 dd) hf (W := (st.map fun v => v.category).sum) (by rw [mroom]; omega) hlo
  obtain ⟨u, o, st', r⟩ := K vm T' L' F' B S' e'
  exact ⟨u, o, stp _ st', r⟩
end Steps
end Jvm.OwnKit
namespace Jvm.OwnKit
open Sem ClassFile Op Lib Jvm.Stand Jvm.Free Jvm.LawKit Jvm.RoadKit
section Steps
variable {wd : Bool} {p : Program} {l : Launch} {e : Env} {R : Room} {Z s : State} {m : MethodId} {args : Array Value} {below : List Frame} {meth : Method} {c : Code} {Q : Option Value → Heap → Prop} {h : Heap} {k n : Nat} {own nm : String} {code : ByteArray} {ml : Nat} {ret : Option FieldType} {a0 : Array Value}
variable {pc pc' : Nat} {Ls : Array Slot} {st : List Value} {L : List (Addr × (Cell → Prop))} {i j : Nat} {a b : Addr} {C : String} {ns : List Nm} {vs : List Value} {v : Value}
theorem Go.ishl (X : Cx p Z s m meth c own nm code ml ret) {x y : Int32} (D : D1 code pc .ishl 1 pc') (K : Go wd p l e R Z s m args below meth c Q h k n (mkF m pc' Ls (.int (x <<< (y &&& 31)) :: st))) : Go wd p l e R Z s m args below meth c Q h k n (mkF m pc Ls (.int y :: .int x :: st)) := by
  obtain ⟨d, rfl⟩ := D
  exact K.to X fun s X T L S t r => XT.ishl S.here X.1 rfl (hb X.2.2.2.1 d) rfl r
theorem Go.ishr (X : Cx p Z s m meth c own nm code ml ret) {x y : Int32} (D : D1 code pc .ishr 1 pc') (K : Go wd p l e R Z s m args below meth c Q h k n (mkF m pc' Ls (.int (x >>> (y &&& 31)) :: st))) : Go wd p l e R Z s m args below meth c Q h k n (mkF m pc Ls (.int y :: .int x :: st)) := by
  obtain ⟨d, rfl⟩ := D
  exact K.to X fun s X T L S t r => XT.ishr S.here X.1 rfl (hb X.2.2.2.1 d) rfl r
theorem Go.iushr (X : Cx p Z s m meth c own nm code ml ret) {x y : Int32} (D : D1 code pc .iushr 1 pc') (K : Go wd p l e R Z s m args below meth c Q h k n (mkF m pc' Ls (.int (XT.ushr x y) :: st))) : Go wd p l e R Z s m args below meth c Q h k n (mkF m pc Ls (.int y :: .int x :: st)) := by
  obtain ⟨d, rfl⟩ := D
  exact K.to X fun s X T L S t r => XT.iushr S.here X.1 rfl (hb X.2.2.2.1 d) rfl r
theorem Go.ineg (X : Cx p Z s m meth c own nm code ml ret) {x : Int32} (D : D1 code pc .ineg 1 pc') (K : Go wd p l e R Z s m args below meth c Q h k n (mkF m pc' Ls (.int (-x) :: st))) : Go wd p l e R Z s m args below meth c Q h k n (mkF m pc Ls (.int x :: st)) := by
  obtain ⟨d, rfl⟩ := D
  exact K.to X fun s X T L S t r => XS.ineg S.here X.1 rfl (hb X.2.2.2.1 d) rfl r
theorem Go.i2c (X : Cx p Z s m meth c own nm code ml ret) {x : Int32} (D : D1 code pc .i2c 1 pc') (K : Go wd p l e R Z s m args below meth c Q h k n (mkF m pc' Ls (.int (x.toUInt32.toUInt16.toUInt32.toInt32) :: st))) : Go wd p l e R Z s m args below meth c Q h k n (mkF m pc Ls (.int x :: st)) := by
  obtain ⟨d, rfl⟩ := D
  exact K.to X fun s X T L S t r => XT.i2c S.here X.1 rfl (hb X.2.2.2.1 d) rfl r
theorem Go.i2b (X : Cx p Z s m meth c own nm code ml ret) {x : Int32} (D : D1 code pc .i2b 1 pc') (K : Go wd p l e R Z s m args below meth c Q h k n (mkF m pc' Ls (.int (x.toInt8.toInt32) :: st))) : Go wd p l e R Z s m args below meth c Q h k n (mkF m pc Ls (.int x :: st)) := by
  obtain ⟨d, rfl⟩ := D
  exact K.to X fun s X T L S t r => XT.i2b S.here X.1 rfl (hb X.2.2.2.1 d) rfl r
theorem Go.cald (X : Cx p Z s m meth c own nm code ml ret) (H : Hp Z h L) {K' : ClassId} {z x : Int32} (hi : L[i]? = some (a, Ar Z .char K' vs)) (hz : ¬ z < 0) (hv : vs[z.toNatClampNeg]? = some (.int x)) (D : D1 code pc .caload 1 pc') (K : Go wd p l e R Z s m args below meth c Q h k n (mkF m pc' Ls (.int x :: st))) : Go wd p l e R Z s m args below meth c Q h k n (mkF m pc Ls (.int z :: .ref a :: st)) := by
  obtain ⟨d, rfl⟩ := D
  intro vm T L' F B S eh
  replace X := X.re B
  obtain ⟨cl, A, -, q, -, -⟩ := H.arr hi
  obtain ⟨u, o, st', r⟩ := K vm T L' F B S eh
  exact ⟨u, o, S.caload X.1 (by rw [eh]; exact A.1) (State.isArrayOf_alike X.2.1.alike A.2.1) A.2.2 (inb q hz (List.getElem?_eq_some_iff.mp hv).1) (by rw [q]; simpa using hv) (g := mkF m pc Ls (.int z :: .ref a :: st)) rfl rfl (hb X.2.2.2.1 d) _ st', r⟩
theorem Go.bald (X : Cx p Z s m meth c own nm code ml ret) (H : Hp Z h L) {K' : ClassId} {z x : Int32} (hi : L[i]? = some (a, Ar Z .byte K' vs)) (hz : ¬ z < 0) (hv : vs[z.toNatClampNeg]? = some (.int x)) (D : D1 code pc .baload 1 pc') (K : Go wd p l e R Z s m args below meth c Q h k n (mkF m pc' Ls (.int x :: st))) : Go wd p l e R Z s m args below meth c Q h k n (mkF m pc Ls (.int z :: .ref a :: st)) := by
  obtain ⟨d, rfl⟩ := D
  intro vm T L' F B S eh
  replace X := X.re B
  obtain ⟨cl, A, -, q, -, -⟩ := H.arr hi
  obtain ⟨u, o, st', r⟩ := K vm T L' F B S eh
  exact ⟨u, o, S.baloadBytes X.1 (by rw [eh]; exact A.1) (State.isArrayOf_alike X.2.1.alike A.2.1) A.2.2 (inb q hz (List.getElem?_eq_some_iff.mp hv).1) (by rw [q]; simpa using hv) (g := mkF m pc Ls (.int z :: .ref a :: st)) rfl rfl (hb X.2.2.2.1 d) _ st', r⟩
theorem Go.aald (X : Cx p Z s m meth c own nm code ml ret) (H : Hp Z h L) {K' : ClassId} {ty : FieldType} {z : Int32} (hi : L[i]? = some (a, Ar Z ty K' vs)) (ht : ty.isReference = true) (hz : ¬ z < 0) (hv : vs[z.toNatClampNeg]? = some v) (D : D1 code pc .aaload 1 pc') (K : Go wd p l e R Z s m args below meth c Q h k n (mkF m pc' Ls (v :: st))) : Go wd p l e R Z s m args below meth c Q h k n (mkF m pc Ls (.int z :: .ref a :: st)) := by
  obtain ⟨d, rfl⟩ := D
  intro vm T L' F B S eh
  replace X := X.re B
  obtain ⟨cl, A, -, q, -, -⟩ := H.arr hi
  obtain ⟨u, o, st', r⟩ := K vm T L' F B S eh
  exact ⟨u, o, S.aaload X.1 (by rw [eh]; exact A.1) (State.isArrayOf_alike X.2.1.alike A.2.1) ht A.2.2 (inb q hz (List.getElem?_eq_some_iff.mp hv).1) (by rw [q]; simpa using hv) (g := mkF m pc Ls (.int z :: .ref a :: st)) rfl rfl (hb X.2.2.2.1 d) _ st', r⟩
theorem Go.aaldO (X : Cx p Z s m meth c own nm code ml ret) (E : Ext Z.heap h) {ty : FieldType} {z : Int32} {cl : Cell} (A : Arr Z Z.heap a cl ty) (ht : ty.isReference = true) (hz : ¬ z < 0) (hv : cl.slots[z.toNatClampNeg]? = some v) (D : D1 code pc .aaload 1 pc') (K : Go wd p l e R Z s m args below meth c Q h k n (mkF m pc' Ls (v :: st))) : Go wd p l e R Z s m args below meth c Q h k n (mkF m pc Ls (.int z :: .ref a :: st)) := by
  obtain ⟨d, rfl⟩ := D
  intro vm T L' F B S eh
  replace X := X.re B
  have A := A.ext E
  obtain ⟨u, o, st', r⟩ := K vm T L' F B S eh
  exact ⟨u, o, S.aaload X.1 (by rw [eh]; exact A.1) (State.isArrayOf_alike X.2.1.alike A.2.1) ht A.2.2 (fun q => q.elim hz fun q => absurd (Array.getElem?_eq_some_iff.mp hv).1 (Nat.not_lt.mpr q)) hv (g := mkF m pc Ls (.int z :: .ref a :: st)) rfl rfl (hb X.2.2.2.1 d) _ st', r⟩
theorem Go.cast' (X : Cx p Z s m meth c own nm code ml ret) (H : Hp Z h L) {K' : ClassId} {z x y : Int32} (hi : L[i]? = some (a, Ar Z .char K' vs)) (hz : ¬ z < 0) (hN : z.toNatClampNeg < vs.length) (hx : x.toUInt32.toUInt16.toUInt32.toInt32 = y) (D : D1 code pc .castore 1 pc') (K : ∀ h, Hp Z h (upd L i (a, Ar Z .char K' (vs.set z.toNatClampNeg (.int y)))) → Go wd p l e R Z s m args below meth c Q h k n (mkF m pc' Ls st)) : Go wd p l e R Z s m args below meth c Q h k n (mkF m pc Ls (.int x :: .int z :: .ref a :: st)) := by
  obtain ⟨d, rfl⟩ := D
  subst hx
  intro vm T L' F B S eh
  replace X := X.re B
  obtain ⟨cl, A, -, q, -, -⟩ := H.arr hi
  obtain ⟨T', h', S', e', W, stp⟩ := stC S X.1 X.2.1 eh A (inb q hz hN) (g := mkF m pc Ls (.int x :: .int z :: .ref a :: st)) rfl rfl (hb X.2.2.2.1 d)
  have H' := H.wr (P' := Ar Z .char K' (vs.set z.toNatClampNeg (.int (nar .char x)))) hi W fun c A _ _ => Ar.put A (fits_nar_char x)
  obtain ⟨u, o, st', r⟩ := K h' H' vm T' _ (F.app fun y hy => by cases List.mem_singleton.mp hy; exact H.ge hi) (B.mono (Nat.le_of_eq W.size.symm)) S' e'
  exact ⟨u, o, stp _ st', r⟩
theorem Go.bast (X : Cx p Z s m meth c own nm code ml ret) (H : Hp Z h L) {K' : ClassId} {z x y : Int32} (hi : L[i]? = some (a, Ar Z .byte K' vs)) (hz : ¬ z < 0) (hN : z.toNatClampNeg < vs.length) (hx : x.toInt8.toInt32 = y) (D : D1 code pc .bastore 1 pc') (K : ∀ h, Hp Z h (upd L i (a, Ar Z .byte K' (vs.set z.toNatClampNeg (.int y)))) → Go wd p l e R Z s m args below meth c Q h k n (mkF m pc' Ls st)) : Go wd p l e R Z s m args below meth c Q h k n (mkF m pc Ls (.int x :: .int z :: .ref a :: st)) := by
  obtain ⟨d, rfl⟩ := D
  subst hx
  intro vm T L' F B S eh
  replace X := X.re B
  obtain ⟨cl, A, -, q, -, -⟩ := H.arr hi
  obtain ⟨T', h', S', e', W, stp⟩ := stB S X.1 X.2.1 eh A (inb q hz hN) (g := mkF m pc Ls (.int x :: .int z :: .ref a :: st)) rfl rfl (hb X.2.2.2.1 d)
  have H' := H.wr (P' := Ar Z .byte K' (vs.set z.toNatClampNeg (.int (x.toInt8.toInt32)))) hi W fun c A _ _ => Ar.put A (fits_nar_byte x)
  obtain ⟨u, o, st', r⟩ := K h' H' vm T' _ (F.app fun y hy => by cases List.mem_singleton.mp hy; exact H.ge hi) (B.mono (Nat.le_of_eq W.size.symm)) S' e'
  exact ⟨u, o, stp _ st', r⟩
theorem Go.aast (X : Cx p Z s m meth c own nm code ml ret) (H : Hp Z h L) {K' : ClassId} {t : String} {z : Int32} (hi : L[i]? = some (a, Ar Z (.object t) K' vs)) (hz : ¬ z < 0) (hN : z.toNatClampNeg < vs.length) (hs : Sto Z h a v) (hf : fits (.object t) v = true) (D : D1 code pc .aastore 1 pc') (K : ∀ h, Hp Z h (upd L i (a, Ar Z (.object t) K' (vs.set z.toNatClampNeg v))) → Go wd p l e R Z s m args below meth c Q h k n (mkF m pc' Ls st)) : Go wd p l e R Z s m args below meth c Q h k n (mkF m pc Ls (v :: .int z :: .ref a :: st)) := by
  obtain ⟨d, rfl⟩ := D
  intro vm T L' F B S eh
  replace X := X.re B
  obtain ⟨cl, A, -, q, -, -⟩ := H.arr hi
  obtain ⟨T', h', S', e', W, stp⟩ := stR S X.1 X.2.1 eh A (inb q hz hN) rfl hs (g := mkF m pc Ls (v :: .int z :: .ref a :: st)) rfl rfl (hb X.2.2.2.1 d)
  have H' := H.wr (P' := Ar Z (.object t) K' (vs.set z.toNatClampNeg v)) hi W fun c A _ _ => Ar.put A hf
  obtain ⟨u, o, st', r⟩ := K h' H' vm T' _ (F.app fun y hy => by cases List.mem_singleton.mp hy; exact H.ge hi) (B.mono (Nat.le_of_eq W.size.symm)) S' e'
  exact ⟨u, o, stp _ st', r⟩
/-- what may lie in an array of the class number K' -/
theorem Hp.sto (H : Hp Z h L) {K' : ClassId} {ty : FieldType} (hi : L[i]? = some (a, Ar Z ty K' vs)) (O : Ovr Z K' C) (I : Ins Z h b C true) : Sto Z h a (.ref b) := by
  obtain ⟨cl, A, q, -⟩ := H.arr hi
  exact Sto.of A (q ▸ O) I
theorem Go.ccast (X : Cx p Z s m meth c own nm code ml ret) {idx : Nat} (w : (Cond.classLink own idx C).before a0 Z = true) (I : Ins Z h a C true) (D : D1 code pc (.checkcast idx) 3 pc') (K : Go wd p l e R Z s m args below meth c Q h k n (mkF m pc' Ls (.ref a :: st))) : Go wd p l e R Z s m args below meth c Q h k n (mkF m pc Ls (.ref a :: st)) := by
  obtain ⟨d, rfl⟩ := D
  intro vm T L' F B S eh
  replace X := X.re B
  obtain ⟨T', S', e', stp⟩ := castY S X.1 X.2.1 X.2.2.1 w eh I (g := mkF m pc Ls (.ref a :: st)) rfl rfl (hb X.2.2.2.1 d)
  obtain ⟨u, o, st', r⟩ := K vm T' L' F B S' e'
  exact ⟨u, o, stp _ st', r⟩
theorem Go.inst1 (X : Cx p Z s m meth c own nm code ml ret) {idx : Nat} (w : (Cond.classLink own idx C).before a0 Z = true) (I : Ins Z h a C true) (D : D1 code pc (.instanceof idx) 3 pc') (K : Go wd p l e R Z s m args below meth c Q h k n (mkF m pc' Ls (.int 1 :: st))) : Go wd p l e R Z s m args below meth c Q h k n (mkF m pc Ls (.ref a :: st)) := by
  obtain ⟨d, rfl⟩ := D
  intro vm T L' F B S eh
  replace X := X.re B
  obtain ⟨T', S', e', stp⟩ := instY S X.1 X.2.1 X.2.2.1 w eh I (g := mkF m pc Ls (.ref a :: st)) rfl rfl (hb X.2.2.2.1 d)
  obtain ⟨u, o, st', r⟩ := K vm T' L' F B S' e'
  exact ⟨u, o, stp _ st', r⟩
end Steps
end Jvm.OwnKit
namespace Jvm.Pilot.@@N@@
open Jvm Jvm.ClassFile Sem Op Lib Jvm.Free Jvm.Stand Jvm.LawKit Jvm.RoadKit Jvm.OwnKit Bundle Jvm.Pilot.@@N@@.Jvm.D
abbrev Hw (a0 : Array Value) (Z : State) : Prop := ∀ d ∈ tables_1, d.before a0 Z = true
theorem w0 {a0 : Array Value} {Z : State} (hw : Hw a0 Z) : (Jvm.Cond.arrayClass Jvm.ClassFile.FieldType.int).before a0 Z = true := hw _ (List.mem_of_getElem? (i := 0) rfl)
theorem w1 {a0 : Array Value} {Z : State} (hw : Hw a0 Z) : (Jvm.Cond.constant "com/example/persist/persist/mapping/TimeKindOfSqlTypePinLaw" (22 : Nat) (2147483647 : Int32)).before a0 Z = true := hw _ (List.mem_of_getElem? (i := 1) rfl)
theorem w2 {a0 : Array Value} {Z : State} (hw : Hw a0 Z) : (Jvm.Cond.methodLink "com/example/persist/persist/mapping/TimeKindOfSqlTypePinLaw" (23 : Nat) ({ cls := "com/example/persist/persist/mapping/TimeKind", name := "ofSqlType", desc := "(I)Lcom/example/persist/persist/mapping/TimeKind;" } : Jvm.MethodName)).before a0 Z = true := hw _ (List.mem_of_getElem? (i := 2) rfl)
theorem w3 {a0 : Array Value} {Z : State} (hw : Hw a0 Z) : (Jvm.Cond.static ({ cls := "com/example/persist/persist/mapping/TimeKind", name := "ofSqlType", desc := "(I)Lcom/example/persist/persist/mapping/TimeKind;" } : Jvm.MethodName)).before a0 Z = true := hw _ (List.mem_of_getElem? (i := 3) rfl)
theorem w4 {a0 : Array Value} {Z : State} (hw : Hw a0 Z) : (Jvm.Cond.initialized "com/example/persist/persist/mapping/TimeKind").before a0 Z = true := hw _ (List.mem_of_getElem? (i := 4) rfl)
theorem w5 {a0 : Array Value} {Z : State} (hw : Hw a0 Z) : (Jvm.Cond.code ({ cls := "com/example/persist/persist/mapping/TimeKind", name := "ofSqlType", desc := "(I)Lcom/example/persist/persist/mapping/TimeKind;" } : Jvm.MethodName) prog_16_method_4_code (1 : Nat) (Option.some (Jvm.ClassFile.FieldType.object "com/example/persist/persist/mapping/TimeKind"))).before a0 Z = true := hw _ (List.mem_of_getElem? (i := 5) rfl)
theorem w6 {a0 : Array Value} {Z : State} (hw : Hw a0 Z) : (Jvm.Cond.fieldLink "com/example/persist/persist/mapping/TimeKind" (3 : Nat) "com/example/persist/persist/mapping/TimeKind" "DATE_AND_TIME" "Lcom/example/persist/persist/mapping/TimeKind;").before a0 Z = true := hw _ (List.mem_of_getElem? (i := 6) rfl)
theorem w7 {a0 : Array Value} {Z : State} (hw : Hw a0 Z) : (Jvm.Cond.laysStatic "com/example/persist/persist/mapping/TimeKind" "DATE_AND_TIME" "Lcom/example/persist/persist/mapping/TimeKind;").before a0 Z = true := hw _ (List.mem_of_getElem? (i := 7) rfl)
theorem w8 {a0 : Array Value} {Z : State} (hw : Hw a0 Z) : (Jvm.Cond.methodLink "com/example/persist/persist/mapping/TimeKindOfSqlTypePinLaw" (27 : Nat) ({ cls := "com/example/persist/persist/mapping/TimeKindOfSqlTypePinLaw", name := "expected", desc := "(I)Lcom/example/persist/persist/mapping/TimeKind;" } : Jvm.MethodName)).before a0 Z = true := hw _ (List.mem_of_getElem? (i := 8) rfl)
theorem w9 {a0 : Array Value} {Z : State} (hw : Hw a0 Z) : (Jvm.Cond.static ({ cls := "com/example/persist/persist/mapping/TimeKindOfSqlTypePinLaw", name := "expected", desc := "(I)Lcom/example/persist/persist/mapping/TimeKind;" } : Jvm.MethodName)).before a0 Z = true := hw _ (List.mem_of_getElem? (i := 9) rfl)
theorem w10 {a0 : Array Value} {Z : State} (hw : Hw a0 Z) : (Jvm.Cond.initialized "com/example/persist/persist/mapping/TimeKindOfSqlTypePinLaw").before a0 Z = true := hw _ (List.mem_of_getElem? (i := 10) rfl)
theorem w11 {a0 : Array Value} {Z : State} (hw : Hw a0 Z) : (Jvm.Cond.code ({ cls := "com/example/persist/persist/mapping/TimeKindOfSqlTypePinLaw", name := "expected", desc := "(I)Lcom/example/persist/persist/mapping/TimeKind;" } : Jvm.MethodName) method_2_code (1 : Nat) (Option.some (Jvm.ClassFile.FieldType.object "com/example/persist/persist/mapping/TimeKind"))).before a0 Z = true := hw _ (List.mem_of_getElem? (i := 11) rfl)
theorem w12 {a0 : Array Value} {Z : State} (hw : Hw a0 Z) : (Jvm.Cond.fieldLink "com/example/persist/persist/mapping/TimeKindOfSqlTypePinLaw" (7 : Nat) "com/example/persist/persist/mapping/TimeKind" "DATE_AND_TIME" "Lcom/example/persist/persist/mapping/TimeKind;").before a0 Z = true := hw _ (List.mem_of_getElem? (i := 12) rfl)
theorem w13 {a0 : Array Value} {Z : State} (hw : Hw a0 Z) : (Jvm.Cond.fieldLink "com/example/persist/persist/mapping/TimeKind" (13 : Nat) "com/example/persist/persist/mapping/TimeKind" "NONE" "Lcom/example/persist/persist/mapping/TimeKind;").before a0 Z = true := hw _ (List.mem_of_getElem? (i := 13) rfl)
theorem w14 {a0 : Array Value} {Z : State} (hw : Hw a0 Z) : (Jvm.Cond.laysStatic "com/example/persist/persist/mapping/TimeKind" "NONE" "Lcom/example/persist/persist/mapping/TimeKind;").before a0 Z = true := hw _ (List.mem_of_getElem? (i := 14) rfl)
theorem w15 {a0 : Array Value} {Z : State} (hw : Hw a0 Z) : (Jvm.Cond.fieldLink "com/example/persist/persist/mapping/TimeKindOfSqlTypePinLaw" (19 : Nat) "com/example/persist/persist/mapping/TimeKind" "NONE" "Lcom/example/persist/persist/mapping/TimeKind;").before a0 Z = true := hw _ (List.mem_of_getElem? (i := 15) rfl)
theorem w16 {a0 : Array Value} {Z : State} (hw : Hw a0 Z) : (Jvm.Cond.fieldLink "com/example/persist/persist/mapping/TimeKind" (10 : Nat) "com/example/persist/persist/mapping/TimeKind" "TIME_OF_DAY" "Lcom/example/persist/persist/mapping/TimeKind;").before a0 Z = true := hw _ (List.mem_of_getElem? (i := 16) rfl)
theorem w17 {a0 : Array Value} {Z : State} (hw : Hw a0 Z) : (Jvm.Cond.laysStatic "com/example/persist/persist/mapping/TimeKind" "TIME_OF_DAY" "Lcom/example/persist/persist/mapping/TimeKind;").before a0 Z = true := hw _ (List.mem_of_getElem? (i := 17) rfl)
theorem w18 {a0 : Array Value} {Z : State} (hw : Hw a0 Z) : (Jvm.Cond.fieldLink "com/example/persist/persist/mapping/TimeKindOfSqlTypePinLaw" (16 : Nat) "com/example/persist/persist/mapping/TimeKind" "TIME_OF_DAY" "Lcom/example/persist/persist/mapping/TimeKind;").before a0 Z = true := hw _ (List.mem_of_getElem? (i := 18) rfl)
theorem w19 {a0 : Array Value} {Z : State} (hw : Hw a0 Z) : (Jvm.Cond.fieldLink "com/example/persist/persist/mapping/TimeKind" (7 : Nat) "com/example/persist/persist/mapping/TimeKind" "DATE" "Lcom/example/persist/persist/mapping/TimeKind;").before a0 Z = true := hw _ (List.mem_of_getElem? (i := 19) rfl)
theorem w20 {a0 : Array Value} {Z : State} (hw : Hw a0 Z) : (Jvm.Cond.laysStatic "com/example/persist/persist/mapping/TimeKind" "DATE" "Lcom/example/persist/persist/mapping/TimeKind;").before a0 Z = true := hw _ (List.mem_of_getElem? (i := 20) rfl)
theorem w21 {a0 : Array Value} {Z : State} (hw : Hw a0 Z) : (Jvm.Cond.fieldLink "com/example/persist/persist/mapping/TimeKindOfSqlTypePinLaw" (13 : Nat) "com/example/persist/persist/mapping/TimeKind" "DATE" "Lcom/example/persist/persist/mapping/TimeKind;").before a0 Z = true := hw _ (List.mem_of_getElem? (i := 21) rfl)
theorem d0_0 : D1 code 0 (.bipush 13) 2 2 := ⟨at_0, rfl⟩
theorem d0_2 : D1 code 2 (.newarray .int) 2 4 := ⟨at_2, rfl⟩
theorem d0_4 : D1 code 4 (.dup) 1 5 := ⟨at_4, rfl⟩
theorem d0_5 : D1 code 5 (.iconst 0) 1 6 := ⟨at_5, rfl⟩
theorem d0_6 : D1 code 6 (.bipush 93) 2 8 := ⟨at_6, rfl⟩
theorem d0_8 : D1 code 8 (.iastore) 1 9 := ⟨at_8, rfl⟩
theorem d0_9 : D1 code 9 (.dup) 1 10 := ⟨at_9, rfl⟩
theorem d0_10 : D1 code 10 (.iconst 1) 1 11 := ⟨at_10, rfl⟩
theorem d0_11 : D1 code 11 (.sipush 2014) 3 14 := ⟨at_11, rfl⟩
theorem d0_14 : D1 code 14 (.iastore) 1 15 := ⟨at_14, rfl⟩
theorem d0_15 : D1 code 15 (.dup) 1 16 := ⟨at_15, rfl⟩
theorem d0_16 : D1 code 16 (.iconst 2) 1 17 := ⟨at_16, rfl⟩
theorem d0_17 : D1 code 17 (.bipush 91) 2 19 := ⟨at_17, rfl⟩
theorem d0_19 : D1 code 19 (.iastore) 1 20 := ⟨at_19, rfl⟩
theorem d0_20 : D1 code 20 (.dup) 1 21 := ⟨at_20, rfl⟩
theorem d0_21 : D1 code 21 (.iconst 3) 1 22 := ⟨at_21, rfl⟩
theorem d0_22 : D1 code 22 (.bipush 92) 2 24 := ⟨at_22, rfl⟩
theorem d0_24 : D1 code 24 (.iastore) 1 25 := ⟨at_24, rfl⟩
theorem d0_25 : D1 code 25 (.dup) 1 26 := ⟨at_25, rfl⟩
theorem d0_26 : D1 code 26 (.iconst 4) 1 27 := ⟨at_26, rfl⟩
theorem d0_27 : D1 code 27 (.sipush 2013) 3 30 := ⟨at_27, rfl⟩
theorem d0_30 : D1 code 30 (.iastore) 1 31 := ⟨at_30, rfl⟩
theorem d0_31 : D1 code 31 (.dup) 1 32 := ⟨at_31, rfl⟩
theorem d0_32 : D1 code 32 (.iconst 5) 1 33 := ⟨at_32, rfl⟩
theorem d0_33 : D1 code 33 (.bipush 90) 2 35 := ⟨at_33, rfl⟩
theorem d0_35 : D1 code 35 (.iastore) 1 36 := ⟨at_35, rfl⟩
theorem d0_36 : D1 code 36 (.dup) 1 37 := ⟨at_36, rfl⟩
theorem d0_37 : D1 code 37 (.bipush 6) 2 39 := ⟨at_37, rfl⟩
theorem d0_39 : D1 code 39 (.bipush 94) 2 41 := ⟨at_39, rfl⟩
theorem d0_41 : D1 code 41 (.iastore) 1 42 := ⟨at_41, rfl⟩
theorem d0_42 : D1 code 42 (.dup) 1 43 := ⟨at_42, rfl⟩
theorem d0_43 : D1 code 43 (.bipush 7) 2 45 := ⟨at_43, rfl⟩
theorem d0_45 : D1 code 45 (.sipush 2012) 3 48 := ⟨at_45, rfl⟩
theorem d0_48 : D1 code 48 (.iastore) 1 49 := ⟨at_48, rfl⟩
theorem d0_49 : D1 code 49 (.dup) 1 50 := ⟨at_49, rfl⟩
theorem d0_50 : D1 code 50 (.bipush 8) 2 52 := ⟨at_50, rfl⟩
theorem d0_52 : D1 code 52 (.sipush 2015) 3 55 := ⟨at_52, rfl⟩
theorem d0_55 : D1 code 55 (.iastore) 1 56 := ⟨at_55, rfl⟩
theorem d0_56 : D1 code 56 (.dup) 1 57 := ⟨at_56, rfl⟩
theorem d0_57 : D1 code 57 (.bipush 9) 2 59 := ⟨at_57, rfl⟩
theorem d0_59 : D1 code 59 (.bipush 12) 2 61 := ⟨at_59, rfl⟩
theorem d0_61 : D1 code 61 (.iastore) 1 62 := ⟨at_61, rfl⟩
theorem d0_62 : D1 code 62 (.dup) 1 63 := ⟨at_62, rfl⟩
theorem d0_63 : D1 code 63 (.bipush 10) 2 65 := ⟨at_63, rfl⟩
theorem d0_65 : D1 code 65 (.iconst 4) 1 66 := ⟨at_65, rfl⟩
theorem d0_66 : D1 code 66 (.iastore) 1 67 := ⟨at_66, rfl⟩
theorem d0_67 : D1 code 67 (.dup) 1 68 := ⟨at_67, rfl⟩
theorem d0_68 : D1 code 68 (.bipush 11) 2 70 := ⟨at_68, rfl⟩
theorem d0_70 : D1 code 70 (.iconst 0) 1 71 := ⟨at_70, rfl⟩
theorem d0_71 : D1 code 71 (.iastore) 1 72 := ⟨at_71, rfl⟩
theorem d0_72 : D1 code 72 (.dup) 1 73 := ⟨at_72, rfl⟩
theorem d0_73 : D1 code 73 (.bipush 12) 2 75 := ⟨at_73, rfl⟩
theorem d0_75 : D1 code 75 (.bipush (-93)) 2 77 := ⟨at_75, rfl⟩
theorem d0_77 : D1 code 77 (.iastore) 1 78 := ⟨at_77, rfl⟩
theorem d0_78 : D1 code 78 (.astore_n 2) 1 79 := ⟨at_78, rfl⟩
theorem d0_79 : D1 code 79 (.iload_n 0) 1 80 := ⟨at_79, rfl⟩
theorem d0_80 : D1 code 80 (.ldc 22) 2 82 := ⟨at_80, rfl⟩
theorem d0_82 : D1 code 82 (.iand) 1 83 := ⟨at_82, rfl⟩
theorem d0_83 : D1 code 83 (.bipush 14) 2 85 := ⟨at_83, rfl⟩
theorem d0_85 : D1 code 85 (.irem) 1 86 := ⟨at_85, rfl⟩
theorem d0_86 : D1 code 86 (.istore_n 3) 1 87 := ⟨at_86, rfl⟩
theorem d0_87 : D1 code 87 (.iload_n 3) 1 88 := ⟨at_87, rfl⟩
theorem d0_88 : D1 code 88 (.bipush 13) 2 90 := ⟨at_88, rfl⟩
theorem d0_90 : D1 code 90 (.if_icmp .ge 9) 3 93 := ⟨at_90, rfl⟩
theorem d0_93 : D1 code 93 (.aload_n 2) 1 94 := ⟨at_93, rfl⟩
theorem d0_94 : D1 code 94 (.iload_n 3) 1 95 := ⟨at_94, rfl⟩
theorem d0_95 : D1 code 95 (.iaload) 1 96 := ⟨at_95, rfl⟩
theorem d0_96 : D1 code 96 (.goto 4) 3 99 := ⟨at_96, rfl⟩
theorem d0_99 : D1 code 99 (.iload_n 1) 1 100 := ⟨at_99, rfl⟩
theorem d0_100 : D1 code 100 (.istore 4) 2 102 := ⟨at_100, rfl⟩
theorem d0_102 : D1 code 102 (.iload 4) 2 104 := ⟨at_102, rfl⟩
theorem d0_104 : D1 code 104 (.invokestatic 23) 3 107 := ⟨at_104, rfl⟩
theorem d0_107 : D1 code 107 (.astore 5) 2 109 := ⟨at_107, rfl⟩
theorem d0_109 : D1 code 109 (.aload 5) 2 111 := ⟨at_109, rfl⟩
theorem d0_111 : D1 code 111 (.ifnonnull 5) 3 114 := ⟨at_111, rfl⟩
theorem d0_116 : D1 code 116 (.aload 5) 2 118 := ⟨at_116, rfl⟩
theorem d0_118 : D1 code 118 (.iload 4) 2 120 := ⟨at_118, rfl⟩
theorem d0_120 : D1 code 120 (.invokestatic 27) 3 123 := ⟨at_120, rfl⟩
theorem d0_123 : D1 code 123 (.if_acmp .ne 7) 3 126 := ⟨at_123, rfl⟩
theorem d0_126 : D1 code 126 (.iconst 1) 1 127 := ⟨at_126, rfl⟩
theorem d0_127 : D1 code 127 (.goto 4) 3 130 := ⟨at_127, rfl⟩
theorem d0_131 : D1 code 131 (.ireturn) 1 132 := ⟨at_131, rfl⟩
theorem d1_0 : D1 prog_16_method_4_code 0 (.iload_n 0) 1 1 := ⟨by decide +kernel, rfl⟩
theorem d1_1 : D1 prog_16_method_4_code 1 (.lookupswitch 69 #[(91, 57), (92, 63), (93, 51), (2013, 63), (2014, 51)]) 51 52 := ⟨by decide +kernel, rfl⟩
theorem d1_52 : D1 prog_16_method_4_code 52 (.getstatic 3) 3 55 := ⟨by decide +kernel, rfl⟩
theorem d1_55 : D1 prog_16_method_4_code 55 (.goto 18) 3 58 := ⟨by decide +kernel, rfl⟩
theorem d1_58 : D1 prog_16_method_4_code 58 (.getstatic 7) 3 61 := ⟨by decide +kernel, rfl⟩
theorem d1_61 : D1 prog_16_method_4_code 61 (.goto 12) 3 64 := ⟨by decide +kernel, rfl⟩
theorem d1_64 : D1 prog_16_method_4_code 64 (.getstatic 10) 3 67 := ⟨by decide +kernel, rfl⟩
theorem d1_67 : D1 prog_16_method_4_code 67 (.goto 6) 3 70 := ⟨by decide +kernel, rfl⟩
theorem d1_70 : D1 prog_16_method_4_code 70 (.getstatic 13) 3 73 := ⟨by decide +kernel, rfl⟩
theorem d1_73 : D1 prog_16_method_4_code 73 (.areturn) 1 74 := ⟨by decide +kernel, rfl⟩
theorem d2_0 : D1 method_2_code 0 (.iload_n 0) 1 1 := ⟨by decide +kernel, rfl⟩
theorem d2_1 : D1 method_2_code 1 (.bipush 93) 2 3 := ⟨by decide +kernel, rfl⟩
theorem d2_3 : D1 method_2_code 3 (.if_icmp .ne 7) 3 6 := ⟨by decide +kernel, rfl⟩
theorem d2_6 : D1 method_2_code 6 (.getstatic 7) 3 9 := ⟨by decide +kernel, rfl⟩
theorem d2_9 : D1 method_2_code 9 (.areturn) 1 10 := ⟨by decide +kernel, rfl⟩
theorem d2_10 : D1 method_2_code 10 (.iload_n 0) 1 11 := ⟨by decide +kernel, rfl⟩
theorem d2_11 : D1 method_2_code 11 (.sipush 2014) 3 14 := ⟨by decide +kernel, rfl⟩
theorem d2_14 : D1 method_2_code 14 (.if_icmp .ne 7) 3 17 := ⟨by decide +kernel, rfl⟩
theorem d2_17 : D1 method_2_code 17 (.getstatic 7) 3 20 := ⟨by decide +kernel, rfl⟩
theorem d2_20 : D1 method_2_code 20 (.areturn) 1 21 := ⟨by decide +kernel, rfl⟩
theorem d2_21 : D1 method_2_code 21 (.iload_n 0) 1 22 := ⟨by decide +kernel, rfl⟩
theorem d2_22 : D1 method_2_code 22 (.bipush 91) 2 24 := ⟨by decide +kernel, rfl⟩
theorem d2_24 : D1 method_2_code 24 (.if_icmp .ne 7) 3 27 := ⟨by decide +kernel, rfl⟩
theorem d2_27 : D1 method_2_code 27 (.getstatic 13) 3 30 := ⟨by decide +kernel, rfl⟩
theorem d2_30 : D1 method_2_code 30 (.areturn) 1 31 := ⟨by decide +kernel, rfl⟩
theorem d2_31 : D1 method_2_code 31 (.iload_n 0) 1 32 := ⟨by decide +kernel, rfl⟩
theorem d2_32 : D1 method_2_code 32 (.bipush 92) 2 34 := ⟨by decide +kernel, rfl⟩
theorem d2_34 : D1 method_2_code 34 (.if_icmp .ne 7) 3 37 := ⟨by decide +kernel, rfl⟩
theorem d2_37 : D1 method_2_code 37 (.getstatic 16) 3 40 := ⟨by decide +kernel, rfl⟩
theorem d2_40 : D1 method_2_code 40 (.areturn) 1 41 := ⟨by decide +kernel, rfl⟩
theorem d2_41 : D1 method_2_code 41 (.iload_n 0) 1 42 := ⟨by decide +kernel, rfl⟩
theorem d2_42 : D1 method_2_code 42 (.sipush 2013) 3 45 := ⟨by decide +kernel, rfl⟩
theorem d2_45 : D1 method_2_code 45 (.if_icmp .ne 7) 3 48 := ⟨by decide +kernel, rfl⟩
theorem d2_48 : D1 method_2_code 48 (.getstatic 16) 3 51 := ⟨by decide +kernel, rfl⟩
theorem d2_51 : D1 method_2_code 51 (.areturn) 1 52 := ⟨by decide +kernel, rfl⟩
theorem d2_52 : D1 method_2_code 52 (.getstatic 19) 3 55 := ⟨by decide +kernel, rfl⟩
theorem d2_55 : D1 method_2_code 55 (.areturn) 1 56 := ⟨by decide +kernel, rfl⟩
theorem pd0 : parseMethodDescriptor "(I)Lcom/example/persist/persist/mapping/TimeKind;" = some ⟨[.int], some (.object "com/example/persist/persist/mapping/TimeKind")⟩ := by decide +kernel

/-- which kind an SQL type is -/
def own_kind (dt no tt dd : Addr) (x : Int32) : Addr := if x = 93 then dt else if x = 2014 then dt else if x = 91 then dd else if x = 92 then tt else if x = 2013 then tt else no
abbrev own_S (Z : State) (f : String) (a : Addr) : Prop := Sta Z Z.heap "com/example/persist/persist/mapping/TimeKind" f "Lcom/example/persist/persist/mapping/TimeKind;" (.ref a)
abbrev rm0 : Room := { frames := 0, cells := 0, slots := 0, locals := 0 }

set_option maxRecDepth 65536 in
set_option maxHeartbeats 4000000 in
theorem rm1 (l : Launch) {Z : State} {a0 : Array Value} (hw : Hw a0 Z) (dt no tt dd : Addr) (F1 : own_S Z "DATE_AND_TIME" dt) (F2 : own_S Z "NONE" no) (F3 : own_S Z "TIME_OF_DAY" tt) (F4 : own_S Z "DATE" dd) {h : Heap} (E : Ext Z.heap h) (x0 : Int32) : Ct false l Z (⟨"com/example/persist/persist/mapping/TimeKind", "ofSqlType", "(I)Lcom/example/persist/persist/mapping/TimeKind;"⟩ : MethodName) prog_16_method_4_code 1 (some (.object "com/example/persist/persist/mapping/TimeKind")) rm0 #[.int x0] h (rvQ (fun v h1 => v = .ref (own_kind dt no tt dd x0) ∧ h1 = h)) := by
  refine Ct.intro (plainFor_of_name (by first | (simp [plainName, overriddenIn]; done) | decide +kernel)) ?_
  intro p e s m below meth c X
  replace X : Cx p Z s m meth c "com/example/persist/persist/mapping/TimeKind" "ofSqlType" prog_16_method_4_code 1 (some (.object "com/example/persist/persist/mapping/TimeKind")) := X
  refine Go.cast (g' := mkF m 0 #[.val (.int x0)] []) (by first | rfl | (simp [entryFrame, mkF, argsToLocals, Value.category, maxLocals]; done)) ?_
  refine Go.iloadN X d1_0 rfl ?_
  by_cases q91 : x0 = 91
  · subst q91
    refine Go.lswY X d1_1 (by decide) (a := 91) (off := 57) (pt := 58) (by decide) ⟨by decide, by decide⟩ ?_
    refine Go.getSta X E (w19 hw) Via.refl F4 d1_58 ?_
    refine Go.goto X d1_61 (pt := 73) ⟨by decide, by decide⟩ ?_
    exact Go.aret X d1_73 (by rfl) (by rfl) (by rfl) (Nat.zero_le _) (Nat.zero_le _) ⟨by simp [own_kind], rfl⟩
  by_cases q92 : x0 = 92
  · subst q92
    refine Go.lswY X d1_1 (by decide) (a := 92) (off := 63) (pt := 64) (by decide) ⟨by decide, by decide⟩ ?_
    refine Go.getSta X E (w16 hw) Via.refl F3 d1_64 ?_
    refine Go.goto X d1_67 (pt := 73) ⟨by decide, by decide⟩ ?_
    exact Go.aret X d1_73 (by rfl) (by rfl) (by rfl) (Nat.zero_le _) (Nat.zero_le _) ⟨by simp [own_kind], rfl⟩
  by_cases q93 : x0 = 93
  · subst q93
    refine Go.lswY X d1_1 (by decide) (a := 93) (off := 51) (pt := 52) (by decide) ⟨by decide, by decide⟩ ?_
    refine Go.getSta X E (w6 hw) Via.refl F1 d1_52 ?_
    refine Go.goto X d1_55 (pt := 73) ⟨by decide, by decide⟩ ?_
    exact Go.aret X d1_73 (by rfl) (by rfl) (by rfl) (Nat.zero_le _) (Nat.zero_le _) ⟨by simp [own_kind], rfl⟩
  by_cases q2013 : x0 = 2013
  · subst q2013
    refine Go.lswY X d1_1 (by decide) (a := 2013) (off := 63) (pt := 64) (by decide) ⟨by decide, by decide⟩ ?_
    refine Go.getSta X E (w16 hw) Via.refl F3 d1_64 ?_
    refine Go.goto X d1_67 (pt := 73) ⟨by decide, by decide⟩ ?_
    exact Go.aret X d1_73 (by rfl) (by rfl) (by rfl) (Nat.zero_le _) (Nat.zero_le _) ⟨by simp [own_kind], rfl⟩
  by_cases q2014 : x0 = 2014
  · subst q2014
    refine Go.lswY X d1_1 (by decide) (a := 2014) (off := 51) (pt := 52) (by decide) ⟨by decide, by decide⟩ ?_
    refine Go.getSta X E (w6 hw) Via.refl F1 d1_52 ?_
    refine Go.goto X d1_55 (pt := 73) ⟨by decide, by decide⟩ ?_
    exact Go.aret X d1_73 (by rfl) (by rfl) (by rfl) (Nat.zero_le _) (Nat.zero_le _) ⟨by simp [own_kind], rfl⟩
  · have hne : ∀ (z : Int32) (y : Int), z.toInt = y → x0 ≠ z → y ≠ x0.toInt := fun z y e q r => q (Int32.toInt_inj.mp (r.symm.trans e.symm))
    refine Go.lswN X d1_1 (by decide) (pt := 70) (find_miss fun p hp => ?_) ⟨by decide, by decide⟩ ?_
    · simp only [List.mem_cons, List.not_mem_nil, or_false] at hp
      rcases hp with rfl | rfl | rfl | rfl | rfl
      · exact hne 91 _ (by decide) q91
      · exact hne 92 _ (by decide) q92
      · exact hne 93 _ (by decide) q93
      · exact hne 2013 _ (by decide) q2013
      · exact hne 2014 _ (by decide) q2014
    refine Go.getSta X E (w13 hw) Via.refl F2 d1_70 ?_
    exact Go.aret X d1_73 (by rfl) (by rfl) (by rfl) (Nat.zero_le _) (Nat.zero_le _) ⟨by simp [own_kind, q91, q92, q93, q2013, q2014], rfl⟩
set_option maxRecDepth 65536 in
set_option maxHeartbeats 4000000 in
theorem rm2 (l : Launch) {Z : State} {a0 : Array Value} (hw : Hw a0 Z) (dt no tt dd : Addr) (F1 : own_S Z "DATE_AND_TIME" dt) (F2 : own_S Z "NONE" no) (F3 : own_S Z "TIME_OF_DAY" tt) (F4 : own_S Z "DATE" dd) {h : Heap} (E : Ext Z.heap h) (x0 : Int32) : Ct false l Z (⟨"com/example/persist/persist/mapping/TimeKindOfSqlTypePinLaw", "expected", "(I)Lcom/example/persist/persist/mapping/TimeKind;"⟩ : MethodName) method_2_code 1 (some (.object "com/example/persist/persist/mapping/TimeKind")) rm0 #[.int x0] h (rvQ (fun v h1 => v = .ref (own_kind dt no tt dd x0) ∧ h1 = h)) := by
  refine Ct.intro (plainFor_of_name (by first | (simp [plainName, overriddenIn]; done) | decide +kernel)) ?_
  intro p e s m below meth c X
  replace X : Cx p Z s m meth c "com/example/persist/persist/mapping/TimeKindOfSqlTypePinLaw" "expected" method_2_code 1 (some (.object "com/example/persist/persist/mapping/TimeKind")) := X
  refine Go.cast (g' := mkF m 0 #[.val (.int x0)] []) (by first | rfl | (simp [entryFrame, mkF, argsToLocals, Value.category, maxLocals]; done)) ?_
  refine Go.iloadN X d2_0 rfl ?_
  refine Go.bipush X (v := 93) d2_1 (by decide) ?_
  refine Go.icmp X d2_3 (pt := 10) ⟨by decide, by decide⟩ ?_ ?_
  rotate_left
  · intro q
    have q : x0 = 93 := Decidable.of_not_not q
    refine Go.getSta X E (w12 hw) Via.refl F1 d2_6 ?_
    exact Go.aret X d2_9 (by rfl) (by rfl) (by rfl) (Nat.zero_le _) (Nat.zero_le _) ⟨by simp [own_kind, q], rfl⟩
  intro q93
  replace q93 : x0 ≠ 93 := q93
  refine Go.iloadN X d2_10 rfl ?_
  refine Go.sipush X (v := 2014) d2_11 (by decide) ?_
  refine Go.icmp X d2_14 (pt := 21) ⟨by decide, by decide⟩ ?_ ?_
  rotate_left
  · intro q
    have q : x0 = 2014 := Decidable.of_not_not q
    refine Go.getSta X E (w12 hw) Via.refl F1 d2_17 ?_
    exact Go.aret X d2_20 (by rfl) (by rfl) (by rfl) (Nat.zero_le _) (Nat.zero_le _) ⟨by simp [own_kind, q], rfl⟩
  intro q2014
  replace q2014 : x0 ≠ 2014 := q2014
  refine Go.iloadN X d2_21 rfl ?_
  refine Go.bipush X (v := 91) d2_22 (by decide) ?_
  refine Go.icmp X d2_24 (pt := 31) ⟨by decide, by decide⟩ ?_ ?_
  rotate_left
  · intro q
    have q : x0 = 91 := Decidable.of_not_not q
    refine Go.getSta X E (w21 hw) Via.refl F4 d2_27 ?_
    exact Go.aret X d2_30 (by rfl) (by rfl) (by rfl) (Nat.zero_le _) (Nat.zero_le _) ⟨by simp [own_kind, q], rfl⟩
  intro q91
  replace q91 : x0 ≠ 91 := q91
  refine Go.iloadN X d2_31 rfl ?_
  refine Go.bipush X (v := 92) d2_32 (by decide) ?_
  refine Go.icmp X d2_34 (pt := 41) ⟨by decide, by decide⟩ ?_ ?_
  rotate_left
  · intro q
    have q : x0 = 92 := Decidable.of_not_not q
    refine Go.getSta X E (w18 hw) Via.refl F3 d2_37 ?_
    exact Go.aret X d2_40 (by rfl) (by rfl) (by rfl) (Nat.zero_le _) (Nat.zero_le _) ⟨by simp [own_kind, q], rfl⟩
  intro q92
  replace q92 : x0 ≠ 92 := q92
  refine Go.iloadN X d2_41 rfl ?_
  refine Go.sipush X (v := 2013) d2_42 (by decide) ?_
  refine Go.icmp X d2_45 (pt := 52) ⟨by decide, by decide⟩ ?_ ?_
  rotate_left
  · intro q
    have q : x0 = 2013 := Decidable.of_not_not q
    refine Go.getSta X E (w18 hw) Via.refl F3 d2_48 ?_
    exact Go.aret X d2_51 (by rfl) (by rfl) (by rfl) (Nat.zero_le _) (Nat.zero_le _) ⟨by simp [own_kind, q], rfl⟩
  intro q2013
  replace q2013 : x0 ≠ 2013 := q2013
  refine Go.getSta X E (w15 hw) Via.refl F2 d2_52 ?_
  exact Go.aret X d2_55 (by rfl) (by rfl) (by rfl) (Nat.zero_le _) (Nat.zero_le _) ⟨by simp [own_kind, q91, q92, q93, q2013, q2014], rfl⟩

theorem own_rem (z : Int32) : ¬ (z &&& 2147483647) % 14 < 0 ∧ (z &&& 2147483647) % 14 < 14 := by
  have h0 : 0 ≤ (z &&& 2147483647).toInt := by
    have : (z &&& 2147483647).toBitVec.msb = false := by
      rw [Int32.toBitVec_and, BitVec.msb_and]; simp; intro _; decide
    rw [← Int32.toInt_toBitVec, BitVec.toInt_eq_toNat_of_msb this]; omega
  have e : ((z &&& 2147483647) % 14).toInt = (z &&& 2147483647).toInt.tmod 14 := by rw [Int32.toInt_mod]; rfl
  rw [Int32.lt_iff_toInt_lt, Int32.lt_iff_toInt_lt, e, Int.tmod_eq_emod_of_nonneg h0]
  have e0 : (0 : Int32).toInt = 0 := rfl
  have e1 : (14 : Int32).toInt = 14 := rfl
  rw [e0, e1]; omega

set_option maxRecDepth 65536 in
set_option maxHeartbeats 4000000 in
theorem law_ct (l : Launch) {Z : State} {a0 : Array Value} (hw : Hw a0 Z) (dt no tt dd : Addr) (F1 : own_S Z "DATE_AND_TIME" dt) (F2 : own_S Z "NONE" no) (F3 : own_S Z "TIME_OF_DAY" tt) (F4 : own_S Z "DATE" dd) (i0 i1 : Int32) : Ct false l Z x code maxLocals ret room_1 #[.int i0, .int i1] Z.heap (rvQ (fun v _ => v = .int 1)) := by
  refine Ct.intro (plainFor_of_name (by first | (simp [plainName, overriddenIn]; done) | decide +kernel)) ?_
  intro p e s m below meth c X
  replace X : Cx p Z s m meth c "com/example/persist/persist/mapping/TimeKindOfSqlTypePinLaw" "law" code 6 (some .boolean) := X
  refine Go.cast (g' := mkF m 0 #[.val (.int i0), .val (.int i1), .unset, .unset, .unset, .unset] []) (by first | rfl | (simp [entryFrame, mkF, argsToLocals, Value.category, maxLocals]; done)) ?_
  have H := Hp.start Z
  refine Go.bipush X (v := 13) d0_0 (by decide) ?_
  refine Go.newarr X H (aty := .int) (N := 13) (cap := 13) (w0 hw) (by decide) (by decide) (by decide) (by decide) d0_2 (by decide) (by decide) ?_
  intro a K h H
  replace H : Hp Z h [(a, Ar Z .int K [.int 0, .int 0, .int 0, .int 0, .int 0, .int 0, .int 0, .int 0, .int 0, .int 0, .int 0, .int 0, .int 0])] := H
  refine Go.dup X d0_4 rfl ?_
  refine Go.iconst X (v := 0) d0_5 (by decide) ?_
  refine Go.bipush X (v := 93) d0_6 (by decide) ?_
  refine Go.iast X H (i := 0) rfl (by decide) (by decide) d0_8 ?_
  intro h H
  replace H : Hp Z h [(a, Ar Z .int K [.int 93, .int 0, .int 0, .int 0, .int 0, .int 0, .int 0, .int 0, .int 0, .int 0, .int 0, .int 0, .int 0])] := H
  refine Go.dup X d0_9 rfl ?_
  refine Go.iconst X (v := 1) d0_10 (by decide) ?_
  refine Go.sipush X (v := 2014) d0_11 (by decide) ?_
  refine Go.iast X H (i := 0) rfl (by decide) (by decide) d0_14 ?_
  intro h H
  replace H : Hp Z h [(a, Ar Z .int K [.int 93, .int 2014, .int 0, .int 0, .int 0, .int 0, .int 0, .int 0, .int 0, .int 0, .int 0, .int 0, .int 0])] := H
  refine Go.dup X d0_15 rfl ?_
  refine Go.iconst X (v := 2) d0_16 (by decide) ?_
  refine Go.bipush X (v := 91) d0_17 (by decide) ?_
  refine Go.iast X H (i := 0) rfl (by decide) (by decide) d0_19 ?_
  intro h H
  replace H : Hp Z h [(a, Ar Z .int K [.int 93, .int 2014, .int 91, .int 0, .int 0, .int 0, .int 0, .int 0, .int 0, .int 0, .int 0, .int 0, .int 0])] := H
  refine Go.dup X d0_20 rfl ?_
  refine Go.iconst X (v := 3) d0_21 (by decide) ?_
  refine Go.bipush X (v := 92) d0_22 (by decide) ?_
  refine Go.iast X H (i := 0) rfl (by decide) (by decide) d0_24 ?_
  intro h H
  replace H : Hp Z h [(a, Ar Z .int K [.int 93, .int 2014, .int 91, .int 92, .int 0, .int 0, .int 0, .int 0, .int 0, .int 0, .int 0, .int 0, .int 0])] := H
  refine Go.dup X d0_25 rfl ?_
  refine Go.iconst X (v := 4) d0_26 (by decide) ?_
  refine Go.sipush X (v := 2013) d0_27 (by decide) ?_
  refine Go.iast X H (i := 0) rfl (by decide) (by decide) d0_30 ?_
  intro h H
  replace H : Hp Z h [(a, Ar Z .int K [.int 93, .int 2014, .int 91, .int 92, .int 2013, .int 0, .int 0, .int 0, .int 0, .int 0, .int 0, .int 0, .int 0])] := H
  refine Go.dup X d0_31 rfl ?_
  refine Go.iconst X (v := 5) d0_32 (by decide) ?_
  refine Go.bipush X (v := 90) d0_33 (by decide) ?_
  refine Go.iast X H (i := 0) rfl (by decide) (by decide) d0_35 ?_
  intro h H
  replace H : Hp Z h [(a, Ar Z .int K [.int 93, .int 2014, .int 91, .int 92, .int 2013, .int 90, .int 0, .int 0, .int 0, .int 0, .int 0, .int 0, .int 0])] := H
  refine Go.dup X d0_36 rfl ?_
  refine Go.bipush X (v := 6) d0_37 (by decide) ?_
  refine Go.bipush X (v := 94) d0_39 (by decide) ?_
  refine Go.iast X H (i := 0) rfl (by decide) (by decide) d0_41 ?_
  intro h H
  replace H : Hp Z h [(a, Ar Z .int K [.int 93, .int 2014, .int 91, .int 92, .int 2013, .int 90, .int 94, .int 0, .int 0, .int 0, .int 0, .int 0, .int 0])] := H
  refine Go.dup X d0_42 rfl ?_
  refine Go.bipush X (v := 7) d0_43 (by decide) ?_
  refine Go.sipush X (v := 2012) d0_45 (by decide) ?_
  refine Go.iast X H (i := 0) rfl (by decide) (by decide) d0_48 ?_
  intro h H
  replace H : Hp Z h [(a, Ar Z .int K [.int 93, .int 2014, .int 91, .int 92, .int 2013, .int 90, .int 94, .int 2012, .int 0, .int 0, .int 0, .int 0, .int 0])] := H
  refine Go.dup X d0_49 rfl ?_
  refine Go.bipush X (v := 8) d0_50 (by decide) ?_
  refine Go.sipush X (v := 2015) d0_52 (by decide) ?_
  refine Go.iast X H (i := 0) rfl (by decide) (by decide) d0_55 ?_
  intro h H
  replace H : Hp Z h [(a, Ar Z .int K [.int 93, .int 2014, .int 91, .int 92, .int 2013, .int 90, .int 94, .int 2012, .int 2015, .int 0, .int 0, .int 0, .int 0])] := H
  refine Go.dup X d0_56 rfl ?_
  refine Go.bipush X (v := 9) d0_57 (by decide) ?_
  refine Go.bipush X (v := 12) d0_59 (by decide) ?_
  refine Go.iast X H (i := 0) rfl (by decide) (by decide) d0_61 ?_
  intro h H
  replace H : Hp Z h [(a, Ar Z .int K [.int 93, .int 2014, .int 91, .int 92, .int 2013, .int 90, .int 94, .int 2012, .int 2015, .int 12, .int 0, .int 0, .int 0])] := H
  refine Go.dup X d0_62 rfl ?_
  refine Go.bipush X (v := 10) d0_63 (by decide) ?_
  refine Go.iconst X (v := 4) d0_65 (by decide) ?_
  refine Go.iast X H (i := 0) rfl (by decide) (by decide) d0_66 ?_
  intro h H
  replace H : Hp Z h [(a, Ar Z .int K [.int 93, .int 2014, .int 91, .int 92, .int 2013, .int 90, .int 94, .int 2012, .int 2015, .int 12, .int 4, .int 0, .int 0])] := H
  refine Go.dup X d0_67 rfl ?_
  refine Go.bipush X (v := 11) d0_68 (by decide) ?_
  refine Go.iconst X (v := 0) d0_70 (by decide) ?_
  refine Go.iast X H (i := 0) rfl (by decide) (by decide) d0_71 ?_
  intro h H
  replace H : Hp Z h [(a, Ar Z .int K [.int 93, .int 2014, .int 91, .int 92, .int 2013, .int 90, .int 94, .int 2012, .int 2015, .int 12, .int 4, .int 0, .int 0])] := H
  refine Go.dup X d0_72 rfl ?_
  refine Go.bipush X (v := 12) d0_73 (by decide) ?_
  refine Go.bipush X (v := (-93)) d0_75 (by decide) ?_
  refine Go.iast X H (i := 0) rfl (by decide) (by decide) d0_77 ?_
  intro h H
  replace H : Hp Z h [(a, Ar Z .int K [.int 93, .int 2014, .int 91, .int 92, .int 2013, .int 90, .int 94, .int 2012, .int 2015, .int 12, .int 4, .int 0, .int (-93)])] := H
  refine Go.astoreN X d0_78 rfl rfl ?_
  refine Go.iloadN X d0_79 rfl ?_
  refine Go.ldcI X (w1 hw) d0_80 ?_
  refine Go.iand X d0_82 ?_
  refine Go.bipush X (v := 14) d0_83 (by decide) ?_
  refine Go.irem X d0_85 (by decide) ?_
  refine Go.istoreN X d0_86 rfl ?_
  refine Go.iloadN X d0_87 rfl ?_
  refine Go.bipush X (v := 13) d0_88 (by decide) ?_
  obtain ⟨z0, z14⟩ := own_rem i0
  generalize (i0 &&& 2147483647) % 14 = z at z0 z14 ⊢
  have tail : ∀ x : Int32, Go false p l e room_1 Z s m #[.int i0, .int i1] below meth c (rvQ fun v _ => v = .int 1) h (0 + 1) (0 + 13) (mkF m 100 #[.val (.int i0), .val (.int i1), .val (.ref a), .val (.int z), .unset, .unset] [.int x]) := by
    intro x
    refine Go.istore X d0_100 rfl ?_
    refine Go.iload X d0_102 rfl ?_
    refine Go.callS X (rm1 l hw dt no tt dd F1 F2 F3 F4 H.1 x) (rest := []) (w2 hw) (w3 hw) (w4 hw) (w5 hw) (by decide) pd0 rfl rfl d0_104 rfl (Nat.le_of_ble_eq_true rfl) (Nat.le_of_ble_eq_true rfl) (Nat.le_of_ble_eq_true rfl) (Nat.le_of_ble_eq_true rfl) (Kv ?_)
    rintro v h1 ⟨rfl, rfl⟩
    refine Go.astore X d0_107 rfl rfl ?_
    refine Go.aload X d0_109 rfl rfl ?_
    refine Go.ifnonnullY X d0_111 (pt := 116) ⟨by decide, by decide⟩ ?_
    refine Go.aload X d0_116 rfl rfl ?_
    refine Go.iload X d0_118 rfl ?_
    refine Go.callS X (rm2 l hw dt no tt dd F1 F2 F3 F4 H.1 x) (rest := [.ref (own_kind dt no tt dd x)]) (w8 hw) (w9 hw) (w10 hw) (w11 hw) (by decide) pd0 rfl rfl d0_120 rfl (Nat.le_of_ble_eq_true rfl) (Nat.le_of_ble_eq_true rfl) (Nat.le_of_ble_eq_true rfl) (Nat.le_of_ble_eq_true rfl) (Kv ?_)
    rintro v h1 ⟨rfl, rfl⟩
    refine Go.acmp X d0_123 (pt := 130) ⟨by decide, by decide⟩ rfl rfl ?_ ?_
    · intro q; exact absurd rfl q
    intro _
    refine Go.iconst X (v := 1) d0_126 (by decide) ?_
    refine Go.goto X d0_127 (pt := 131) ⟨by decide, by decide⟩ ?_
    exact Go.zret X d0_131 (Or.inr rfl) (by decide) (by decide) rfl
  refine Go.icmp X d0_90 (pt := 99) ⟨by decide, by decide⟩ ?_ ?_
  · intro _
    refine Go.iloadN X d0_99 rfl ?_
    exact tail i1
  intro q
  replace q : ¬ (13 : Int32) ≤ z := q
  refine Go.aloadN X d0_93 rfl rfl ?_
  refine Go.iloadN X d0_94 rfl ?_
  obtain ⟨x, hx⟩ : ∃ x : Int32, ([.int 93, .int 2014, .int 91, .int 92, .int 2013, .int 90, .int 94, .int 2012, .int 2015, .int 12, .int 4, .int 0, .int (-93)] : List Value)[z.toNatClampNeg]? = some (.int x) := by
    have b : z.toNatClampNeg < 13 := by
      have q1 : z.toInt < 13 := by
        have e1 : (13 : Int32).toInt = 13 := rfl
        rw [Int32.le_iff_toInt_le, e1] at q; omega
      simp only [Int32.toNatClampNeg]; omega
    generalize z.toNatClampNeg = N at b
    match N, b with
    | 0, _ | 1, _ | 2, _ | 3, _ | 4, _ | 5, _ | 6, _ | 7, _ | 8, _ | 9, _ | 10, _ | 11, _ | 12, _ => exact ⟨_, rfl⟩
  refine Go.iald X H (i := 0) rfl z0 hx d0_95 ?_
  refine Go.goto X d0_96 (pt := 100) ⟨by decide, by decide⟩ ?_
  exact tail x
set_option maxRecDepth 65536 in
set_option maxHeartbeats 4000000 in
theorem comes_1 {Post : Tables → Env → Array Value → State → Outcome → State → Prop} (hpost : ∀ tb e args s v u, (limb_1_1.after args s (.returned v) u = true ∧ limb_1_2.after args s (.returned v) u = true ∧ True) → FrameEnd s (.returned v) u (Jvm.fieldLocs frame_1_writes args s ++ Jvm.arrayLocs frame_1_arrays args s ++ Jvm.staticLocs frame_1_statics s) 16 128 → Post tb e args s (.returned v) u) :
    ArmFor flags0 classFile x code maxLocals ret World_1 tables_1 room_1 Calls_1 rest_1 Pre_1 Post := by
  intro l hfl _ _ p e ha hc hk s m args below hf hA hF happ hP
  obtain ⟨hcalls, hrest, hpre⟩ := hP
  obtain ⟨-, -, -, hnamed, -, -, -, hat⟩ := (Spec.applies_iff hf).mp happ
  obtain ⟨hg, hn⟩ := and_e (Cond.before_iff.mp (show (Jvm.Cond.and given_1 narrow_1).before args s = true from hpre))
  obtain ⟨h1, h2⟩ := and_e hg
  obtain ⟨w0, w1, rfl⟩ : ∃ w0 w1 : Value, args = #[w0, w1] := by
    have hs : args.size = 2 := by simpa [Cond.value, given_1] using h1
    obtain ⟨L⟩ := args
    match L, hs with
    | [w0, w1], _ => exact ⟨w0, w1, rfl⟩
  have hw : Hw #[w0, w1] s := fun d (hd : d ∈ tables_1) => atoms_spec (ws := Jvm.Cond.code x code maxLocals ret :: tables_1) hat d (List.mem_cons_of_mem _ hd)
  have hfit : Fit s := fun {y c} hc i hi => by
    obtain ⟨ha, rfl⟩ := Array.getElem?_eq_some_iff.mp hc
    have q := List.all_eq_true.mp ((Array.all_eq_true_iff_forall_mem.mp hF) _ (Array.getElem_mem ha)) i (List.mem_range.mpr hi)
    simpa [Array.getElem?_eq_getElem hi] using q
  obtain ⟨a0, h3⟩ := and_e h2
  obtain ⟨i0, e0⟩ := is_v a0
  obtain rfl : w0 = (.int i0) := Option.some.inj e0
  obtain ⟨i1, e1⟩ := is_v h3
  obtain rfl : w1 = (.int i1) := Option.some.inj e1
  obtain ⟨n1, n2⟩ := and_e hn
  obtain ⟨n3, n4⟩ := and_e n2
  obtain ⟨n5, n6⟩ := and_e n4
  have sta : ∀ f, (Cond.exactly (Term.static "com/example/persist/persist/mapping/TimeKind" f "Lcom/example/persist/persist/mapping/TimeKind;") "com/example/persist/persist/mapping/TimeKind").value #[.int i0, .int i1] s none s [] = some true → (Cond.laysStatic "com/example/persist/persist/mapping/TimeKind" f "Lcom/example/persist/persist/mapping/TimeKind;").before #[.int i0, .int i1] s = true → ∃ b, own_S s f b := fun f q r => by
    obtain ⟨b, c', cell, k, e1, -⟩ := Cond.exactly_spec (Cond.before_iff.mpr q)
    exact ⟨b, Sta.start e1 (Or.inr ⟨(w4 hw), r⟩)⟩
  obtain ⟨dt, F1⟩ := sta _ n1 (w7 hw)
  obtain ⟨no, F2⟩ := sta _ n3 (w14 hw)
  obtain ⟨tt, F3⟩ := sta _ n5 (w17 hw)
  obtain ⟨dd, F4⟩ := sta _ n6 (w20 hw)
  obtain ⟨n, o, h1, h2, h3, _, L, rfl, ⟨⟨_, rfl, rfl⟩, N⟩, hq⟩ := (law_ct l hw dt no tt dd F1 F2 F3 F4 i0 i1) tables_1 p e ha hc hk s m _ below hf ((Spec.applies_iff_loose hf).mp happ).1 ⟨rfl, State.Warmed39.refl s, rfl⟩ trivial
  exact ⟨n, _, h1, h2, h3, hpost _ _ _ _ _ _ ⟨Cond.after_iff.mpr rfl, Cond.after_iff.mpr (eq_i res_at (Term.int_eval (1)) rfl), trivial⟩ ⟨hq.1, hq.2.1, (hq.2.2.sift fun y hy => Or.inr (N y hy)).mono (by decide) (by decide)⟩⟩
theorem main_1_1 : Claimed_1_1 := comes_1 fun _ _ _ _ _ _ h hF => ⟨h.1, hF⟩
theorem main_1_2 : Claimed_1_2 := comes_1 fun _ _ _ _ _ _ h hF => ⟨h.2.1, hF⟩
end Jvm.Pilot.@@N@@
namespace Jvm.Pilot.@@N@@
open Jvm Jvm.ClassFile Sem Op Lib Jvm.Free Jvm.Stand Jvm.Pilot.@@N@@.Jvm.D
/-! MADE BY PROGRAM (witnessworld.py) out of the Statement's table words and the real class files: 12 classes; the members and pool entries that the words name. The judged class is class 1, her method 2. -/
namespace start1
open Jvm.ClassFile
def u (s : String) : CpInfo := .utf8 (stringToUtf16 s)
/-- a pool by its gaps: so many unusable entries, then the entry; so many at the end -/
def gap : Nat → List CpInfo → List CpInfo
  | 0, r => r
  | n + 1, r => .unusable :: gap n r
def poolList (es : List (Nat × CpInfo)) (last : Nat) : List CpInfo := es.foldr (fun e r => gap e.1 (e.2 :: r)) (gap last [])
def pool (es : List (Nat × CpInfo)) (last : Nat) : Array CpInfo := ⟨poolList es last⟩
def fileOf (pool : Array CpInfo) (this : Nat) (attrs : Array Attribute := #[]) (ms : Array MethodInfo := #[]) (fl : Nat := 33) (sup : Nat := 0) (ifs : Array Nat := #[]) (fds : Array FieldInfo := #[]) : ClassFile where
  minorVersion := 0
  majorVersion := 65
  constantPool := pool
  accessFlags := fl
  thisClass := this
  superClass := sup
  interfaces := ifs
  fields := fds
  methods := ms
  attributes := attrs
def plain (name : String) (sup : Option ClassId) : Class where
  name := name
  kind := .ordinary
  loader := none
  accessFlags := 33
  super := sup
  interfaces := #[]
  cf := none
  fields := #[]
  methods := #[]
  instanceTypes := #[]
  staticTypes := #[]
  resolved := #[]
  callSites := []
  init := .initialized
  statics := none
  mirror := none

def pool0 : Array CpInfo := pool [(5, u "<init>"), (0, u "()V"), (1, .class_ 10), (1, u "java/lang/Object")] 113

def k0m0 : Method := { name := "<init>", desc := "()V", sig := { parameters := [], returnType := none }, accessFlags := 1, code := none }
/-- java/lang/Object -/
def k0 : Class := { plain "java/lang/Object" none with
  accessFlags := 33
  interfaces := #[]
  cf := some (fileOf pool0 8 #[] #[{ accessFlags := 1, nameIndex := 5, descriptorIndex := 6, attributes := #[] }] 33 0 #[] #[])
  fields := #[]
  methods := #[k0m0]
  instanceTypes := #[]
  staticTypes := #[]
  resolved := Array.replicate 124 none
  statics := none }

def pool1 : Array CpInfo := pool [(2, .class_ 4), (1, u "java/lang/Object"), (0, u "<init>"), (0, u "()V"), (0, .fieldref 8 9), (0, .class_ 10), (0, .nameAndType 11 12), (0, u "com/example/persist/persist/mapping/TimeKind"), (0, u "DATE_AND_TIME"), (0, u "Lcom/example/persist/persist/mapping/TimeKind;"), (0, .fieldref 8 14), (0, .nameAndType 15 12), (0, u "DATE"), (0, .fieldref 8 17), (0, .nameAndType 18 12), (0, u "TIME_OF_DAY"), (0, .fieldref 8 20), (0, .nameAndType 21 12), (0, u "NONE"), (0, .integer 2147483647), (0, .methodref 8 24), (0, .nameAndType 25 26), (0, u "ofSqlType"), (0, u "(I)Lcom/example/persist/persist/mapping/TimeKind;"), (0, .methodref 28 29), (0, .class_ 30), (0, .nameAndType 31 26), (0, u "com/example/persist/persist/mapping/TimeKindOfSqlTypePinLaw"), (0, u "expected"), (3, u "law"), (0, u "(II)Z")] 4

def k1m0 : Method := { name := "<init>", desc := "()V", sig := { parameters := [], returnType := none }, accessFlags := 2, code := none }
def k1c1 : Code := { maxStack := 2, maxLocals := 1, code := method_2_code, exceptionTable := #[], attributes := #[] }
def k1m1 : Method := { name := "expected", desc := "(I)Lcom/example/persist/persist/mapping/TimeKind;", sig := { parameters := [.int], returnType := some (.object "com/example/persist/persist/mapping/TimeKind") }, accessFlags := 10, code := some k1c1 }
def k1c2 : Code := { maxStack := 4, maxLocals := 6, code := code, exceptionTable := #[], attributes := #[] }
def k1m2 : Method := { name := "law", desc := "(II)Z", sig := { parameters := [.int, .int], returnType := some .boolean }, accessFlags := 9, code := some k1c2 }
/-- com/example/persist/persist/mapping/TimeKindOfSqlTypePinLaw -/
def k1 : Class := { plain "com/example/persist/persist/mapping/TimeKindOfSqlTypePinLaw" (some 0) with
  accessFlags := 49
  interfaces := #[]
  cf := some (fileOf pool1 28 #[] #[{ accessFlags := 2, nameIndex := 5, descriptorIndex := 6, attributes := #[] }, { accessFlags := 10, nameIndex := 31, descriptorIndex := 26, attributes := #[] }, { accessFlags := 9, nameIndex := 35, descriptorIndex := 36, attributes := #[] }] 49 2 #[] #[])
  fields := #[]
  methods := #[k1m0, k1m1, k1m2]
  instanceTypes := #[]
  staticTypes := #[]
  resolved := Array.replicate 41 none
  statics := none }

def pool2 : Array CpInfo := pool [(1, .class_ 2), (0, u "java/lang/constant/Constable"), (0, .class_ 4), (0, u "java/lang/Object")] 6

/-- java/lang/constant/Constable -/
def k2 : Class := { plain "java/lang/constant/Constable" (some 0) with
  accessFlags := 1537
  interfaces := #[]
  cf := some (fileOf pool2 1 #[] #[] 1537 3 #[] #[])
  fields := #[]
  methods := #[]
  instanceTypes := #[]
  staticTypes := #[]
  resolved := Array.replicate 11 none
  statics := none }

def pool3 : Array CpInfo := pool [(1, .class_ 2), (0, u "java/lang/Comparable"), (0, .class_ 4), (0, u "java/lang/Object")] 7

/-- java/lang/Comparable -/
def k3 : Class := { plain "java/lang/Comparable" (some 0) with
  accessFlags := 1537
  interfaces := #[]
  cf := some (fileOf pool3 1 #[] #[] 1537 3 #[] #[])
  fields := #[]
  methods := #[]
  instanceTypes := #[]
  staticTypes := #[]
  resolved := Array.replicate 12 none
  statics := none }

def pool4 : Array CpInfo := pool [(1, .class_ 2), (0, u "java/io/Serializable"), (0, .class_ 4), (0, u "java/lang/Object")] 2

/-- java/io/Serializable -/
def k4 : Class := { plain "java/io/Serializable" (some 0) with
  accessFlags := 1537
  interfaces := #[]
  cf := some (fileOf pool4 1 #[] #[] 1537 3 #[] #[])
  fields := #[]
  methods := #[]
  instanceTypes := #[]
  staticTypes := #[]
  resolved := Array.replicate 7 none
  statics := none }

def pool5 : Array CpInfo := pool [(2, .class_ 4), (1, u "java/lang/Enum"), (0, u "name"), (0, u "Ljava/lang/String;"), (2, u "ordinal"), (0, u "I"), (1, .class_ 14), (1, u "java/lang/Object"), (4, u "hash"), (86, .class_ 108), (1, u "java/lang/Enum$EnumDesc"), (2, .class_ 112), (0, u "java/lang/constant/Constable"), (0, .class_ 114), (0, u "java/lang/Comparable"), (0, .class_ 116), (0, u "java/io/Serializable")] 87

/-- java/lang/Enum -/
def k5 : Class := { plain "java/lang/Enum" (some 0) with
  accessFlags := 1057
  interfaces := #[2, 3, 4]
  cf := some (fileOf pool5 2 #[.nestMembers #[106]] #[] 1057 12 #[111, 113, 115] #[{ accessFlags := 18, nameIndex := 5, descriptorIndex := 6, attributes := #[] }, { accessFlags := 18, nameIndex := 9, descriptorIndex := 10, attributes := #[] }, { accessFlags := 2, nameIndex := 19, descriptorIndex := 10, attributes := #[] }])
  fields := #[{ name := "name", type := (.object "java/lang/String"), accessFlags := 18, slot := 0, constantValue := 0 }, { name := "ordinal", type := .int, accessFlags := 18, slot := 1, constantValue := 0 }, { name := "hash", type := .int, accessFlags := 2, slot := 2, constantValue := 0 }]
  methods := #[]
  instanceTypes := #[(.object "java/lang/String"), .int, .int]
  staticTypes := #[]
  resolved := Array.replicate 204 none
  statics := none }

def pool6 : Array CpInfo := pool [(1, .class_ 2), (0, u "com/example/persist/persist/mapping/TimeKind"), (0, .fieldref 1 4), (0, .nameAndType 5 6), (0, u "DATE_AND_TIME"), (0, u "Lcom/example/persist/persist/mapping/TimeKind;"), (0, .fieldref 1 8), (0, .nameAndType 9 6), (0, u "DATE"), (0, .fieldref 1 11), (0, .nameAndType 12 6), (0, u "TIME_OF_DAY"), (0, .fieldref 1 14), (0, .nameAndType 15 6), (0, u "NONE"), (2, u "$VALUES"), (0, u "[Lcom/example/persist/persist/mapping/TimeKind;"), (6, .class_ 28), (1, u "java/lang/Enum"), (8, u "held"), (0, u "Ljava/lang/String;"), (26, u "ofSqlType"), (0, u "(I)Lcom/example/persist/persist/mapping/TimeKind;")] 7

def k6c0 : Code := { maxStack := 1, maxLocals := 1, code := prog_16_method_4_code, exceptionTable := #[], attributes := #[] }
def k6m0 : Method := { name := "ofSqlType", desc := "(I)Lcom/example/persist/persist/mapping/TimeKind;", sig := { parameters := [.int], returnType := some (.object "com/example/persist/persist/mapping/TimeKind") }, accessFlags := 9, code := some k6c0 }
/-- com/example/persist/persist/mapping/TimeKind -/
def k6 : Class := { plain "com/example/persist/persist/mapping/TimeKind" (some 5) with
  accessFlags := 16433
  interfaces := #[]
  cf := some (fileOf pool6 1 #[] #[{ accessFlags := 9, nameIndex := 65, descriptorIndex := 66, attributes := #[] }] 16433 26 #[] #[{ accessFlags := 16409, nameIndex := 5, descriptorIndex := 6, attributes := #[] }, { accessFlags := 16409, nameIndex := 9, descriptorIndex := 6, attributes := #[] }, { accessFlags := 16409, nameIndex := 12, descriptorIndex := 6, attributes := #[] }, { accessFlags := 16409, nameIndex := 15, descriptorIndex := 6, attributes := #[] }, { accessFlags := 18, nameIndex := 37, descriptorIndex := 38, attributes := #[] }, { accessFlags := 4122, nameIndex := 18, descriptorIndex := 19, attributes := #[] }])
  fields := #[{ name := "DATE_AND_TIME", type := (.object "com/example/persist/persist/mapping/TimeKind"), accessFlags := 16409, slot := 0, constantValue := 0 }, { name := "DATE", type := (.object "com/example/persist/persist/mapping/TimeKind"), accessFlags := 16409, slot := 1, constantValue := 0 }, { name := "TIME_OF_DAY", type := (.object "com/example/persist/persist/mapping/TimeKind"), accessFlags := 16409, slot := 2, constantValue := 0 }, { name := "NONE", type := (.object "com/example/persist/persist/mapping/TimeKind"), accessFlags := 16409, slot := 3, constantValue := 0 }, { name := "held", type := (.object "java/lang/String"), accessFlags := 18, slot := 3, constantValue := 0 }, { name := "$VALUES", type := (.array (.object "com/example/persist/persist/mapping/TimeKind")), accessFlags := 4122, slot := 4, constantValue := 0 }]
  methods := #[k6m0]
  instanceTypes := #[(.object "java/lang/String"), .int, .int, (.object "java/lang/String")]
  staticTypes := #[(.object "com/example/persist/persist/mapping/TimeKind"), (.object "com/example/persist/persist/mapping/TimeKind"), (.object "com/example/persist/persist/mapping/TimeKind"), (.object "com/example/persist/persist/mapping/TimeKind"), (.array (.object "com/example/persist/persist/mapping/TimeKind"))]
  resolved := Array.replicate 74 none
  statics := some 0 }

def pool7 : Array CpInfo := pool [(1, u "java/lang/Cloneable"), (0, .class_ 1), (0, u "java/lang/Object"), (0, .class_ 3)] 3

/-- java/lang/Cloneable -/
def k7 : Class := { plain "java/lang/Cloneable" (some 0) with
  accessFlags := 1537
  interfaces := #[]
  cf := some (fileOf pool7 2 #[] #[] 1537 4 #[] #[])
  fields := #[]
  methods := #[]
  instanceTypes := #[]
  staticTypes := #[]
  resolved := Array.replicate 8 none
  statics := none }

/-- the primitive byte -/
def k8 : Class := { plain "byte" none with kind := .primitive 'B', accessFlags := 0x411 }
/-- [B -/
def k9 : Class := { plain "[B" (some 0) with kind := .array 8 .byte, interfaces := #[7, 4], accessFlags := 1041 }

/-- the primitive int -/
def k10 : Class := { plain "int" none with kind := .primitive 'I', accessFlags := 0x411 }
/-- [I -/
def k11 : Class := { plain "[I" (some 0) with kind := .array 10 .int, interfaces := #[7, 4], accessFlags := 1041 }

def heap : Heap := #[{ cls := 6, slots := #[.ref 1, .ref 4, .ref 3, .ref 2, .null], vm := .statics 6 },
  { cls := 6, slots := #[.null, .int 0, .int 0, .null], vm := .none },
  { cls := 6, slots := #[.null, .int 0, .int 0, .null], vm := .none },
  { cls := 6, slots := #[.null, .int 0, .int 0, .null], vm := .none },
  { cls := 6, slots := #[.null, .int 0, .int 0, .null], vm := .none }]
def classes : Array Class := #[k0, k1, k2, k3, k4, k5, k6, k7, k8, k9, k10, k11]
def interned : List (Array UInt16 × Addr) := []
def slotsUsed : Nat := 21
def theMethod : MethodId := ⟨1, 2⟩
def args0 : Array Value := #[.int 5, .int 7]
def aboutOver (below : List Frame) : State where
  vm := { classes := classes, interned := interned.toArray }
  heap := heap
  slotsUsed := slotsUsed
  threads := #[{ frames := .invoking theMethod args0 :: below }]
def below0 : List Frame := [.native { method := ⟨0, 0⟩, args := #[] }]
def about1 : State := aboutOver below0
def p0 : Program := .bare "" "" ""
def e0 : Env := launch0.env 0 0 0
theorem w_frames : about1.frames = Frame.invoking theMethod args0 :: below0 := rfl
set_option maxRecDepth 65536 in
theorem w_args : argsFit about1.vm theMethod args0 = true := by decide +kernel
set_option maxRecDepth 65536 in
theorem w_heap : heapFits about1 = true := by decide +kernel
set_option maxRecDepth 65536 in
theorem w_runnable : about1.curStatus? = some .runnable := by decide +kernel
set_option maxRecDepth 65536 in
theorem w_alone : about1.alone = true := by decide +kernel
set_option maxRecDepth 65536 in
theorem w_named : about1.methodNamed? x = some theMethod := by decide +kernel
set_option maxRecDepth 65536 in
theorem w_hears : about1.hears theMethod below0 = true := by decide +kernel
set_option maxRecDepth 65536 in
theorem w_ripe : about1.ripe theMethod args0 below0 = true := by decide +kernel
theorem w_running : about1.status = .running := rfl
set_option maxRecDepth 65536 in
theorem w_room : about1.hasRoom e0.platform room_1 = true :=
  launch0.hasRoom_least _ room_1 (by decide +kernel) (by decide +kernel) (by decide +kernel) (by decide +kernel) (by decide +kernel) (by decide +kernel)
theorem allAtoms_all (ts : List Jvm.Cond) (a : Array Jvm.Value) (st : Jvm.State) : (allAtoms ts).before a st = ts.all (fun c => c.before a st) := by
  induction ts with
  | nil => rfl
  | cons c t ih =>
    show (Jvm.Cond.and c (allAtoms t)).before a st = _
    rw [Jvm.Cond.before_and, ih, List.all_cons]
def words1 : List Jvm.Cond := Jvm.Cond.code x code maxLocals ret :: tables_1
/-- a 'code' word, met by the world's own term for the bytes: nothing is compared byte by byte -/
theorem code_word {y : MethodName} {bytes : ByteArray} {mx : Nat} {rt : Option FieldType} {a : Array Value} {s : State} {m : MethodId} {meth : Method} {c : Code} (h1 : s.methodNamed? y = some m) (h2 : s.vm.method? m = some meth) (h3 : meth.code = some c) (h4 : c.code = bytes)
    (h5 : (c.maxLocals == mx && c.exceptionTable.isEmpty && decide (c.maxStack ≤ mostOperands) && decide (meth.sig.returnType = rt) && !meth.locks && decide (parseMethodDescriptor y.desc = some meth.sig)) = true) : (Jvm.Cond.code y bytes mx rt).before a s = true := by
  simp only [Bool.and_eq_true, beq_iff_eq, Bool.not_eq_true', decide_eq_true_eq] at h5
  obtain ⟨⟨⟨⟨⟨g1, g2⟩, g3⟩, g4⟩, g5⟩, g6⟩ := h5
  simp [Cond.before, Cond.holds, Cond.value, h1, h2, h3, h4, g1, g2, g3, g4, g5, g6]
def isCode : Jvm.Cond → Bool
  | .code _ _ _ _ => true
  | _ => false
theorem all_split {L : List Jvm.Cond} {P : Jvm.Cond → Bool} (h1 : L.all (fun c => isCode c || P c) = true) (h2 : ∀ c ∈ L.filter isCode, P c = true) : L.all P = true := by
  refine List.all_eq_true.mpr fun c hc => ?_
  have h := List.all_eq_true.mp h1 c hc
  rcases Bool.eq_false_or_eq_true (isCode c) with hi | hi
  · exact h2 c (List.mem_filter.mpr ⟨hc, hi⟩)
  · simpa [hi] using h
set_option maxRecDepth 65536 in
theorem w_c0 : (Jvm.Cond.code x code maxLocals ret).before args0 about1 = true := code_word (m := ⟨1, 2⟩) (meth := k1m2) (c := k1c2) (by decide +kernel) rfl rfl rfl (by decide +kernel)
set_option maxRecDepth 65536 in
theorem w_c1 : (Jvm.Cond.code ({ cls := "com/example/persist/persist/mapping/TimeKind", name := "ofSqlType", desc := "(I)Lcom/example/persist/persist/mapping/TimeKind;" } : Jvm.MethodName) prog_16_method_4_code (1 : Nat) (Option.some (Jvm.ClassFile.FieldType.object "com/example/persist/persist/mapping/TimeKind"))).before args0 about1 = true := code_word (m := ⟨6, 0⟩) (meth := k6m0) (c := k6c0) (by decide +kernel) rfl rfl rfl (by decide +kernel)
set_option maxRecDepth 65536 in
theorem w_c2 : (Jvm.Cond.code ({ cls := "com/example/persist/persist/mapping/TimeKindOfSqlTypePinLaw", name := "expected", desc := "(I)Lcom/example/persist/persist/mapping/TimeKind;" } : Jvm.MethodName) method_2_code (1 : Nat) (Option.some (Jvm.ClassFile.FieldType.object "com/example/persist/persist/mapping/TimeKind"))).before args0 about1 = true := code_word (m := ⟨1, 1⟩) (meth := k1m1) (c := k1c1) (by decide +kernel) rfl rfl rfl (by decide +kernel)
def codes1 : List Jvm.Cond := [Jvm.Cond.code x code maxLocals ret, Jvm.Cond.code ({ cls := "com/example/persist/persist/mapping/TimeKind", name := "ofSqlType", desc := "(I)Lcom/example/persist/persist/mapping/TimeKind;" } : Jvm.MethodName) prog_16_method_4_code (1 : Nat) (Option.some (Jvm.ClassFile.FieldType.object "com/example/persist/persist/mapping/TimeKind")), Jvm.Cond.code ({ cls := "com/example/persist/persist/mapping/TimeKindOfSqlTypePinLaw", name := "expected", desc := "(I)Lcom/example/persist/persist/mapping/TimeKind;" } : Jvm.MethodName) method_2_code (1 : Nat) (Option.some (Jvm.ClassFile.FieldType.object "com/example/persist/persist/mapping/TimeKind"))]
set_option maxRecDepth 65536 in
theorem codes_eq : words1.filter isCode = codes1 := rfl
theorem w_codes : ∀ c ∈ words1.filter isCode, c.before args0 about1 = true := by
  rw [codes_eq]
  intro c hc
  simp only [codes1, List.mem_cons, List.not_mem_nil, or_false] at hc
  rcases hc with rfl | rfl | rfl
  · exact w_c0
  · exact w_c1
  · exact w_c2
set_option maxRecDepth 65536 in
theorem w_t1 : words1.all (fun c => isCode c || c.before args0 about1) = true := by decide +kernel
theorem w_tables : (allAtoms (Jvm.Cond.code x code maxLocals ret :: tables_1)).before args0 about1 = true := by
  rw [allAtoms_all]
  show words1.all (fun c => c.before args0 about1) = true
  refine all_split ?_ w_codes
  rw [w_t1]
set_option maxRecDepth 65536 in
theorem w_case : (Jvm.Cond.and given_1 narrow_1).before args0 about1 = true := by decide +kernel
theorem w_applies : (headSpec (Jvm.Cond.code x code maxLocals ret :: tables_1) room_1).applies x e0.platform about1 = true :=
  (Spec.applies_iff w_frames).mpr ⟨w_running, w_runnable, w_alone, w_named, w_hears, w_ripe, w_room, w_tables⟩
theorem atStart : AtStart classFile x code maxLocals ret World_1 tables_1 room_1 Calls_1 rest_1 Pre_1 launch0 p0 e0 about1 theMethod args0 below0 :=
  ⟨lists_1, trivial, launch0.admits_env _ _ _, launch0.least_env, fairChoices_fair.cas, fairChoices_fair.clock, w_frames, w_args, w_heap, w_applies, trivial, trivial, w_case⟩
end start1
theorem witness_1 : WitnessClaimed_1 := ⟨start1.p0, start1.e0, start1.about1, start1.theMethod, start1.args0, start1.below0, start1.atStart⟩
end Jvm.Pilot.@@N@@
