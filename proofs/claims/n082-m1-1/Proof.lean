import JvmDerived
import JvmDerived.Pilot.@@N@@Statement
import JvmDerived.Pilot.@@N@@Code
set_option linter.unusedVariables false
set_option linter.unusedSimpArgs false
@@BLOCK:NumsL.lean.txt@@
namespace Jvm.OwnGo
open Jvm Jvm.ClassFile Sem Op Lib Jvm.Free Jvm.Stand Jvm.LawKit Jvm.RoadKit
/-- from T with the frame g on top the run comes to an end of which En holds -/
def Go (p : Program) (e : Env) (below : List Frame) (En : State → Outcome → Prop) (T : State) (g : JFrame) : Prop :=
  ∃ t o, Steps p.tables e below (T.setTop g) t ∧ t.status = .running ∧ Ended t below o ∧ En t o
/-- it has returned; the value, the heap and the written places meet Q; at most C cells and S slots were made since s -/
def EndN (s : State) (Q : Option Value → Heap → List Loc → Prop) (C S : Nat) : State → Outcome → Prop := fun t o => ∃ v L, o = .returned v ∧ Q v t.heap L ∧ FrameEnd s o t L C S
/-- what a callee's own walk promises -/
def Con (l : Launch) (Z : State) (y : MethodName) (bytes : ByteArray) (maxL : Nat) (ret : Option FieldType) (rm : Room) (as : List Value) (h : Heap) (Q : Option Value → Heap → List Loc → Prop) : Prop :=
  ∀ ws : List Jvm.Cond, MetFree l y (head1 (Jvm.Cond.code y bytes maxL ret :: ws) rm) (fun a U => a = as.toArray ∧ Z.Warmed39 U.vm ∧ U.heap = h) (fun _ _ _ _ _ => True) (fun _ U o U' => ∃ v L, o = .returned v ∧ Q v U'.heap L ∧ FrameEnd U o U' L rm.cells rm.slots)
/-- it returns r and leaves the heap as it was -/
def Ret (r : Option Value) (h : Heap) : Option Value → Heap → List Loc → Prop := fun v h' L => v = r ∧ h' = h ∧ L = []
section Own
variable {p : Program} {l : Launch} {e : Env} {R : Room} {s : State} {m : MethodId} {args : Array Value} {below : List Frame} {meth : Method} {c : Code} {T : State} {locs : List Loc} {cells slots : Nat} {Z : State} {a0 : Array Value} {h : Heap} {Q : Option Value → Heap → List Loc → Prop} {C S : Nat} {En : State → Outcome → Prop} {pc : Nat} {Ls : Array Slot} {st : List Value}
theorem Go.of {T' : State} {g g' : JFrame} (k : ∀ t, Steps p.tables e below (T'.setTop g') t → Steps p.tables e below (T.setTop g) t) (r : Go p e below En T' g') : Go p e below En T g := by
  obtain ⟨t, o, h1, r⟩ := r
  exact ⟨t, o, k t h1, r⟩
theorem Con.of {y : MethodName} {bytes : ByteArray} {maxL : Nat} {ret : Option FieldType} {rm : Room} {as : List Value} {Ls0 : Array Slot} (hp : plainFor y = true) (ef : ∀ m, entryFrame m as.toArray maxL = mkF m 0 Ls0 [])
    (body : ∀ (p : Program) (e : Env) (s : State) (m : MethodId) (below : List Frame) (meth : Method) (c : Code) (T : State), Stand p l e rm s m as.toArray below meth c T [] 0 0 → p.tables.exec = Jvm.exec → Z.Warmed39 s.vm → c.code = bytes → c.maxLocals = maxL → s.vm.findClass y.cls = some m.cls → meth.name = y.name → meth.sig.returnType = ret → meth.locks = false → T.heap = h → Go p e below (EndN s Q rm.cells rm.slots) T (mkF m 0 Ls0 [])) :
    Con l Z y bytes maxL ret rm as h Q := by
  intro ws
  refine MetFree.of_bodySF hp hisR ?_
  intro p e s m args below meth c s₁ Bd hml0 hP hK
  obtain ⟨rfl, hZ, hh⟩ := hP
  have X0 : Stand p l e rm s m as.toArray below meth c s₁ [] 0 0 := Stand.of_body Bd
  have e0 : s₁.heap = h := by rw [← hh, Bd.state]; rfl
  obtain ⟨t, o, h1, r⟩ := body p e s m below meth c s₁ X0 Bd.exec hZ Bd.bytes hml0 (findClass_of_methodNamed Bd.named) (name_of_methodNamed Bd.named Bd.method).1 Bd.returns Bd.notSynchronized e0
  exact ⟨t, o, castTop (ef m) h1, r⟩
theorem iloadN (X : Stand p l e R s m args below meth c T locs cells slots) (hx : p.tables.exec = Jvm.exec) {k : Fin 4} {v : Int32} (hd : decode c.code pc = .ok (.iload_n k, 1)) (hl : Ls[k.val]? = some (.val (.int v))) (r : Go p e below En T (mkF m (pc + 1) Ls (.int v :: st))) : Go p e below En T (mkF m pc Ls st) :=
  Go.of (fun t k => XS.iloadN (g := mkF m pc Ls st) X.here hx rfl hd hl k) r
theorem lloadN (X : Stand p l e R s m args below meth c T locs cells slots) (hx : p.tables.exec = Jvm.exec) {k : Fin 4} {v : Int64} (hd : decode c.code pc = .ok (.lload_n k, 1)) (hl : Ls[k.val]? = some (.val (.long v))) (r : Go p e below En T (mkF m (pc + 1) Ls (.long v :: st))) : Go p e below En T (mkF m pc Ls st) :=
  Go.of (fun t k => XS.lloadN (g := mkF m pc Ls st) X.here hx rfl hd hl k) r
theorem aloadN (X : Stand p l e R s m args below meth c T locs cells slots) (hx : p.tables.exec = Jvm.exec) {k : Fin 4} {v : Value} (hd : decode c.code pc = .ok (.aload_n k, 1)) (hl : Ls[k.val]? = some (.val v)) (hv : v.isRef = true) (r : Go p e below En T (mkF m (pc + 1) Ls (v :: st))) : Go p e below En T (mkF m pc Ls st) :=
  Go.of (fun t k => XS.aloadN (g := mkF m pc Ls st) X.here hx rfl hd hl hv k) r
theorem istoreN (X : Stand p l e R s m args below meth c T locs cells slots) (hx : p.tables.exec = Jvm.exec) {k : Fin 4} {v : Int32} {Ls' : Array Slot} (hd : decode c.code pc = .ok (.istore_n k, 1)) (hl : storeLocals Ls k.val (.int v) = some Ls') (r : Go p e below En T (mkF m (pc + 1) Ls' st)) : Go p e below En T (mkF m pc Ls (.int v :: st)) :=
  Go.of (fun t k => XS.istoreN (g := mkF m pc Ls (.int v :: st)) X.here hx rfl hd rfl hl k) r
theorem lstoreN (X : Stand p l e R s m args below meth c T locs cells slots) (hx : p.tables.exec = Jvm.exec) {k : Fin 4} {v : Int64} {Ls' : Array Slot} (hd : decode c.code pc = .ok (.lstore_n k, 1)) (hl : storeLocals Ls k.val (.long v) = some Ls') (r : Go p e below En T (mkF m (pc + 1) Ls' st)) : Go p e below En T (mkF m pc Ls (.long v :: st)) :=
  Go.of (fun t k => XS.lstoreN (g := mkF m pc Ls (.long v :: st)) X.here hx rfl hd rfl hl k) r
theorem astoreN (X : Stand p l e R s m args below meth c T locs cells slots) (hx : p.tables.exec = Jvm.exec) {k : Fin 4} {v : Value} {Ls' : Array Slot} (hd : decode c.code pc = .ok (.astore_n k, 1)) (hv : v.isRef = true) (hl : storeLocals Ls k.val v = some Ls') (r : Go p e below En T (mkF m (pc + 1) Ls' st)) : Go p e below En T (mkF m pc Ls (v :: st)) :=
  Go.of (fun t k => XS.astoreN (g := mkF m pc Ls (v :: st)) X.here hx rfl hd rfl hv hl k) r
theorem iload (X : Stand p l e R s m args below meth c T locs cells slots) (hx : p.tables.exec = Jvm.exec) {k : Nat} {v : Int32} (hd : decode c.code pc = .ok (.iload k, 2)) (hl : Ls[k]? = some (.val (.int v))) (r : Go p e below En T (mkF m (pc + 2) Ls (.int v :: st))) : Go p e below En T (mkF m pc Ls st) :=
  Go.of (fun t k => XS.iload (g := mkF m pc Ls st) X.here hx rfl hd hl k) r
theorem lload (X : Stand p l e R s m args below meth c T locs cells slots) (hx : p.tables.exec = Jvm.exec) {k : Nat} {v : Int64} (hd : decode c.code pc = .ok (.lload k, 2)) (hl : Ls[k]? = some (.val (.long v))) (r : Go p e below En T (mkF m (pc + 2) Ls (.long v :: st))) : Go p e below En T (mkF m pc Ls st) :=
  Go.of (fun t k => XS.lload (g := mkF m pc Ls st) X.here hx rfl hd hl k) r
theorem aload (X : Stand p l e R s m args below meth c T locs cells slots) (hx : p.tables.exec = Jvm.exec) {k : Nat} {v : Value} (hd : decode c.code pc = .ok (.aload k, 2)) (hl : Ls[k]? = some (.val v)) (hv : v.isRef = true) (r : Go p e below En T (mkF m (pc + 2) Ls (v :: st))) : Go p e below En T (mkF m pc Ls st) :=
  Go.of (fun t k => XS.aload (g := mkF m pc Ls st) X.here hx rfl hd hl hv k) r
theorem istore (X : Stand p l e R s m args below meth c T locs cells slots) (hx : p.tables.exec = Jvm.exec) {k : Nat} {v : Int32} {Ls' : Array Slot} (hd : decode c.code pc = .ok (.istore k, 2)) (hl : storeLocals Ls k (.int v) = some Ls') (r : Go p e below En T (mkF m (pc + 2) Ls' st)) : Go p e below En T (mkF m pc Ls (.int v :: st)) :=
  Go.of (fun t k => XS.istore (g := mkF m pc Ls (.int v :: st)) X.here hx rfl hd rfl hl k) r
theorem lstore (X : Stand p l e R s m args below meth c T locs cells slots) (hx : p.tables.exec = Jvm.exec) {k : Nat} {v : Int64} {Ls' : Array Slot} (hd : decode c.code pc = .ok (.lstore k, 2)) (hl : storeLocals Ls k (.long v) = some Ls') (r : Go p e below En T (mkF m (pc + 2) Ls' st)) : Go p e below En T (mkF m pc Ls (.long v :: st)) :=
  Go.of (fun t k => XS.lstore (g := mkF m pc Ls (.long v :: st)) X.here hx rfl hd rfl hl k) r
theorem astore (X : Stand p l e R s m args below meth c T locs cells slots) (hx : p.tables.exec = Jvm.exec) {k : Nat} {v : Value} {Ls' : Array Slot} (hd : decode c.code pc = .ok (.astore k, 2)) (hv : v.isRef = true) (hl : storeLocals Ls k v = some Ls') (r : Go p e below En T (mkF m (pc + 2) Ls' st)) : Go p e below En T (mkF m pc Ls (v :: st)) :=
  Go.of (fun t k => XS.astore (g := mkF m pc Ls (v :: st)) X.here hx rfl hd rfl hv hl k) r
theorem iconst (X : Stand p l e R s m args below meth c T locs cells slots) (hx : p.tables.exec = Jvm.exec) {i : Int} {z : Int32} (hd : decode c.code pc = .ok (.iconst i, 1)) (hz : Int32.ofInt i = z) (r : Go p e below En T (mkF m (pc + 1) Ls (.int z :: st))) : Go p e below En T (mkF m pc Ls st) :=
  Go.of (fun t k => XS.iconst (g := mkF m pc Ls st) X.here hx rfl hd (by rw [hz]; exact k)) r
theorem bipush (X : Stand p l e R s m args below meth c T locs cells slots) (hx : p.tables.exec = Jvm.exec) {i : Int} {z : Int32} (hd : decode c.code pc = .ok (.bipush i, 2)) (hz : (Int8.ofInt i).toInt32 = z) (r : Go p e below En T (mkF m (pc + 2) Ls (.int z :: st))) : Go p e below En T (mkF m pc Ls st) :=
  Go.of (fun t k => XS.bipush (g := mkF m pc Ls st) X.here hx rfl hd (by rw [hz]; exact k)) r
theorem sipush (X : Stand p l e R s m args below meth c T locs cells slots) (hx : p.tables.exec = Jvm.exec) {i : Int} {z : Int32} (hd : decode c.code pc = .ok (.sipush i, 3)) (hz : (Int16.ofInt i).toInt32 = z) (r : Go p e below En T (mkF m (pc + 3) Ls (.int z :: st))) : Go p e below En T (mkF m pc Ls st) :=
  Go.of (fun t k => XS.sipush (g := mkF m pc Ls st) X.here hx rfl hd (by rw [hz]; exact k)) r
theorem lconst (X : Stand p l e R s m args below meth c T locs cells slots) (hx : p.tables.exec = Jvm.exec) {i : Fin 2} {v : Int64} (hd : decode c.code pc = .ok (.lconst i, 1)) (hv : Int64.ofNat i.val = v) (r : Go p e below En T (mkF m (pc + 1) Ls (.long v :: st))) : Go p e below En T (mkF m pc Ls st) :=
  Go.of (fun t k => XS.lconst (g := mkF m pc Ls st) X.here hx rfl hd (by rw [hv]; exact k)) r
theorem aconstNull (X : Stand p l e R s m args below meth c T locs cells slots) (hx : p.tables.exec = Jvm.exec)  (hd : decode c.code pc = .ok (.aconst_null, 1))  (r : Go p e below En T (mkF m (pc + 1) Ls (.null :: st))) : Go p e below En T (mkF m pc Ls st) :=
  Go.of (fun t k => XS.aconstNull (g := mkF m pc Ls st) X.here hx rfl hd k) r
theorem iadd (X : Stand p l e R s m args below meth c T locs cells slots) (hx : p.tables.exec = Jvm.exec) {x y z : Int32} (hd : decode c.code pc = .ok (.iadd, 1)) (hz : x + y = z) (r : Go p e below En T (mkF m (pc + 1) Ls (.int z :: st))) : Go p e below En T (mkF m pc Ls (.int y :: .int x :: st)) :=
  Go.of (fun t k => XS.iadd (g := mkF m pc Ls (.int y :: .int x :: st)) X.here hx rfl hd rfl (by rw [hz]; exact k)) r
theorem isub (X : Stand p l e R s m args below meth c T locs cells slots) (hx : p.tables.exec = Jvm.exec) {x y z : Int32} (hd : decode c.code pc = .ok (.isub, 1)) (hz : x - y = z) (r : Go p e below En T (mkF m (pc + 1) Ls (.int z :: st))) : Go p e below En T (mkF m pc Ls (.int y :: .int x :: st)) :=
  Go.of (fun t k => XS.isub (g := mkF m pc Ls (.int y :: .int x :: st)) X.here hx rfl hd rfl (by rw [hz]; exact k)) r
theorem imul (X : Stand p l e R s m args below meth c T locs cells slots) (hx : p.tables.exec = Jvm.exec) {x y z : Int32} (hd : decode c.code pc = .ok (.imul, 1)) (hz : x * y = z) (r : Go p e below En T (mkF m (pc + 1) Ls (.int z :: st))) : Go p e below En T (mkF m pc Ls (.int y :: .int x :: st)) :=
  Go.of (fun t k => XS.imul (g := mkF m pc Ls (.int y :: .int x :: st)) X.here hx rfl hd rfl (by rw [hz]; exact k)) r
theorem iand (X : Stand p l e R s m args below meth c T locs cells slots) (hx : p.tables.exec = Jvm.exec) {x y z : Int32} (hd : decode c.code pc = .ok (.iand, 1)) (hz : x &&& y = z) (r : Go p e below En T (mkF m (pc + 1) Ls (.int z :: st))) : Go p e below En T (mkF m pc Ls (.int y :: .int x :: st)) :=
  Go.of (fun t k => XS.iand (g := mkF m pc Ls (.int y :: .int x :: st)) X.here hx rfl hd rfl (by rw [hz]; exact k)) r
theorem ior (X : Stand p l e R s m args below meth c T locs cells slots) (hx : p.tables.exec = Jvm.exec) {x y z : Int32} (hd : decode c.code pc = .ok (.ior, 1)) (hz : x ||| y = z) (r : Go p e below En T (mkF m (pc + 1) Ls (.int z :: st))) : Go p e below En T (mkF m pc Ls (.int y :: .int x :: st)) :=
  Go.of (fun t k => XS.ior (g := mkF m pc Ls (.int y :: .int x :: st)) X.here hx rfl hd rfl (by rw [hz]; exact k)) r
theorem ixor (X : Stand p l e R s m args below meth c T locs cells slots) (hx : p.tables.exec = Jvm.exec) {x y z : Int32} (hd : decode c.code pc = .ok (.ixor, 1)) (hz : x ^^^ y = z) (r : Go p e below En T (mkF m (pc + 1) Ls (.int z :: st))) : Go p e below En T (mkF m pc Ls (.int y :: .int x :: st)) :=
  Go.of (fun t k => XS.ixor (g := mkF m pc Ls (.int y :: .int x :: st)) X.here hx rfl hd rfl (by rw [hz]; exact k)) r
theorem ladd (X : Stand p l e R s m args below meth c T locs cells slots) (hx : p.tables.exec = Jvm.exec) {x y z : Int64} (hd : decode c.code pc = .ok (.ladd, 1)) (hz : x + y = z) (r : Go p e below En T (mkF m (pc + 1) Ls (.long z :: st))) : Go p e below En T (mkF m pc Ls (.long y :: .long x :: st)) :=
  Go.of (fun t k => XS.ladd (g := mkF m pc Ls (.long y :: .long x :: st)) X.here hx rfl hd rfl (by rw [hz]; exact k)) r
theorem lsub (X : Stand p l e R s m args below meth c T locs cells slots) (hx : p.tables.exec = Jvm.exec) {x y z : Int64} (hd : decode c.code pc = .ok (.lsub, 1)) (hz : x - y = z) (r : Go p e below En T (mkF m (pc + 1) Ls (.long z :: st))) : Go p e below En T (mkF m pc Ls (.long y :: .long x :: st)) :=
  Go.of (fun t k => XS.lsub (g := mkF m pc Ls (.long y :: .long x :: st)) X.here hx rfl hd rfl (by rw [hz]; exact k)) r
theorem lmul (X : Stand p l e R s m args below meth c T locs cells slots) (hx : p.tables.exec = Jvm.exec) {x y z : Int64} (hd : decode c.code pc = .ok (.lmul, 1)) (hz : x * y = z) (r : Go p e below En T (mkF m (pc + 1) Ls (.long z :: st))) : Go p e below En T (mkF m pc Ls (.long y :: .long x :: st)) :=
  Go.of (fun t k => XS.lmul (g := mkF m pc Ls (.long y :: .long x :: st)) X.here hx rfl hd rfl (by rw [hz]; exact k)) r
theorem land (X : Stand p l e R s m args below meth c T locs cells slots) (hx : p.tables.exec = Jvm.exec) {x y z : Int64} (hd : decode c.code pc = .ok (.land, 1)) (hz : x &&& y = z) (r : Go p e below En T (mkF m (pc + 1) Ls (.long z :: st))) : Go p e below En T (mkF m pc Ls (.long y :: .long x :: st)) :=
  Go.of (fun t k => XS.land (g := mkF m pc Ls (.long y :: .long x :: st)) X.here hx rfl hd rfl (by rw [hz]; exact k)) r
theorem lor (X : Stand p l e R s m args below meth c T locs cells slots) (hx : p.tables.exec = Jvm.exec) {x y z : Int64} (hd : decode c.code pc = .ok (.lor, 1)) (hz : x ||| y = z) (r : Go p e below En T (mkF m (pc + 1) Ls (.long z :: st))) : Go p e below En T (mkF m pc Ls (.long y :: .long x :: st)) :=
  Go.of (fun t k => XS.lor (g := mkF m pc Ls (.long y :: .long x :: st)) X.here hx rfl hd rfl (by rw [hz]; exact k)) r
theorem lxor (X : Stand p l e R s m args below meth c T locs cells slots) (hx : p.tables.exec = Jvm.exec) {x y z : Int64} (hd : decode c.code pc = .ok (.lxor, 1)) (hz : x ^^^ y = z) (r : Go p e below En T (mkF m (pc + 1) Ls (.long z :: st))) : Go p e below En T (mkF m pc Ls (.long y :: .long x :: st)) :=
  Go.of (fun t k => XS.lxor (g := mkF m pc Ls (.long y :: .long x :: st)) X.here hx rfl hd rfl (by rw [hz]; exact k)) r
theorem iushr (X : Stand p l e R s m args below meth c T locs cells slots) (hx : p.tables.exec = Jvm.exec) {x y z : Int32} (hd : decode c.code pc = .ok (.iushr, 1)) (hz : ((x.toUInt32 >>> (y &&& 31).toUInt32).toInt32) = z) (r : Go p e below En T (mkF m (pc + 1) Ls (.int z :: st))) : Go p e below En T (mkF m pc Ls (.int y :: .int x :: st)) :=
  Go.of (fun t k => XS.iushr (g := mkF m pc Ls (.int y :: .int x :: st)) X.here hx rfl hd rfl (by rw [hz]; exact k)) r
theorem ishr (X : Stand p l e R s m args below meth c T locs cells slots) (hx : p.tables.exec = Jvm.exec) {x y z : Int32} (hd : decode c.code pc = .ok (.ishr, 1)) (hz : (x >>> (y &&& 31)) = z) (r : Go p e below En T (mkF m (pc + 1) Ls (.int z :: st))) : Go p e below En T (mkF m pc Ls (.int y :: .int x :: st)) :=
  Go.of (fun t k => XS.ishr (g := mkF m pc Ls (.int y :: .int x :: st)) X.here hx rfl hd rfl (by rw [hz]; exact k)) r
theorem ishl (X : Stand p l e R s m args below meth c T locs cells slots) (hx : p.tables.exec = Jvm.exec) {x y z : Int32} (hd : decode c.code pc = .ok (.ishl, 1)) (hz : (x <<< (y &&& 31)) = z) (r : Go p e below En T (mkF m (pc + 1) Ls (.int z :: st))) : Go p e below En T (mkF m pc Ls (.int y :: .int x :: st)) :=
  Go.of (fun t k => XS.ishl (g := mkF m pc Ls (.int y :: .int x :: st)) X.here hx rfl hd rfl (by rw [hz]; exact k)) r
theorem irem (X : Stand p l e R s m args below meth c T locs cells slots) (hx : p.tables.exec = Jvm.exec) {x y z : Int32} (hd : decode c.code pc = .ok (.irem, 1)) (hy : y ≠ 0) (hz : x % y = z) (r : Go p e below En T (mkF m (pc + 1) Ls (.int z :: st))) : Go p e below En T (mkF m pc Ls (.int y :: .int x :: st)) :=
  Go.of (fun t k => iremM (g := mkF m pc Ls (.int y :: .int x :: st)) X hx rfl hd rfl hy (by rw [hz]; exact k)) r
theorem i2l (X : Stand p l e R s m args below meth c T locs cells slots) (hx : p.tables.exec = Jvm.exec) {x : Int32} {z : Int64} (hd : decode c.code pc = .ok (.i2l, 1)) (hz : x.toInt64 = z) (r : Go p e below En T (mkF m (pc + 1) Ls (.long z :: st))) : Go p e below En T (mkF m pc Ls (.int x :: st)) :=
  Go.of (fun t k => XS.i2l (g := mkF m pc Ls (.int x :: st)) X.here hx rfl hd rfl (by rw [hz]; exact k)) r
theorem l2i (X : Stand p l e R s m args below meth c T locs cells slots) (hx : p.tables.exec = Jvm.exec) {x : Int64} {z : Int32} (hd : decode c.code pc = .ok (.l2i, 1)) (hz : x.toInt32 = z) (r : Go p e below En T (mkF m (pc + 1) Ls (.int z :: st))) : Go p e below En T (mkF m pc Ls (.long x :: st)) :=
  Go.of (fun t k => XS.l2i (g := mkF m pc Ls (.long x :: st)) X.here hx rfl hd rfl (by rw [hz]; exact k)) r
theorem i2c (X : Stand p l e R s m args below meth c T locs cells slots) (hx : p.tables.exec = Jvm.exec) {x : Int32} {z : Int32} (hd : decode c.code pc = .ok (.i2c, 1)) (hz : (x.toUInt32.toUInt16.toUInt32.toInt32) = z) (r : Go p e below En T (mkF m (pc + 1) Ls (.int z :: st))) : Go p e below En T (mkF m pc Ls (.int x :: st)) :=
  Go.of (fun t k => XS.i2c (g := mkF m pc Ls (.int x :: st)) X.here hx rfl hd rfl (by rw [hz]; exact k)) r
theorem i2b (X : Stand p l e R s m args below meth c T locs cells slots) (hx : p.tables.exec = Jvm.exec) {x : Int32} {z : Int32} (hd : decode c.code pc = .ok (.i2b, 1)) (hz : (x.toInt8.toInt32) = z) (r : Go p e below En T (mkF m (pc + 1) Ls (.int z :: st))) : Go p e below En T (mkF m pc Ls (.int x :: st)) :=
  Go.of (fun t k => XS.i2b (g := mkF m pc Ls (.int x :: st)) X.here hx rfl hd rfl (by rw [hz]; exact k)) r
theorem dup (X : Stand p l e R s m args below meth c T locs cells slots) (hx : p.tables.exec = Jvm.exec) {v : Value} (hd : decode c.code pc = .ok (.dup, 1)) (hc : v.category = 1) (r : Go p e below En T (mkF m (pc + 1) Ls (v :: v :: st))) : Go p e below En T (mkF m pc Ls (v :: st)) :=
  Go.of (fun t k => XS.dup (g := mkF m pc Ls (v :: st)) X.here hx rfl hd rfl hc k) r
theorem pop (X : Stand p l e R s m args below meth c T locs cells slots) (hx : p.tables.exec = Jvm.exec) {v : Value} (hd : decode c.code pc = .ok (.pop, 1)) (hc : v.category = 1) (r : Go p e below En T (mkF m (pc + 1) Ls st)) : Go p e below En T (mkF m pc Ls (v :: st)) :=
  Go.of (fun t k => XS.pop (g := mkF m pc Ls (v :: st)) X.here hx rfl hd rfl hc k) r
theorem iinc (X : Stand p l e R s m args below meth c T locs cells slots) (hx : p.tables.exec = Jvm.exec) {k : Nat} {i : Int} {v z : Int32} {Ls' : Array Slot} (hd : decode c.code pc = .ok (.iinc k i, 3)) (hl : Ls[k]? = some (.val (.int v))) (hz : v + Int32.ofInt i = z) (hl' : storeLocals Ls k (.int z) = some Ls') (r : Go p e below En T (mkF m (pc + 3) Ls' st)) : Go p e below En T (mkF m pc Ls st) :=
  Go.of (fun t k => XS.iinc (g := mkF m pc Ls st) X.here hx rfl hd hl (by rw [hz]; exact hl') k) r
theorem goto (X : Stand p l e R s m args below meth c T locs cells slots) (hx : p.tables.exec = Jvm.exec) {o : Int} {pc' : Nat} (hd : decode c.code pc = .ok (.goto o, 3)) (ho : 0 ≤ (pc : Int) + o) (hp : ((pc : Int) + o).toNat = pc') (r : Go p e below En T (mkF m pc' Ls st)) : Go p e below En T (mkF m pc Ls st) :=
  Go.of (fun t k => XS.goto (g := mkF m pc Ls st) X.here hx rfl rfl hd ho hp k) r
theorem ic_eq (X : Stand p l e R s m args below meth c T locs cells slots) (hx : p.tables.exec = Jvm.exec) {o : Int} {pc' : Nat} {x y : Int32} (hd : decode c.code pc = .ok (.if_icmp .eq o, 3)) (ho : 0 ≤ (pc : Int) + o) (hp : ((pc : Int) + o).toNat = pc') (yes : x = y → Go p e below En T (mkF m pc' Ls st)) (no : ¬ (x = y) → Go p e below En T (mkF m (pc + 3) Ls st)) : Go p e below En T (mkF m pc Ls (.int y :: .int x :: st)) := by
  by_cases q : x = y
  · exact Go.of (fun t k => XS.icmpYes (g := mkF m pc Ls (.int y :: .int x :: st)) X.here hx rfl rfl hd rfl (teq q).1 ho hp k) (yes q)
  · exact Go.of (fun t k => XS.icmpNo (g := mkF m pc Ls (.int y :: .int x :: st)) X.here hx rfl hd rfl (feq q).1 k) (no q)
theorem if_eq (X : Stand p l e R s m args below meth c T locs cells slots) (hx : p.tables.exec = Jvm.exec) {o : Int} {pc' : Nat} {x : Int32} (hd : decode c.code pc = .ok (.ifCond .eq o, 3)) (ho : 0 ≤ (pc : Int) + o) (hp : ((pc : Int) + o).toNat = pc') (yes : x = 0 → Go p e below En T (mkF m pc' Ls st)) (no : ¬ (x = 0) → Go p e below En T (mkF m (pc + 3) Ls st)) : Go p e below En T (mkF m pc Ls (.int x :: st)) := by
  by_cases q : x = 0
  · exact Go.of (fun t k => XS.ifYes (g := mkF m pc Ls (.int x :: st)) X.here hx rfl rfl hd rfl ((if0 _ _).trans (teq q).1) ho hp k) (yes q)
  · exact Go.of (fun t k => XS.ifNo (g := mkF m pc Ls (.int x :: st)) X.here hx rfl hd rfl ((if0 _ _).trans (feq q).1) k) (no q)
theorem ic_ne (X : Stand p l e R s m args below meth c T locs cells slots) (hx : p.tables.exec = Jvm.exec) {o : Int} {pc' : Nat} {x y : Int32} (hd : decode c.code pc = .ok (.if_icmp .ne o, 3)) (ho : 0 ≤ (pc : Int) + o) (hp : ((pc : Int) + o).toNat = pc') (yes : ¬ (x = y) → Go p e below En T (mkF m pc' Ls st)) (no : x = y → Go p e below En T (mkF m (pc + 3) Ls st)) : Go p e below En T (mkF m pc Ls (.int y :: .int x :: st)) := by
  by_cases q : x = y
  · exact Go.of (fun t k => XS.icmpNo (g := mkF m pc Ls (.int y :: .int x :: st)) X.here hx rfl hd rfl (teq q).2 k) (no q)
  · exact Go.of (fun t k => XS.icmpYes (g := mkF m pc Ls (.int y :: .int x :: st)) X.here hx rfl rfl hd rfl (feq q).2 ho hp k) (yes q)
theorem if_ne (X : Stand p l e R s m args below meth c T locs cells slots) (hx : p.tables.exec = Jvm.exec) {o : Int} {pc' : Nat} {x : Int32} (hd : decode c.code pc = .ok (.ifCond .ne o, 3)) (ho : 0 ≤ (pc : Int) + o) (hp : ((pc : Int) + o).toNat = pc') (yes : ¬ (x = 0) → Go p e below En T (mkF m pc' Ls st)) (no : x = 0 → Go p e below En T (mkF m (pc + 3) Ls st)) : Go p e below En T (mkF m pc Ls (.int x :: st)) := by
  by_cases q : x = 0
  · exact Go.of (fun t k => XS.ifNo (g := mkF m pc Ls (.int x :: st)) X.here hx rfl hd rfl ((if0 _ _).trans (teq q).2) k) (no q)
  · exact Go.of (fun t k => XS.ifYes (g := mkF m pc Ls (.int x :: st)) X.here hx rfl rfl hd rfl ((if0 _ _).trans (feq q).2) ho hp k) (yes q)
theorem ic_lt (X : Stand p l e R s m args below meth c T locs cells slots) (hx : p.tables.exec = Jvm.exec) {o : Int} {pc' : Nat} {x y : Int32} (hd : decode c.code pc = .ok (.if_icmp .lt o, 3)) (ho : 0 ≤ (pc : Int) + o) (hp : ((pc : Int) + o).toNat = pc') (yes : x < y → Go p e below En T (mkF m pc' Ls st)) (no : ¬ (x < y) → Go p e below En T (mkF m (pc + 3) Ls st)) : Go p e below En T (mkF m pc Ls (.int y :: .int x :: st)) := by
  by_cases q : x < y
  · exact Go.of (fun t k => XS.icmpYes (g := mkF m pc Ls (.int y :: .int x :: st)) X.here hx rfl rfl hd rfl (tlt q).1 ho hp k) (yes q)
  · exact Go.of (fun t k => XS.icmpNo (g := mkF m pc Ls (.int y :: .int x :: st)) X.here hx rfl hd rfl (flt q).1 k) (no q)
theorem if_lt (X : Stand p l e R s m args below meth c T locs cells slots) (hx : p.tables.exec = Jvm.exec) {o : Int} {pc' : Nat} {x : Int32} (hd : decode c.code pc = .ok (.ifCond .lt o, 3)) (ho : 0 ≤ (pc : Int) + o) (hp : ((pc : Int) + o).toNat = pc') (yes : x < 0 → Go p e below En T (mkF m pc' Ls st)) (no : ¬ (x < 0) → Go p e below En T (mkF m (pc + 3) Ls st)) : Go p e below En T (mkF m pc Ls (.int x :: st)) := by
  by_cases q : x < 0
  · exact Go.of (fun t k => XS.ifYes (g := mkF m pc Ls (.int x :: st)) X.here hx rfl rfl hd rfl ((if0 _ _).trans (tlt q).1) ho hp k) (yes q)
  · exact Go.of (fun t k => XS.ifNo (g := mkF m pc Ls (.int x :: st)) X.here hx rfl hd rfl ((if0 _ _).trans (flt q).1) k) (no q)
theorem ic_ge (X : Stand p l e R s m args below meth c T locs cells slots) (hx : p.tables.exec = Jvm.exec) {o : Int} {pc' : Nat} {x y : Int32} (hd : decode c.code pc = .ok (.if_icmp .ge o, 3)) (ho : 0 ≤ (pc : Int) + o) (hp : ((pc : Int) + o).toNat = pc') (yes : ¬ (x < y) → Go p e below En T (mkF m pc' Ls st)) (no : x < y → Go p e below En T (mkF m (pc + 3) Ls st)) : Go p e below En T (mkF m pc Ls (.int y :: .int x :: st)) := by
  by_cases q : x < y
  · exact Go.of (fun t k => XS.icmpNo (g := mkF m pc Ls (.int y :: .int x :: st)) X.here hx rfl hd rfl (tlt q).2.1 k) (no q)
  · exact Go.of (fun t k => XS.icmpYes (g := mkF m pc Ls (.int y :: .int x :: st)) X.here hx rfl rfl hd rfl (flt q).2.1 ho hp k) (yes q)
theorem if_ge (X : Stand p l e R s m args below meth c T locs cells slots) (hx : p.tables.exec = Jvm.exec) {o : Int} {pc' : Nat} {x : Int32} (hd : decode c.code pc = .ok (.ifCond .ge o, 3)) (ho : 0 ≤ (pc : Int) + o) (hp : ((pc : Int) + o).toNat = pc') (yes : ¬ (x < 0) → Go p e below En T (mkF m pc' Ls st)) (no : x < 0 → Go p e below En T (mkF m (pc + 3) Ls st)) : Go p e below En T (mkF m pc Ls (.int x :: st)) := by
  by_cases q : x < 0
  · exact Go.of (fun t k => XS.ifNo (g := mkF m pc Ls (.int x :: st)) X.here hx rfl hd rfl ((if0 _ _).trans (tlt q).2.1) k) (no q)
  · exact Go.of (fun t k => XS.ifYes (g := mkF m pc Ls (.int x :: st)) X.here hx rfl rfl hd rfl ((if0 _ _).trans (flt q).2.1) ho hp k) (yes q)
theorem ic_gt (X : Stand p l e R s m args below meth c T locs cells slots) (hx : p.tables.exec = Jvm.exec) {o : Int} {pc' : Nat} {x y : Int32} (hd : decode c.code pc = .ok (.if_icmp .gt o, 3)) (ho : 0 ≤ (pc : Int) + o) (hp : ((pc : Int) + o).toNat = pc') (yes : y < x → Go p e below En T (mkF m pc' Ls st)) (no : ¬ (y < x) → Go p e below En T (mkF m (pc + 3) Ls st)) : Go p e below En T (mkF m pc Ls (.int y :: .int x :: st)) := by
  by_cases q : y < x
  · exact Go.of (fun t k => XS.icmpYes (g := mkF m pc Ls (.int y :: .int x :: st)) X.here hx rfl rfl hd rfl (tlt q).2.2.1 ho hp k) (yes q)
  · exact Go.of (fun t k => XS.icmpNo (g := mkF m pc Ls (.int y :: .int x :: st)) X.here hx rfl hd rfl (flt q).2.2.1 k) (no q)
theorem if_gt (X : Stand p l e R s m args below meth c T locs cells slots) (hx : p.tables.exec = Jvm.exec) {o : Int} {pc' : Nat} {x : Int32} (hd : decode c.code pc = .ok (.ifCond .gt o, 3)) (ho : 0 ≤ (pc : Int) + o) (hp : ((pc : Int) + o).toNat = pc') (yes : 0 < x → Go p e below En T (mkF m pc' Ls st)) (no : ¬ (0 < x) → Go p e below En T (mkF m (pc + 3) Ls st)) : Go p e below En T (mkF m pc Ls (.int x :: st)) := by
  by_cases q : 0 < x
  · exact Go.of (fun t k => XS.ifYes (g := mkF m pc Ls (.int x :: st)) X.here hx rfl rfl hd rfl ((if0 _ _).trans (tlt q).2.2.1) ho hp k) (yes q)
  · exact Go.of (fun t k => XS.ifNo (g := mkF m pc Ls (.int x :: st)) X.here hx rfl hd rfl ((if0 _ _).trans (flt q).2.2.1) k) (no q)
theorem ic_le (X : Stand p l e R s m args below meth c T locs cells slots) (hx : p.tables.exec = Jvm.exec) {o : Int} {pc' : Nat} {x y : Int32} (hd : decode c.code pc = .ok (.if_icmp .le o, 3)) (ho : 0 ≤ (pc : Int) + o) (hp : ((pc : Int) + o).toNat = pc') (yes : ¬ (y < x) → Go p e below En T (mkF m pc' Ls st)) (no : y < x → Go p e below En T (mkF m (pc + 3) Ls st)) : Go p e below En T (mkF m pc Ls (.int y :: .int x :: st)) := by
  by_cases q : y < x
  · exact Go.of (fun t k => XS.icmpNo (g := mkF m pc Ls (.int y :: .int x :: st)) X.here hx rfl hd rfl (tlt q).2.2.2 k) (no q)
  · exact Go.of (fun t k => XS.icmpYes (g := mkF m pc Ls (.int y :: .int x :: st)) X.here hx rfl rfl hd rfl (flt q).2.2.2 ho hp k) (yes q)
theorem if_le (X : Stand p l e R s m args below meth c T locs cells slots) (hx : p.tables.exec = Jvm.exec) {o : Int} {pc' : Nat} {x : Int32} (hd : decode c.code pc = .ok (.ifCond .le o, 3)) (ho : 0 ≤ (pc : Int) + o) (hp : ((pc : Int) + o).toNat = pc') (yes : ¬ (0 < x) → Go p e below En T (mkF m pc' Ls st)) (no : 0 < x → Go p e below En T (mkF m (pc + 3) Ls st)) : Go p e below En T (mkF m pc Ls (.int x :: st)) := by
  by_cases q : 0 < x
  · exact Go.of (fun t k => XS.ifNo (g := mkF m pc Ls (.int x :: st)) X.here hx rfl hd rfl ((if0 _ _).trans (tlt q).2.2.2) k) (no q)
  · exact Go.of (fun t k => XS.ifYes (g := mkF m pc Ls (.int x :: st)) X.here hx rfl rfl hd rfl ((if0 _ _).trans (flt q).2.2.2) ho hp k) (yes q)
theorem own_lc_eq (x y : Int64) : (lcmpW x y = 0) = (x = y) := by rw [lcW]; exact propext (Jvm.RoadKit.lc_eq x y)
theorem own_lc_lt (x y : Int64) : (lcmpW x y < 0) = (x < y) := by rw [lcW]; exact propext (Jvm.RoadKit.lc_lt x y)
theorem own_lc_gt (x y : Int64) : (0 < lcmpW x y) = (y < x) := by rw [lcW]; exact propext (Jvm.RoadKit.lc_gt x y)
theorem lcmp (X : Stand p l e R s m args below meth c T locs cells slots) (hx : p.tables.exec = Jvm.exec) {x y : Int64} (hd : decode c.code pc = .ok (.lcmp, 1))  (r : Go p e below En T (mkF m (pc + 1) Ls (.int (lcmpW x y) :: st))) : Go p e below En T (mkF m pc Ls (.long y :: .long x :: st)) :=
  Go.of (fun t k => XS.lcmp (g := mkF m pc Ls (.long y :: .long x :: st)) X.here hx rfl hd rfl k) r
theorem lc_eq_ (X : Stand p l e R s m args below meth c T locs cells slots) (hx : p.tables.exec = Jvm.exec) {o : Int} {pc' : Nat} {x y : Int64} (hd : decode c.code pc = .ok (.lcmp, 1)) (hd' : decode c.code (pc + 1) = .ok (.ifCond .eq o, 3)) (ho : 0 ≤ ((pc + 1 : Nat) : Int) + o) (hp : (((pc + 1 : Nat) : Int) + o).toNat = pc') (yes : x = y → Go p e below En T (mkF m pc' Ls st)) (no : ¬ (x = y) → Go p e below En T (mkF m (pc + 4) Ls st)) : Go p e below En T (mkF m pc Ls (.long y :: .long x :: st)) :=
  lcmp X hx hd (if_eq X hx hd' ho hp (fun q => yes (by rw [own_lc_eq] at q; exact q)) (fun q => no (by rw [own_lc_eq] at q; exact q)))
theorem lc_ne_ (X : Stand p l e R s m args below meth c T locs cells slots) (hx : p.tables.exec = Jvm.exec) {o : Int} {pc' : Nat} {x y : Int64} (hd : decode c.code pc = .ok (.lcmp, 1)) (hd' : decode c.code (pc + 1) = .ok (.ifCond .ne o, 3)) (ho : 0 ≤ ((pc + 1 : Nat) : Int) + o) (hp : (((pc + 1 : Nat) : Int) + o).toNat = pc') (yes : ¬ (x = y) → Go p e below En T (mkF m pc' Ls st)) (no : x = y → Go p e below En T (mkF m (pc + 4) Ls st)) : Go p e below En T (mkF m pc Ls (.long y :: .long x :: st)) :=
  lcmp X hx hd (if_ne X hx hd' ho hp (fun q => yes (by rw [own_lc_eq] at q; exact q)) (fun q => no (by rw [own_lc_eq] at q; exact q)))
theorem lc_lt_ (X : Stand p l e R s m args below meth c T locs cells slots) (hx : p.tables.exec = Jvm.exec) {o : Int} {pc' : Nat} {x y : Int64} (hd : decode c.code pc = .ok (.lcmp, 1)) (hd' : decode c.code (pc + 1) = .ok (.ifCond .lt o, 3)) (ho : 0 ≤ ((pc + 1 : Nat) : Int) + o) (hp : (((pc + 1 : Nat) : Int) + o).toNat = pc') (yes : x < y → Go p e below En T (mkF m pc' Ls st)) (no : ¬ (x < y) → Go p e below En T (mkF m (pc + 4) Ls st)) : Go p e below En T (mkF m pc Ls (.long y :: .long x :: st)) :=
  lcmp X hx hd (if_lt X hx hd' ho hp (fun q => yes (by rw [own_lc_lt] at q; exact q)) (fun q => no (by rw [own_lc_lt] at q; exact q)))
theorem lc_ge_ (X : Stand p l e R s m args below meth c T locs cells slots) (hx : p.tables.exec = Jvm.exec) {o : Int} {pc' : Nat} {x y : Int64} (hd : decode c.code pc = .ok (.lcmp, 1)) (hd' : decode c.code (pc + 1) = .ok (.ifCond .ge o, 3)) (ho : 0 ≤ ((pc + 1 : Nat) : Int) + o) (hp : (((pc + 1 : Nat) : Int) + o).toNat = pc') (yes : ¬ (x < y) → Go p e below En T (mkF m pc' Ls st)) (no : x < y → Go p e below En T (mkF m (pc + 4) Ls st)) : Go p e below En T (mkF m pc Ls (.long y :: .long x :: st)) :=
  lcmp X hx hd (if_ge X hx hd' ho hp (fun q => yes (by rw [own_lc_lt] at q; exact q)) (fun q => no (by rw [own_lc_lt] at q; exact q)))
theorem lc_gt_ (X : Stand p l e R s m args below meth c T locs cells slots) (hx : p.tables.exec = Jvm.exec) {o : Int} {pc' : Nat} {x y : Int64} (hd : decode c.code pc = .ok (.lcmp, 1)) (hd' : decode c.code (pc + 1) = .ok (.ifCond .gt o, 3)) (ho : 0 ≤ ((pc + 1 : Nat) : Int) + o) (hp : (((pc + 1 : Nat) : Int) + o).toNat = pc') (yes : y < x → Go p e below En T (mkF m pc' Ls st)) (no : ¬ (y < x) → Go p e below En T (mkF m (pc + 4) Ls st)) : Go p e below En T (mkF m pc Ls (.long y :: .long x :: st)) :=
  lcmp X hx hd (if_gt X hx hd' ho hp (fun q => yes (by rw [own_lc_gt] at q; exact q)) (fun q => no (by rw [own_lc_gt] at q; exact q)))
theorem lc_le_ (X : Stand p l e R s m args below meth c T locs cells slots) (hx : p.tables.exec = Jvm.exec) {o : Int} {pc' : Nat} {x y : Int64} (hd : decode c.code pc = .ok (.lcmp, 1)) (hd' : decode c.code (pc + 1) = .ok (.ifCond .le o, 3)) (ho : 0 ≤ ((pc + 1 : Nat) : Int) + o) (hp : (((pc + 1 : Nat) : Int) + o).toNat = pc') (yes : ¬ (y < x) → Go p e below En T (mkF m pc' Ls st)) (no : y < x → Go p e below En T (mkF m (pc + 4) Ls st)) : Go p e below En T (mkF m pc Ls (.long y :: .long x :: st)) :=
  lcmp X hx hd (if_le X hx hd' ho hp (fun q => yes (by rw [own_lc_gt] at q; exact q)) (fun q => no (by rw [own_lc_gt] at q; exact q)))
theorem ac_eq (X : Stand p l e R s m args below meth c T locs cells slots) (hx : p.tables.exec = Jvm.exec) {o : Int} {pc' : Nat} {x y : Value} (hx1 : x.isRef = true) (hy1 : y.isRef = true) (hd : decode c.code pc = .ok (.if_acmp .eq o, 3)) (ho : 0 ≤ (pc : Int) + o) (hp : ((pc : Int) + o).toNat = pc') (yes : x = y → Go p e below En T (mkF m pc' Ls st)) (no : ¬ (x = y) → Go p e below En T (mkF m (pc + 3) Ls st)) : Go p e below En T (mkF m pc Ls (y :: x :: st)) := by
  by_cases q : x = y
  · exact Go.of (fun t k => Jvm.RoadKit.acmp (g := mkF m pc Ls (y :: x :: st)) X hx rfl hx1 hy1 (pc0 := pc) (pc' := pc') (same := true) rfl hd rfl (decide_eq_true q) ho (hp.symm) k) (yes q)
  · exact Go.of (fun t k => Jvm.RoadKit.acmp (g := mkF m pc Ls (y :: x :: st)) X hx rfl hx1 hy1 (pc0 := pc) (pc' := pc + 3) (same := false) rfl hd rfl (decide_eq_false q) ho (rfl) k) (no q)
theorem ac_ne (X : Stand p l e R s m args below meth c T locs cells slots) (hx : p.tables.exec = Jvm.exec) {o : Int} {pc' : Nat} {x y : Value} (hx1 : x.isRef = true) (hy1 : y.isRef = true) (hd : decode c.code pc = .ok (.if_acmp .ne o, 3)) (ho : 0 ≤ (pc : Int) + o) (hp : ((pc : Int) + o).toNat = pc') (yes : ¬ (x = y) → Go p e below En T (mkF m pc' Ls st)) (no : x = y → Go p e below En T (mkF m (pc + 3) Ls st)) : Go p e below En T (mkF m pc Ls (y :: x :: st)) := by
  by_cases q : x = y
  · exact Go.of (fun t k => Jvm.RoadKit.acmp (g := mkF m pc Ls (y :: x :: st)) X hx rfl hx1 hy1 (pc0 := pc) (pc' := pc + 3) (same := true) rfl hd rfl (decide_eq_true q) ho (rfl) k) (no q)
  · exact Go.of (fun t k => Jvm.RoadKit.acmp (g := mkF m pc Ls (y :: x :: st)) X hx rfl hx1 hy1 (pc0 := pc) (pc' := pc') (same := false) rfl hd rfl (decide_eq_false q) ho (hp.symm) k) (yes q)
theorem ifnull_y (X : Stand p l e R s m args below meth c T locs cells slots) (hx : p.tables.exec = Jvm.exec) {o : Int} {pc' : Nat} (hd : decode c.code pc = .ok (.ifnull o, 3)) (ho : 0 ≤ (pc : Int) + o) (hp : ((pc : Int) + o).toNat = pc') (r : Go p e below En T (mkF m pc' Ls st)) : Go p e below En T (mkF m pc Ls (.null :: st)) :=
  Go.of (fun t k => XS.ifnullYes (g := mkF m pc Ls (.null :: st)) X.here hx rfl rfl hd rfl ho hp k) r
theorem ifnull_n (X : Stand p l e R s m args below meth c T locs cells slots) (hx : p.tables.exec = Jvm.exec) {o : Int} {b : Addr} (hd : decode c.code pc = .ok (.ifnull o, 3))  (r : Go p e below En T (mkF m (pc + 3) Ls st)) : Go p e below En T (mkF m pc Ls (.ref b :: st)) :=
  Go.of (fun t k => XS.ifnullNo (g := mkF m pc Ls (.ref b :: st)) X.here hx rfl hd rfl k) r
theorem ifnonnull_y (X : Stand p l e R s m args below meth c T locs cells slots) (hx : p.tables.exec = Jvm.exec) {o : Int} {pc' : Nat} {b : Addr} (hd : decode c.code pc = .ok (.ifnonnull o, 3)) (ho : 0 ≤ (pc : Int) + o) (hp : ((pc : Int) + o).toNat = pc') (r : Go p e below En T (mkF m pc' Ls st)) : Go p e below En T (mkF m pc Ls (.ref b :: st)) :=
  Go.of (fun t k => XS.ifnonnullYes (g := mkF m pc Ls (.ref b :: st)) X.here hx rfl rfl hd rfl ho hp k) r
theorem ifnonnull_n (X : Stand p l e R s m args below meth c T locs cells slots) (hx : p.tables.exec = Jvm.exec) {o : Int} (hd : decode c.code pc = .ok (.ifnonnull o, 3))  (r : Go p e below En T (mkF m (pc + 3) Ls st)) : Go p e below En T (mkF m pc Ls (.null :: st)) :=
  Go.of (fun t k => XS.ifnonnullNo (g := mkF m pc Ls (.null :: st)) X.here hx rfl hd rfl k) r
theorem ldcInt (X : Stand p l e R s m args below meth c T locs cells slots) (hx : p.tables.exec = Jvm.exec) (hZ : Z.Warmed39 s.vm) {own : String} {index : Nat} (hown : s.vm.findClass own = some m.cls) {v : Int32} (w : (Cond.constant own index v).before a0 Z = true) (hd : decode c.code pc = .ok (.ldc index, 2)) (r : Go p e below En T (mkF m (pc + 2) Ls (.int v :: st))) : Go p e below En T (mkF m pc Ls st) :=
  Go.of (fun t k => X.ldcInt hx hown (mvT hZ w) (g := mkF m pc Ls st) rfl hd _ k) r
theorem ldc2Long (X : Stand p l e R s m args below meth c T locs cells slots) (hx : p.tables.exec = Jvm.exec) (hZ : Z.Warmed39 s.vm) {own : String} {index : Nat} (hown : s.vm.findClass own = some m.cls) {v : Int64} (w : (Cond.constantLong own index v).before a0 Z = true) (hd : decode c.code pc = .ok (.ldc2_w index, 3)) (r : Go p e below En T (mkF m (pc + 3) Ls (.long v :: st))) : Go p e below En T (mkF m pc Ls st) :=
  Go.of (fun t k => X.ldc2Long hx hown (mvT hZ w) (g := mkF m pc Ls st) rfl hd _ k) r
theorem getS (X : Stand p l e R s m args below meth c T locs cells slots) (hx : p.tables.exec = Jvm.exec) (hZ : Z.Warmed39 s.vm) {own : String} {index : Nat} (hown : s.vm.findClass own = some m.cls) {R0 O n d host : String} (w : (Cond.fieldLink own index R0 n d).before a0 Z = true ∨ (Cond.fieldLinkNest own index R0 n d host).before a0 Z = true) (via : Via Z R0 O n d) (eT : T.heap = h) {v : Value} (F : Sta Z h O n d v) (hd : decode c.code pc = .ok (.getstatic index, 3)) (r : ∀ T', Stand p l e R s m args below meth c T' locs cells slots → T'.heap = h → Go p e below En T' (mkF m (pc + 3) Ls (v :: st))) : Go p e below En T (mkF m pc Ls st) := by
  obtain ⟨T', X', e', k⟩ := getS2 X hx hZ hown w via eT F (g := mkF m pc Ls st) rfl hd
  exact Go.of k (r T' X' e')
theorem getF (X : Stand p l e R s m args below meth c T locs cells slots) (hx : p.tables.exec = Jvm.exec) (hZ : Z.Warmed39 s.vm) {own : String} {index : Nat} (hown : s.vm.findClass own = some m.cls) {R0 O n d host : String} (w : (Cond.fieldLink own index R0 n d).before a0 Z = true ∨ (Cond.fieldLinkNest own index R0 n d host).before a0 Z = true) (via : Via Z R0 O n d) (eT : T.heap = h) {a : Addr} {v : Value} (F : Fld Z h a O n d v) (hd : decode c.code pc = .ok (.getfield index, 3)) (r : ∀ T', Stand p l e R s m args below meth c T' locs cells slots → T'.heap = h → Go p e below En T' (mkF m (pc + 3) Ls (v :: st))) : Go p e below En T (mkF m pc Ls (.ref a :: st)) := by
  obtain ⟨T', X', e', k⟩ := Jvm.RoadKit.getF X hx hZ hown w via eT F (g := mkF m pc Ls (.ref a :: st)) rfl rfl hd
  exact Go.of k (r T' X' e')
theorem newO (X : Stand p l e R s m args below meth c T locs cells slots) (hx : p.tables.exec = Jvm.exec) (hZ : Z.Warmed39 s.vm) {own : String} {index : Nat} (hown : s.vm.findClass own = some m.cls) {C0 : String} {n : Nat} (w : (Cond.classLink own index C0).before a0 Z = true) (wi : (Cond.instantiable C0 n).before a0 Z = true) (wz : (Cond.initialized C0).before a0 Z = true) (eT : T.heap = h) (hd : decode c.code pc = .ok (.new index, 3)) (hc : cells + 1 ≤ R.cells) (hl : slots + n ≤ R.slots) (r : ∀ T' h' a, a = h.size → Stand p l e R s m args below meth c T' locs (cells + 1) (slots + n) → T'.heap = h' → Ext h h' → Exa Z h' a C0 → (∀ {O nm d : String} {ty : FieldType}, Laid Z a0 C0 O nm d → parseFieldDescriptor d = some ty → Fld Z h' a O nm d (defaultValue ty)) → Go p e below En T' (mkF m (pc + 3) Ls (.ref a :: st))) : Go p e below En T (mkF m pc Ls st) := by
  obtain ⟨T', h', X', e', E', A', D', -, k⟩ := Jvm.RoadKit.newO X hx hZ hown w wi wz eT (g := mkF m pc Ls st) rfl hd hc hl
  exact Go.of k (r T' h' h.size rfl X' e' E' A' D')
theorem initO (X : Stand p l e R s m args below meth c T locs cells slots) (hx : p.tables.exec = Jvm.exec) (hZ : Z.Warmed39 s.vm) {own : String} {index : Nat} (hown : s.vm.findClass own = some m.cls) (w1 : (Cond.methodLink own index Lib.objectInit).before a0 Z = true) (w2 : (Cond.instanceMethod Lib.objectInit).before a0 Z = true) (w3 : (Cond.code Lib.objectInit ⟨#[0xb1]⟩ 1 none).before a0 Z = true) (eT : T.heap = h) (hsize : Ls.size = c.maxLocals) {a : Addr} (hd : decode c.code pc = .ok (.invokespecial index, 3)) (hf : 1 ≤ R.frames) (W : Nat) (hW : (st.map fun v => v.category).sum = W) (hl : W + 12 ≤ R.locals) (r : ∀ T', Stand p l e R s m args below meth c T' locs cells slots → T'.heap = h → Go p e below En T' (mkF m (pc + 3) Ls st)) : Go p e below En T (mkF m pc Ls (.ref a :: st)) := by
  obtain ⟨T', X', e', k⟩ := Jvm.RoadKit.initO X hx hZ hown w1 w2 w3 eT (g := mkF m pc Ls (.ref a :: st)) rfl hsize rfl hd hf (W := W) (by show 2 * 0 + _ ≤ _; rw [hW]; omega) hl
  exact Go.of k (r T' X' e')
theorem putF (X : Stand p l e R s m args below meth c T locs cells slots) (hx : p.tables.exec = Jvm.exec) (hZ : Z.Warmed39 s.vm) {own : String} {index : Nat} (hown : s.vm.findClass own = some m.cls) {R0 O n d host C0 : String} {kk : Nat} {ty : FieldType} (w : (Cond.fieldLink own index R0 n d).before a0 Z = true ∨ (Cond.fieldLinkNest own index R0 n d host).before a0 Z = true) (via : Via Z R0 O n d) (eT : T.heap = h) {a : Addr} {v old : Value} (F : Fld Z h a O n d old) (E : Exa Z h a C0) (L : (Cond.lays C0 O n d).before a0 Z = true ∨ ((Cond.laysFinal C0 O n d).before a0 Z = true ∧ own = O ∧ meth.name = "<init>")) (wi : (Cond.instantiable C0 kk).before a0 Z = true) (hty : parseFieldDescriptor d = some ty) (hn : narrow ty v = v) (hf : fits ty v = true) (hd : decode c.code pc = .ok (.putfield index, 3)) (r : ∀ T' h', Stand p l e R s m args below meth c T' (locs ++ [⟨a, Jvm.RoadKit.slotOf Z O n d⟩]) cells slots → T'.heap = h' → Wr h h' a (Jvm.RoadKit.slotOf Z O n d) v → Go p e below En T' (mkF m (pc + 3) Ls st)) : Go p e below En T (mkF m pc Ls (v :: .ref a :: st)) := by
  obtain ⟨T', h', X', e', W', k⟩ := Jvm.RoadKit.putF X hx hZ hown w via eT F E L wi hty hn hf (g := mkF m pc Ls (v :: .ref a :: st)) rfl rfl hd
  exact Go.of k (r T' h' X' e' W')
theorem newP (X : Stand p l e R s m args below meth c T locs cells slots) (hx : p.tables.exec = Jvm.exec) (hZ : Z.Warmed39 s.vm) {aty : ArrayType} (w : (Cond.arrayClass (newarray.typeOf aty)).before a0 Z = true) (eT : T.heap = h) (hd : decode c.code pc = .ok (.newarray aty, 2)) {n : Int32} (hn : ¬ n < 0) (cap : Nat) (hcap : n.toNatClampNeg ≤ cap) (hb : cap * 8 ≤ 536870912) (hc : cells + 1 ≤ R.cells) (hl : slots + cap ≤ R.slots) (r : ∀ T' h' k a, a = h.size → Stand p l e R s m args below meth c T' locs (cells + 1) (slots + cap) → T'.heap = h' → Ext h h' → Arr Z h' a (newA k (newarray.typeOf aty) n) (newarray.typeOf aty) → Go p e below En T' (mkF m (pc + 2) Ls (.ref a :: st))) : Go p e below En T (mkF m pc Ls (.int n :: st)) := by
  obtain ⟨T', h', k', X', e', E', A', k⟩ := Jvm.RoadKit.newP X hx hZ w eT (g := mkF m pc Ls (.int n :: st)) rfl hd rfl hn hcap hb hc hl
  exact Go.of k (r T' h' k' h.size rfl X' e' E' A')
theorem newR (X : Stand p l e R s m args below meth c T locs cells slots) (hx : p.tables.exec = Jvm.exec) (hZ : Z.Warmed39 s.vm) {own : String} {index : Nat} (hown : s.vm.findClass own = some m.cls) {C0 : String} (w1 : (Cond.classLink own index C0).before a0 Z = true) (w2 : (Cond.arrayOver (.object C0)).before a0 Z = true) (eT : T.heap = h) (hd : decode c.code pc = .ok (.anewarray index, 3)) {n : Int32} (hn : ¬ n < 0) (cap : Nat) (hcap : n.toNatClampNeg ≤ cap) (hb : cap * 8 ≤ 536870912) (hc : cells + 1 ≤ R.cells) (hl : slots + cap ≤ R.slots) (r : ∀ T' h' k a, a = h.size → Stand p l e R s m args below meth c T' locs (cells + 1) (slots + cap) → T'.heap = h' → Ext h h' → Arr Z h' a (newA k (.object C0) n) (.object C0) → Ovr Z k C0 → Go p e below En T' (mkF m (pc + 3) Ls (.ref a :: st))) : Go p e below En T (mkF m pc Ls (.int n :: st)) := by
  obtain ⟨T', h', k', X', e', E', A', O', k⟩ := Jvm.RoadKit.newR X hx hZ hown w1 w2 eT (g := mkF m pc Ls (.int n :: st)) rfl hd rfl hn hcap hb hc hl
  exact Go.of k (r T' h' k' h.size rfl X' e' E' A' O')
theorem stI (X : Stand p l e R s m args below meth c T locs cells slots) (hx : p.tables.exec = Jvm.exec) (hZ : Z.Warmed39 s.vm) (eT : T.heap = h) {a : Addr} {cl : Cell} (A : Arr Z h a cl .int) {j x : Int32} (hj : ¬ (j < 0 ∨ cl.slots.size ≤ j.toNatClampNeg)) (hd : decode c.code pc = .ok (.iastore, 1)) (r : ∀ T' h', Stand p l e R s m args below meth c T' (locs ++ [⟨a, j.toNatClampNeg⟩]) cells slots → T'.heap = h' → Wr h h' a j.toNatClampNeg (.int x) → Go p e below En T' (mkF m (pc + 1) Ls st)) : Go p e below En T (mkF m pc Ls ((.int x) :: .int j :: .ref a :: st)) := by
  obtain ⟨T', h', X', e', W', k⟩ := Jvm.RoadKit.stI X hx hZ eT A hj (g := mkF m pc Ls ((.int x) :: .int j :: .ref a :: st)) rfl rfl hd
  exact Go.of k (r T' h' X' e' W')
theorem stC (X : Stand p l e R s m args below meth c T locs cells slots) (hx : p.tables.exec = Jvm.exec) (hZ : Z.Warmed39 s.vm) (eT : T.heap = h) {a : Addr} {cl : Cell} (A : Arr Z h a cl .char) {j x : Int32} (hj : ¬ (j < 0 ∨ cl.slots.size ≤ j.toNatClampNeg)) (hd : decode c.code pc = .ok (.castore, 1)) (r : ∀ T' h', Stand p l e R s m args below meth c T' (locs ++ [⟨a, j.toNatClampNeg⟩]) cells slots → T'.heap = h' → Wr h h' a j.toNatClampNeg (.int (nar .char x)) → Go p e below En T' (mkF m (pc + 1) Ls st)) : Go p e below En T (mkF m pc Ls ((.int x) :: .int j :: .ref a :: st)) := by
  obtain ⟨T', h', X', e', W', k⟩ := Jvm.RoadKit.stC X hx hZ eT A hj (g := mkF m pc Ls ((.int x) :: .int j :: .ref a :: st)) rfl rfl hd
  exact Go.of k (r T' h' X' e' W')
theorem stR (X : Stand p l e R s m args below meth c T locs cells slots) (hx : p.tables.exec = Jvm.exec) (hZ : Z.Warmed39 s.vm) (eT : T.heap = h) {a : Addr} {cl : Cell} {ty : FieldType} (A : Arr Z h a cl ty) {j : Int32} {v : Value} (hj : ¬ (j < 0 ∨ cl.slots.size ≤ j.toNatClampNeg)) (hty : ty.isReference = true) (F : Sto Z h a v) (hd : decode c.code pc = .ok (.aastore, 1)) (r : ∀ T' h', Stand p l e R s m args below meth c T' (locs ++ [⟨a, j.toNatClampNeg⟩]) cells slots → T'.heap = h' → Wr h h' a j.toNatClampNeg v → Go p e below En T' (mkF m (pc + 1) Ls st)) : Go p e below En T (mkF m pc Ls (v :: .int j :: .ref a :: st)) := by
  obtain ⟨T', h', X', e', W', k⟩ := Jvm.RoadKit.stR X hx hZ eT A hj hty F (g := mkF m pc Ls (v :: .int j :: .ref a :: st)) rfl rfl hd
  exact Go.of k (r T' h' X' e' W')
theorem iaload (X : Stand p l e R s m args below meth c T locs cells slots) (hx : p.tables.exec = Jvm.exec) (hZ : Z.Warmed39 s.vm) (eT : T.heap = h) {a : Addr} {cl : Cell} (A : Arr Z h a cl .int) {j : Int32} {v : Value} (hj : ¬ (j < 0 ∨ cl.slots.size ≤ j.toNatClampNeg)) (hv : cl.slots[j.toNatClampNeg]? = some v) (hd : decode c.code pc = .ok (.iaload, 1)) (r : Go p e below En T (mkF m (pc + 1) Ls (v :: st))) : Go p e below En T (mkF m pc Ls (.int j :: .ref a :: st)) :=
  Go.of (fun t k => X.iaload hx (by rw [eT]; exact A.1) (State.isArrayOf_alike hZ.alike A.2.1) A.2.2 hj hv (g := mkF m pc Ls (.int j :: .ref a :: st)) rfl rfl hd t k) r
theorem caload (X : Stand p l e R s m args below meth c T locs cells slots) (hx : p.tables.exec = Jvm.exec) (hZ : Z.Warmed39 s.vm) (eT : T.heap = h) {a : Addr} {cl : Cell} (A : Arr Z h a cl .char) {j : Int32} {v : Value} (hj : ¬ (j < 0 ∨ cl.slots.size ≤ j.toNatClampNeg)) (hv : cl.slots[j.toNatClampNeg]? = some v) (hd : decode c.code pc = .ok (.caload, 1)) (r : Go p e below En T (mkF m (pc + 1) Ls (v :: st))) : Go p e below En T (mkF m pc Ls (.int j :: .ref a :: st)) :=
  Go.of (fun t k => X.caload hx (by rw [eT]; exact A.1) (State.isArrayOf_alike hZ.alike A.2.1) A.2.2 hj hv (g := mkF m pc Ls (.int j :: .ref a :: st)) rfl rfl hd t k) r
theorem aaload (X : Stand p l e R s m args below meth c T locs cells slots) (hx : p.tables.exec = Jvm.exec) (hZ : Z.Warmed39 s.vm) (eT : T.heap = h) {a : Addr} {cl : Cell} {ty : FieldType} (A : Arr Z h a cl ty) (hty : ty.isReference = true) {j : Int32} {v : Value} (hj : ¬ (j < 0 ∨ cl.slots.size ≤ j.toNatClampNeg)) (hv : cl.slots[j.toNatClampNeg]? = some v) (hd : decode c.code pc = .ok (.aaload, 1)) (r : Go p e below En T (mkF m (pc + 1) Ls (v :: st))) : Go p e below En T (mkF m pc Ls (.int j :: .ref a :: st)) :=
  Go.of (fun t k => X.aaload hx (by rw [eT]; exact A.1) (State.isArrayOf_alike hZ.alike A.2.1) hty A.2.2 hj hv (g := mkF m pc Ls (.int j :: .ref a :: st)) rfl rfl hd t k) r
theorem arraylength (X : Stand p l e R s m args below meth c T locs cells slots) (hx : p.tables.exec = Jvm.exec) (hZ : Z.Warmed39 s.vm) (eT : T.heap = h) {a : Addr} {cl : Cell} {ty : FieldType} (A : Arr Z h a cl ty) {n : Int32} (hn : cl.slots.size.toInt32 = n) (hd : decode c.code pc = .ok (.arraylength, 1)) (r : Go p e below En T (mkF m (pc + 1) Ls (.int n :: st))) : Go p e below En T (mkF m pc Ls (.ref a :: st)) := by
  subst hn
  exact Go.of (fun t k => X.arraylength hx (by rw [eT]; exact A.1) (State.isArrayOf_alike hZ.alike A.2.1) (g := mkF m pc Ls (.ref a :: st)) rfl rfl hd t k) r
theorem retB (X : Stand p l e R s m args below meth c T locs cells slots) (hx : p.tables.exec = Jvm.exec) (hlk : meth.locks = false) {z z' : Int32} (hret : meth.sig.returnType = some .boolean) (hd : decode c.code pc = .ok (.ireturn, 1)) (hz : nar .boolean z = z') (hq : Q (some (.int z')) T.heap locs) (hC : cells ≤ C) (hS : slots ≤ S) : Go p e below (EndN s Q C S) T (mkF m pc Ls (.int z :: st)) := by
  obtain ⟨fs, hr, hrun, hended, hW, hsame⟩ := X.leave (v := (some (.int z'))) (fun h => by rw [hret] at h; cases h) hlk
  exact ⟨_, _, (by subst hz; exact retN X hx (t := .boolean) hret (by simp) hd hr), hrun, hended, _, _, rfl, hq, ⟨_, rfl⟩, hW, hsame.mono hC hS⟩
theorem retC (X : Stand p l e R s m args below meth c T locs cells slots) (hx : p.tables.exec = Jvm.exec) (hlk : meth.locks = false) {z z' : Int32} (hret : meth.sig.returnType = some .char) (hd : decode c.code pc = .ok (.ireturn, 1)) (hz : nar .char z = z') (hq : Q (some (.int z')) T.heap locs) (hC : cells ≤ C) (hS : slots ≤ S) : Go p e below (EndN s Q C S) T (mkF m pc Ls (.int z :: st)) := by
  obtain ⟨fs, hr, hrun, hended, hW, hsame⟩ := X.leave (v := (some (.int z'))) (fun h => by rw [hret] at h; cases h) hlk
  exact ⟨_, _, (by subst hz; exact retN X hx (t := .char) hret (by simp) hd hr), hrun, hended, _, _, rfl, hq, ⟨_, rfl⟩, hW, hsame.mono hC hS⟩
theorem own_retI (X : Stand p l e R s m args below meth c T locs cells slots) (hx : p.tables.exec = Jvm.exec) {z : Int32} {rest : List Value} (hret : meth.sig.returnType = some .int) (hd : decode c.code pc = .ok (.ireturn, 1)) {fs : List Frame}
    (hl : ∀ (f : JFrame) (acts : List Action), f.method = m → f.locked = none → f.entered = [] → (doReturn e (T.setTop f) acts (some (.int z))).1 = T.setFrames fs) : Steps p.tables e below (T.setTop (mkF m pc Ls (.int z :: rest))) (T.setFrames fs) := by
  have hm' : T.vm.method? m = some meth := X.method'
  have hn : narrow .int (.int z) = .int z := rfl
  show Steps p.tables e below (T.setTop { method := m, pc := pc, locals := Ls, stack := _ :: rest, locked := none }) _
  jvm_step X.here [X.here.top, hx, hd, hm', hret, hn]
  first | (intro acts; rw [hl _ acts rfl rfl rfl]) | rw [hl _ _ rfl rfl rfl]
  exact Steps.refl _
theorem own_retJ (X : Stand p l e R s m args below meth c T locs cells slots) (hx : p.tables.exec = Jvm.exec) {z : Int64} {rest : List Value} (hret : meth.sig.returnType = some .long) (hd : decode c.code pc = .ok (.lreturn, 1)) {fs : List Frame}
    (hl : ∀ (f : JFrame) (acts : List Action), f.method = m → f.locked = none → f.entered = [] → (doReturn e (T.setTop f) acts (some (.long z))).1 = T.setFrames fs) : Steps p.tables e below (T.setTop (mkF m pc Ls (.long z :: rest))) (T.setFrames fs) := by
  have hm' : T.vm.method? m = some meth := X.method'
  show Steps p.tables e below (T.setTop { method := m, pc := pc, locals := Ls, stack := _ :: rest, locked := none }) _
  jvm_step X.here [X.here.top, hx, hd, hm', hret, narrow]
  first | (intro acts; rw [hl _ acts rfl rfl rfl]) | rw [hl _ _ rfl rfl rfl]
  exact Steps.refl _
theorem own_retA (X : Stand p l e R s m args below meth c T locs cells slots) (hx : p.tables.exec = Jvm.exec) {z : Value} (hz : z.isRef = true) {t : FieldType} (ht : t.isReference = true) {rest : List Value} (hret : meth.sig.returnType = some t) (hd : decode c.code pc = .ok (.areturn, 1)) {fs : List Frame}
    (hl : ∀ (f : JFrame) (acts : List Action), f.method = m → f.locked = none → f.entered = [] → (doReturn e (T.setTop f) acts (some z)).1 = T.setFrames fs) : Steps p.tables e below (T.setTop (mkF m pc Ls (z :: rest))) (T.setFrames fs) := by
  have hm' : T.vm.method? m = some meth := X.method'
  show Steps p.tables e below (T.setTop { method := m, pc := pc, locals := Ls, stack := _ :: rest, locked := none }) _
  rcases ref_cases hz with rfl | ⟨b, rfl⟩
  all_goals
    jvm_step X.here [X.here.top, hx, hd, hm', hret, ht, Value.isRef]
    first | (intro acts; rw [hl _ acts rfl rfl rfl]) | rw [hl _ _ rfl rfl rfl]
    exact Steps.refl _
theorem retI (X : Stand p l e R s m args below meth c T locs cells slots) (hx : p.tables.exec = Jvm.exec) (hlk : meth.locks = false) {z : Int32} (hret : meth.sig.returnType = some .int) (hd : decode c.code pc = .ok (.ireturn, 1)) (hq : Q (some (.int z)) T.heap locs) (hC : cells ≤ C) (hS : slots ≤ S) : Go p e below (EndN s Q C S) T (mkF m pc Ls (.int z :: st)) := by
  obtain ⟨fs, hr, hrun, hended, hW, hsame⟩ := X.leave (v := (some (.int z))) (fun h => by rw [hret] at h; cases h) hlk
  exact ⟨_, _, own_retI X hx hret hd hr, hrun, hended, _, _, rfl, hq, ⟨_, rfl⟩, hW, hsame.mono hC hS⟩
theorem retJ (X : Stand p l e R s m args below meth c T locs cells slots) (hx : p.tables.exec = Jvm.exec) (hlk : meth.locks = false) {z : Int64} (hret : meth.sig.returnType = some .long) (hd : decode c.code pc = .ok (.lreturn, 1)) (hq : Q (some (.long z)) T.heap locs) (hC : cells ≤ C) (hS : slots ≤ S) : Go p e below (EndN s Q C S) T (mkF m pc Ls (.long z :: st)) := by
  obtain ⟨fs, hr, hrun, hended, hW, hsame⟩ := X.leave (v := (some (.long z))) (fun h => by rw [hret] at h; cases h) hlk
  exact ⟨_, _, own_retJ X hx hret hd hr, hrun, hended, _, _, rfl, hq, ⟨_, rfl⟩, hW, hsame.mono hC hS⟩
theorem retA (X : Stand p l e R s m args below meth c T locs cells slots) (hx : p.tables.exec = Jvm.exec) (hlk : meth.locks = false) {z : Value} {t : FieldType} (hz : z.isRef = true) (ht : t.isReference = true) (hret : meth.sig.returnType = some t) (hd : decode c.code pc = .ok (.areturn, 1)) (hq : Q (some z) T.heap locs) (hC : cells ≤ C) (hS : slots ≤ S) : Go p e below (EndN s Q C S) T (mkF m pc Ls (z :: st)) := by
  obtain ⟨fs, hr, hrun, hended, hW, hsame⟩ := X.leave (v := (some z)) (fun h => by rw [hret] at h; cases h) hlk
  exact ⟨_, _, own_retA X hx hz ht hret hd hr, hrun, hended, _, _, rfl, hq, ⟨_, rfl⟩, hW, hsame.mono hC hS⟩
theorem retV (X : Stand p l e R s m args below meth c T locs cells slots) (hx : p.tables.exec = Jvm.exec) (hlk : meth.locks = false)  (hret : meth.sig.returnType = none) (hd : decode c.code pc = .ok (.return_, 1)) (hq : Q none T.heap locs) (hC : cells ≤ C) (hS : slots ≤ S) : Go p e below (EndN s Q C S) T (mkF m pc Ls []) := by
  obtain ⟨fs, hr, hrun, hended, hW, hsame⟩ := X.leave (v := none) (fun _ => rfl) hlk
  exact ⟨_, _, X.returnOut hx hret hd hr, hrun, hended, _, _, rfl, hq, ⟨_, rfl⟩, hW, hsame.mono hC hS⟩
theorem callS (X : Stand p l e R s m args below meth c T locs cells slots) (hx : p.tables.exec = Jvm.exec) (hZ : Z.Warmed39 s.vm) {own : String} {index : Nat} (hown : s.vm.findClass own = some m.cls) {y : MethodName} {bytes : ByteArray} {maxL : Nat} {ret : Option FieldType} {rm : Room} {as : List Value} {Qc : Option Value → Heap → List Loc → Prop} (w1 : (Cond.methodLink own index y).before a0 Z = true) (w2 : (Cond.static y).before a0 Z = true) (w3 : (Cond.initialized y.cls).before a0 Z = true) (w4 : (Cond.code y bytes maxL ret).before a0 Z = true) (hy : y.cls ≠ "java/lang/invoke/MethodHandle" ∧ y.cls ≠ "java/lang/invoke/VarHandle") (eT : T.heap = h) (hM : Con l Z y bytes maxL ret rm as h Qc) {rest : List Value} (W : Nat) (hf : rm.frames + 1 ≤ R.frames) (hlo : W + (maxL + 11) + rm.locals ≤ R.locals) (hc : cells + rm.cells ≤ R.cells) (hs : slots + rm.slots ≤ R.slots) (hsize : Ls.size = c.maxLocals) (hlen : ∀ sig, parseMethodDescriptor y.desc = some sig → as.length = sig.parameters.length) (hst : st = as.reverse ++ rest) (hW : (rest.map fun v => v.category).sum = W) (hd : decode c.code pc = .ok (.invokestatic index, 3)) (r : ∀ v T' L, Stand p l e R s m args below meth c T' (locs ++ L) (cells + rm.cells) (slots + rm.slots) → Qc v T'.heap L → Go p e below En T' (mkF m (pc + 3) Ls (v.toList ++ rest))) : Go p e below En T (mkF m pc Ls st) := by
  obtain ⟨v, _, ⟨T', L', k', n'⟩, -, X', ⟨Lc, hq, e1, e2, e3⟩, k⟩ := Jvm.LawKit.callS X hx hown (mvT hZ w1) (mvT hZ w2) (mvT hZ w3) (mvT hZ w4) hy (backOf (W := W) (len := 3) (hM []) hZ w4 w3 hf hlo) (g := mkF m pc Ls st) rfl hsize (argsL := as) (rest := rest) hlen hst (by show 2 * 0 + _ ≤ _; rw [hW]; omega) hd (fun _ _ => ⟨rfl, eT, hc, hs⟩)
  dsimp only [Pt.U, Pt.locs, Pt.cells, Pt.slots] at X' e1 e2 e3 k hq
  subst e1 e2 e3
  exact Go.of k (r v T' Lc X' hq)
theorem callV (X : Stand p l e R s m args below meth c T locs cells slots) (hx : p.tables.exec = Jvm.exec) (hZ : Z.Warmed39 s.vm) {own : String} {index : Nat} (hown : s.vm.findClass own = some m.cls) {y : MethodName} {bytes : ByteArray} {maxL : Nat} {ret : Option FieldType} {rm : Room} {as : List Value} {Qc : Option Value → Heap → List Loc → Prop} {z : MethodName} {C0 : String} (w1 : (Cond.methodLink own index y).before a0 Z = true) (wd : (Cond.declares y).before a0 Z = true) (nf : NotFace s y) (ws : (Cond.selects C0 y z).before a0 Z = true) (wi : (Cond.instanceMethod z).before a0 Z = true) (w3 : (Cond.initialized z.cls).before a0 Z = true) (w4 : (Cond.code z bytes maxL ret).before a0 Z = true) (hy : y.cls ≠ "java/lang/invoke/MethodHandle" ∧ y.cls ≠ "java/lang/invoke/VarHandle") (eT : T.heap = h) {b : Addr} (E : Exa Z h b C0) (hM : Con l Z z bytes maxL ret rm (.ref b :: as) h Qc) {rest : List Value} (W : Nat) (hf : rm.frames + 1 ≤ R.frames) (hlo : W + (maxL + 11) + rm.locals ≤ R.locals) (hc : cells + rm.cells ≤ R.cells) (hs : slots + rm.slots ≤ R.slots) (hsize : Ls.size = c.maxLocals) (hlen : ∀ sig, parseMethodDescriptor y.desc = some sig → as.length = sig.parameters.length) (hst : st = as.reverse ++ .ref b :: rest) (hW : (rest.map fun v => v.category).sum = W) (hd : decode c.code pc = .ok (.invokevirtual index, 3)) (r : ∀ v T' L, Stand p l e R s m args below meth c T' (locs ++ L) (cells + rm.cells) (slots + rm.slots) → Qc v T'.heap L → Go p e below En T' (mkF m (pc + 3) Ls (v.toList ++ rest))) : Go p e below En T (mkF m pc Ls st) := by
  obtain ⟨cB, kB, q1, -, q3⟩ := isOf hZ eT E
  obtain ⟨v, _, ⟨T', L', k', n'⟩, -, X', ⟨Lc, hq, e1, e2, e3⟩, k⟩ := X.virtualBack hx hown (mvT hZ w1) (mvT hZ wd) nf (mvT hZ ws) (mvT hZ wi) hy (backOf (W := W) (len := 3) (hM []) hZ w4 w3 hf hlo) q1 q3 (g := mkF m pc Ls st) rfl hsize (Steps.refl _) (argsL := as) (rest := rest) hlen hst (by show 2 * 0 + _ ≤ _; rw [hW]; omega) hd (fun _ _ => ⟨rfl, eT, hc, hs⟩)
  dsimp only [Pt.U, Pt.locs, Pt.cells, Pt.slots] at X' e1 e2 e3 k hq
  subst e1 e2 e3
  exact Go.of (fun t q => k.trans q) (r v T' Lc X' hq)
theorem callI (X : Stand p l e R s m args below meth c T locs cells slots) (hx : p.tables.exec = Jvm.exec) (hZ : Z.Warmed39 s.vm) {own : String} {index : Nat} (hown : s.vm.findClass own = some m.cls) {y : MethodName} {bytes : ByteArray} {maxL : Nat} {rm : Room} {as : List Value} {Qc : Option Value → Heap → List Loc → Prop} (hn : y.name = "<init>") (w1 : (Cond.methodLink own index y).before a0 Z = true) (wi : (Cond.instanceMethod y).before a0 Z = true) (w3 : (Cond.initialized y.cls).before a0 Z = true) (w4 : (Cond.code y bytes maxL none).before a0 Z = true) (hy : y.cls ≠ "java/lang/invoke/MethodHandle" ∧ y.cls ≠ "java/lang/invoke/VarHandle") (eT : T.heap = h) {b : Addr} (hM : Con l Z y bytes maxL none rm (.ref b :: as) h Qc) {rest : List Value} (W : Nat) (hf : rm.frames + 1 ≤ R.frames) (hlo : W + (maxL + 11) + rm.locals ≤ R.locals) (hc : cells + rm.cells ≤ R.cells) (hs : slots + rm.slots ≤ R.slots) (hsize : Ls.size = c.maxLocals) (hlen : ∀ sig, parseMethodDescriptor y.desc = some sig → as.length = sig.parameters.length) (hst : st = as.reverse ++ .ref b :: rest) (hW : (rest.map fun v => v.category).sum = W) (hd : decode c.code pc = .ok (.invokespecial index, 3)) (r : ∀ v T' L, Stand p l e R s m args below meth c T' (locs ++ L) (cells + rm.cells) (slots + rm.slots) → Qc v T'.heap L → Go p e below En T' (mkF m (pc + 3) Ls (v.toList ++ rest))) : Go p e below En T (mkF m pc Ls st) := by
  obtain ⟨v, _, ⟨T', L', k', n'⟩, -, X', ⟨Lc, hq, e1, e2, e3⟩, k⟩ := X.specialBack hx hn hown (mvT hZ w1) (mvT hZ wi) (mvT hZ w4) hy (backOf (W := W) (len := 3) (hM []) hZ w4 w3 hf hlo) (g := mkF m pc Ls st) rfl hsize (Steps.refl _) (a := b) (argsL := as) (rest := rest) hlen hst (by show 2 * 0 + _ ≤ _; rw [hW]; omega) hd (fun _ _ => ⟨rfl, eT, hc, hs⟩)
  dsimp only [Pt.U, Pt.locs, Pt.cells, Pt.slots] at X' e1 e2 e3 k hq
  subst e1 e2 e3
  exact Go.of (fun t q => k.trans q) (r v T' Lc X' hq)
end Own
end Jvm.OwnGo
namespace Jvm.Pilot.@@N@@
open Jvm Jvm.ClassFile Sem Op Lib Jvm.Free Jvm.Stand Jvm.LawKit Jvm.RoadKit Bundle Jvm.Pilot.@@N@@.Jvm.D
open Jvm.OwnGo (Go Con Ret)
theorem own_pd0 : parseMethodDescriptor "(III)Z" = some ⟨[.int, .int, .int], some .boolean⟩ := by decide +kernel
theorem own_pd1 : parseMethodDescriptor "(I)Z" = some ⟨[.int], some .boolean⟩ := by decide +kernel
theorem own_pn0 : plainName "com/example/sibling/sibling/xpath/XmlCharactersIsNameStartPinLaw" = true := by first | (simp [plainName, overriddenIn]; done) | decide +kernel
theorem own_pn1 : plainName "com/example/sibling/sibling/xpath/XmlCharacters" = true := by first | (simp [plainName, overriddenIn]; done) | decide +kernel
abbrev own_ns (c : Int32) : Prop := (¬ c < 97 ∧ ¬ 122 < c) ∨ (¬ c < 65 ∧ ¬ 90 < c) ∨ c = 95 ∨ (¬ c < 192 ∧ ¬ 767 < c ∧ ¬ c = 215 ∧ ¬ c = 247) ∨ (¬ c < 880 ∧ ¬ 8191 < c ∧ ¬ c = 894) ∨ c = 8204 ∨ c = 8205 ∨ (¬ c < 8304 ∧ ¬ 8591 < c) ∨ (¬ c < 11264 ∧ ¬ 12271 < c) ∨ (¬ c < 12289 ∧ ¬ 55295 < c) ∨ (¬ c < 63744 ∧ ¬ 64975 < c) ∨ (¬ c < 65008 ∧ ¬ 65533 < c) ∨ (¬ c < 65536 ∧ ¬ 983039 < c)
def own_rf (c : Int32) : Prop := (¬ c < 65 ∧ ¬ 90 < c) ∨ c = 95 ∨ (¬ c < 97 ∧ ¬ 122 < c) ∨ (¬ c < 192 ∧ ¬ 214 < c) ∨ (¬ c < 216 ∧ ¬ 246 < c) ∨ (¬ c < 248 ∧ ¬ 767 < c) ∨ (¬ c < 880 ∧ ¬ 893 < c) ∨ (¬ c < 895 ∧ ¬ 8191 < c) ∨ (¬ c < 8204 ∧ ¬ 8205 < c) ∨ (¬ c < 8304 ∧ ¬ 8591 < c) ∨ (¬ c < 11264 ∧ ¬ 12271 < c) ∨ (¬ c < 12289 ∧ ¬ 55295 < c) ∨ (¬ c < 63744 ∧ ¬ 64975 < c) ∨ (¬ c < 65008 ∧ ¬ 65533 < c) ∨ (¬ c < 65536 ∧ ¬ 983039 < c)

def own_v (c : Int32) : Int32 := if own_ns c then 1 else 0
def own_in (c lo hi : Int32) : Int32 := if ¬ c < lo ∧ ¬ hi < c then 1 else 0
theorem own_l65 : (65 : Int32).toInt = 65 := by decide
theorem own_l90 : (90 : Int32).toInt = 90 := by decide
theorem own_l95 : (95 : Int32).toInt = 95 := by decide
theorem own_l97 : (97 : Int32).toInt = 97 := by decide
theorem own_l122 : (122 : Int32).toInt = 122 := by decide
theorem own_l192 : (192 : Int32).toInt = 192 := by decide
theorem own_l214 : (214 : Int32).toInt = 214 := by decide
theorem own_l215 : (215 : Int32).toInt = 215 := by decide
theorem own_l216 : (216 : Int32).toInt = 216 := by decide
theorem own_l246 : (246 : Int32).toInt = 246 := by decide
theorem own_l247 : (247 : Int32).toInt = 247 := by decide
theorem own_l248 : (248 : Int32).toInt = 248 := by decide
theorem own_l767 : (767 : Int32).toInt = 767 := by decide
theorem own_l880 : (880 : Int32).toInt = 880 := by decide
theorem own_l893 : (893 : Int32).toInt = 893 := by decide
theorem own_l894 : (894 : Int32).toInt = 894 := by decide
theorem own_l895 : (895 : Int32).toInt = 895 := by decide
theorem own_l8191 : (8191 : Int32).toInt = 8191 := by decide
theorem own_l8204 : (8204 : Int32).toInt = 8204 := by decide
theorem own_l8205 : (8205 : Int32).toInt = 8205 := by decide
theorem own_l8304 : (8304 : Int32).toInt = 8304 := by decide
theorem own_l8591 : (8591 : Int32).toInt = 8591 := by decide
theorem own_l11264 : (11264 : Int32).toInt = 11264 := by decide
theorem own_l12271 : (12271 : Int32).toInt = 12271 := by decide
theorem own_l12289 : (12289 : Int32).toInt = 12289 := by decide
theorem own_l55295 : (55295 : Int32).toInt = 55295 := by decide
theorem own_l63744 : (63744 : Int32).toInt = 63744 := by decide
theorem own_l64975 : (64975 : Int32).toInt = 64975 := by decide
theorem own_l65008 : (65008 : Int32).toInt = 65008 := by decide
theorem own_l65533 : (65533 : Int32).toInt = 65533 := by decide
theorem own_l65536 : (65536 : Int32).toInt = 65536 := by decide
theorem own_l983039 : (983039 : Int32).toInt = 983039 := by decide
theorem own_same (c : Int32) : own_ns c ↔ own_rf c := by
  unfold own_ns own_rf
  simp only [Int32.lt_iff_toInt_lt, ← Int32.toInt_inj, own_l65, own_l90, own_l95, own_l97, own_l122, own_l192, own_l214, own_l215, own_l216, own_l246, own_l247, own_l248, own_l767, own_l880, own_l893, own_l894, own_l895, own_l8191, own_l8204, own_l8205, own_l8304, own_l8591, own_l11264, own_l12271, own_l12289, own_l55295, own_l63744, own_l64975, own_l65008, own_l65533, own_l65536, own_l983039]
  generalize c.toInt = z
  constructor
  · rintro (h | h | h | h | h | h | h | h | h | h | h | h | h) <;> omega
  · rintro (h | h | h | h | h | h | h | h | h | h | h | h | h | h | h) <;> omega
theorem d3_0 : decode method_2_code 0 = .ok (.iload_n 1, 1) := by decide +kernel
theorem d3_1 : decode method_2_code 1 = .ok (.iload_n 0, 1) := by decide +kernel
theorem d3_2 : decode method_2_code 2 = .ok (.if_icmp .gt 12, 3) := by decide +kernel
theorem d3_5 : decode method_2_code 5 = .ok (.iload_n 0, 1) := by decide +kernel
theorem d3_6 : decode method_2_code 6 = .ok (.iload_n 2, 1) := by decide +kernel
theorem d3_7 : decode method_2_code 7 = .ok (.if_icmp .gt 7, 3) := by decide +kernel
theorem d3_10 : decode method_2_code 10 = .ok (.iconst 1, 1) := by decide +kernel
theorem d3_11 : decode method_2_code 11 = .ok (.goto 4, 3) := by decide +kernel
theorem d3_14 : decode method_2_code 14 = .ok (.iconst 0, 1) := by decide +kernel
theorem d3_15 : decode method_2_code 15 = .ok (.ireturn, 1) := by decide +kernel
theorem own_ef_rm1 (m : MethodId) (x0 : Int32) (x1 : Int32) (x2 : Int32) : entryFrame m [(.int x0), (.int x1), (.int x2)].toArray 3 = mkF m 0 #[.val (.int x0), .val (.int x1), .val (.int x2)] [] := by first | (simp [entryFrame, mkF, argsToLocals, Value.category]; done) | rfl
set_option maxRecDepth 65536 in
set_option maxHeartbeats 40000000 in
theorem rm1 (l : Launch) (Z : State) (a0 : Array Value) (hw : ∀ d ∈ tables_1, d.before a0 Z = true) (q0 lo hi : Int32) (h0 : Heap)  :
    Con l Z (⟨"com/example/sibling/sibling/xpath/XmlCharactersIsNameStartPinLaw", "in", "(III)Z"⟩ : MethodName) method_2_code 3 (some .boolean) ({ frames := 0, cells := 0, slots := 0, locals := 0 } : Room) [(.int q0), (.int lo), (.int hi)] h0 (Ret (some (.int (own_in q0 lo hi))) h0) := by
  refine Con.of (plainFor_of_name own_pn0) (Ls0 := #[.val (.int q0), .val (.int lo), .val (.int hi)]) (fun m => own_ef_rm1 m q0 lo hi) ?_
  intro p e s m below meth c T0 X0 hx hZ hby hml hown hnm hret hlk e0
  show Go p e below _ T0 (mkF m 0 #[.val (.int q0), .val (.int lo), .val (.int hi)] [])
  refine OwnGo.iloadN X0 hx (hb hby d3_0) rfl ?_
  show Go p e below _ T0 (mkF m 1 #[.val (.int q0), .val (.int lo), .val (.int hi)] [(.int lo)])
  refine OwnGo.iloadN X0 hx (hb hby d3_1) rfl ?_
  show Go p e below _ T0 (mkF m 2 #[.val (.int q0), .val (.int lo), .val (.int hi)] [(.int q0), (.int lo)])
  refine OwnGo.ic_gt X0 hx (pc' := 14) (hb hby d3_2) (by decide) (by decide) (fun h2 => ?_) (fun h2 => ?_)
  ·
    show Go p e below _ T0 (mkF m 14 #[.val (.int q0), .val (.int lo), .val (.int hi)] [])
    refine OwnGo.iconst X0 hx (z := (0 : Int32)) (hb hby d3_14) (by decide) ?_
    show Go p e below _ T0 (mkF m 15 #[.val (.int q0), .val (.int lo), .val (.int hi)] [(.int (0 : Int32))])
    exact OwnGo.retB X0 hx hlk (z' := (0 : Int32)) hret (hb hby d3_15) rfl ⟨by simp only [own_in, h2, not_true_eq_false, not_false_eq_true, false_and, and_false, and_true, true_and, true_or, or_true, false_or, or_false, if_true, if_false], e0, rfl⟩ (by decide) (by decide)
  ·
    show Go p e below _ T0 (mkF m 5 #[.val (.int q0), .val (.int lo), .val (.int hi)] [])
    refine OwnGo.iloadN X0 hx (hb hby d3_5) rfl ?_
    show Go p e below _ T0 (mkF m 6 #[.val (.int q0), .val (.int lo), .val (.int hi)] [(.int q0)])
    refine OwnGo.iloadN X0 hx (hb hby d3_6) rfl ?_
    show Go p e below _ T0 (mkF m 7 #[.val (.int q0), .val (.int lo), .val (.int hi)] [(.int hi), (.int q0)])
    refine OwnGo.ic_gt X0 hx (pc' := 14) (hb hby d3_7) (by decide) (by decide) (fun h7 => ?_) (fun h7 => ?_)
    ·
      show Go p e below _ T0 (mkF m 14 #[.val (.int q0), .val (.int lo), .val (.int hi)] [])
      refine OwnGo.iconst X0 hx (z := (0 : Int32)) (hb hby d3_14) (by decide) ?_
      show Go p e below _ T0 (mkF m 15 #[.val (.int q0), .val (.int lo), .val (.int hi)] [(.int (0 : Int32))])
      exact OwnGo.retB X0 hx hlk (z' := (0 : Int32)) hret (hb hby d3_15) rfl ⟨by simp only [own_in, h2, h7, not_true_eq_false, not_false_eq_true, false_and, and_false, and_true, true_and, true_or, or_true, false_or, or_false, if_true, if_false], e0, rfl⟩ (by decide) (by decide)
    ·
      show Go p e below _ T0 (mkF m 10 #[.val (.int q0), .val (.int lo), .val (.int hi)] [])
      refine OwnGo.iconst X0 hx (z := (1 : Int32)) (hb hby d3_10) (by decide) ?_
      show Go p e below _ T0 (mkF m 11 #[.val (.int q0), .val (.int lo), .val (.int hi)] [(.int (1 : Int32))])
      refine OwnGo.goto X0 hx (pc' := 15) (hb hby d3_11) (by decide) (by decide) ?_
      show Go p e below _ T0 (mkF m 15 #[.val (.int q0), .val (.int lo), .val (.int hi)] [(.int (1 : Int32))])
      exact OwnGo.retB X0 hx hlk (z' := (1 : Int32)) hret (hb hby d3_15) rfl ⟨by simp only [own_in, h2, h7, not_true_eq_false, not_false_eq_true, false_and, and_false, and_true, true_and, true_or, or_true, false_or, or_false, if_true, if_false], e0, rfl⟩ (by decide) (by decide)
theorem d1_0 : decode prog_135_method_7_code 0 = .ok (.iload_n 0, 1) := by decide +kernel
theorem d1_1 : decode prog_135_method_7_code 1 = .ok (.bipush 97, 2) := by decide +kernel
theorem d1_3 : decode prog_135_method_7_code 3 = .ok (.if_icmp .lt 9, 3) := by decide +kernel
theorem d1_6 : decode prog_135_method_7_code 6 = .ok (.iload_n 0, 1) := by decide +kernel
theorem d1_7 : decode prog_135_method_7_code 7 = .ok (.bipush 122, 2) := by decide +kernel
theorem d1_9 : decode prog_135_method_7_code 9 = .ok (.if_icmp .le 161, 3) := by decide +kernel
theorem d1_12 : decode prog_135_method_7_code 12 = .ok (.iload_n 0, 1) := by decide +kernel
theorem d1_13 : decode prog_135_method_7_code 13 = .ok (.bipush 65, 2) := by decide +kernel
theorem d1_15 : decode prog_135_method_7_code 15 = .ok (.if_icmp .lt 9, 3) := by decide +kernel
theorem d1_18 : decode prog_135_method_7_code 18 = .ok (.iload_n 0, 1) := by decide +kernel
theorem d1_19 : decode prog_135_method_7_code 19 = .ok (.bipush 90, 2) := by decide +kernel
theorem d1_21 : decode prog_135_method_7_code 21 = .ok (.if_icmp .le 149, 3) := by decide +kernel
theorem d1_24 : decode prog_135_method_7_code 24 = .ok (.iload_n 0, 1) := by decide +kernel
theorem d1_25 : decode prog_135_method_7_code 25 = .ok (.bipush 95, 2) := by decide +kernel
theorem d1_27 : decode prog_135_method_7_code 27 = .ok (.if_icmp .eq 143, 3) := by decide +kernel
theorem d1_30 : decode prog_135_method_7_code 30 = .ok (.iload_n 0, 1) := by decide +kernel
theorem d1_31 : decode prog_135_method_7_code 31 = .ok (.sipush 192, 3) := by decide +kernel
theorem d1_34 : decode prog_135_method_7_code 34 = .ok (.if_icmp .lt 24, 3) := by decide +kernel
theorem d1_37 : decode prog_135_method_7_code 37 = .ok (.iload_n 0, 1) := by decide +kernel
theorem d1_38 : decode prog_135_method_7_code 38 = .ok (.sipush 767, 3) := by decide +kernel
theorem d1_41 : decode prog_135_method_7_code 41 = .ok (.if_icmp .gt 17, 3) := by decide +kernel
theorem d1_44 : decode prog_135_method_7_code 44 = .ok (.iload_n 0, 1) := by decide +kernel
theorem d1_45 : decode prog_135_method_7_code 45 = .ok (.sipush 215, 3) := by decide +kernel
theorem d1_48 : decode prog_135_method_7_code 48 = .ok (.if_icmp .eq 10, 3) := by decide +kernel
theorem d1_51 : decode prog_135_method_7_code 51 = .ok (.iload_n 0, 1) := by decide +kernel
theorem d1_52 : decode prog_135_method_7_code 52 = .ok (.sipush 247, 3) := by decide +kernel
theorem d1_55 : decode prog_135_method_7_code 55 = .ok (.if_icmp .ne 115, 3) := by decide +kernel
theorem d1_58 : decode prog_135_method_7_code 58 = .ok (.iload_n 0, 1) := by decide +kernel
theorem d1_59 : decode prog_135_method_7_code 59 = .ok (.sipush 880, 3) := by decide +kernel
theorem d1_62 : decode prog_135_method_7_code 62 = .ok (.if_icmp .lt 17, 3) := by decide +kernel
theorem d1_65 : decode prog_135_method_7_code 65 = .ok (.iload_n 0, 1) := by decide +kernel
theorem d1_66 : decode prog_135_method_7_code 66 = .ok (.sipush 8191, 3) := by decide +kernel
theorem d1_69 : decode prog_135_method_7_code 69 = .ok (.if_icmp .gt 10, 3) := by decide +kernel
theorem d1_72 : decode prog_135_method_7_code 72 = .ok (.iload_n 0, 1) := by decide +kernel
theorem d1_73 : decode prog_135_method_7_code 73 = .ok (.sipush 894, 3) := by decide +kernel
theorem d1_76 : decode prog_135_method_7_code 76 = .ok (.if_icmp .ne 94, 3) := by decide +kernel
theorem d1_79 : decode prog_135_method_7_code 79 = .ok (.iload_n 0, 1) := by decide +kernel
theorem d1_80 : decode prog_135_method_7_code 80 = .ok (.sipush 8204, 3) := by decide +kernel
theorem d1_83 : decode prog_135_method_7_code 83 = .ok (.if_icmp .eq 87, 3) := by decide +kernel
theorem d1_86 : decode prog_135_method_7_code 86 = .ok (.iload_n 0, 1) := by decide +kernel
theorem d1_87 : decode prog_135_method_7_code 87 = .ok (.sipush 8205, 3) := by decide +kernel
theorem d1_90 : decode prog_135_method_7_code 90 = .ok (.if_icmp .eq 80, 3) := by decide +kernel
theorem d1_93 : decode prog_135_method_7_code 93 = .ok (.iload_n 0, 1) := by decide +kernel
theorem d1_94 : decode prog_135_method_7_code 94 = .ok (.sipush 8304, 3) := by decide +kernel
theorem d1_97 : decode prog_135_method_7_code 97 = .ok (.if_icmp .lt 10, 3) := by decide +kernel
theorem d1_100 : decode prog_135_method_7_code 100 = .ok (.iload_n 0, 1) := by decide +kernel
theorem d1_101 : decode prog_135_method_7_code 101 = .ok (.sipush 8591, 3) := by decide +kernel
theorem d1_104 : decode prog_135_method_7_code 104 = .ok (.if_icmp .le 66, 3) := by decide +kernel
theorem d1_107 : decode prog_135_method_7_code 107 = .ok (.iload_n 0, 1) := by decide +kernel
theorem d1_108 : decode prog_135_method_7_code 108 = .ok (.sipush 11264, 3) := by decide +kernel
theorem d1_111 : decode prog_135_method_7_code 111 = .ok (.if_icmp .lt 10, 3) := by decide +kernel
theorem d1_114 : decode prog_135_method_7_code 114 = .ok (.iload_n 0, 1) := by decide +kernel
theorem d1_115 : decode prog_135_method_7_code 115 = .ok (.sipush 12271, 3) := by decide +kernel
theorem d1_118 : decode prog_135_method_7_code 118 = .ok (.if_icmp .le 52, 3) := by decide +kernel
theorem d1_121 : decode prog_135_method_7_code 121 = .ok (.iload_n 0, 1) := by decide +kernel
theorem d1_122 : decode prog_135_method_7_code 122 = .ok (.sipush 12289, 3) := by decide +kernel
theorem d1_125 : decode prog_135_method_7_code 125 = .ok (.if_icmp .lt 9, 3) := by decide +kernel
theorem d1_128 : decode prog_135_method_7_code 128 = .ok (.iload_n 0, 1) := by decide +kernel
theorem d1_129 : decode prog_135_method_7_code 129 = .ok (.ldc 70, 2) := by decide +kernel
theorem d1_131 : decode prog_135_method_7_code 131 = .ok (.if_icmp .le 39, 3) := by decide +kernel
theorem d1_134 : decode prog_135_method_7_code 134 = .ok (.iload_n 0, 1) := by decide +kernel
theorem d1_135 : decode prog_135_method_7_code 135 = .ok (.ldc 71, 2) := by decide +kernel
theorem d1_137 : decode prog_135_method_7_code 137 = .ok (.if_icmp .lt 9, 3) := by decide +kernel
theorem d1_140 : decode prog_135_method_7_code 140 = .ok (.iload_n 0, 1) := by decide +kernel
theorem d1_141 : decode prog_135_method_7_code 141 = .ok (.ldc 72, 2) := by decide +kernel
theorem d1_143 : decode prog_135_method_7_code 143 = .ok (.if_icmp .le 27, 3) := by decide +kernel
theorem d1_146 : decode prog_135_method_7_code 146 = .ok (.iload_n 0, 1) := by decide +kernel
theorem d1_147 : decode prog_135_method_7_code 147 = .ok (.ldc 73, 2) := by decide +kernel
theorem d1_149 : decode prog_135_method_7_code 149 = .ok (.if_icmp .lt 9, 3) := by decide +kernel
theorem d1_152 : decode prog_135_method_7_code 152 = .ok (.iload_n 0, 1) := by decide +kernel
theorem d1_153 : decode prog_135_method_7_code 153 = .ok (.ldc 74, 2) := by decide +kernel
theorem d1_155 : decode prog_135_method_7_code 155 = .ok (.if_icmp .le 15, 3) := by decide +kernel
theorem d1_158 : decode prog_135_method_7_code 158 = .ok (.iload_n 0, 1) := by decide +kernel
theorem d1_159 : decode prog_135_method_7_code 159 = .ok (.ldc 75, 2) := by decide +kernel
theorem d1_161 : decode prog_135_method_7_code 161 = .ok (.if_icmp .lt 13, 3) := by decide +kernel
theorem d1_164 : decode prog_135_method_7_code 164 = .ok (.iload_n 0, 1) := by decide +kernel
theorem d1_165 : decode prog_135_method_7_code 165 = .ok (.ldc 76, 2) := by decide +kernel
theorem d1_167 : decode prog_135_method_7_code 167 = .ok (.if_icmp .gt 7, 3) := by decide +kernel
theorem d1_170 : decode prog_135_method_7_code 170 = .ok (.iconst 1, 1) := by decide +kernel
theorem d1_171 : decode prog_135_method_7_code 171 = .ok (.goto 4, 3) := by decide +kernel
theorem d1_174 : decode prog_135_method_7_code 174 = .ok (.iconst 0, 1) := by decide +kernel
theorem d1_175 : decode prog_135_method_7_code 175 = .ok (.ireturn, 1) := by decide +kernel
theorem own_ef_rm2 (m : MethodId) (x0 : Int32) : entryFrame m [(.int x0)].toArray 1 = mkF m 0 #[.val (.int x0)] [] := by first | (simp [entryFrame, mkF, argsToLocals, Value.category]; done) | rfl
set_option maxRecDepth 65536 in
set_option maxHeartbeats 40000000 in
theorem rm2 (l : Launch) (Z : State) (a0 : Array Value) (hw : ∀ d ∈ tables_1, d.before a0 Z = true) (p1 : Int32) (h0 : Heap)  :
    Con l Z (⟨"com/example/sibling/sibling/xpath/XmlCharacters", "isNameStart", "(I)Z"⟩ : MethodName) prog_135_method_7_code 1 (some .boolean) ({ frames := 0, cells := 0, slots := 0, locals := 0 } : Room) [(.int p1)] h0 (Ret (some (.int (own_v p1))) h0) := by
  refine Con.of (plainFor_of_name own_pn1) (Ls0 := #[.val (.int p1)]) (fun m => own_ef_rm2 m p1) ?_
  intro p e s m below meth c T0 X0 hx hZ hby hml hown hnm hret hlk e0
  have J170 : ∀  (hv : own_ns p1) (T' : State), Stand p l e ({ frames := 0, cells := 0, slots := 0, locals := 0 } : Room) s m #[(.int p1)] below meth c T' [] 0 0 → T'.heap = h0 → Go p e below (OwnGo.EndN s (Ret (some (.int (own_v p1))) h0) ({ frames := 0, cells := 0, slots := 0, locals := 0 } : Room).cells ({ frames := 0, cells := 0, slots := 0, locals := 0 } : Room).slots) T' (mkF m 170 #[.val (.int p1)] []) := by
    intro hv T1 X1 e1
    show Go p e below _ T1 (mkF m 170 #[.val (.int p1)] [])
    refine OwnGo.iconst X1 hx (z := (1 : Int32)) (hb hby d1_170) (by decide) ?_
    show Go p e below _ T1 (mkF m 171 #[.val (.int p1)] [(.int (1 : Int32))])
    refine OwnGo.goto X1 hx (pc' := 175) (hb hby d1_171) (by decide) (by decide) ?_
    show Go p e below _ T1 (mkF m 175 #[.val (.int p1)] [(.int (1 : Int32))])
    exact OwnGo.retB X1 hx hlk (z' := (1 : Int32)) hret (hb hby d1_175) rfl ⟨by simp only [own_v, hv, if_true, if_false], e1, rfl⟩ (by decide) (by decide)
  have J174 : ∀  (hv : ¬ own_ns p1) (T' : State), Stand p l e ({ frames := 0, cells := 0, slots := 0, locals := 0 } : Room) s m #[(.int p1)] below meth c T' [] 0 0 → T'.heap = h0 → Go p e below (OwnGo.EndN s (Ret (some (.int (own_v p1))) h0) ({ frames := 0, cells := 0, slots := 0, locals := 0 } : Room).cells ({ frames := 0, cells := 0, slots := 0, locals := 0 } : Room).slots) T' (mkF m 174 #[.val (.int p1)] []) := by
    intro hv T2 X2 e2
    show Go p e below _ T2 (mkF m 174 #[.val (.int p1)] [])
    refine OwnGo.iconst X2 hx (z := (0 : Int32)) (hb hby d1_174) (by decide) ?_
    show Go p e below _ T2 (mkF m 175 #[.val (.int p1)] [(.int (0 : Int32))])
    exact OwnGo.retB X2 hx hlk (z' := (0 : Int32)) hret (hb hby d1_175) rfl ⟨by simp only [own_v, hv, if_true, if_false], e2, rfl⟩ (by decide) (by decide)
  have J12 : ∀  (n0 : ¬ (¬ p1 < 97 ∧ ¬ 122 < p1)) (T' : State), Stand p l e ({ frames := 0, cells := 0, slots := 0, locals := 0 } : Room) s m #[(.int p1)] below meth c T' [] 0 0 → T'.heap = h0 → Go p e below (OwnGo.EndN s (Ret (some (.int (own_v p1))) h0) ({ frames := 0, cells := 0, slots := 0, locals := 0 } : Room).cells ({ frames := 0, cells := 0, slots := 0, locals := 0 } : Room).slots) T' (mkF m 12 #[.val (.int p1)] []) := by
    intro n0 T3 X3 e3
    have J24 : ∀  (n1 : ¬ (¬ p1 < 65 ∧ ¬ 90 < p1)) (T' : State), Stand p l e ({ frames := 0, cells := 0, slots := 0, locals := 0 } : Room) s m #[(.int p1)] below meth c T' [] 0 0 → T'.heap = h0 → Go p e below (OwnGo.EndN s (Ret (some (.int (own_v p1))) h0) ({ frames := 0, cells := 0, slots := 0, locals := 0 } : Room).cells ({ frames := 0, cells := 0, slots := 0, locals := 0 } : Room).slots) T' (mkF m 24 #[.val (.int p1)] []) := by
      intro n1 T4 X4 e4
      show Go p e below _ T4 (mkF m 24 #[.val (.int p1)] [])
      refine OwnGo.iloadN X4 hx (hb hby d1_24) rfl ?_
      show Go p e below _ T4 (mkF m 25 #[.val (.int p1)] [(.int p1)])
      refine OwnGo.bipush X4 hx (z := (95 : Int32)) (hb hby d1_25) (by decide) ?_
      show Go p e below _ T4 (mkF m 27 #[.val (.int p1)] [(.int (95 : Int32)), (.int p1)])
      refine OwnGo.ic_eq X4 hx (pc' := 170) (hb hby d1_27) (by decide) (by decide) (fun h27 => ?_) (fun h27 => ?_)
      ·
        exact J170 (by simp only [own_ns, h27, not_true_eq_false, not_false_eq_true, false_and, and_false, and_true, true_and, true_or, or_true, false_or, or_false, if_true, if_false]) T4 X4 e4
      ·
        have J58 : ∀  (n3 : ¬ (¬ p1 < 192 ∧ ¬ 767 < p1 ∧ ¬ p1 = 215 ∧ ¬ p1 = 247)) (T' : State), Stand p l e ({ frames := 0, cells := 0, slots := 0, locals := 0 } : Room) s m #[(.int p1)] below meth c T' [] 0 0 → T'.heap = h0 → Go p e below (OwnGo.EndN s (Ret (some (.int (own_v p1))) h0) ({ frames := 0, cells := 0, slots := 0, locals := 0 } : Room).cells ({ frames := 0, cells := 0, slots := 0, locals := 0 } : Room).slots) T' (mkF m 58 #[.val (.int p1)] []) := by
          intro n3 T5 X5 e5
          have J79 : ∀  (n4 : ¬ (¬ p1 < 880 ∧ ¬ 8191 < p1 ∧ ¬ p1 = 894)) (T' : State), Stand p l e ({ frames := 0, cells := 0, slots := 0, locals := 0 } : Room) s m #[(.int p1)] below meth c T' [] 0 0 → T'.heap = h0 → Go p e below (OwnGo.EndN s (Ret (some (.int (own_v p1))) h0) ({ frames := 0, cells := 0, slots := 0, locals := 0 } : Room).cells ({ frames := 0, cells := 0, slots := 0, locals := 0 } : Room).slots) T' (mkF m 79 #[.val (.int p1)] []) := by
            intro n4 T6 X6 e6
            show Go p e below _ T6 (mkF m 79 #[.val (.int p1)] [])
            refine OwnGo.iloadN X6 hx (hb hby d1_79) rfl ?_
            show Go p e below _ T6 (mkF m 80 #[.val (.int p1)] [(.int p1)])
            refine OwnGo.sipush X6 hx (z := (8204 : Int32)) (hb hby d1_80) (by decide) ?_
            show Go p e below _ T6 (mkF m 83 #[.val (.int p1)] [(.int (8204 : Int32)), (.int p1)])
            refine OwnGo.ic_eq X6 hx (pc' := 170) (hb hby d1_83) (by decide) (by decide) (fun h83 => ?_) (fun h83 => ?_)
            ·
              exact J170 (by simp only [own_ns, h27, h83, not_true_eq_false, not_false_eq_true, false_and, and_false, and_true, true_and, true_or, or_true, false_or, or_false, if_true, if_false]) T6 X6 e6
            ·
              show Go p e below _ T6 (mkF m 86 #[.val (.int p1)] [])
              refine OwnGo.iloadN X6 hx (hb hby d1_86) rfl ?_
              show Go p e below _ T6 (mkF m 87 #[.val (.int p1)] [(.int p1)])
              refine OwnGo.sipush X6 hx (z := (8205 : Int32)) (hb hby d1_87) (by decide) ?_
              show Go p e below _ T6 (mkF m 90 #[.val (.int p1)] [(.int (8205 : Int32)), (.int p1)])
              refine OwnGo.ic_eq X6 hx (pc' := 170) (hb hby d1_90) (by decide) (by decide) (fun h90 => ?_) (fun h90 => ?_)
              ·
                exact J170 (by simp only [own_ns, h27, h83, h90, not_true_eq_false, not_false_eq_true, false_and, and_false, and_true, true_and, true_or, or_true, false_or, or_false, if_true, if_false]) T6 X6 e6
              ·
                have J107 : ∀  (n7 : ¬ (¬ p1 < 8304 ∧ ¬ 8591 < p1)) (T' : State), Stand p l e ({ frames := 0, cells := 0, slots := 0, locals := 0 } : Room) s m #[(.int p1)] below meth c T' [] 0 0 → T'.heap = h0 → Go p e below (OwnGo.EndN s (Ret (some (.int (own_v p1))) h0) ({ frames := 0, cells := 0, slots := 0, locals := 0 } : Room).cells ({ frames := 0, cells := 0, slots := 0, locals := 0 } : Room).slots) T' (mkF m 107 #[.val (.int p1)] []) := by
                  intro n7 T7 X7 e7
                  have J121 : ∀  (n8 : ¬ (¬ p1 < 11264 ∧ ¬ 12271 < p1)) (T' : State), Stand p l e ({ frames := 0, cells := 0, slots := 0, locals := 0 } : Room) s m #[(.int p1)] below meth c T' [] 0 0 → T'.heap = h0 → Go p e below (OwnGo.EndN s (Ret (some (.int (own_v p1))) h0) ({ frames := 0, cells := 0, slots := 0, locals := 0 } : Room).cells ({ frames := 0, cells := 0, slots := 0, locals := 0 } : Room).slots) T' (mkF m 121 #[.val (.int p1)] []) := by
                    intro n8 T8 X8 e8
                    have J134 : ∀  (n9 : ¬ (¬ p1 < 12289 ∧ ¬ 55295 < p1)) (T' : State), Stand p l e ({ frames := 0, cells := 0, slots := 0, locals := 0 } : Room) s m #[(.int p1)] below meth c T' [] 0 0 → T'.heap = h0 → Go p e below (OwnGo.EndN s (Ret (some (.int (own_v p1))) h0) ({ frames := 0, cells := 0, slots := 0, locals := 0 } : Room).cells ({ frames := 0, cells := 0, slots := 0, locals := 0 } : Room).slots) T' (mkF m 134 #[.val (.int p1)] []) := by
                      intro n9 T9 X9 e9
                      have J146 : ∀  (n10 : ¬ (¬ p1 < 63744 ∧ ¬ 64975 < p1)) (T' : State), Stand p l e ({ frames := 0, cells := 0, slots := 0, locals := 0 } : Room) s m #[(.int p1)] below meth c T' [] 0 0 → T'.heap = h0 → Go p e below (OwnGo.EndN s (Ret (some (.int (own_v p1))) h0) ({ frames := 0, cells := 0, slots := 0, locals := 0 } : Room).cells ({ frames := 0, cells := 0, slots := 0, locals := 0 } : Room).slots) T' (mkF m 146 #[.val (.int p1)] []) := by
                        intro n10 T10 X10 e10
                        have J158 : ∀  (n11 : ¬ (¬ p1 < 65008 ∧ ¬ 65533 < p1)) (T' : State), Stand p l e ({ frames := 0, cells := 0, slots := 0, locals := 0 } : Room) s m #[(.int p1)] below meth c T' [] 0 0 → T'.heap = h0 → Go p e below (OwnGo.EndN s (Ret (some (.int (own_v p1))) h0) ({ frames := 0, cells := 0, slots := 0, locals := 0 } : Room).cells ({ frames := 0, cells := 0, slots := 0, locals := 0 } : Room).slots) T' (mkF m 158 #[.val (.int p1)] []) := by
                          intro n11 T11 X11 e11
                          show Go p e below _ T11 (mkF m 158 #[.val (.int p1)] [])
                          refine OwnGo.iloadN X11 hx (hb hby d1_158) rfl ?_
                          show Go p e below _ T11 (mkF m 159 #[.val (.int p1)] [(.int p1)])
                          refine OwnGo.ldcInt X11 hx hZ hown (v := (65536 : Int32)) (hw _ (List.mem_of_getElem? (i := 23) rfl)) (hb hby d1_159) ?_
                          show Go p e below _ T11 (mkF m 161 #[.val (.int p1)] [(.int (65536 : Int32)), (.int p1)])
                          refine OwnGo.ic_lt X11 hx (pc' := 174) (hb hby d1_161) (by decide) (by decide) (fun h161 => ?_) (fun h161 => ?_)
                          ·
                            exact J174 (by simp only [own_ns, n0, n1, n3, n4, n7, n8, n9, n10, n11, h27, h83, h90, h161, not_true_eq_false, not_false_eq_true, false_and, and_false, and_true, true_and, true_or, or_true, false_or, or_false, if_true, if_false]) T11 X11 e11
                          ·
                            show Go p e below _ T11 (mkF m 164 #[.val (.int p1)] [])
                            refine OwnGo.iloadN X11 hx (hb hby d1_164) rfl ?_
                            show Go p e below _ T11 (mkF m 165 #[.val (.int p1)] [(.int p1)])
                            refine OwnGo.ldcInt X11 hx hZ hown (v := (983039 : Int32)) (hw _ (List.mem_of_getElem? (i := 34) rfl)) (hb hby d1_165) ?_
                            show Go p e below _ T11 (mkF m 167 #[.val (.int p1)] [(.int (983039 : Int32)), (.int p1)])
                            refine OwnGo.ic_gt X11 hx (pc' := 174) (hb hby d1_167) (by decide) (by decide) (fun h167 => ?_) (fun h167 => ?_)
                            ·
                              exact J174 (by simp only [own_ns, n0, n1, n3, n4, n7, n8, n9, n10, n11, h27, h83, h90, h161, h167, not_true_eq_false, not_false_eq_true, false_and, and_false, and_true, true_and, true_or, or_true, false_or, or_false, if_true, if_false]) T11 X11 e11
                            ·
                              exact J170 (by simp only [own_ns, h27, h83, h90, h161, h167, not_true_eq_false, not_false_eq_true, false_and, and_false, and_true, true_and, true_or, or_true, false_or, or_false, if_true, if_false]) T11 X11 e11
                        show Go p e below _ T10 (mkF m 146 #[.val (.int p1)] [])
                        refine OwnGo.iloadN X10 hx (hb hby d1_146) rfl ?_
                        show Go p e below _ T10 (mkF m 147 #[.val (.int p1)] [(.int p1)])
                        refine OwnGo.ldcInt X10 hx hZ hown (v := (65008 : Int32)) (hw _ (List.mem_of_getElem? (i := 22) rfl)) (hb hby d1_147) ?_
                        show Go p e below _ T10 (mkF m 149 #[.val (.int p1)] [(.int (65008 : Int32)), (.int p1)])
                        refine OwnGo.ic_lt X10 hx (pc' := 158) (hb hby d1_149) (by decide) (by decide) (fun h149 => ?_) (fun h149 => ?_)
                        ·
                          exact J158 (by simp only [h27, h83, h90, h149, not_true_eq_false, not_false_eq_true, false_and, and_false, and_true, true_and, true_or, or_true, false_or, or_false, if_true, if_false]) T10 X10 e10
                        ·
                          show Go p e below _ T10 (mkF m 152 #[.val (.int p1)] [])
                          refine OwnGo.iloadN X10 hx (hb hby d1_152) rfl ?_
                          show Go p e below _ T10 (mkF m 153 #[.val (.int p1)] [(.int p1)])
                          refine OwnGo.ldcInt X10 hx hZ hown (v := (65533 : Int32)) (hw _ (List.mem_of_getElem? (i := 33) rfl)) (hb hby d1_153) ?_
                          show Go p e below _ T10 (mkF m 155 #[.val (.int p1)] [(.int (65533 : Int32)), (.int p1)])
                          refine OwnGo.ic_le X10 hx (pc' := 170) (hb hby d1_155) (by decide) (by decide) (fun h155 => ?_) (fun h155 => ?_)
                          ·
                            exact J170 (by simp only [own_ns, h27, h83, h90, h149, h155, not_true_eq_false, not_false_eq_true, false_and, and_false, and_true, true_and, true_or, or_true, false_or, or_false, if_true, if_false]) T10 X10 e10
                          ·
                            exact J158 (by simp only [h27, h83, h90, h149, h155, not_true_eq_false, not_false_eq_true, false_and, and_false, and_true, true_and, true_or, or_true, false_or, or_false, if_true, if_false]) T10 X10 e10
                      show Go p e below _ T9 (mkF m 134 #[.val (.int p1)] [])
                      refine OwnGo.iloadN X9 hx (hb hby d1_134) rfl ?_
                      show Go p e below _ T9 (mkF m 135 #[.val (.int p1)] [(.int p1)])
                      refine OwnGo.ldcInt X9 hx hZ hown (v := (63744 : Int32)) (hw _ (List.mem_of_getElem? (i := 21) rfl)) (hb hby d1_135) ?_
                      show Go p e below _ T9 (mkF m 137 #[.val (.int p1)] [(.int (63744 : Int32)), (.int p1)])
                      refine OwnGo.ic_lt X9 hx (pc' := 146) (hb hby d1_137) (by decide) (by decide) (fun h137 => ?_) (fun h137 => ?_)
                      ·
                        exact J146 (by simp only [h27, h83, h90, h137, not_true_eq_false, not_false_eq_true, false_and, and_false, and_true, true_and, true_or, or_true, false_or, or_false, if_true, if_false]) T9 X9 e9
                      ·
                        show Go p e below _ T9 (mkF m 140 #[.val (.int p1)] [])
                        refine OwnGo.iloadN X9 hx (hb hby d1_140) rfl ?_
                        show Go p e below _ T9 (mkF m 141 #[.val (.int p1)] [(.int p1)])
                        refine OwnGo.ldcInt X9 hx hZ hown (v := (64975 : Int32)) (hw _ (List.mem_of_getElem? (i := 32) rfl)) (hb hby d1_141) ?_
                        show Go p e below _ T9 (mkF m 143 #[.val (.int p1)] [(.int (64975 : Int32)), (.int p1)])
                        refine OwnGo.ic_le X9 hx (pc' := 170) (hb hby d1_143) (by decide) (by decide) (fun h143 => ?_) (fun h143 => ?_)
                        ·
                          exact J170 (by simp only [own_ns, h27, h83, h90, h137, h143, not_true_eq_false, not_false_eq_true, false_and, and_false, and_true, true_and, true_or, or_true, false_or, or_false, if_true, if_false]) T9 X9 e9
                        ·
                          exact J146 (by simp only [h27, h83, h90, h137, h143, not_true_eq_false, not_false_eq_true, false_and, and_false, and_true, true_and, true_or, or_true, false_or, or_false, if_true, if_false]) T9 X9 e9
                    show Go p e below _ T8 (mkF m 121 #[.val (.int p1)] [])
                    refine OwnGo.iloadN X8 hx (hb hby d1_121) rfl ?_
                    show Go p e below _ T8 (mkF m 122 #[.val (.int p1)] [(.int p1)])
                    refine OwnGo.sipush X8 hx (z := (12289 : Int32)) (hb hby d1_122) (by decide) ?_
                    show Go p e below _ T8 (mkF m 125 #[.val (.int p1)] [(.int (12289 : Int32)), (.int p1)])
                    refine OwnGo.ic_lt X8 hx (pc' := 134) (hb hby d1_125) (by decide) (by decide) (fun h125 => ?_) (fun h125 => ?_)
                    ·
                      exact J134 (by simp only [h27, h83, h90, h125, not_true_eq_false, not_false_eq_true, false_and, and_false, and_true, true_and, true_or, or_true, false_or, or_false, if_true, if_false]) T8 X8 e8
                    ·
                      show Go p e below _ T8 (mkF m 128 #[.val (.int p1)] [])
                      refine OwnGo.iloadN X8 hx (hb hby d1_128) rfl ?_
                      show Go p e below _ T8 (mkF m 129 #[.val (.int p1)] [(.int p1)])
                      refine OwnGo.ldcInt X8 hx hZ hown (v := (55295 : Int32)) (hw _ (List.mem_of_getElem? (i := 31) rfl)) (hb hby d1_129) ?_
                      show Go p e below _ T8 (mkF m 131 #[.val (.int p1)] [(.int (55295 : Int32)), (.int p1)])
                      refine OwnGo.ic_le X8 hx (pc' := 170) (hb hby d1_131) (by decide) (by decide) (fun h131 => ?_) (fun h131 => ?_)
                      ·
                        exact J170 (by simp only [own_ns, h27, h83, h90, h125, h131, not_true_eq_false, not_false_eq_true, false_and, and_false, and_true, true_and, true_or, or_true, false_or, or_false, if_true, if_false]) T8 X8 e8
                      ·
                        exact J134 (by simp only [h27, h83, h90, h125, h131, not_true_eq_false, not_false_eq_true, false_and, and_false, and_true, true_and, true_or, or_true, false_or, or_false, if_true, if_false]) T8 X8 e8
                  show Go p e below _ T7 (mkF m 107 #[.val (.int p1)] [])
                  refine OwnGo.iloadN X7 hx (hb hby d1_107) rfl ?_
                  show Go p e below _ T7 (mkF m 108 #[.val (.int p1)] [(.int p1)])
                  refine OwnGo.sipush X7 hx (z := (11264 : Int32)) (hb hby d1_108) (by decide) ?_
                  show Go p e below _ T7 (mkF m 111 #[.val (.int p1)] [(.int (11264 : Int32)), (.int p1)])
                  refine OwnGo.ic_lt X7 hx (pc' := 121) (hb hby d1_111) (by decide) (by decide) (fun h111 => ?_) (fun h111 => ?_)
                  ·
                    exact J121 (by simp only [h27, h83, h90, h111, not_true_eq_false, not_false_eq_true, false_and, and_false, and_true, true_and, true_or, or_true, false_or, or_false, if_true, if_false]) T7 X7 e7
                  ·
                    show Go p e below _ T7 (mkF m 114 #[.val (.int p1)] [])
                    refine OwnGo.iloadN X7 hx (hb hby d1_114) rfl ?_
                    show Go p e below _ T7 (mkF m 115 #[.val (.int p1)] [(.int p1)])
                    refine OwnGo.sipush X7 hx (z := (12271 : Int32)) (hb hby d1_115) (by decide) ?_
                    show Go p e below _ T7 (mkF m 118 #[.val (.int p1)] [(.int (12271 : Int32)), (.int p1)])
                    refine OwnGo.ic_le X7 hx (pc' := 170) (hb hby d1_118) (by decide) (by decide) (fun h118 => ?_) (fun h118 => ?_)
                    ·
                      exact J170 (by simp only [own_ns, h27, h83, h90, h111, h118, not_true_eq_false, not_false_eq_true, false_and, and_false, and_true, true_and, true_or, or_true, false_or, or_false, if_true, if_false]) T7 X7 e7
                    ·
                      exact J121 (by simp only [h27, h83, h90, h111, h118, not_true_eq_false, not_false_eq_true, false_and, and_false, and_true, true_and, true_or, or_true, false_or, or_false, if_true, if_false]) T7 X7 e7
                show Go p e below _ T6 (mkF m 93 #[.val (.int p1)] [])
                refine OwnGo.iloadN X6 hx (hb hby d1_93) rfl ?_
                show Go p e below _ T6 (mkF m 94 #[.val (.int p1)] [(.int p1)])
                refine OwnGo.sipush X6 hx (z := (8304 : Int32)) (hb hby d1_94) (by decide) ?_
                show Go p e below _ T6 (mkF m 97 #[.val (.int p1)] [(.int (8304 : Int32)), (.int p1)])
                refine OwnGo.ic_lt X6 hx (pc' := 107) (hb hby d1_97) (by decide) (by decide) (fun h97 => ?_) (fun h97 => ?_)
                ·
                  exact J107 (by simp only [h27, h83, h90, h97, not_true_eq_false, not_false_eq_true, false_and, and_false, and_true, true_and, true_or, or_true, false_or, or_false, if_true, if_false]) T6 X6 e6
                ·
                  show Go p e below _ T6 (mkF m 100 #[.val (.int p1)] [])
                  refine OwnGo.iloadN X6 hx (hb hby d1_100) rfl ?_
                  show Go p e below _ T6 (mkF m 101 #[.val (.int p1)] [(.int p1)])
                  refine OwnGo.sipush X6 hx (z := (8591 : Int32)) (hb hby d1_101) (by decide) ?_
                  show Go p e below _ T6 (mkF m 104 #[.val (.int p1)] [(.int (8591 : Int32)), (.int p1)])
                  refine OwnGo.ic_le X6 hx (pc' := 170) (hb hby d1_104) (by decide) (by decide) (fun h104 => ?_) (fun h104 => ?_)
                  ·
                    exact J170 (by simp only [own_ns, h27, h83, h90, h97, h104, not_true_eq_false, not_false_eq_true, false_and, and_false, and_true, true_and, true_or, or_true, false_or, or_false, if_true, if_false]) T6 X6 e6
                  ·
                    exact J107 (by simp only [h27, h83, h90, h97, h104, not_true_eq_false, not_false_eq_true, false_and, and_false, and_true, true_and, true_or, or_true, false_or, or_false, if_true, if_false]) T6 X6 e6
          show Go p e below _ T5 (mkF m 58 #[.val (.int p1)] [])
          refine OwnGo.iloadN X5 hx (hb hby d1_58) rfl ?_
          show Go p e below _ T5 (mkF m 59 #[.val (.int p1)] [(.int p1)])
          refine OwnGo.sipush X5 hx (z := (880 : Int32)) (hb hby d1_59) (by decide) ?_
          show Go p e below _ T5 (mkF m 62 #[.val (.int p1)] [(.int (880 : Int32)), (.int p1)])
          refine OwnGo.ic_lt X5 hx (pc' := 79) (hb hby d1_62) (by decide) (by decide) (fun h62 => ?_) (fun h62 => ?_)
          ·
            exact J79 (by simp only [h27, h62, not_true_eq_false, not_false_eq_true, false_and, and_false, and_true, true_and, true_or, or_true, false_or, or_false, if_true, if_false]) T5 X5 e5
          ·
            show Go p e below _ T5 (mkF m 65 #[.val (.int p1)] [])
            refine OwnGo.iloadN X5 hx (hb hby d1_65) rfl ?_
            show Go p e below _ T5 (mkF m 66 #[.val (.int p1)] [(.int p1)])
            refine OwnGo.sipush X5 hx (z := (8191 : Int32)) (hb hby d1_66) (by decide) ?_
            show Go p e below _ T5 (mkF m 69 #[.val (.int p1)] [(.int (8191 : Int32)), (.int p1)])
            refine OwnGo.ic_gt X5 hx (pc' := 79) (hb hby d1_69) (by decide) (by decide) (fun h69 => ?_) (fun h69 => ?_)
            ·
              exact J79 (by simp only [h27, h62, h69, not_true_eq_false, not_false_eq_true, false_and, and_false, and_true, true_and, true_or, or_true, false_or, or_false, if_true, if_false]) T5 X5 e5
            ·
              show Go p e below _ T5 (mkF m 72 #[.val (.int p1)] [])
              refine OwnGo.iloadN X5 hx (hb hby d1_72) rfl ?_
              show Go p e below _ T5 (mkF m 73 #[.val (.int p1)] [(.int p1)])
              refine OwnGo.sipush X5 hx (z := (894 : Int32)) (hb hby d1_73) (by decide) ?_
              show Go p e below _ T5 (mkF m 76 #[.val (.int p1)] [(.int (894 : Int32)), (.int p1)])
              refine OwnGo.ic_ne X5 hx (pc' := 170) (hb hby d1_76) (by decide) (by decide) (fun h76 => ?_) (fun h76 => ?_)
              ·
                exact J170 (by simp only [own_ns, h27, h62, h69, h76, not_true_eq_false, not_false_eq_true, false_and, and_false, and_true, true_and, true_or, or_true, false_or, or_false, if_true, if_false]) T5 X5 e5
              ·
                exact J79 (by simp only [h27, h62, h69, h76, not_true_eq_false, not_false_eq_true, false_and, and_false, and_true, true_and, true_or, or_true, false_or, or_false, if_true, if_false]) T5 X5 e5
        show Go p e below _ T4 (mkF m 30 #[.val (.int p1)] [])
        refine OwnGo.iloadN X4 hx (hb hby d1_30) rfl ?_
        show Go p e below _ T4 (mkF m 31 #[.val (.int p1)] [(.int p1)])
        refine OwnGo.sipush X4 hx (z := (192 : Int32)) (hb hby d1_31) (by decide) ?_
        show Go p e below _ T4 (mkF m 34 #[.val (.int p1)] [(.int (192 : Int32)), (.int p1)])
        refine OwnGo.ic_lt X4 hx (pc' := 58) (hb hby d1_34) (by decide) (by decide) (fun h34 => ?_) (fun h34 => ?_)
        ·
          exact J58 (by simp only [h27, h34, not_true_eq_false, not_false_eq_true, false_and, and_false, and_true, true_and, true_or, or_true, false_or, or_false, if_true, if_false]) T4 X4 e4
        ·
          show Go p e below _ T4 (mkF m 37 #[.val (.int p1)] [])
          refine OwnGo.iloadN X4 hx (hb hby d1_37) rfl ?_
          show Go p e below _ T4 (mkF m 38 #[.val (.int p1)] [(.int p1)])
          refine OwnGo.sipush X4 hx (z := (767 : Int32)) (hb hby d1_38) (by decide) ?_
          show Go p e below _ T4 (mkF m 41 #[.val (.int p1)] [(.int (767 : Int32)), (.int p1)])
          refine OwnGo.ic_gt X4 hx (pc' := 58) (hb hby d1_41) (by decide) (by decide) (fun h41 => ?_) (fun h41 => ?_)
          ·
            exact J58 (by simp only [h27, h34, h41, not_true_eq_false, not_false_eq_true, false_and, and_false, and_true, true_and, true_or, or_true, false_or, or_false, if_true, if_false]) T4 X4 e4
          ·
            show Go p e below _ T4 (mkF m 44 #[.val (.int p1)] [])
            refine OwnGo.iloadN X4 hx (hb hby d1_44) rfl ?_
            show Go p e below _ T4 (mkF m 45 #[.val (.int p1)] [(.int p1)])
            refine OwnGo.sipush X4 hx (z := (215 : Int32)) (hb hby d1_45) (by decide) ?_
            show Go p e below _ T4 (mkF m 48 #[.val (.int p1)] [(.int (215 : Int32)), (.int p1)])
            refine OwnGo.ic_eq X4 hx (pc' := 58) (hb hby d1_48) (by decide) (by decide) (fun h48 => ?_) (fun h48 => ?_)
            ·
              exact J58 (by simp only [h27, h34, h41, h48, not_true_eq_false, not_false_eq_true, false_and, and_false, and_true, true_and, true_or, or_true, false_or, or_false, if_true, if_false]) T4 X4 e4
            ·
              show Go p e below _ T4 (mkF m 51 #[.val (.int p1)] [])
              refine OwnGo.iloadN X4 hx (hb hby d1_51) rfl ?_
              show Go p e below _ T4 (mkF m 52 #[.val (.int p1)] [(.int p1)])
              refine OwnGo.sipush X4 hx (z := (247 : Int32)) (hb hby d1_52) (by decide) ?_
              show Go p e below _ T4 (mkF m 55 #[.val (.int p1)] [(.int (247 : Int32)), (.int p1)])
              refine OwnGo.ic_ne X4 hx (pc' := 170) (hb hby d1_55) (by decide) (by decide) (fun h55 => ?_) (fun h55 => ?_)
              ·
                exact J170 (by simp only [own_ns, h27, h34, h41, h48, h55, not_true_eq_false, not_false_eq_true, false_and, and_false, and_true, true_and, true_or, or_true, false_or, or_false, if_true, if_false]) T4 X4 e4
              ·
                exact J58 (by simp only [h27, h34, h41, h48, h55, not_true_eq_false, not_false_eq_true, false_and, and_false, and_true, true_and, true_or, or_true, false_or, or_false, if_true, if_false]) T4 X4 e4
    show Go p e below _ T3 (mkF m 12 #[.val (.int p1)] [])
    refine OwnGo.iloadN X3 hx (hb hby d1_12) rfl ?_
    show Go p e below _ T3 (mkF m 13 #[.val (.int p1)] [(.int p1)])
    refine OwnGo.bipush X3 hx (z := (65 : Int32)) (hb hby d1_13) (by decide) ?_
    show Go p e below _ T3 (mkF m 15 #[.val (.int p1)] [(.int (65 : Int32)), (.int p1)])
    refine OwnGo.ic_lt X3 hx (pc' := 24) (hb hby d1_15) (by decide) (by decide) (fun h15 => ?_) (fun h15 => ?_)
    ·
      exact J24 (by simp only [h15, not_true_eq_false, not_false_eq_true, false_and, and_false, and_true, true_and, true_or, or_true, false_or, or_false, if_true, if_false]) T3 X3 e3
    ·
      show Go p e below _ T3 (mkF m 18 #[.val (.int p1)] [])
      refine OwnGo.iloadN X3 hx (hb hby d1_18) rfl ?_
      show Go p e below _ T3 (mkF m 19 #[.val (.int p1)] [(.int p1)])
      refine OwnGo.bipush X3 hx (z := (90 : Int32)) (hb hby d1_19) (by decide) ?_
      show Go p e below _ T3 (mkF m 21 #[.val (.int p1)] [(.int (90 : Int32)), (.int p1)])
      refine OwnGo.ic_le X3 hx (pc' := 170) (hb hby d1_21) (by decide) (by decide) (fun h21 => ?_) (fun h21 => ?_)
      ·
        exact J170 (by simp only [own_ns, h15, h21, not_true_eq_false, not_false_eq_true, false_and, and_false, and_true, true_and, true_or, or_true, false_or, or_false, if_true, if_false]) T3 X3 e3
      ·
        exact J24 (by simp only [h15, h21, not_true_eq_false, not_false_eq_true, false_and, and_false, and_true, true_and, true_or, or_true, false_or, or_false, if_true, if_false]) T3 X3 e3
  show Go p e below _ T0 (mkF m 0 #[.val (.int p1)] [])
  refine OwnGo.iloadN X0 hx (hb hby d1_0) rfl ?_
  show Go p e below _ T0 (mkF m 1 #[.val (.int p1)] [(.int p1)])
  refine OwnGo.bipush X0 hx (z := (97 : Int32)) (hb hby d1_1) (by decide) ?_
  show Go p e below _ T0 (mkF m 3 #[.val (.int p1)] [(.int (97 : Int32)), (.int p1)])
  refine OwnGo.ic_lt X0 hx (pc' := 12) (hb hby d1_3) (by decide) (by decide) (fun h3 => ?_) (fun h3 => ?_)
  ·
    exact J12 (by simp only [h3, not_true_eq_false, not_false_eq_true, false_and, and_false, and_true, true_and, true_or, or_true, false_or, or_false, if_true, if_false]) T0 X0 e0
  ·
    show Go p e below _ T0 (mkF m 6 #[.val (.int p1)] [])
    refine OwnGo.iloadN X0 hx (hb hby d1_6) rfl ?_
    show Go p e below _ T0 (mkF m 7 #[.val (.int p1)] [(.int p1)])
    refine OwnGo.bipush X0 hx (z := (122 : Int32)) (hb hby d1_7) (by decide) ?_
    show Go p e below _ T0 (mkF m 9 #[.val (.int p1)] [(.int (122 : Int32)), (.int p1)])
    refine OwnGo.ic_le X0 hx (pc' := 170) (hb hby d1_9) (by decide) (by decide) (fun h9 => ?_) (fun h9 => ?_)
    ·
      exact J170 (by simp only [own_ns, h3, h9, not_true_eq_false, not_false_eq_true, false_and, and_false, and_true, true_and, true_or, or_true, false_or, or_false, if_true, if_false]) T0 X0 e0
    ·
      exact J12 (by simp only [h3, h9, not_true_eq_false, not_false_eq_true, false_and, and_false, and_true, true_and, true_or, or_true, false_or, or_false, if_true, if_false]) T0 X0 e0
theorem d2_0 : decode method_3_code 0 = .ok (.iload_n 0, 1) := by decide +kernel
theorem d2_1 : decode method_3_code 1 = .ok (.bipush 65, 2) := by decide +kernel
theorem d2_3 : decode method_3_code 3 = .ok (.bipush 90, 2) := by decide +kernel
theorem d2_5 : decode method_3_code 5 = .ok (.invokestatic 7, 3) := by decide +kernel
theorem d2_8 : decode method_3_code 8 = .ok (.ifCond .ne 169, 3) := by decide +kernel
theorem d2_11 : decode method_3_code 11 = .ok (.iload_n 0, 1) := by decide +kernel
theorem d2_12 : decode method_3_code 12 = .ok (.bipush 95, 2) := by decide +kernel
theorem d2_14 : decode method_3_code 14 = .ok (.if_icmp .eq 163, 3) := by decide +kernel
theorem d2_17 : decode method_3_code 17 = .ok (.iload_n 0, 1) := by decide +kernel
theorem d2_18 : decode method_3_code 18 = .ok (.bipush 97, 2) := by decide +kernel
theorem d2_20 : decode method_3_code 20 = .ok (.bipush 122, 2) := by decide +kernel
theorem d2_22 : decode method_3_code 22 = .ok (.invokestatic 7, 3) := by decide +kernel
theorem d2_25 : decode method_3_code 25 = .ok (.ifCond .ne 152, 3) := by decide +kernel
theorem d2_28 : decode method_3_code 28 = .ok (.iload_n 0, 1) := by decide +kernel
theorem d2_29 : decode method_3_code 29 = .ok (.sipush 192, 3) := by decide +kernel
theorem d2_32 : decode method_3_code 32 = .ok (.sipush 214, 3) := by decide +kernel
theorem d2_35 : decode method_3_code 35 = .ok (.invokestatic 7, 3) := by decide +kernel
theorem d2_38 : decode method_3_code 38 = .ok (.ifCond .ne 139, 3) := by decide +kernel
theorem d2_41 : decode method_3_code 41 = .ok (.iload_n 0, 1) := by decide +kernel
theorem d2_42 : decode method_3_code 42 = .ok (.sipush 216, 3) := by decide +kernel
theorem d2_45 : decode method_3_code 45 = .ok (.sipush 246, 3) := by decide +kernel
theorem d2_48 : decode method_3_code 48 = .ok (.invokestatic 7, 3) := by decide +kernel
theorem d2_51 : decode method_3_code 51 = .ok (.ifCond .ne 126, 3) := by decide +kernel
theorem d2_54 : decode method_3_code 54 = .ok (.iload_n 0, 1) := by decide +kernel
theorem d2_55 : decode method_3_code 55 = .ok (.sipush 248, 3) := by decide +kernel
theorem d2_58 : decode method_3_code 58 = .ok (.sipush 767, 3) := by decide +kernel
theorem d2_61 : decode method_3_code 61 = .ok (.invokestatic 7, 3) := by decide +kernel
theorem d2_64 : decode method_3_code 64 = .ok (.ifCond .ne 113, 3) := by decide +kernel
theorem d2_67 : decode method_3_code 67 = .ok (.iload_n 0, 1) := by decide +kernel
theorem d2_68 : decode method_3_code 68 = .ok (.sipush 880, 3) := by decide +kernel
theorem d2_71 : decode method_3_code 71 = .ok (.sipush 893, 3) := by decide +kernel
theorem d2_74 : decode method_3_code 74 = .ok (.invokestatic 7, 3) := by decide +kernel
theorem d2_77 : decode method_3_code 77 = .ok (.ifCond .ne 100, 3) := by decide +kernel
theorem d2_80 : decode method_3_code 80 = .ok (.iload_n 0, 1) := by decide +kernel
theorem d2_81 : decode method_3_code 81 = .ok (.sipush 895, 3) := by decide +kernel
theorem d2_84 : decode method_3_code 84 = .ok (.sipush 8191, 3) := by decide +kernel
theorem d2_87 : decode method_3_code 87 = .ok (.invokestatic 7, 3) := by decide +kernel
theorem d2_90 : decode method_3_code 90 = .ok (.ifCond .ne 87, 3) := by decide +kernel
theorem d2_93 : decode method_3_code 93 = .ok (.iload_n 0, 1) := by decide +kernel
theorem d2_94 : decode method_3_code 94 = .ok (.sipush 8204, 3) := by decide +kernel
theorem d2_97 : decode method_3_code 97 = .ok (.sipush 8205, 3) := by decide +kernel
theorem d2_100 : decode method_3_code 100 = .ok (.invokestatic 7, 3) := by decide +kernel
theorem d2_103 : decode method_3_code 103 = .ok (.ifCond .ne 74, 3) := by decide +kernel
theorem d2_106 : decode method_3_code 106 = .ok (.iload_n 0, 1) := by decide +kernel
theorem d2_107 : decode method_3_code 107 = .ok (.sipush 8304, 3) := by decide +kernel
theorem d2_110 : decode method_3_code 110 = .ok (.sipush 8591, 3) := by decide +kernel
theorem d2_113 : decode method_3_code 113 = .ok (.invokestatic 7, 3) := by decide +kernel
theorem d2_116 : decode method_3_code 116 = .ok (.ifCond .ne 61, 3) := by decide +kernel
theorem d2_119 : decode method_3_code 119 = .ok (.iload_n 0, 1) := by decide +kernel
theorem d2_120 : decode method_3_code 120 = .ok (.sipush 11264, 3) := by decide +kernel
theorem d2_123 : decode method_3_code 123 = .ok (.sipush 12271, 3) := by decide +kernel
theorem d2_126 : decode method_3_code 126 = .ok (.invokestatic 7, 3) := by decide +kernel
theorem d2_129 : decode method_3_code 129 = .ok (.ifCond .ne 48, 3) := by decide +kernel
theorem d2_132 : decode method_3_code 132 = .ok (.iload_n 0, 1) := by decide +kernel
theorem d2_133 : decode method_3_code 133 = .ok (.sipush 12289, 3) := by decide +kernel
theorem d2_136 : decode method_3_code 136 = .ok (.ldc 13, 2) := by decide +kernel
theorem d2_138 : decode method_3_code 138 = .ok (.invokestatic 7, 3) := by decide +kernel
theorem d2_141 : decode method_3_code 141 = .ok (.ifCond .ne 36, 3) := by decide +kernel
theorem d2_144 : decode method_3_code 144 = .ok (.iload_n 0, 1) := by decide +kernel
theorem d2_145 : decode method_3_code 145 = .ok (.ldc 14, 2) := by decide +kernel
theorem d2_147 : decode method_3_code 147 = .ok (.ldc 15, 2) := by decide +kernel
theorem d2_149 : decode method_3_code 149 = .ok (.invokestatic 7, 3) := by decide +kernel
theorem d2_152 : decode method_3_code 152 = .ok (.ifCond .ne 25, 3) := by decide +kernel
theorem d2_155 : decode method_3_code 155 = .ok (.iload_n 0, 1) := by decide +kernel
theorem d2_156 : decode method_3_code 156 = .ok (.ldc 16, 2) := by decide +kernel
theorem d2_158 : decode method_3_code 158 = .ok (.ldc 17, 2) := by decide +kernel
theorem d2_160 : decode method_3_code 160 = .ok (.invokestatic 7, 3) := by decide +kernel
theorem d2_163 : decode method_3_code 163 = .ok (.ifCond .ne 14, 3) := by decide +kernel
theorem d2_166 : decode method_3_code 166 = .ok (.iload_n 0, 1) := by decide +kernel
theorem d2_167 : decode method_3_code 167 = .ok (.ldc 18, 2) := by decide +kernel
theorem d2_169 : decode method_3_code 169 = .ok (.ldc 19, 2) := by decide +kernel
theorem d2_171 : decode method_3_code 171 = .ok (.invokestatic 7, 3) := by decide +kernel
theorem d2_174 : decode method_3_code 174 = .ok (.ifCond .eq 7, 3) := by decide +kernel
theorem d2_177 : decode method_3_code 177 = .ok (.iconst 1, 1) := by decide +kernel
theorem d2_178 : decode method_3_code 178 = .ok (.goto 4, 3) := by decide +kernel
theorem d2_181 : decode method_3_code 181 = .ok (.iconst 0, 1) := by decide +kernel
theorem d2_182 : decode method_3_code 182 = .ok (.ireturn, 1) := by decide +kernel
theorem own_ef_rm3 (m : MethodId) (x0 : Int32) : entryFrame m [(.int x0)].toArray 1 = mkF m 0 #[.val (.int x0)] [] := by first | (simp [entryFrame, mkF, argsToLocals, Value.category]; done) | rfl
set_option maxRecDepth 65536 in
set_option maxHeartbeats 40000000 in
theorem rm3 (l : Launch) (Z : State) (a0 : Array Value) (hw : ∀ d ∈ tables_1, d.before a0 Z = true) (p1 : Int32) (h0 : Heap)  :
    Con l Z (⟨"com/example/sibling/sibling/xpath/XmlCharactersIsNameStartPinLaw", "ref", "(I)Z"⟩ : MethodName) method_3_code 1 (some .boolean) ({ frames := 1, cells := 0, slots := 0, locals := 14 } : Room) [(.int p1)] h0 (Ret (some (.int (own_v p1))) h0) := by
  refine Con.of (plainFor_of_name own_pn0) (Ls0 := #[.val (.int p1)]) (fun m => own_ef_rm3 m p1) ?_
  intro p e s m below meth c T0 X0 hx hZ hby hml hown hnm hret hlk e0
  have J177 : ∀  (hv : own_ns p1) (T' : State), Stand p l e ({ frames := 1, cells := 0, slots := 0, locals := 14 } : Room) s m #[(.int p1)] below meth c T' [] 0 0 → T'.heap = h0 → Go p e below (OwnGo.EndN s (Ret (some (.int (own_v p1))) h0) ({ frames := 1, cells := 0, slots := 0, locals := 14 } : Room).cells ({ frames := 1, cells := 0, slots := 0, locals := 14 } : Room).slots) T' (mkF m 177 #[.val (.int p1)] []) := by
    intro hv T1 X1 e1
    show Go p e below _ T1 (mkF m 177 #[.val (.int p1)] [])
    refine OwnGo.iconst X1 hx (z := (1 : Int32)) (hb hby d2_177) (by decide) ?_
    show Go p e below _ T1 (mkF m 178 #[.val (.int p1)] [(.int (1 : Int32))])
    refine OwnGo.goto X1 hx (pc' := 182) (hb hby d2_178) (by decide) (by decide) ?_
    show Go p e below _ T1 (mkF m 182 #[.val (.int p1)] [(.int (1 : Int32))])
    exact OwnGo.retB X1 hx hlk (z' := (1 : Int32)) hret (hb hby d2_182) rfl ⟨by simp only [own_v, hv, if_true, if_false], e1, rfl⟩ (by decide) (by decide)
  have J181 : ∀  (hv : ¬ own_ns p1) (T' : State), Stand p l e ({ frames := 1, cells := 0, slots := 0, locals := 14 } : Room) s m #[(.int p1)] below meth c T' [] 0 0 → T'.heap = h0 → Go p e below (OwnGo.EndN s (Ret (some (.int (own_v p1))) h0) ({ frames := 1, cells := 0, slots := 0, locals := 14 } : Room).cells ({ frames := 1, cells := 0, slots := 0, locals := 14 } : Room).slots) T' (mkF m 181 #[.val (.int p1)] []) := by
    intro hv T2 X2 e2
    show Go p e below _ T2 (mkF m 181 #[.val (.int p1)] [])
    refine OwnGo.iconst X2 hx (z := (0 : Int32)) (hb hby d2_181) (by decide) ?_
    show Go p e below _ T2 (mkF m 182 #[.val (.int p1)] [(.int (0 : Int32))])
    exact OwnGo.retB X2 hx hlk (z' := (0 : Int32)) hret (hb hby d2_182) rfl ⟨by simp only [own_v, hv, if_true, if_false], e2, rfl⟩ (by decide) (by decide)
  show Go p e below _ T0 (mkF m 0 #[.val (.int p1)] [])
  refine OwnGo.iloadN X0 hx (hb hby d2_0) rfl ?_
  show Go p e below _ T0 (mkF m 1 #[.val (.int p1)] [(.int p1)])
  refine OwnGo.bipush X0 hx (z := (65 : Int32)) (hb hby d2_1) (by decide) ?_
  show Go p e below _ T0 (mkF m 3 #[.val (.int p1)] [(.int (65 : Int32)), (.int p1)])
  refine OwnGo.bipush X0 hx (z := (90 : Int32)) (hb hby d2_3) (by decide) ?_
  show Go p e below _ T0 (mkF m 5 #[.val (.int p1)] [(.int (90 : Int32)), (.int (65 : Int32)), (.int p1)])
  refine OwnGo.callS X0 hx hZ hown (y := (⟨"com/example/sibling/sibling/xpath/XmlCharactersIsNameStartPinLaw", "in", "(III)Z"⟩ : MethodName)) (hw _ (List.mem_of_getElem? (i := 28) rfl)) (hw _ (List.mem_of_getElem? (i := 29) rfl)) (hw _ (List.mem_of_getElem? (i := 26) rfl)) (hw _ (List.mem_of_getElem? (i := 30) rfl)) (by decide) e0 (as := [(.int p1), (.int (65 : Int32)), (.int (90 : Int32))]) (rm1 l Z a0 hw p1 (65 : Int32) (90 : Int32) h0) (W := 0) (by decide) (by decide) (by decide) (by decide) (by rw [hml]; rfl) (lenOf own_pd0 rfl) (rest := []) rfl rfl (hb hby d2_5) fun v3 T3 L3 X3 q3 => ?_
  obtain ⟨rfl, e3, rfl⟩ := q3
  rw [List.append_nil] at X3
  show Go p e below _ T3 (mkF m 8 #[.val (.int p1)] [(.int (own_in p1 (65 : Int32) (90 : Int32)))])
  refine OwnGo.if_ne X3 hx (pc' := 177) (hb hby d2_8) (by decide) (by decide) (fun h8 => ?_) (fun h8 => ?_)
  ·
    exact J177 (by rw [own_same]; simp_all [own_rf, own_in]) T3 X3 e3
  ·
    show Go p e below _ T3 (mkF m 11 #[.val (.int p1)] [])
    refine OwnGo.iloadN X3 hx (hb hby d2_11) rfl ?_
    show Go p e below _ T3 (mkF m 12 #[.val (.int p1)] [(.int p1)])
    refine OwnGo.bipush X3 hx (z := (95 : Int32)) (hb hby d2_12) (by decide) ?_
    show Go p e below _ T3 (mkF m 14 #[.val (.int p1)] [(.int (95 : Int32)), (.int p1)])
    refine OwnGo.ic_eq X3 hx (pc' := 177) (hb hby d2_14) (by decide) (by decide) (fun h14 => ?_) (fun h14 => ?_)
    ·
      exact J177 (by rw [own_same]; simp_all [own_rf, own_in]) T3 X3 e3
    ·
      show Go p e below _ T3 (mkF m 17 #[.val (.int p1)] [])
      refine OwnGo.iloadN X3 hx (hb hby d2_17) rfl ?_
      show Go p e below _ T3 (mkF m 18 #[.val (.int p1)] [(.int p1)])
      refine OwnGo.bipush X3 hx (z := (97 : Int32)) (hb hby d2_18) (by decide) ?_
      show Go p e below _ T3 (mkF m 20 #[.val (.int p1)] [(.int (97 : Int32)), (.int p1)])
      refine OwnGo.bipush X3 hx (z := (122 : Int32)) (hb hby d2_20) (by decide) ?_
      show Go p e below _ T3 (mkF m 22 #[.val (.int p1)] [(.int (122 : Int32)), (.int (97 : Int32)), (.int p1)])
      refine OwnGo.callS X3 hx hZ hown (y := (⟨"com/example/sibling/sibling/xpath/XmlCharactersIsNameStartPinLaw", "in", "(III)Z"⟩ : MethodName)) (hw _ (List.mem_of_getElem? (i := 28) rfl)) (hw _ (List.mem_of_getElem? (i := 29) rfl)) (hw _ (List.mem_of_getElem? (i := 26) rfl)) (hw _ (List.mem_of_getElem? (i := 30) rfl)) (by decide) e3 (as := [(.int p1), (.int (97 : Int32)), (.int (122 : Int32))]) (rm1 l Z a0 hw p1 (97 : Int32) (122 : Int32) h0) (W := 0) (by decide) (by decide) (by decide) (by decide) (by rw [hml]; rfl) (lenOf own_pd0 rfl) (rest := []) rfl rfl (hb hby d2_22) fun v4 T4 L4 X4 q4 => ?_
      obtain ⟨rfl, e4, rfl⟩ := q4
      rw [List.append_nil] at X4
      show Go p e below _ T4 (mkF m 25 #[.val (.int p1)] [(.int (own_in p1 (97 : Int32) (122 : Int32)))])
      refine OwnGo.if_ne X4 hx (pc' := 177) (hb hby d2_25) (by decide) (by decide) (fun h25 => ?_) (fun h25 => ?_)
      ·
        exact J177 (by rw [own_same]; simp_all [own_rf, own_in]) T4 X4 e4
      ·
        show Go p e below _ T4 (mkF m 28 #[.val (.int p1)] [])
        refine OwnGo.iloadN X4 hx (hb hby d2_28) rfl ?_
        show Go p e below _ T4 (mkF m 29 #[.val (.int p1)] [(.int p1)])
        refine OwnGo.sipush X4 hx (z := (192 : Int32)) (hb hby d2_29) (by decide) ?_
        show Go p e below _ T4 (mkF m 32 #[.val (.int p1)] [(.int (192 : Int32)), (.int p1)])
        refine OwnGo.sipush X4 hx (z := (214 : Int32)) (hb hby d2_32) (by decide) ?_
        show Go p e below _ T4 (mkF m 35 #[.val (.int p1)] [(.int (214 : Int32)), (.int (192 : Int32)), (.int p1)])
        refine OwnGo.callS X4 hx hZ hown (y := (⟨"com/example/sibling/sibling/xpath/XmlCharactersIsNameStartPinLaw", "in", "(III)Z"⟩ : MethodName)) (hw _ (List.mem_of_getElem? (i := 28) rfl)) (hw _ (List.mem_of_getElem? (i := 29) rfl)) (hw _ (List.mem_of_getElem? (i := 26) rfl)) (hw _ (List.mem_of_getElem? (i := 30) rfl)) (by decide) e4 (as := [(.int p1), (.int (192 : Int32)), (.int (214 : Int32))]) (rm1 l Z a0 hw p1 (192 : Int32) (214 : Int32) h0) (W := 0) (by decide) (by decide) (by decide) (by decide) (by rw [hml]; rfl) (lenOf own_pd0 rfl) (rest := []) rfl rfl (hb hby d2_35) fun v5 T5 L5 X5 q5 => ?_
        obtain ⟨rfl, e5, rfl⟩ := q5
        rw [List.append_nil] at X5
        show Go p e below _ T5 (mkF m 38 #[.val (.int p1)] [(.int (own_in p1 (192 : Int32) (214 : Int32)))])
        refine OwnGo.if_ne X5 hx (pc' := 177) (hb hby d2_38) (by decide) (by decide) (fun h38 => ?_) (fun h38 => ?_)
        ·
          exact J177 (by rw [own_same]; simp_all [own_rf, own_in]) T5 X5 e5
        ·
          show Go p e below _ T5 (mkF m 41 #[.val (.int p1)] [])
          refine OwnGo.iloadN X5 hx (hb hby d2_41) rfl ?_
          show Go p e below _ T5 (mkF m 42 #[.val (.int p1)] [(.int p1)])
          refine OwnGo.sipush X5 hx (z := (216 : Int32)) (hb hby d2_42) (by decide) ?_
          show Go p e below _ T5 (mkF m 45 #[.val (.int p1)] [(.int (216 : Int32)), (.int p1)])
          refine OwnGo.sipush X5 hx (z := (246 : Int32)) (hb hby d2_45) (by decide) ?_
          show Go p e below _ T5 (mkF m 48 #[.val (.int p1)] [(.int (246 : Int32)), (.int (216 : Int32)), (.int p1)])
          refine OwnGo.callS X5 hx hZ hown (y := (⟨"com/example/sibling/sibling/xpath/XmlCharactersIsNameStartPinLaw", "in", "(III)Z"⟩ : MethodName)) (hw _ (List.mem_of_getElem? (i := 28) rfl)) (hw _ (List.mem_of_getElem? (i := 29) rfl)) (hw _ (List.mem_of_getElem? (i := 26) rfl)) (hw _ (List.mem_of_getElem? (i := 30) rfl)) (by decide) e5 (as := [(.int p1), (.int (216 : Int32)), (.int (246 : Int32))]) (rm1 l Z a0 hw p1 (216 : Int32) (246 : Int32) h0) (W := 0) (by decide) (by decide) (by decide) (by decide) (by rw [hml]; rfl) (lenOf own_pd0 rfl) (rest := []) rfl rfl (hb hby d2_48) fun v6 T6 L6 X6 q6 => ?_
          obtain ⟨rfl, e6, rfl⟩ := q6
          rw [List.append_nil] at X6
          show Go p e below _ T6 (mkF m 51 #[.val (.int p1)] [(.int (own_in p1 (216 : Int32) (246 : Int32)))])
          refine OwnGo.if_ne X6 hx (pc' := 177) (hb hby d2_51) (by decide) (by decide) (fun h51 => ?_) (fun h51 => ?_)
          ·
            exact J177 (by rw [own_same]; simp_all [own_rf, own_in]) T6 X6 e6
          ·
            show Go p e below _ T6 (mkF m 54 #[.val (.int p1)] [])
            refine OwnGo.iloadN X6 hx (hb hby d2_54) rfl ?_
            show Go p e below _ T6 (mkF m 55 #[.val (.int p1)] [(.int p1)])
            refine OwnGo.sipush X6 hx (z := (248 : Int32)) (hb hby d2_55) (by decide) ?_
            show Go p e below _ T6 (mkF m 58 #[.val (.int p1)] [(.int (248 : Int32)), (.int p1)])
            refine OwnGo.sipush X6 hx (z := (767 : Int32)) (hb hby d2_58) (by decide) ?_
            show Go p e below _ T6 (mkF m 61 #[.val (.int p1)] [(.int (767 : Int32)), (.int (248 : Int32)), (.int p1)])
            refine OwnGo.callS X6 hx hZ hown (y := (⟨"com/example/sibling/sibling/xpath/XmlCharactersIsNameStartPinLaw", "in", "(III)Z"⟩ : MethodName)) (hw _ (List.mem_of_getElem? (i := 28) rfl)) (hw _ (List.mem_of_getElem? (i := 29) rfl)) (hw _ (List.mem_of_getElem? (i := 26) rfl)) (hw _ (List.mem_of_getElem? (i := 30) rfl)) (by decide) e6 (as := [(.int p1), (.int (248 : Int32)), (.int (767 : Int32))]) (rm1 l Z a0 hw p1 (248 : Int32) (767 : Int32) h0) (W := 0) (by decide) (by decide) (by decide) (by decide) (by rw [hml]; rfl) (lenOf own_pd0 rfl) (rest := []) rfl rfl (hb hby d2_61) fun v7 T7 L7 X7 q7 => ?_
            obtain ⟨rfl, e7, rfl⟩ := q7
            rw [List.append_nil] at X7
            show Go p e below _ T7 (mkF m 64 #[.val (.int p1)] [(.int (own_in p1 (248 : Int32) (767 : Int32)))])
            refine OwnGo.if_ne X7 hx (pc' := 177) (hb hby d2_64) (by decide) (by decide) (fun h64 => ?_) (fun h64 => ?_)
            ·
              exact J177 (by rw [own_same]; simp_all [own_rf, own_in]) T7 X7 e7
            ·
              show Go p e below _ T7 (mkF m 67 #[.val (.int p1)] [])
              refine OwnGo.iloadN X7 hx (hb hby d2_67) rfl ?_
              show Go p e below _ T7 (mkF m 68 #[.val (.int p1)] [(.int p1)])
              refine OwnGo.sipush X7 hx (z := (880 : Int32)) (hb hby d2_68) (by decide) ?_
              show Go p e below _ T7 (mkF m 71 #[.val (.int p1)] [(.int (880 : Int32)), (.int p1)])
              refine OwnGo.sipush X7 hx (z := (893 : Int32)) (hb hby d2_71) (by decide) ?_
              show Go p e below _ T7 (mkF m 74 #[.val (.int p1)] [(.int (893 : Int32)), (.int (880 : Int32)), (.int p1)])
              refine OwnGo.callS X7 hx hZ hown (y := (⟨"com/example/sibling/sibling/xpath/XmlCharactersIsNameStartPinLaw", "in", "(III)Z"⟩ : MethodName)) (hw _ (List.mem_of_getElem? (i := 28) rfl)) (hw _ (List.mem_of_getElem? (i := 29) rfl)) (hw _ (List.mem_of_getElem? (i := 26) rfl)) (hw _ (List.mem_of_getElem? (i := 30) rfl)) (by decide) e7 (as := [(.int p1), (.int (880 : Int32)), (.int (893 : Int32))]) (rm1 l Z a0 hw p1 (880 : Int32) (893 : Int32) h0) (W := 0) (by decide) (by decide) (by decide) (by decide) (by rw [hml]; rfl) (lenOf own_pd0 rfl) (rest := []) rfl rfl (hb hby d2_74) fun v8 T8 L8 X8 q8 => ?_
              obtain ⟨rfl, e8, rfl⟩ := q8
              rw [List.append_nil] at X8
              show Go p e below _ T8 (mkF m 77 #[.val (.int p1)] [(.int (own_in p1 (880 : Int32) (893 : Int32)))])
              refine OwnGo.if_ne X8 hx (pc' := 177) (hb hby d2_77) (by decide) (by decide) (fun h77 => ?_) (fun h77 => ?_)
              ·
                exact J177 (by rw [own_same]; simp_all [own_rf, own_in]) T8 X8 e8
              ·
                show Go p e below _ T8 (mkF m 80 #[.val (.int p1)] [])
                refine OwnGo.iloadN X8 hx (hb hby d2_80) rfl ?_
                show Go p e below _ T8 (mkF m 81 #[.val (.int p1)] [(.int p1)])
                refine OwnGo.sipush X8 hx (z := (895 : Int32)) (hb hby d2_81) (by decide) ?_
                show Go p e below _ T8 (mkF m 84 #[.val (.int p1)] [(.int (895 : Int32)), (.int p1)])
                refine OwnGo.sipush X8 hx (z := (8191 : Int32)) (hb hby d2_84) (by decide) ?_
                show Go p e below _ T8 (mkF m 87 #[.val (.int p1)] [(.int (8191 : Int32)), (.int (895 : Int32)), (.int p1)])
                refine OwnGo.callS X8 hx hZ hown (y := (⟨"com/example/sibling/sibling/xpath/XmlCharactersIsNameStartPinLaw", "in", "(III)Z"⟩ : MethodName)) (hw _ (List.mem_of_getElem? (i := 28) rfl)) (hw _ (List.mem_of_getElem? (i := 29) rfl)) (hw _ (List.mem_of_getElem? (i := 26) rfl)) (hw _ (List.mem_of_getElem? (i := 30) rfl)) (by decide) e8 (as := [(.int p1), (.int (895 : Int32)), (.int (8191 : Int32))]) (rm1 l Z a0 hw p1 (895 : Int32) (8191 : Int32) h0) (W := 0) (by decide) (by decide) (by decide) (by decide) (by rw [hml]; rfl) (lenOf own_pd0 rfl) (rest := []) rfl rfl (hb hby d2_87) fun v9 T9 L9 X9 q9 => ?_
                obtain ⟨rfl, e9, rfl⟩ := q9
                rw [List.append_nil] at X9
                show Go p e below _ T9 (mkF m 90 #[.val (.int p1)] [(.int (own_in p1 (895 : Int32) (8191 : Int32)))])
                refine OwnGo.if_ne X9 hx (pc' := 177) (hb hby d2_90) (by decide) (by decide) (fun h90 => ?_) (fun h90 => ?_)
                ·
                  exact J177 (by rw [own_same]; simp_all [own_rf, own_in]) T9 X9 e9
                ·
                  show Go p e below _ T9 (mkF m 93 #[.val (.int p1)] [])
                  refine OwnGo.iloadN X9 hx (hb hby d2_93) rfl ?_
                  show Go p e below _ T9 (mkF m 94 #[.val (.int p1)] [(.int p1)])
                  refine OwnGo.sipush X9 hx (z := (8204 : Int32)) (hb hby d2_94) (by decide) ?_
                  show Go p e below _ T9 (mkF m 97 #[.val (.int p1)] [(.int (8204 : Int32)), (.int p1)])
                  refine OwnGo.sipush X9 hx (z := (8205 : Int32)) (hb hby d2_97) (by decide) ?_
                  show Go p e below _ T9 (mkF m 100 #[.val (.int p1)] [(.int (8205 : Int32)), (.int (8204 : Int32)), (.int p1)])
                  refine OwnGo.callS X9 hx hZ hown (y := (⟨"com/example/sibling/sibling/xpath/XmlCharactersIsNameStartPinLaw", "in", "(III)Z"⟩ : MethodName)) (hw _ (List.mem_of_getElem? (i := 28) rfl)) (hw _ (List.mem_of_getElem? (i := 29) rfl)) (hw _ (List.mem_of_getElem? (i := 26) rfl)) (hw _ (List.mem_of_getElem? (i := 30) rfl)) (by decide) e9 (as := [(.int p1), (.int (8204 : Int32)), (.int (8205 : Int32))]) (rm1 l Z a0 hw p1 (8204 : Int32) (8205 : Int32) h0) (W := 0) (by decide) (by decide) (by decide) (by decide) (by rw [hml]; rfl) (lenOf own_pd0 rfl) (rest := []) rfl rfl (hb hby d2_100) fun v10 T10 L10 X10 q10 => ?_
                  obtain ⟨rfl, e10, rfl⟩ := q10
                  rw [List.append_nil] at X10
                  show Go p e below _ T10 (mkF m 103 #[.val (.int p1)] [(.int (own_in p1 (8204 : Int32) (8205 : Int32)))])
                  refine OwnGo.if_ne X10 hx (pc' := 177) (hb hby d2_103) (by decide) (by decide) (fun h103 => ?_) (fun h103 => ?_)
                  ·
                    exact J177 (by rw [own_same]; simp_all [own_rf, own_in]) T10 X10 e10
                  ·
                    show Go p e below _ T10 (mkF m 106 #[.val (.int p1)] [])
                    refine OwnGo.iloadN X10 hx (hb hby d2_106) rfl ?_
                    show Go p e below _ T10 (mkF m 107 #[.val (.int p1)] [(.int p1)])
                    refine OwnGo.sipush X10 hx (z := (8304 : Int32)) (hb hby d2_107) (by decide) ?_
                    show Go p e below _ T10 (mkF m 110 #[.val (.int p1)] [(.int (8304 : Int32)), (.int p1)])
                    refine OwnGo.sipush X10 hx (z := (8591 : Int32)) (hb hby d2_110) (by decide) ?_
                    show Go p e below _ T10 (mkF m 113 #[.val (.int p1)] [(.int (8591 : Int32)), (.int (8304 : Int32)), (.int p1)])
                    refine OwnGo.callS X10 hx hZ hown (y := (⟨"com/example/sibling/sibling/xpath/XmlCharactersIsNameStartPinLaw", "in", "(III)Z"⟩ : MethodName)) (hw _ (List.mem_of_getElem? (i := 28) rfl)) (hw _ (List.mem_of_getElem? (i := 29) rfl)) (hw _ (List.mem_of_getElem? (i := 26) rfl)) (hw _ (List.mem_of_getElem? (i := 30) rfl)) (by decide) e10 (as := [(.int p1), (.int (8304 : Int32)), (.int (8591 : Int32))]) (rm1 l Z a0 hw p1 (8304 : Int32) (8591 : Int32) h0) (W := 0) (by decide) (by decide) (by decide) (by decide) (by rw [hml]; rfl) (lenOf own_pd0 rfl) (rest := []) rfl rfl (hb hby d2_113) fun v11 T11 L11 X11 q11 => ?_
                    obtain ⟨rfl, e11, rfl⟩ := q11
                    rw [List.append_nil] at X11
                    show Go p e below _ T11 (mkF m 116 #[.val (.int p1)] [(.int (own_in p1 (8304 : Int32) (8591 : Int32)))])
                    refine OwnGo.if_ne X11 hx (pc' := 177) (hb hby d2_116) (by decide) (by decide) (fun h116 => ?_) (fun h116 => ?_)
                    ·
                      exact J177 (by rw [own_same]; simp_all [own_rf, own_in]) T11 X11 e11
                    ·
                      show Go p e below _ T11 (mkF m 119 #[.val (.int p1)] [])
                      refine OwnGo.iloadN X11 hx (hb hby d2_119) rfl ?_
                      show Go p e below _ T11 (mkF m 120 #[.val (.int p1)] [(.int p1)])
                      refine OwnGo.sipush X11 hx (z := (11264 : Int32)) (hb hby d2_120) (by decide) ?_
                      show Go p e below _ T11 (mkF m 123 #[.val (.int p1)] [(.int (11264 : Int32)), (.int p1)])
                      refine OwnGo.sipush X11 hx (z := (12271 : Int32)) (hb hby d2_123) (by decide) ?_
                      show Go p e below _ T11 (mkF m 126 #[.val (.int p1)] [(.int (12271 : Int32)), (.int (11264 : Int32)), (.int p1)])
                      refine OwnGo.callS X11 hx hZ hown (y := (⟨"com/example/sibling/sibling/xpath/XmlCharactersIsNameStartPinLaw", "in", "(III)Z"⟩ : MethodName)) (hw _ (List.mem_of_getElem? (i := 28) rfl)) (hw _ (List.mem_of_getElem? (i := 29) rfl)) (hw _ (List.mem_of_getElem? (i := 26) rfl)) (hw _ (List.mem_of_getElem? (i := 30) rfl)) (by decide) e11 (as := [(.int p1), (.int (11264 : Int32)), (.int (12271 : Int32))]) (rm1 l Z a0 hw p1 (11264 : Int32) (12271 : Int32) h0) (W := 0) (by decide) (by decide) (by decide) (by decide) (by rw [hml]; rfl) (lenOf own_pd0 rfl) (rest := []) rfl rfl (hb hby d2_126) fun v12 T12 L12 X12 q12 => ?_
                      obtain ⟨rfl, e12, rfl⟩ := q12
                      rw [List.append_nil] at X12
                      show Go p e below _ T12 (mkF m 129 #[.val (.int p1)] [(.int (own_in p1 (11264 : Int32) (12271 : Int32)))])
                      refine OwnGo.if_ne X12 hx (pc' := 177) (hb hby d2_129) (by decide) (by decide) (fun h129 => ?_) (fun h129 => ?_)
                      ·
                        exact J177 (by rw [own_same]; simp_all [own_rf, own_in]) T12 X12 e12
                      ·
                        show Go p e below _ T12 (mkF m 132 #[.val (.int p1)] [])
                        refine OwnGo.iloadN X12 hx (hb hby d2_132) rfl ?_
                        show Go p e below _ T12 (mkF m 133 #[.val (.int p1)] [(.int p1)])
                        refine OwnGo.sipush X12 hx (z := (12289 : Int32)) (hb hby d2_133) (by decide) ?_
                        show Go p e below _ T12 (mkF m 136 #[.val (.int p1)] [(.int (12289 : Int32)), (.int p1)])
                        refine OwnGo.ldcInt X12 hx hZ hown (v := (55295 : Int32)) (hw _ (List.mem_of_getElem? (i := 1) rfl)) (hb hby d2_136) ?_
                        show Go p e below _ T12 (mkF m 138 #[.val (.int p1)] [(.int (55295 : Int32)), (.int (12289 : Int32)), (.int p1)])
                        refine OwnGo.callS X12 hx hZ hown (y := (⟨"com/example/sibling/sibling/xpath/XmlCharactersIsNameStartPinLaw", "in", "(III)Z"⟩ : MethodName)) (hw _ (List.mem_of_getElem? (i := 28) rfl)) (hw _ (List.mem_of_getElem? (i := 29) rfl)) (hw _ (List.mem_of_getElem? (i := 26) rfl)) (hw _ (List.mem_of_getElem? (i := 30) rfl)) (by decide) e12 (as := [(.int p1), (.int (12289 : Int32)), (.int (55295 : Int32))]) (rm1 l Z a0 hw p1 (12289 : Int32) (55295 : Int32) h0) (W := 0) (by decide) (by decide) (by decide) (by decide) (by rw [hml]; rfl) (lenOf own_pd0 rfl) (rest := []) rfl rfl (hb hby d2_138) fun v13 T13 L13 X13 q13 => ?_
                        obtain ⟨rfl, e13, rfl⟩ := q13
                        rw [List.append_nil] at X13
                        show Go p e below _ T13 (mkF m 141 #[.val (.int p1)] [(.int (own_in p1 (12289 : Int32) (55295 : Int32)))])
                        refine OwnGo.if_ne X13 hx (pc' := 177) (hb hby d2_141) (by decide) (by decide) (fun h141 => ?_) (fun h141 => ?_)
                        ·
                          exact J177 (by rw [own_same]; simp_all [own_rf, own_in]) T13 X13 e13
                        ·
                          show Go p e below _ T13 (mkF m 144 #[.val (.int p1)] [])
                          refine OwnGo.iloadN X13 hx (hb hby d2_144) rfl ?_
                          show Go p e below _ T13 (mkF m 145 #[.val (.int p1)] [(.int p1)])
                          refine OwnGo.ldcInt X13 hx hZ hown (v := (63744 : Int32)) (hw _ (List.mem_of_getElem? (i := 4) rfl)) (hb hby d2_145) ?_
                          show Go p e below _ T13 (mkF m 147 #[.val (.int p1)] [(.int (63744 : Int32)), (.int p1)])
                          refine OwnGo.ldcInt X13 hx hZ hown (v := (64975 : Int32)) (hw _ (List.mem_of_getElem? (i := 5) rfl)) (hb hby d2_147) ?_
                          show Go p e below _ T13 (mkF m 149 #[.val (.int p1)] [(.int (64975 : Int32)), (.int (63744 : Int32)), (.int p1)])
                          refine OwnGo.callS X13 hx hZ hown (y := (⟨"com/example/sibling/sibling/xpath/XmlCharactersIsNameStartPinLaw", "in", "(III)Z"⟩ : MethodName)) (hw _ (List.mem_of_getElem? (i := 28) rfl)) (hw _ (List.mem_of_getElem? (i := 29) rfl)) (hw _ (List.mem_of_getElem? (i := 26) rfl)) (hw _ (List.mem_of_getElem? (i := 30) rfl)) (by decide) e13 (as := [(.int p1), (.int (63744 : Int32)), (.int (64975 : Int32))]) (rm1 l Z a0 hw p1 (63744 : Int32) (64975 : Int32) h0) (W := 0) (by decide) (by decide) (by decide) (by decide) (by rw [hml]; rfl) (lenOf own_pd0 rfl) (rest := []) rfl rfl (hb hby d2_149) fun v14 T14 L14 X14 q14 => ?_
                          obtain ⟨rfl, e14, rfl⟩ := q14
                          rw [List.append_nil] at X14
                          show Go p e below _ T14 (mkF m 152 #[.val (.int p1)] [(.int (own_in p1 (63744 : Int32) (64975 : Int32)))])
                          refine OwnGo.if_ne X14 hx (pc' := 177) (hb hby d2_152) (by decide) (by decide) (fun h152 => ?_) (fun h152 => ?_)
                          ·
                            exact J177 (by rw [own_same]; simp_all [own_rf, own_in]) T14 X14 e14
                          ·
                            show Go p e below _ T14 (mkF m 155 #[.val (.int p1)] [])
                            refine OwnGo.iloadN X14 hx (hb hby d2_155) rfl ?_
                            show Go p e below _ T14 (mkF m 156 #[.val (.int p1)] [(.int p1)])
                            refine OwnGo.ldcInt X14 hx hZ hown (v := (65008 : Int32)) (hw _ (List.mem_of_getElem? (i := 8) rfl)) (hb hby d2_156) ?_
                            show Go p e below _ T14 (mkF m 158 #[.val (.int p1)] [(.int (65008 : Int32)), (.int p1)])
                            refine OwnGo.ldcInt X14 hx hZ hown (v := (65533 : Int32)) (hw _ (List.mem_of_getElem? (i := 9) rfl)) (hb hby d2_158) ?_
                            show Go p e below _ T14 (mkF m 160 #[.val (.int p1)] [(.int (65533 : Int32)), (.int (65008 : Int32)), (.int p1)])
                            refine OwnGo.callS X14 hx hZ hown (y := (⟨"com/example/sibling/sibling/xpath/XmlCharactersIsNameStartPinLaw", "in", "(III)Z"⟩ : MethodName)) (hw _ (List.mem_of_getElem? (i := 28) rfl)) (hw _ (List.mem_of_getElem? (i := 29) rfl)) (hw _ (List.mem_of_getElem? (i := 26) rfl)) (hw _ (List.mem_of_getElem? (i := 30) rfl)) (by decide) e14 (as := [(.int p1), (.int (65008 : Int32)), (.int (65533 : Int32))]) (rm1 l Z a0 hw p1 (65008 : Int32) (65533 : Int32) h0) (W := 0) (by decide) (by decide) (by decide) (by decide) (by rw [hml]; rfl) (lenOf own_pd0 rfl) (rest := []) rfl rfl (hb hby d2_160) fun v15 T15 L15 X15 q15 => ?_
                            obtain ⟨rfl, e15, rfl⟩ := q15
                            rw [List.append_nil] at X15
                            show Go p e below _ T15 (mkF m 163 #[.val (.int p1)] [(.int (own_in p1 (65008 : Int32) (65533 : Int32)))])
                            refine OwnGo.if_ne X15 hx (pc' := 177) (hb hby d2_163) (by decide) (by decide) (fun h163 => ?_) (fun h163 => ?_)
                            ·
                              exact J177 (by rw [own_same]; simp_all [own_rf, own_in]) T15 X15 e15
                            ·
                              show Go p e below _ T15 (mkF m 166 #[.val (.int p1)] [])
                              refine OwnGo.iloadN X15 hx (hb hby d2_166) rfl ?_
                              show Go p e below _ T15 (mkF m 167 #[.val (.int p1)] [(.int p1)])
                              refine OwnGo.ldcInt X15 hx hZ hown (v := (65536 : Int32)) (hw _ (List.mem_of_getElem? (i := 12) rfl)) (hb hby d2_167) ?_
                              show Go p e below _ T15 (mkF m 169 #[.val (.int p1)] [(.int (65536 : Int32)), (.int p1)])
                              refine OwnGo.ldcInt X15 hx hZ hown (v := (983039 : Int32)) (hw _ (List.mem_of_getElem? (i := 13) rfl)) (hb hby d2_169) ?_
                              show Go p e below _ T15 (mkF m 171 #[.val (.int p1)] [(.int (983039 : Int32)), (.int (65536 : Int32)), (.int p1)])
                              refine OwnGo.callS X15 hx hZ hown (y := (⟨"com/example/sibling/sibling/xpath/XmlCharactersIsNameStartPinLaw", "in", "(III)Z"⟩ : MethodName)) (hw _ (List.mem_of_getElem? (i := 28) rfl)) (hw _ (List.mem_of_getElem? (i := 29) rfl)) (hw _ (List.mem_of_getElem? (i := 26) rfl)) (hw _ (List.mem_of_getElem? (i := 30) rfl)) (by decide) e15 (as := [(.int p1), (.int (65536 : Int32)), (.int (983039 : Int32))]) (rm1 l Z a0 hw p1 (65536 : Int32) (983039 : Int32) h0) (W := 0) (by decide) (by decide) (by decide) (by decide) (by rw [hml]; rfl) (lenOf own_pd0 rfl) (rest := []) rfl rfl (hb hby d2_171) fun v16 T16 L16 X16 q16 => ?_
                              obtain ⟨rfl, e16, rfl⟩ := q16
                              rw [List.append_nil] at X16
                              show Go p e below _ T16 (mkF m 174 #[.val (.int p1)] [(.int (own_in p1 (65536 : Int32) (983039 : Int32)))])
                              refine OwnGo.if_eq X16 hx (pc' := 181) (hb hby d2_174) (by decide) (by decide) (fun h174 => ?_) (fun h174 => ?_)
                              ·
                                exact J181 (by rw [own_same]; simp_all [own_rf, own_in]) T16 X16 e16
                              ·
                                exact J177 (by rw [own_same]; simp_all [own_rf, own_in]) T16 X16 e16
def IA (Z : State) (h : Heap) (a : Addr) (n : Int32) : Prop := ∃ c : Cell, Arr Z h a c .int ∧ c.slots.size = n.toNatClampNeg ∧ ¬ n < 0 ∧ ∀ i, i < c.slots.size → ∃ x, c.slots[i]? = some (.int x)
theorem own_ia_new {Z : State} {h : Heap} {a : Addr} {k : ClassId} {n : Int32} (A : Arr Z h a (newA k .int n) .int) (q : ¬ n < 0) : IA Z h a n :=
  ⟨_, A, sz_new _ _ _, q, fun i hi => ⟨0, by rw [sz_new] at hi; simp [newA, hi, defaultValue]⟩⟩
theorem own_ia_set {Z : State} {h h' : Heap} {a : Addr} {c : Cell} {n x : Int32} {sl : Nat} (A : Arr Z h a c .int) (S : c.slots.size = n.toNatClampNeg) (q : ¬ n < 0) (F : ∀ i, i < c.slots.size → ∃ x, c.slots[i]? = some (.int x)) (W : Wr h h' a sl (.int x)) : IA Z h' a n := by
  refine ⟨_, A.same W, by rw [sz_set]; exact S, q, fun i hi => ?_⟩
  rw [sz_set] at hi
  by_cases e : sl = i
  · subst e; exact ⟨x, by simp [Cell.setSlot, hi]⟩
  · obtain ⟨y, hy⟩ := F i hi
    exact ⟨y, by simp only [Cell.setSlot]; rw [Array.getElem?_setIfInBounds_ne e]; exact hy⟩
section
variable {p : Program} {l : Launch} {e : Env} {R : Room} {s : State} {m : MethodId} {args : Array Value} {below : List Frame} {meth : Method} {c : Code} {T : State} {locs : List Loc} {cells slots : Nat} {Z : State} {a0 : Array Value} {h : Heap} {En : State → Outcome → Prop} {pc : Nat} {Ls : Array Slot} {st : List Value}
theorem own_stIA (X : Stand p l e R s m args below meth c T locs cells slots) (hx : p.tables.exec = Jvm.exec) (hZ : Z.Warmed39 s.vm) (eT : T.heap = h) {a : Addr} {n : Int32} (A : IA Z h a n) {n0 : Nat} (N : Fr n0 locs) (ga : n0 ≤ a) {j x : Int32} (hj : ¬ j < 0 ∧ j < n) (hd : decode c.code pc = .ok (.iastore, 1))
    (r : ∀ T' h' L', Stand p l e R s m args below meth c T' L' cells slots → T'.heap = h' → IA Z h' a n → Fr n0 L' → Go p e below En T' (mkF m (pc + 1) Ls st)) : Go p e below En T (mkF m pc Ls (.int x :: .int j :: .ref a :: st)) := by
  obtain ⟨cl, A1, A2, A3, A4⟩ := A
  refine OwnGo.stI X hx hZ eT A1 (inb_of A2 hj) hd fun T' h' X' e' W' => ?_
  exact r T' h' _ X' e' (own_ia_set A1 A2 A3 A4 W') (Fr.snoc X' N ga)
theorem own_ldIA (X : Stand p l e R s m args below meth c T locs cells slots) (hx : p.tables.exec = Jvm.exec) (hZ : Z.Warmed39 s.vm) (eT : T.heap = h) {a : Addr} {n : Int32} (A : IA Z h a n) {j : Int32} (hj : ¬ j < 0 ∧ j < n) (hd : decode c.code pc = .ok (.iaload, 1))
    (r : ∀ x : Int32, Go p e below En T (mkF m (pc + 1) Ls (.int x :: st))) : Go p e below En T (mkF m pc Ls (.int j :: .ref a :: st)) := by
  obtain ⟨cl, A1, A2, A3, A4⟩ := A
  have hin := inb_of A2 hj
  obtain ⟨x, hx'⟩ := A4 j.toNatClampNeg (Nat.lt_of_not_le fun q => hin (Or.inr q))
  exact OwnGo.iaload X hx hZ eT A1 hin hx' hd (r x)
theorem own_lenIA (X : Stand p l e R s m args below meth c T locs cells slots) (hx : p.tables.exec = Jvm.exec) (hZ : Z.Warmed39 s.vm) (eT : T.heap = h) {a : Addr} {n : Int32} (A : IA Z h a n) (hd : decode c.code pc = .ok (.arraylength, 1))
    (r : Go p e below En T (mkF m (pc + 1) Ls (.int n :: st))) : Go p e below En T (mkF m pc Ls (.ref a :: st)) := by
  obtain ⟨cl, A1, A2, A3, A4⟩ := A
  exact OwnGo.arraylength X hx hZ eT A1 (len_of A2 A3) hd r
end
theorem own_idx (k : Int32) : ¬ ((k &&& 2147483647) % 57) < 0 ∧ ((k &&& 2147483647) % 57) < 57 := by
  have e1 : (k &&& 2147483647).toInt = k.toInt % 2 ^ 31 := Jvm.Kit.i32_mask k 2147483647 (k := 31) (by decide) (by decide)
  have e2 : ((k &&& 2147483647) % 57).toInt = (k &&& 2147483647).toInt % (57 : Int32).toInt := Jvm.Kit.i32_rem_nonneg (by omega)
  have e3 : (57 : Int32).toInt = 57 := by decide
  have e0 : (0 : Int32).toInt = 0 := by decide
  rw [Int32.lt_iff_toInt_lt, Int32.lt_iff_toInt_lt, e2, e3, e0]
  omega
theorem own_ef_rm0 (m : MethodId) (x0 : Int32) (x1 : Int32) (x2 : Int32) : entryFrame m [(.int x0), (.int x1), (.int x2)].toArray maxLocals = mkF m 0 #[.val (.int x0), .val (.int x1), .val (.int x2), .unset, .unset, .unset, .unset, .unset] [] := by first | (simp [entryFrame, mkF, argsToLocals, Value.category, maxLocals]; done) | rfl
set_option maxRecDepth 65536 in
set_option maxHeartbeats 40000000 in
theorem rm0 (l : Launch) (Z : State) (a0 : Array Value) (hw : ∀ d ∈ tables_1, d.before a0 Z = true) (p1 p2 p3 : Int32) (h0 : Heap) (n0 : Nat) (Z0 : n0 ≤ h0.size) :
    Con l Z x code maxLocals ret room_1 [(.int p1), (.int p2), (.int p3)] h0 (fun v _ L => v = some (.int 1) ∧ Fr n0 L) := by
  refine Con.of (plainFor_of_name own_pn0) (Ls0 := #[.val (.int p1), .val (.int p2), .val (.int p3), .unset, .unset, .unset, .unset, .unset]) (fun m => own_ef_rm0 m p1 p2 p3) ?_
  intro p e s m below meth c T0 X0 hx hZ hby hml hown hnm hret hlk e0
  have hml : c.maxLocals = 8 := hml
  show Go p e below _ T0 (mkF m 0 #[.val (.int p1), .val (.int p2), .val (.int p3), .unset, .unset, .unset, .unset, .unset] [])
  refine OwnGo.bipush X0 hx (z := (57 : Int32)) (hb hby at_0) (by decide) ?_
  show Go p e below _ T0 (mkF m 2 #[.val (.int p1), .val (.int p2), .val (.int p3), .unset, .unset, .unset, .unset, .unset] [(.int (57 : Int32))])
  refine OwnGo.newP X0 hx hZ (aty := .int) (hw _ (List.mem_of_getElem? (i := 0) rfl)) e0 (hb hby at_2) (n := (57 : Int32)) (by decide) (cap := 57) (by decide) (by decide) (by decide) (by decide) fun T1 h1 k1 b g1 X1 e1 E1 A1 => ?_
  have V1 := own_ia_new A1 (by decide)
  have gb : n0 ≤ b := Nat.le_trans Z0 (Nat.le_of_eq g1.symm)
  show Go p e below _ T1 (mkF m 4 #[.val (.int p1), .val (.int p2), .val (.int p3), .unset, .unset, .unset, .unset, .unset] [(.ref b)])
  refine OwnGo.dup X1 hx (hb hby at_4) rfl ?_
  show Go p e below _ T1 (mkF m 5 #[.val (.int p1), .val (.int p2), .val (.int p3), .unset, .unset, .unset, .unset, .unset] [(.ref b), (.ref b)])
  refine OwnGo.iconst X1 hx (z := (0 : Int32)) (hb hby at_5) (by decide) ?_
  show Go p e below _ T1 (mkF m 6 #[.val (.int p1), .val (.int p2), .val (.int p3), .unset, .unset, .unset, .unset, .unset] [(.int (0 : Int32)), (.ref b), (.ref b)])
  refine OwnGo.iconst X1 hx (z := (0 : Int32)) (hb hby at_6) (by decide) ?_
  show Go p e below _ T1 (mkF m 7 #[.val (.int p1), .val (.int p2), .val (.int p3), .unset, .unset, .unset, .unset, .unset] [(.int (0 : Int32)), (.int (0 : Int32)), (.ref b), (.ref b)])
  refine own_stIA X1 hx hZ e1 V1 (Fr.nil n0) gb ⟨by decide, by decide⟩ (hb hby at_7) fun T2 h2 L2 X2 e2 V2 N2 => ?_
  show Go p e below _ T2 (mkF m 8 #[.val (.int p1), .val (.int p2), .val (.int p3), .unset, .unset, .unset, .unset, .unset] [(.ref b)])
  refine OwnGo.dup X2 hx (hb hby at_8) rfl ?_
  show Go p e below _ T2 (mkF m 9 #[.val (.int p1), .val (.int p2), .val (.int p3), .unset, .unset, .unset, .unset, .unset] [(.ref b), (.ref b)])
  refine OwnGo.iconst X2 hx (z := (1 : Int32)) (hb hby at_9) (by decide) ?_
  show Go p e below _ T2 (mkF m 10 #[.val (.int p1), .val (.int p2), .val (.int p3), .unset, .unset, .unset, .unset, .unset] [(.int (1 : Int32)), (.ref b), (.ref b)])
  refine OwnGo.bipush X2 hx (z := (58 : Int32)) (hb hby at_10) (by decide) ?_
  show Go p e below _ T2 (mkF m 12 #[.val (.int p1), .val (.int p2), .val (.int p3), .unset, .unset, .unset, .unset, .unset] [(.int (58 : Int32)), (.int (1 : Int32)), (.ref b), (.ref b)])
  refine own_stIA X2 hx hZ e2 V2 N2 gb ⟨by decide, by decide⟩ (hb hby at_12) fun T3 h3 L3 X3 e3 V3 N3 => ?_
  show Go p e below _ T3 (mkF m 13 #[.val (.int p1), .val (.int p2), .val (.int p3), .unset, .unset, .unset, .unset, .unset] [(.ref b)])
  refine OwnGo.dup X3 hx (hb hby at_13) rfl ?_
  show Go p e below _ T3 (mkF m 14 #[.val (.int p1), .val (.int p2), .val (.int p3), .unset, .unset, .unset, .unset, .unset] [(.ref b), (.ref b)])
  refine OwnGo.iconst X3 hx (z := (2 : Int32)) (hb hby at_14) (by decide) ?_
  show Go p e below _ T3 (mkF m 15 #[.val (.int p1), .val (.int p2), .val (.int p3), .unset, .unset, .unset, .unset, .unset] [(.int (2 : Int32)), (.ref b), (.ref b)])
  refine OwnGo.bipush X3 hx (z := (64 : Int32)) (hb hby at_15) (by decide) ?_
  show Go p e below _ T3 (mkF m 17 #[.val (.int p1), .val (.int p2), .val (.int p3), .unset, .unset, .unset, .unset, .unset] [(.int (64 : Int32)), (.int (2 : Int32)), (.ref b), (.ref b)])
  refine own_stIA X3 hx hZ e3 V3 N3 gb ⟨by decide, by decide⟩ (hb hby at_17) fun T4 h4 L4 X4 e4 V4 N4 => ?_
  show Go p e below _ T4 (mkF m 18 #[.val (.int p1), .val (.int p2), .val (.int p3), .unset, .unset, .unset, .unset, .unset] [(.ref b)])
  refine OwnGo.dup X4 hx (hb hby at_18) rfl ?_
  show Go p e below _ T4 (mkF m 19 #[.val (.int p1), .val (.int p2), .val (.int p3), .unset, .unset, .unset, .unset, .unset] [(.ref b), (.ref b)])
  refine OwnGo.iconst X4 hx (z := (3 : Int32)) (hb hby at_19) (by decide) ?_
  show Go p e below _ T4 (mkF m 20 #[.val (.int p1), .val (.int p2), .val (.int p3), .unset, .unset, .unset, .unset, .unset] [(.int (3 : Int32)), (.ref b), (.ref b)])
  refine OwnGo.bipush X4 hx (z := (65 : Int32)) (hb hby at_20) (by decide) ?_
  show Go p e below _ T4 (mkF m 22 #[.val (.int p1), .val (.int p2), .val (.int p3), .unset, .unset, .unset, .unset, .unset] [(.int (65 : Int32)), (.int (3 : Int32)), (.ref b), (.ref b)])
  refine own_stIA X4 hx hZ e4 V4 N4 gb ⟨by decide, by decide⟩ (hb hby at_22) fun T5 h5 L5 X5 e5 V5 N5 => ?_
  show Go p e below _ T5 (mkF m 23 #[.val (.int p1), .val (.int p2), .val (.int p3), .unset, .unset, .unset, .unset, .unset] [(.ref b)])
  refine OwnGo.dup X5 hx (hb hby at_23) rfl ?_
  show Go p e below _ T5 (mkF m 24 #[.val (.int p1), .val (.int p2), .val (.int p3), .unset, .unset, .unset, .unset, .unset] [(.ref b), (.ref b)])
  refine OwnGo.iconst X5 hx (z := (4 : Int32)) (hb hby at_24) (by decide) ?_
  show Go p e below _ T5 (mkF m 25 #[.val (.int p1), .val (.int p2), .val (.int p3), .unset, .unset, .unset, .unset, .unset] [(.int (4 : Int32)), (.ref b), (.ref b)])
  refine OwnGo.bipush X5 hx (z := (90 : Int32)) (hb hby at_25) (by decide) ?_
  show Go p e below _ T5 (mkF m 27 #[.val (.int p1), .val (.int p2), .val (.int p3), .unset, .unset, .unset, .unset, .unset] [(.int (90 : Int32)), (.int (4 : Int32)), (.ref b), (.ref b)])
  refine own_stIA X5 hx hZ e5 V5 N5 gb ⟨by decide, by decide⟩ (hb hby at_27) fun T6 h6 L6 X6 e6 V6 N6 => ?_
  show Go p e below _ T6 (mkF m 28 #[.val (.int p1), .val (.int p2), .val (.int p3), .unset, .unset, .unset, .unset, .unset] [(.ref b)])
  refine OwnGo.dup X6 hx (hb hby at_28) rfl ?_
  show Go p e below _ T6 (mkF m 29 #[.val (.int p1), .val (.int p2), .val (.int p3), .unset, .unset, .unset, .unset, .unset] [(.ref b), (.ref b)])
  refine OwnGo.iconst X6 hx (z := (5 : Int32)) (hb hby at_29) (by decide) ?_
  show Go p e below _ T6 (mkF m 30 #[.val (.int p1), .val (.int p2), .val (.int p3), .unset, .unset, .unset, .unset, .unset] [(.int (5 : Int32)), (.ref b), (.ref b)])
  refine OwnGo.bipush X6 hx (z := (91 : Int32)) (hb hby at_30) (by decide) ?_
  show Go p e below _ T6 (mkF m 32 #[.val (.int p1), .val (.int p2), .val (.int p3), .unset, .unset, .unset, .unset, .unset] [(.int (91 : Int32)), (.int (5 : Int32)), (.ref b), (.ref b)])
  refine own_stIA X6 hx hZ e6 V6 N6 gb ⟨by decide, by decide⟩ (hb hby at_32) fun T7 h7 L7 X7 e7 V7 N7 => ?_
  show Go p e below _ T7 (mkF m 33 #[.val (.int p1), .val (.int p2), .val (.int p3), .unset, .unset, .unset, .unset, .unset] [(.ref b)])
  refine OwnGo.dup X7 hx (hb hby at_33) rfl ?_
  show Go p e below _ T7 (mkF m 34 #[.val (.int p1), .val (.int p2), .val (.int p3), .unset, .unset, .unset, .unset, .unset] [(.ref b), (.ref b)])
  refine OwnGo.bipush X7 hx (z := (6 : Int32)) (hb hby at_34) (by decide) ?_
  show Go p e below _ T7 (mkF m 36 #[.val (.int p1), .val (.int p2), .val (.int p3), .unset, .unset, .unset, .unset, .unset] [(.int (6 : Int32)), (.ref b), (.ref b)])
  refine OwnGo.bipush X7 hx (z := (95 : Int32)) (hb hby at_36) (by decide) ?_
  show Go p e below _ T7 (mkF m 38 #[.val (.int p1), .val (.int p2), .val (.int p3), .unset, .unset, .unset, .unset, .unset] [(.int (95 : Int32)), (.int (6 : Int32)), (.ref b), (.ref b)])
  refine own_stIA X7 hx hZ e7 V7 N7 gb ⟨by decide, by decide⟩ (hb hby at_38) fun T8 h8 L8 X8 e8 V8 N8 => ?_
  show Go p e below _ T8 (mkF m 39 #[.val (.int p1), .val (.int p2), .val (.int p3), .unset, .unset, .unset, .unset, .unset] [(.ref b)])
  refine OwnGo.dup X8 hx (hb hby at_39) rfl ?_
  show Go p e below _ T8 (mkF m 40 #[.val (.int p1), .val (.int p2), .val (.int p3), .unset, .unset, .unset, .unset, .unset] [(.ref b), (.ref b)])
  refine OwnGo.bipush X8 hx (z := (7 : Int32)) (hb hby at_40) (by decide) ?_
  show Go p e below _ T8 (mkF m 42 #[.val (.int p1), .val (.int p2), .val (.int p3), .unset, .unset, .unset, .unset, .unset] [(.int (7 : Int32)), (.ref b), (.ref b)])
  refine OwnGo.bipush X8 hx (z := (96 : Int32)) (hb hby at_42) (by decide) ?_
  show Go p e below _ T8 (mkF m 44 #[.val (.int p1), .val (.int p2), .val (.int p3), .unset, .unset, .unset, .unset, .unset] [(.int (96 : Int32)), (.int (7 : Int32)), (.ref b), (.ref b)])
  refine own_stIA X8 hx hZ e8 V8 N8 gb ⟨by decide, by decide⟩ (hb hby at_44) fun T9 h9 L9 X9 e9 V9 N9 => ?_
  show Go p e below _ T9 (mkF m 45 #[.val (.int p1), .val (.int p2), .val (.int p3), .unset, .unset, .unset, .unset, .unset] [(.ref b)])
  refine OwnGo.dup X9 hx (hb hby at_45) rfl ?_
  show Go p e below _ T9 (mkF m 46 #[.val (.int p1), .val (.int p2), .val (.int p3), .unset, .unset, .unset, .unset, .unset] [(.ref b), (.ref b)])
  refine OwnGo.bipush X9 hx (z := (8 : Int32)) (hb hby at_46) (by decide) ?_
  show Go p e below _ T9 (mkF m 48 #[.val (.int p1), .val (.int p2), .val (.int p3), .unset, .unset, .unset, .unset, .unset] [(.int (8 : Int32)), (.ref b), (.ref b)])
  refine OwnGo.bipush X9 hx (z := (97 : Int32)) (hb hby at_48) (by decide) ?_
  show Go p e below _ T9 (mkF m 50 #[.val (.int p1), .val (.int p2), .val (.int p3), .unset, .unset, .unset, .unset, .unset] [(.int (97 : Int32)), (.int (8 : Int32)), (.ref b), (.ref b)])
  refine own_stIA X9 hx hZ e9 V9 N9 gb ⟨by decide, by decide⟩ (hb hby at_50) fun T10 h10 L10 X10 e10 V10 N10 => ?_
  show Go p e below _ T10 (mkF m 51 #[.val (.int p1), .val (.int p2), .val (.int p3), .unset, .unset, .unset, .unset, .unset] [(.ref b)])
  refine OwnGo.dup X10 hx (hb hby at_51) rfl ?_
  show Go p e below _ T10 (mkF m 52 #[.val (.int p1), .val (.int p2), .val (.int p3), .unset, .unset, .unset, .unset, .unset] [(.ref b), (.ref b)])
  refine OwnGo.bipush X10 hx (z := (9 : Int32)) (hb hby at_52) (by decide) ?_
  show Go p e below _ T10 (mkF m 54 #[.val (.int p1), .val (.int p2), .val (.int p3), .unset, .unset, .unset, .unset, .unset] [(.int (9 : Int32)), (.ref b), (.ref b)])
  refine OwnGo.bipush X10 hx (z := (122 : Int32)) (hb hby at_54) (by decide) ?_
  show Go p e below _ T10 (mkF m 56 #[.val (.int p1), .val (.int p2), .val (.int p3), .unset, .unset, .unset, .unset, .unset] [(.int (122 : Int32)), (.int (9 : Int32)), (.ref b), (.ref b)])
  refine own_stIA X10 hx hZ e10 V10 N10 gb ⟨by decide, by decide⟩ (hb hby at_56) fun T11 h11 L11 X11 e11 V11 N11 => ?_
  show Go p e below _ T11 (mkF m 57 #[.val (.int p1), .val (.int p2), .val (.int p3), .unset, .unset, .unset, .unset, .unset] [(.ref b)])
  refine OwnGo.dup X11 hx (hb hby at_57) rfl ?_
  show Go p e below _ T11 (mkF m 58 #[.val (.int p1), .val (.int p2), .val (.int p3), .unset, .unset, .unset, .unset, .unset] [(.ref b), (.ref b)])
  refine OwnGo.bipush X11 hx (z := (10 : Int32)) (hb hby at_58) (by decide) ?_
  show Go p e below _ T11 (mkF m 60 #[.val (.int p1), .val (.int p2), .val (.int p3), .unset, .unset, .unset, .unset, .unset] [(.int (10 : Int32)), (.ref b), (.ref b)])
  refine OwnGo.bipush X11 hx (z := (123 : Int32)) (hb hby at_60) (by decide) ?_
  show Go p e below _ T11 (mkF m 62 #[.val (.int p1), .val (.int p2), .val (.int p3), .unset, .unset, .unset, .unset, .unset] [(.int (123 : Int32)), (.int (10 : Int32)), (.ref b), (.ref b)])
  refine own_stIA X11 hx hZ e11 V11 N11 gb ⟨by decide, by decide⟩ (hb hby at_62) fun T12 h12 L12 X12 e12 V12 N12 => ?_
  show Go p e below _ T12 (mkF m 63 #[.val (.int p1), .val (.int p2), .val (.int p3), .unset, .unset, .unset, .unset, .unset] [(.ref b)])
  refine OwnGo.dup X12 hx (hb hby at_63) rfl ?_
  show Go p e below _ T12 (mkF m 64 #[.val (.int p1), .val (.int p2), .val (.int p3), .unset, .unset, .unset, .unset, .unset] [(.ref b), (.ref b)])
  refine OwnGo.bipush X12 hx (z := (11 : Int32)) (hb hby at_64) (by decide) ?_
  show Go p e below _ T12 (mkF m 66 #[.val (.int p1), .val (.int p2), .val (.int p3), .unset, .unset, .unset, .unset, .unset] [(.int (11 : Int32)), (.ref b), (.ref b)])
  refine OwnGo.sipush X12 hx (z := (191 : Int32)) (hb hby at_66) (by decide) ?_
  show Go p e below _ T12 (mkF m 69 #[.val (.int p1), .val (.int p2), .val (.int p3), .unset, .unset, .unset, .unset, .unset] [(.int (191 : Int32)), (.int (11 : Int32)), (.ref b), (.ref b)])
  refine own_stIA X12 hx hZ e12 V12 N12 gb ⟨by decide, by decide⟩ (hb hby at_69) fun T13 h13 L13 X13 e13 V13 N13 => ?_
  show Go p e below _ T13 (mkF m 70 #[.val (.int p1), .val (.int p2), .val (.int p3), .unset, .unset, .unset, .unset, .unset] [(.ref b)])
  refine OwnGo.dup X13 hx (hb hby at_70) rfl ?_
  show Go p e below _ T13 (mkF m 71 #[.val (.int p1), .val (.int p2), .val (.int p3), .unset, .unset, .unset, .unset, .unset] [(.ref b), (.ref b)])
  refine OwnGo.bipush X13 hx (z := (12 : Int32)) (hb hby at_71) (by decide) ?_
  show Go p e below _ T13 (mkF m 73 #[.val (.int p1), .val (.int p2), .val (.int p3), .unset, .unset, .unset, .unset, .unset] [(.int (12 : Int32)), (.ref b), (.ref b)])
  refine OwnGo.sipush X13 hx (z := (192 : Int32)) (hb hby at_73) (by decide) ?_
  show Go p e below _ T13 (mkF m 76 #[.val (.int p1), .val (.int p2), .val (.int p3), .unset, .unset, .unset, .unset, .unset] [(.int (192 : Int32)), (.int (12 : Int32)), (.ref b), (.ref b)])
  refine own_stIA X13 hx hZ e13 V13 N13 gb ⟨by decide, by decide⟩ (hb hby at_76) fun T14 h14 L14 X14 e14 V14 N14 => ?_
  show Go p e below _ T14 (mkF m 77 #[.val (.int p1), .val (.int p2), .val (.int p3), .unset, .unset, .unset, .unset, .unset] [(.ref b)])
  refine OwnGo.dup X14 hx (hb hby at_77) rfl ?_
  show Go p e below _ T14 (mkF m 78 #[.val (.int p1), .val (.int p2), .val (.int p3), .unset, .unset, .unset, .unset, .unset] [(.ref b), (.ref b)])
  refine OwnGo.bipush X14 hx (z := (13 : Int32)) (hb hby at_78) (by decide) ?_
  show Go p e below _ T14 (mkF m 80 #[.val (.int p1), .val (.int p2), .val (.int p3), .unset, .unset, .unset, .unset, .unset] [(.int (13 : Int32)), (.ref b), (.ref b)])
  refine OwnGo.sipush X14 hx (z := (214 : Int32)) (hb hby at_80) (by decide) ?_
  show Go p e below _ T14 (mkF m 83 #[.val (.int p1), .val (.int p2), .val (.int p3), .unset, .unset, .unset, .unset, .unset] [(.int (214 : Int32)), (.int (13 : Int32)), (.ref b), (.ref b)])
  refine own_stIA X14 hx hZ e14 V14 N14 gb ⟨by decide, by decide⟩ (hb hby at_83) fun T15 h15 L15 X15 e15 V15 N15 => ?_
  show Go p e below _ T15 (mkF m 84 #[.val (.int p1), .val (.int p2), .val (.int p3), .unset, .unset, .unset, .unset, .unset] [(.ref b)])
  refine OwnGo.dup X15 hx (hb hby at_84) rfl ?_
  show Go p e below _ T15 (mkF m 85 #[.val (.int p1), .val (.int p2), .val (.int p3), .unset, .unset, .unset, .unset, .unset] [(.ref b), (.ref b)])
  refine OwnGo.bipush X15 hx (z := (14 : Int32)) (hb hby at_85) (by decide) ?_
  show Go p e below _ T15 (mkF m 87 #[.val (.int p1), .val (.int p2), .val (.int p3), .unset, .unset, .unset, .unset, .unset] [(.int (14 : Int32)), (.ref b), (.ref b)])
  refine OwnGo.sipush X15 hx (z := (215 : Int32)) (hb hby at_87) (by decide) ?_
  show Go p e below _ T15 (mkF m 90 #[.val (.int p1), .val (.int p2), .val (.int p3), .unset, .unset, .unset, .unset, .unset] [(.int (215 : Int32)), (.int (14 : Int32)), (.ref b), (.ref b)])
  refine own_stIA X15 hx hZ e15 V15 N15 gb ⟨by decide, by decide⟩ (hb hby at_90) fun T16 h16 L16 X16 e16 V16 N16 => ?_
  show Go p e below _ T16 (mkF m 91 #[.val (.int p1), .val (.int p2), .val (.int p3), .unset, .unset, .unset, .unset, .unset] [(.ref b)])
  refine OwnGo.dup X16 hx (hb hby at_91) rfl ?_
  show Go p e below _ T16 (mkF m 92 #[.val (.int p1), .val (.int p2), .val (.int p3), .unset, .unset, .unset, .unset, .unset] [(.ref b), (.ref b)])
  refine OwnGo.bipush X16 hx (z := (15 : Int32)) (hb hby at_92) (by decide) ?_
  show Go p e below _ T16 (mkF m 94 #[.val (.int p1), .val (.int p2), .val (.int p3), .unset, .unset, .unset, .unset, .unset] [(.int (15 : Int32)), (.ref b), (.ref b)])
  refine OwnGo.sipush X16 hx (z := (216 : Int32)) (hb hby at_94) (by decide) ?_
  show Go p e below _ T16 (mkF m 97 #[.val (.int p1), .val (.int p2), .val (.int p3), .unset, .unset, .unset, .unset, .unset] [(.int (216 : Int32)), (.int (15 : Int32)), (.ref b), (.ref b)])
  refine own_stIA X16 hx hZ e16 V16 N16 gb ⟨by decide, by decide⟩ (hb hby at_97) fun T17 h17 L17 X17 e17 V17 N17 => ?_
  show Go p e below _ T17 (mkF m 98 #[.val (.int p1), .val (.int p2), .val (.int p3), .unset, .unset, .unset, .unset, .unset] [(.ref b)])
  refine OwnGo.dup X17 hx (hb hby at_98) rfl ?_
  show Go p e below _ T17 (mkF m 99 #[.val (.int p1), .val (.int p2), .val (.int p3), .unset, .unset, .unset, .unset, .unset] [(.ref b), (.ref b)])
  refine OwnGo.bipush X17 hx (z := (16 : Int32)) (hb hby at_99) (by decide) ?_
  show Go p e below _ T17 (mkF m 101 #[.val (.int p1), .val (.int p2), .val (.int p3), .unset, .unset, .unset, .unset, .unset] [(.int (16 : Int32)), (.ref b), (.ref b)])
  refine OwnGo.sipush X17 hx (z := (246 : Int32)) (hb hby at_101) (by decide) ?_
  show Go p e below _ T17 (mkF m 104 #[.val (.int p1), .val (.int p2), .val (.int p3), .unset, .unset, .unset, .unset, .unset] [(.int (246 : Int32)), (.int (16 : Int32)), (.ref b), (.ref b)])
  refine own_stIA X17 hx hZ e17 V17 N17 gb ⟨by decide, by decide⟩ (hb hby at_104) fun T18 h18 L18 X18 e18 V18 N18 => ?_
  show Go p e below _ T18 (mkF m 105 #[.val (.int p1), .val (.int p2), .val (.int p3), .unset, .unset, .unset, .unset, .unset] [(.ref b)])
  refine OwnGo.dup X18 hx (hb hby at_105) rfl ?_
  show Go p e below _ T18 (mkF m 106 #[.val (.int p1), .val (.int p2), .val (.int p3), .unset, .unset, .unset, .unset, .unset] [(.ref b), (.ref b)])
  refine OwnGo.bipush X18 hx (z := (17 : Int32)) (hb hby at_106) (by decide) ?_
  show Go p e below _ T18 (mkF m 108 #[.val (.int p1), .val (.int p2), .val (.int p3), .unset, .unset, .unset, .unset, .unset] [(.int (17 : Int32)), (.ref b), (.ref b)])
  refine OwnGo.sipush X18 hx (z := (247 : Int32)) (hb hby at_108) (by decide) ?_
  show Go p e below _ T18 (mkF m 111 #[.val (.int p1), .val (.int p2), .val (.int p3), .unset, .unset, .unset, .unset, .unset] [(.int (247 : Int32)), (.int (17 : Int32)), (.ref b), (.ref b)])
  refine own_stIA X18 hx hZ e18 V18 N18 gb ⟨by decide, by decide⟩ (hb hby at_111) fun T19 h19 L19 X19 e19 V19 N19 => ?_
  show Go p e below _ T19 (mkF m 112 #[.val (.int p1), .val (.int p2), .val (.int p3), .unset, .unset, .unset, .unset, .unset] [(.ref b)])
  refine OwnGo.dup X19 hx (hb hby at_112) rfl ?_
  show Go p e below _ T19 (mkF m 113 #[.val (.int p1), .val (.int p2), .val (.int p3), .unset, .unset, .unset, .unset, .unset] [(.ref b), (.ref b)])
  refine OwnGo.bipush X19 hx (z := (18 : Int32)) (hb hby at_113) (by decide) ?_
  show Go p e below _ T19 (mkF m 115 #[.val (.int p1), .val (.int p2), .val (.int p3), .unset, .unset, .unset, .unset, .unset] [(.int (18 : Int32)), (.ref b), (.ref b)])
  refine OwnGo.sipush X19 hx (z := (248 : Int32)) (hb hby at_115) (by decide) ?_
  show Go p e below _ T19 (mkF m 118 #[.val (.int p1), .val (.int p2), .val (.int p3), .unset, .unset, .unset, .unset, .unset] [(.int (248 : Int32)), (.int (18 : Int32)), (.ref b), (.ref b)])
  refine own_stIA X19 hx hZ e19 V19 N19 gb ⟨by decide, by decide⟩ (hb hby at_118) fun T20 h20 L20 X20 e20 V20 N20 => ?_
  show Go p e below _ T20 (mkF m 119 #[.val (.int p1), .val (.int p2), .val (.int p3), .unset, .unset, .unset, .unset, .unset] [(.ref b)])
  refine OwnGo.dup X20 hx (hb hby at_119) rfl ?_
  show Go p e below _ T20 (mkF m 120 #[.val (.int p1), .val (.int p2), .val (.int p3), .unset, .unset, .unset, .unset, .unset] [(.ref b), (.ref b)])
  refine OwnGo.bipush X20 hx (z := (19 : Int32)) (hb hby at_120) (by decide) ?_
  show Go p e below _ T20 (mkF m 122 #[.val (.int p1), .val (.int p2), .val (.int p3), .unset, .unset, .unset, .unset, .unset] [(.int (19 : Int32)), (.ref b), (.ref b)])
  refine OwnGo.sipush X20 hx (z := (767 : Int32)) (hb hby at_122) (by decide) ?_
  show Go p e below _ T20 (mkF m 125 #[.val (.int p1), .val (.int p2), .val (.int p3), .unset, .unset, .unset, .unset, .unset] [(.int (767 : Int32)), (.int (19 : Int32)), (.ref b), (.ref b)])
  refine own_stIA X20 hx hZ e20 V20 N20 gb ⟨by decide, by decide⟩ (hb hby at_125) fun T21 h21 L21 X21 e21 V21 N21 => ?_
  show Go p e below _ T21 (mkF m 126 #[.val (.int p1), .val (.int p2), .val (.int p3), .unset, .unset, .unset, .unset, .unset] [(.ref b)])
  refine OwnGo.dup X21 hx (hb hby at_126) rfl ?_
  show Go p e below _ T21 (mkF m 127 #[.val (.int p1), .val (.int p2), .val (.int p3), .unset, .unset, .unset, .unset, .unset] [(.ref b), (.ref b)])
  refine OwnGo.bipush X21 hx (z := (20 : Int32)) (hb hby at_127) (by decide) ?_
  show Go p e below _ T21 (mkF m 129 #[.val (.int p1), .val (.int p2), .val (.int p3), .unset, .unset, .unset, .unset, .unset] [(.int (20 : Int32)), (.ref b), (.ref b)])
  refine OwnGo.sipush X21 hx (z := (768 : Int32)) (hb hby at_129) (by decide) ?_
  show Go p e below _ T21 (mkF m 132 #[.val (.int p1), .val (.int p2), .val (.int p3), .unset, .unset, .unset, .unset, .unset] [(.int (768 : Int32)), (.int (20 : Int32)), (.ref b), (.ref b)])
  refine own_stIA X21 hx hZ e21 V21 N21 gb ⟨by decide, by decide⟩ (hb hby at_132) fun T22 h22 L22 X22 e22 V22 N22 => ?_
  show Go p e below _ T22 (mkF m 133 #[.val (.int p1), .val (.int p2), .val (.int p3), .unset, .unset, .unset, .unset, .unset] [(.ref b)])
  refine OwnGo.dup X22 hx (hb hby at_133) rfl ?_
  show Go p e below _ T22 (mkF m 134 #[.val (.int p1), .val (.int p2), .val (.int p3), .unset, .unset, .unset, .unset, .unset] [(.ref b), (.ref b)])
  refine OwnGo.bipush X22 hx (z := (21 : Int32)) (hb hby at_134) (by decide) ?_
  show Go p e below _ T22 (mkF m 136 #[.val (.int p1), .val (.int p2), .val (.int p3), .unset, .unset, .unset, .unset, .unset] [(.int (21 : Int32)), (.ref b), (.ref b)])
  refine OwnGo.sipush X22 hx (z := (879 : Int32)) (hb hby at_136) (by decide) ?_
  show Go p e below _ T22 (mkF m 139 #[.val (.int p1), .val (.int p2), .val (.int p3), .unset, .unset, .unset, .unset, .unset] [(.int (879 : Int32)), (.int (21 : Int32)), (.ref b), (.ref b)])
  refine own_stIA X22 hx hZ e22 V22 N22 gb ⟨by decide, by decide⟩ (hb hby at_139) fun T23 h23 L23 X23 e23 V23 N23 => ?_
  show Go p e below _ T23 (mkF m 140 #[.val (.int p1), .val (.int p2), .val (.int p3), .unset, .unset, .unset, .unset, .unset] [(.ref b)])
  refine OwnGo.dup X23 hx (hb hby at_140) rfl ?_
  show Go p e below _ T23 (mkF m 141 #[.val (.int p1), .val (.int p2), .val (.int p3), .unset, .unset, .unset, .unset, .unset] [(.ref b), (.ref b)])
  refine OwnGo.bipush X23 hx (z := (22 : Int32)) (hb hby at_141) (by decide) ?_
  show Go p e below _ T23 (mkF m 143 #[.val (.int p1), .val (.int p2), .val (.int p3), .unset, .unset, .unset, .unset, .unset] [(.int (22 : Int32)), (.ref b), (.ref b)])
  refine OwnGo.sipush X23 hx (z := (880 : Int32)) (hb hby at_143) (by decide) ?_
  show Go p e below _ T23 (mkF m 146 #[.val (.int p1), .val (.int p2), .val (.int p3), .unset, .unset, .unset, .unset, .unset] [(.int (880 : Int32)), (.int (22 : Int32)), (.ref b), (.ref b)])
  refine own_stIA X23 hx hZ e23 V23 N23 gb ⟨by decide, by decide⟩ (hb hby at_146) fun T24 h24 L24 X24 e24 V24 N24 => ?_
  show Go p e below _ T24 (mkF m 147 #[.val (.int p1), .val (.int p2), .val (.int p3), .unset, .unset, .unset, .unset, .unset] [(.ref b)])
  refine OwnGo.dup X24 hx (hb hby at_147) rfl ?_
  show Go p e below _ T24 (mkF m 148 #[.val (.int p1), .val (.int p2), .val (.int p3), .unset, .unset, .unset, .unset, .unset] [(.ref b), (.ref b)])
  refine OwnGo.bipush X24 hx (z := (23 : Int32)) (hb hby at_148) (by decide) ?_
  show Go p e below _ T24 (mkF m 150 #[.val (.int p1), .val (.int p2), .val (.int p3), .unset, .unset, .unset, .unset, .unset] [(.int (23 : Int32)), (.ref b), (.ref b)])
  refine OwnGo.sipush X24 hx (z := (893 : Int32)) (hb hby at_150) (by decide) ?_
  show Go p e below _ T24 (mkF m 153 #[.val (.int p1), .val (.int p2), .val (.int p3), .unset, .unset, .unset, .unset, .unset] [(.int (893 : Int32)), (.int (23 : Int32)), (.ref b), (.ref b)])
  refine own_stIA X24 hx hZ e24 V24 N24 gb ⟨by decide, by decide⟩ (hb hby at_153) fun T25 h25 L25 X25 e25 V25 N25 => ?_
  show Go p e below _ T25 (mkF m 154 #[.val (.int p1), .val (.int p2), .val (.int p3), .unset, .unset, .unset, .unset, .unset] [(.ref b)])
  refine OwnGo.dup X25 hx (hb hby at_154) rfl ?_
  show Go p e below _ T25 (mkF m 155 #[.val (.int p1), .val (.int p2), .val (.int p3), .unset, .unset, .unset, .unset, .unset] [(.ref b), (.ref b)])
  refine OwnGo.bipush X25 hx (z := (24 : Int32)) (hb hby at_155) (by decide) ?_
  show Go p e below _ T25 (mkF m 157 #[.val (.int p1), .val (.int p2), .val (.int p3), .unset, .unset, .unset, .unset, .unset] [(.int (24 : Int32)), (.ref b), (.ref b)])
  refine OwnGo.sipush X25 hx (z := (894 : Int32)) (hb hby at_157) (by decide) ?_
  show Go p e below _ T25 (mkF m 160 #[.val (.int p1), .val (.int p2), .val (.int p3), .unset, .unset, .unset, .unset, .unset] [(.int (894 : Int32)), (.int (24 : Int32)), (.ref b), (.ref b)])
  refine own_stIA X25 hx hZ e25 V25 N25 gb ⟨by decide, by decide⟩ (hb hby at_160) fun T26 h26 L26 X26 e26 V26 N26 => ?_
  show Go p e below _ T26 (mkF m 161 #[.val (.int p1), .val (.int p2), .val (.int p3), .unset, .unset, .unset, .unset, .unset] [(.ref b)])
  refine OwnGo.dup X26 hx (hb hby at_161) rfl ?_
  show Go p e below _ T26 (mkF m 162 #[.val (.int p1), .val (.int p2), .val (.int p3), .unset, .unset, .unset, .unset, .unset] [(.ref b), (.ref b)])
  refine OwnGo.bipush X26 hx (z := (25 : Int32)) (hb hby at_162) (by decide) ?_
  show Go p e below _ T26 (mkF m 164 #[.val (.int p1), .val (.int p2), .val (.int p3), .unset, .unset, .unset, .unset, .unset] [(.int (25 : Int32)), (.ref b), (.ref b)])
  refine OwnGo.sipush X26 hx (z := (895 : Int32)) (hb hby at_164) (by decide) ?_
  show Go p e below _ T26 (mkF m 167 #[.val (.int p1), .val (.int p2), .val (.int p3), .unset, .unset, .unset, .unset, .unset] [(.int (895 : Int32)), (.int (25 : Int32)), (.ref b), (.ref b)])
  refine own_stIA X26 hx hZ e26 V26 N26 gb ⟨by decide, by decide⟩ (hb hby at_167) fun T27 h27 L27 X27 e27 V27 N27 => ?_
  show Go p e below _ T27 (mkF m 168 #[.val (.int p1), .val (.int p2), .val (.int p3), .unset, .unset, .unset, .unset, .unset] [(.ref b)])
  refine OwnGo.dup X27 hx (hb hby at_168) rfl ?_
  show Go p e below _ T27 (mkF m 169 #[.val (.int p1), .val (.int p2), .val (.int p3), .unset, .unset, .unset, .unset, .unset] [(.ref b), (.ref b)])
  refine OwnGo.bipush X27 hx (z := (26 : Int32)) (hb hby at_169) (by decide) ?_
  show Go p e below _ T27 (mkF m 171 #[.val (.int p1), .val (.int p2), .val (.int p3), .unset, .unset, .unset, .unset, .unset] [(.int (26 : Int32)), (.ref b), (.ref b)])
  refine OwnGo.sipush X27 hx (z := (8191 : Int32)) (hb hby at_171) (by decide) ?_
  show Go p e below _ T27 (mkF m 174 #[.val (.int p1), .val (.int p2), .val (.int p3), .unset, .unset, .unset, .unset, .unset] [(.int (8191 : Int32)), (.int (26 : Int32)), (.ref b), (.ref b)])
  refine own_stIA X27 hx hZ e27 V27 N27 gb ⟨by decide, by decide⟩ (hb hby at_174) fun T28 h28 L28 X28 e28 V28 N28 => ?_
  show Go p e below _ T28 (mkF m 175 #[.val (.int p1), .val (.int p2), .val (.int p3), .unset, .unset, .unset, .unset, .unset] [(.ref b)])
  refine OwnGo.dup X28 hx (hb hby at_175) rfl ?_
  show Go p e below _ T28 (mkF m 176 #[.val (.int p1), .val (.int p2), .val (.int p3), .unset, .unset, .unset, .unset, .unset] [(.ref b), (.ref b)])
  refine OwnGo.bipush X28 hx (z := (27 : Int32)) (hb hby at_176) (by decide) ?_
  show Go p e below _ T28 (mkF m 178 #[.val (.int p1), .val (.int p2), .val (.int p3), .unset, .unset, .unset, .unset, .unset] [(.int (27 : Int32)), (.ref b), (.ref b)])
  refine OwnGo.sipush X28 hx (z := (8192 : Int32)) (hb hby at_178) (by decide) ?_
  show Go p e below _ T28 (mkF m 181 #[.val (.int p1), .val (.int p2), .val (.int p3), .unset, .unset, .unset, .unset, .unset] [(.int (8192 : Int32)), (.int (27 : Int32)), (.ref b), (.ref b)])
  refine own_stIA X28 hx hZ e28 V28 N28 gb ⟨by decide, by decide⟩ (hb hby at_181) fun T29 h29 L29 X29 e29 V29 N29 => ?_
  show Go p e below _ T29 (mkF m 182 #[.val (.int p1), .val (.int p2), .val (.int p3), .unset, .unset, .unset, .unset, .unset] [(.ref b)])
  refine OwnGo.dup X29 hx (hb hby at_182) rfl ?_
  show Go p e below _ T29 (mkF m 183 #[.val (.int p1), .val (.int p2), .val (.int p3), .unset, .unset, .unset, .unset, .unset] [(.ref b), (.ref b)])
  refine OwnGo.bipush X29 hx (z := (28 : Int32)) (hb hby at_183) (by decide) ?_
  show Go p e below _ T29 (mkF m 185 #[.val (.int p1), .val (.int p2), .val (.int p3), .unset, .unset, .unset, .unset, .unset] [(.int (28 : Int32)), (.ref b), (.ref b)])
  refine OwnGo.sipush X29 hx (z := (8203 : Int32)) (hb hby at_185) (by decide) ?_
  show Go p e below _ T29 (mkF m 188 #[.val (.int p1), .val (.int p2), .val (.int p3), .unset, .unset, .unset, .unset, .unset] [(.int (8203 : Int32)), (.int (28 : Int32)), (.ref b), (.ref b)])
  refine own_stIA X29 hx hZ e29 V29 N29 gb ⟨by decide, by decide⟩ (hb hby at_188) fun T30 h30 L30 X30 e30 V30 N30 => ?_
  show Go p e below _ T30 (mkF m 189 #[.val (.int p1), .val (.int p2), .val (.int p3), .unset, .unset, .unset, .unset, .unset] [(.ref b)])
  refine OwnGo.dup X30 hx (hb hby at_189) rfl ?_
  show Go p e below _ T30 (mkF m 190 #[.val (.int p1), .val (.int p2), .val (.int p3), .unset, .unset, .unset, .unset, .unset] [(.ref b), (.ref b)])
  refine OwnGo.bipush X30 hx (z := (29 : Int32)) (hb hby at_190) (by decide) ?_
  show Go p e below _ T30 (mkF m 192 #[.val (.int p1), .val (.int p2), .val (.int p3), .unset, .unset, .unset, .unset, .unset] [(.int (29 : Int32)), (.ref b), (.ref b)])
  refine OwnGo.sipush X30 hx (z := (8204 : Int32)) (hb hby at_192) (by decide) ?_
  show Go p e below _ T30 (mkF m 195 #[.val (.int p1), .val (.int p2), .val (.int p3), .unset, .unset, .unset, .unset, .unset] [(.int (8204 : Int32)), (.int (29 : Int32)), (.ref b), (.ref b)])
  refine own_stIA X30 hx hZ e30 V30 N30 gb ⟨by decide, by decide⟩ (hb hby at_195) fun T31 h31 L31 X31 e31 V31 N31 => ?_
  show Go p e below _ T31 (mkF m 196 #[.val (.int p1), .val (.int p2), .val (.int p3), .unset, .unset, .unset, .unset, .unset] [(.ref b)])
  refine OwnGo.dup X31 hx (hb hby at_196) rfl ?_
  show Go p e below _ T31 (mkF m 197 #[.val (.int p1), .val (.int p2), .val (.int p3), .unset, .unset, .unset, .unset, .unset] [(.ref b), (.ref b)])
  refine OwnGo.bipush X31 hx (z := (30 : Int32)) (hb hby at_197) (by decide) ?_
  show Go p e below _ T31 (mkF m 199 #[.val (.int p1), .val (.int p2), .val (.int p3), .unset, .unset, .unset, .unset, .unset] [(.int (30 : Int32)), (.ref b), (.ref b)])
  refine OwnGo.sipush X31 hx (z := (8205 : Int32)) (hb hby at_199) (by decide) ?_
  show Go p e below _ T31 (mkF m 202 #[.val (.int p1), .val (.int p2), .val (.int p3), .unset, .unset, .unset, .unset, .unset] [(.int (8205 : Int32)), (.int (30 : Int32)), (.ref b), (.ref b)])
  refine own_stIA X31 hx hZ e31 V31 N31 gb ⟨by decide, by decide⟩ (hb hby at_202) fun T32 h32 L32 X32 e32 V32 N32 => ?_
  show Go p e below _ T32 (mkF m 203 #[.val (.int p1), .val (.int p2), .val (.int p3), .unset, .unset, .unset, .unset, .unset] [(.ref b)])
  refine OwnGo.dup X32 hx (hb hby at_203) rfl ?_
  show Go p e below _ T32 (mkF m 204 #[.val (.int p1), .val (.int p2), .val (.int p3), .unset, .unset, .unset, .unset, .unset] [(.ref b), (.ref b)])
  refine OwnGo.bipush X32 hx (z := (31 : Int32)) (hb hby at_204) (by decide) ?_
  show Go p e below _ T32 (mkF m 206 #[.val (.int p1), .val (.int p2), .val (.int p3), .unset, .unset, .unset, .unset, .unset] [(.int (31 : Int32)), (.ref b), (.ref b)])
  refine OwnGo.sipush X32 hx (z := (8206 : Int32)) (hb hby at_206) (by decide) ?_
  show Go p e below _ T32 (mkF m 209 #[.val (.int p1), .val (.int p2), .val (.int p3), .unset, .unset, .unset, .unset, .unset] [(.int (8206 : Int32)), (.int (31 : Int32)), (.ref b), (.ref b)])
  refine own_stIA X32 hx hZ e32 V32 N32 gb ⟨by decide, by decide⟩ (hb hby at_209) fun T33 h33 L33 X33 e33 V33 N33 => ?_
  show Go p e below _ T33 (mkF m 210 #[.val (.int p1), .val (.int p2), .val (.int p3), .unset, .unset, .unset, .unset, .unset] [(.ref b)])
  refine OwnGo.dup X33 hx (hb hby at_210) rfl ?_
  show Go p e below _ T33 (mkF m 211 #[.val (.int p1), .val (.int p2), .val (.int p3), .unset, .unset, .unset, .unset, .unset] [(.ref b), (.ref b)])
  refine OwnGo.bipush X33 hx (z := (32 : Int32)) (hb hby at_211) (by decide) ?_
  show Go p e below _ T33 (mkF m 213 #[.val (.int p1), .val (.int p2), .val (.int p3), .unset, .unset, .unset, .unset, .unset] [(.int (32 : Int32)), (.ref b), (.ref b)])
  refine OwnGo.sipush X33 hx (z := (8303 : Int32)) (hb hby at_213) (by decide) ?_
  show Go p e below _ T33 (mkF m 216 #[.val (.int p1), .val (.int p2), .val (.int p3), .unset, .unset, .unset, .unset, .unset] [(.int (8303 : Int32)), (.int (32 : Int32)), (.ref b), (.ref b)])
  refine own_stIA X33 hx hZ e33 V33 N33 gb ⟨by decide, by decide⟩ (hb hby at_216) fun T34 h34 L34 X34 e34 V34 N34 => ?_
  show Go p e below _ T34 (mkF m 217 #[.val (.int p1), .val (.int p2), .val (.int p3), .unset, .unset, .unset, .unset, .unset] [(.ref b)])
  refine OwnGo.dup X34 hx (hb hby at_217) rfl ?_
  show Go p e below _ T34 (mkF m 218 #[.val (.int p1), .val (.int p2), .val (.int p3), .unset, .unset, .unset, .unset, .unset] [(.ref b), (.ref b)])
  refine OwnGo.bipush X34 hx (z := (33 : Int32)) (hb hby at_218) (by decide) ?_
  show Go p e below _ T34 (mkF m 220 #[.val (.int p1), .val (.int p2), .val (.int p3), .unset, .unset, .unset, .unset, .unset] [(.int (33 : Int32)), (.ref b), (.ref b)])
  refine OwnGo.sipush X34 hx (z := (8304 : Int32)) (hb hby at_220) (by decide) ?_
  show Go p e below _ T34 (mkF m 223 #[.val (.int p1), .val (.int p2), .val (.int p3), .unset, .unset, .unset, .unset, .unset] [(.int (8304 : Int32)), (.int (33 : Int32)), (.ref b), (.ref b)])
  refine own_stIA X34 hx hZ e34 V34 N34 gb ⟨by decide, by decide⟩ (hb hby at_223) fun T35 h35 L35 X35 e35 V35 N35 => ?_
  show Go p e below _ T35 (mkF m 224 #[.val (.int p1), .val (.int p2), .val (.int p3), .unset, .unset, .unset, .unset, .unset] [(.ref b)])
  refine OwnGo.dup X35 hx (hb hby at_224) rfl ?_
  show Go p e below _ T35 (mkF m 225 #[.val (.int p1), .val (.int p2), .val (.int p3), .unset, .unset, .unset, .unset, .unset] [(.ref b), (.ref b)])
  refine OwnGo.bipush X35 hx (z := (34 : Int32)) (hb hby at_225) (by decide) ?_
  show Go p e below _ T35 (mkF m 227 #[.val (.int p1), .val (.int p2), .val (.int p3), .unset, .unset, .unset, .unset, .unset] [(.int (34 : Int32)), (.ref b), (.ref b)])
  refine OwnGo.sipush X35 hx (z := (8591 : Int32)) (hb hby at_227) (by decide) ?_
  show Go p e below _ T35 (mkF m 230 #[.val (.int p1), .val (.int p2), .val (.int p3), .unset, .unset, .unset, .unset, .unset] [(.int (8591 : Int32)), (.int (34 : Int32)), (.ref b), (.ref b)])
  refine own_stIA X35 hx hZ e35 V35 N35 gb ⟨by decide, by decide⟩ (hb hby at_230) fun T36 h36 L36 X36 e36 V36 N36 => ?_
  show Go p e below _ T36 (mkF m 231 #[.val (.int p1), .val (.int p2), .val (.int p3), .unset, .unset, .unset, .unset, .unset] [(.ref b)])
  refine OwnGo.dup X36 hx (hb hby at_231) rfl ?_
  show Go p e below _ T36 (mkF m 232 #[.val (.int p1), .val (.int p2), .val (.int p3), .unset, .unset, .unset, .unset, .unset] [(.ref b), (.ref b)])
  refine OwnGo.bipush X36 hx (z := (35 : Int32)) (hb hby at_232) (by decide) ?_
  show Go p e below _ T36 (mkF m 234 #[.val (.int p1), .val (.int p2), .val (.int p3), .unset, .unset, .unset, .unset, .unset] [(.int (35 : Int32)), (.ref b), (.ref b)])
  refine OwnGo.sipush X36 hx (z := (8592 : Int32)) (hb hby at_234) (by decide) ?_
  show Go p e below _ T36 (mkF m 237 #[.val (.int p1), .val (.int p2), .val (.int p3), .unset, .unset, .unset, .unset, .unset] [(.int (8592 : Int32)), (.int (35 : Int32)), (.ref b), (.ref b)])
  refine own_stIA X36 hx hZ e36 V36 N36 gb ⟨by decide, by decide⟩ (hb hby at_237) fun T37 h37 L37 X37 e37 V37 N37 => ?_
  show Go p e below _ T37 (mkF m 238 #[.val (.int p1), .val (.int p2), .val (.int p3), .unset, .unset, .unset, .unset, .unset] [(.ref b)])
  refine OwnGo.dup X37 hx (hb hby at_238) rfl ?_
  show Go p e below _ T37 (mkF m 239 #[.val (.int p1), .val (.int p2), .val (.int p3), .unset, .unset, .unset, .unset, .unset] [(.ref b), (.ref b)])
  refine OwnGo.bipush X37 hx (z := (36 : Int32)) (hb hby at_239) (by decide) ?_
  show Go p e below _ T37 (mkF m 241 #[.val (.int p1), .val (.int p2), .val (.int p3), .unset, .unset, .unset, .unset, .unset] [(.int (36 : Int32)), (.ref b), (.ref b)])
  refine OwnGo.sipush X37 hx (z := (11263 : Int32)) (hb hby at_241) (by decide) ?_
  show Go p e below _ T37 (mkF m 244 #[.val (.int p1), .val (.int p2), .val (.int p3), .unset, .unset, .unset, .unset, .unset] [(.int (11263 : Int32)), (.int (36 : Int32)), (.ref b), (.ref b)])
  refine own_stIA X37 hx hZ e37 V37 N37 gb ⟨by decide, by decide⟩ (hb hby at_244) fun T38 h38 L38 X38 e38 V38 N38 => ?_
  show Go p e below _ T38 (mkF m 245 #[.val (.int p1), .val (.int p2), .val (.int p3), .unset, .unset, .unset, .unset, .unset] [(.ref b)])
  refine OwnGo.dup X38 hx (hb hby at_245) rfl ?_
  show Go p e below _ T38 (mkF m 246 #[.val (.int p1), .val (.int p2), .val (.int p3), .unset, .unset, .unset, .unset, .unset] [(.ref b), (.ref b)])
  refine OwnGo.bipush X38 hx (z := (37 : Int32)) (hb hby at_246) (by decide) ?_
  show Go p e below _ T38 (mkF m 248 #[.val (.int p1), .val (.int p2), .val (.int p3), .unset, .unset, .unset, .unset, .unset] [(.int (37 : Int32)), (.ref b), (.ref b)])
  refine OwnGo.sipush X38 hx (z := (11264 : Int32)) (hb hby at_248) (by decide) ?_
  show Go p e below _ T38 (mkF m 251 #[.val (.int p1), .val (.int p2), .val (.int p3), .unset, .unset, .unset, .unset, .unset] [(.int (11264 : Int32)), (.int (37 : Int32)), (.ref b), (.ref b)])
  refine own_stIA X38 hx hZ e38 V38 N38 gb ⟨by decide, by decide⟩ (hb hby at_251) fun T39 h39 L39 X39 e39 V39 N39 => ?_
  show Go p e below _ T39 (mkF m 252 #[.val (.int p1), .val (.int p2), .val (.int p3), .unset, .unset, .unset, .unset, .unset] [(.ref b)])
  refine OwnGo.dup X39 hx (hb hby at_252) rfl ?_
  show Go p e below _ T39 (mkF m 253 #[.val (.int p1), .val (.int p2), .val (.int p3), .unset, .unset, .unset, .unset, .unset] [(.ref b), (.ref b)])
  refine OwnGo.bipush X39 hx (z := (38 : Int32)) (hb hby at_253) (by decide) ?_
  show Go p e below _ T39 (mkF m 255 #[.val (.int p1), .val (.int p2), .val (.int p3), .unset, .unset, .unset, .unset, .unset] [(.int (38 : Int32)), (.ref b), (.ref b)])
  refine OwnGo.sipush X39 hx (z := (12271 : Int32)) (hb hby at_255) (by decide) ?_
  show Go p e below _ T39 (mkF m 258 #[.val (.int p1), .val (.int p2), .val (.int p3), .unset, .unset, .unset, .unset, .unset] [(.int (12271 : Int32)), (.int (38 : Int32)), (.ref b), (.ref b)])
  refine own_stIA X39 hx hZ e39 V39 N39 gb ⟨by decide, by decide⟩ (hb hby at_258) fun T40 h40 L40 X40 e40 V40 N40 => ?_
  show Go p e below _ T40 (mkF m 259 #[.val (.int p1), .val (.int p2), .val (.int p3), .unset, .unset, .unset, .unset, .unset] [(.ref b)])
  refine OwnGo.dup X40 hx (hb hby at_259) rfl ?_
  show Go p e below _ T40 (mkF m 260 #[.val (.int p1), .val (.int p2), .val (.int p3), .unset, .unset, .unset, .unset, .unset] [(.ref b), (.ref b)])
  refine OwnGo.bipush X40 hx (z := (39 : Int32)) (hb hby at_260) (by decide) ?_
  show Go p e below _ T40 (mkF m 262 #[.val (.int p1), .val (.int p2), .val (.int p3), .unset, .unset, .unset, .unset, .unset] [(.int (39 : Int32)), (.ref b), (.ref b)])
  refine OwnGo.sipush X40 hx (z := (12272 : Int32)) (hb hby at_262) (by decide) ?_
  show Go p e below _ T40 (mkF m 265 #[.val (.int p1), .val (.int p2), .val (.int p3), .unset, .unset, .unset, .unset, .unset] [(.int (12272 : Int32)), (.int (39 : Int32)), (.ref b), (.ref b)])
  refine own_stIA X40 hx hZ e40 V40 N40 gb ⟨by decide, by decide⟩ (hb hby at_265) fun T41 h41 L41 X41 e41 V41 N41 => ?_
  show Go p e below _ T41 (mkF m 266 #[.val (.int p1), .val (.int p2), .val (.int p3), .unset, .unset, .unset, .unset, .unset] [(.ref b)])
  refine OwnGo.dup X41 hx (hb hby at_266) rfl ?_
  show Go p e below _ T41 (mkF m 267 #[.val (.int p1), .val (.int p2), .val (.int p3), .unset, .unset, .unset, .unset, .unset] [(.ref b), (.ref b)])
  refine OwnGo.bipush X41 hx (z := (40 : Int32)) (hb hby at_267) (by decide) ?_
  show Go p e below _ T41 (mkF m 269 #[.val (.int p1), .val (.int p2), .val (.int p3), .unset, .unset, .unset, .unset, .unset] [(.int (40 : Int32)), (.ref b), (.ref b)])
  refine OwnGo.sipush X41 hx (z := (12288 : Int32)) (hb hby at_269) (by decide) ?_
  show Go p e below _ T41 (mkF m 272 #[.val (.int p1), .val (.int p2), .val (.int p3), .unset, .unset, .unset, .unset, .unset] [(.int (12288 : Int32)), (.int (40 : Int32)), (.ref b), (.ref b)])
  refine own_stIA X41 hx hZ e41 V41 N41 gb ⟨by decide, by decide⟩ (hb hby at_272) fun T42 h42 L42 X42 e42 V42 N42 => ?_
  show Go p e below _ T42 (mkF m 273 #[.val (.int p1), .val (.int p2), .val (.int p3), .unset, .unset, .unset, .unset, .unset] [(.ref b)])
  refine OwnGo.dup X42 hx (hb hby at_273) rfl ?_
  show Go p e below _ T42 (mkF m 274 #[.val (.int p1), .val (.int p2), .val (.int p3), .unset, .unset, .unset, .unset, .unset] [(.ref b), (.ref b)])
  refine OwnGo.bipush X42 hx (z := (41 : Int32)) (hb hby at_274) (by decide) ?_
  show Go p e below _ T42 (mkF m 276 #[.val (.int p1), .val (.int p2), .val (.int p3), .unset, .unset, .unset, .unset, .unset] [(.int (41 : Int32)), (.ref b), (.ref b)])
  refine OwnGo.sipush X42 hx (z := (12289 : Int32)) (hb hby at_276) (by decide) ?_
  show Go p e below _ T42 (mkF m 279 #[.val (.int p1), .val (.int p2), .val (.int p3), .unset, .unset, .unset, .unset, .unset] [(.int (12289 : Int32)), (.int (41 : Int32)), (.ref b), (.ref b)])
  refine own_stIA X42 hx hZ e42 V42 N42 gb ⟨by decide, by decide⟩ (hb hby at_279) fun T43 h43 L43 X43 e43 V43 N43 => ?_
  show Go p e below _ T43 (mkF m 280 #[.val (.int p1), .val (.int p2), .val (.int p3), .unset, .unset, .unset, .unset, .unset] [(.ref b)])
  refine OwnGo.dup X43 hx (hb hby at_280) rfl ?_
  show Go p e below _ T43 (mkF m 281 #[.val (.int p1), .val (.int p2), .val (.int p3), .unset, .unset, .unset, .unset, .unset] [(.ref b), (.ref b)])
  refine OwnGo.bipush X43 hx (z := (42 : Int32)) (hb hby at_281) (by decide) ?_
  show Go p e below _ T43 (mkF m 283 #[.val (.int p1), .val (.int p2), .val (.int p3), .unset, .unset, .unset, .unset, .unset] [(.int (42 : Int32)), (.ref b), (.ref b)])
  refine OwnGo.ldcInt X43 hx hZ hown (v := (55295 : Int32)) (hw _ (List.mem_of_getElem? (i := 1) rfl)) (hb hby at_283) ?_
  show Go p e below _ T43 (mkF m 285 #[.val (.int p1), .val (.int p2), .val (.int p3), .unset, .unset, .unset, .unset, .unset] [(.int (55295 : Int32)), (.int (42 : Int32)), (.ref b), (.ref b)])
  refine own_stIA X43 hx hZ e43 V43 N43 gb ⟨by decide, by decide⟩ (hb hby at_285) fun T44 h44 L44 X44 e44 V44 N44 => ?_
  show Go p e below _ T44 (mkF m 286 #[.val (.int p1), .val (.int p2), .val (.int p3), .unset, .unset, .unset, .unset, .unset] [(.ref b)])
  refine OwnGo.dup X44 hx (hb hby at_286) rfl ?_
  show Go p e below _ T44 (mkF m 287 #[.val (.int p1), .val (.int p2), .val (.int p3), .unset, .unset, .unset, .unset, .unset] [(.ref b), (.ref b)])
  refine OwnGo.bipush X44 hx (z := (43 : Int32)) (hb hby at_287) (by decide) ?_
  show Go p e below _ T44 (mkF m 289 #[.val (.int p1), .val (.int p2), .val (.int p3), .unset, .unset, .unset, .unset, .unset] [(.int (43 : Int32)), (.ref b), (.ref b)])
  refine OwnGo.ldcInt X44 hx hZ hown (v := (55296 : Int32)) (hw _ (List.mem_of_getElem? (i := 2) rfl)) (hb hby at_289) ?_
  show Go p e below _ T44 (mkF m 291 #[.val (.int p1), .val (.int p2), .val (.int p3), .unset, .unset, .unset, .unset, .unset] [(.int (55296 : Int32)), (.int (43 : Int32)), (.ref b), (.ref b)])
  refine own_stIA X44 hx hZ e44 V44 N44 gb ⟨by decide, by decide⟩ (hb hby at_291) fun T45 h45 L45 X45 e45 V45 N45 => ?_
  show Go p e below _ T45 (mkF m 292 #[.val (.int p1), .val (.int p2), .val (.int p3), .unset, .unset, .unset, .unset, .unset] [(.ref b)])
  refine OwnGo.dup X45 hx (hb hby at_292) rfl ?_
  show Go p e below _ T45 (mkF m 293 #[.val (.int p1), .val (.int p2), .val (.int p3), .unset, .unset, .unset, .unset, .unset] [(.ref b), (.ref b)])
  refine OwnGo.bipush X45 hx (z := (44 : Int32)) (hb hby at_293) (by decide) ?_
  show Go p e below _ T45 (mkF m 295 #[.val (.int p1), .val (.int p2), .val (.int p3), .unset, .unset, .unset, .unset, .unset] [(.int (44 : Int32)), (.ref b), (.ref b)])
  refine OwnGo.ldcInt X45 hx hZ hown (v := (63743 : Int32)) (hw _ (List.mem_of_getElem? (i := 3) rfl)) (hb hby at_295) ?_
  show Go p e below _ T45 (mkF m 297 #[.val (.int p1), .val (.int p2), .val (.int p3), .unset, .unset, .unset, .unset, .unset] [(.int (63743 : Int32)), (.int (44 : Int32)), (.ref b), (.ref b)])
  refine own_stIA X45 hx hZ e45 V45 N45 gb ⟨by decide, by decide⟩ (hb hby at_297) fun T46 h46 L46 X46 e46 V46 N46 => ?_
  show Go p e below _ T46 (mkF m 298 #[.val (.int p1), .val (.int p2), .val (.int p3), .unset, .unset, .unset, .unset, .unset] [(.ref b)])
  refine OwnGo.dup X46 hx (hb hby at_298) rfl ?_
  show Go p e below _ T46 (mkF m 299 #[.val (.int p1), .val (.int p2), .val (.int p3), .unset, .unset, .unset, .unset, .unset] [(.ref b), (.ref b)])
  refine OwnGo.bipush X46 hx (z := (45 : Int32)) (hb hby at_299) (by decide) ?_
  show Go p e below _ T46 (mkF m 301 #[.val (.int p1), .val (.int p2), .val (.int p3), .unset, .unset, .unset, .unset, .unset] [(.int (45 : Int32)), (.ref b), (.ref b)])
  refine OwnGo.ldcInt X46 hx hZ hown (v := (63744 : Int32)) (hw _ (List.mem_of_getElem? (i := 4) rfl)) (hb hby at_301) ?_
  show Go p e below _ T46 (mkF m 303 #[.val (.int p1), .val (.int p2), .val (.int p3), .unset, .unset, .unset, .unset, .unset] [(.int (63744 : Int32)), (.int (45 : Int32)), (.ref b), (.ref b)])
  refine own_stIA X46 hx hZ e46 V46 N46 gb ⟨by decide, by decide⟩ (hb hby at_303) fun T47 h47 L47 X47 e47 V47 N47 => ?_
  show Go p e below _ T47 (mkF m 304 #[.val (.int p1), .val (.int p2), .val (.int p3), .unset, .unset, .unset, .unset, .unset] [(.ref b)])
  refine OwnGo.dup X47 hx (hb hby at_304) rfl ?_
  show Go p e below _ T47 (mkF m 305 #[.val (.int p1), .val (.int p2), .val (.int p3), .unset, .unset, .unset, .unset, .unset] [(.ref b), (.ref b)])
  refine OwnGo.bipush X47 hx (z := (46 : Int32)) (hb hby at_305) (by decide) ?_
  show Go p e below _ T47 (mkF m 307 #[.val (.int p1), .val (.int p2), .val (.int p3), .unset, .unset, .unset, .unset, .unset] [(.int (46 : Int32)), (.ref b), (.ref b)])
  refine OwnGo.ldcInt X47 hx hZ hown (v := (64975 : Int32)) (hw _ (List.mem_of_getElem? (i := 5) rfl)) (hb hby at_307) ?_
  show Go p e below _ T47 (mkF m 309 #[.val (.int p1), .val (.int p2), .val (.int p3), .unset, .unset, .unset, .unset, .unset] [(.int (64975 : Int32)), (.int (46 : Int32)), (.ref b), (.ref b)])
  refine own_stIA X47 hx hZ e47 V47 N47 gb ⟨by decide, by decide⟩ (hb hby at_309) fun T48 h48 L48 X48 e48 V48 N48 => ?_
  show Go p e below _ T48 (mkF m 310 #[.val (.int p1), .val (.int p2), .val (.int p3), .unset, .unset, .unset, .unset, .unset] [(.ref b)])
  refine OwnGo.dup X48 hx (hb hby at_310) rfl ?_
  show Go p e below _ T48 (mkF m 311 #[.val (.int p1), .val (.int p2), .val (.int p3), .unset, .unset, .unset, .unset, .unset] [(.ref b), (.ref b)])
  refine OwnGo.bipush X48 hx (z := (47 : Int32)) (hb hby at_311) (by decide) ?_
  show Go p e below _ T48 (mkF m 313 #[.val (.int p1), .val (.int p2), .val (.int p3), .unset, .unset, .unset, .unset, .unset] [(.int (47 : Int32)), (.ref b), (.ref b)])
  refine OwnGo.ldcInt X48 hx hZ hown (v := (64976 : Int32)) (hw _ (List.mem_of_getElem? (i := 6) rfl)) (hb hby at_313) ?_
  show Go p e below _ T48 (mkF m 315 #[.val (.int p1), .val (.int p2), .val (.int p3), .unset, .unset, .unset, .unset, .unset] [(.int (64976 : Int32)), (.int (47 : Int32)), (.ref b), (.ref b)])
  refine own_stIA X48 hx hZ e48 V48 N48 gb ⟨by decide, by decide⟩ (hb hby at_315) fun T49 h49 L49 X49 e49 V49 N49 => ?_
  show Go p e below _ T49 (mkF m 316 #[.val (.int p1), .val (.int p2), .val (.int p3), .unset, .unset, .unset, .unset, .unset] [(.ref b)])
  refine OwnGo.dup X49 hx (hb hby at_316) rfl ?_
  show Go p e below _ T49 (mkF m 317 #[.val (.int p1), .val (.int p2), .val (.int p3), .unset, .unset, .unset, .unset, .unset] [(.ref b), (.ref b)])
  refine OwnGo.bipush X49 hx (z := (48 : Int32)) (hb hby at_317) (by decide) ?_
  show Go p e below _ T49 (mkF m 319 #[.val (.int p1), .val (.int p2), .val (.int p3), .unset, .unset, .unset, .unset, .unset] [(.int (48 : Int32)), (.ref b), (.ref b)])
  refine OwnGo.ldcInt X49 hx hZ hown (v := (65007 : Int32)) (hw _ (List.mem_of_getElem? (i := 7) rfl)) (hb hby at_319) ?_
  show Go p e below _ T49 (mkF m 321 #[.val (.int p1), .val (.int p2), .val (.int p3), .unset, .unset, .unset, .unset, .unset] [(.int (65007 : Int32)), (.int (48 : Int32)), (.ref b), (.ref b)])
  refine own_stIA X49 hx hZ e49 V49 N49 gb ⟨by decide, by decide⟩ (hb hby at_321) fun T50 h50 L50 X50 e50 V50 N50 => ?_
  show Go p e below _ T50 (mkF m 322 #[.val (.int p1), .val (.int p2), .val (.int p3), .unset, .unset, .unset, .unset, .unset] [(.ref b)])
  refine OwnGo.dup X50 hx (hb hby at_322) rfl ?_
  show Go p e below _ T50 (mkF m 323 #[.val (.int p1), .val (.int p2), .val (.int p3), .unset, .unset, .unset, .unset, .unset] [(.ref b), (.ref b)])
  refine OwnGo.bipush X50 hx (z := (49 : Int32)) (hb hby at_323) (by decide) ?_
  show Go p e below _ T50 (mkF m 325 #[.val (.int p1), .val (.int p2), .val (.int p3), .unset, .unset, .unset, .unset, .unset] [(.int (49 : Int32)), (.ref b), (.ref b)])
  refine OwnGo.ldcInt X50 hx hZ hown (v := (65008 : Int32)) (hw _ (List.mem_of_getElem? (i := 8) rfl)) (hb hby at_325) ?_
  show Go p e below _ T50 (mkF m 327 #[.val (.int p1), .val (.int p2), .val (.int p3), .unset, .unset, .unset, .unset, .unset] [(.int (65008 : Int32)), (.int (49 : Int32)), (.ref b), (.ref b)])
  refine own_stIA X50 hx hZ e50 V50 N50 gb ⟨by decide, by decide⟩ (hb hby at_327) fun T51 h51 L51 X51 e51 V51 N51 => ?_
  show Go p e below _ T51 (mkF m 328 #[.val (.int p1), .val (.int p2), .val (.int p3), .unset, .unset, .unset, .unset, .unset] [(.ref b)])
  refine OwnGo.dup X51 hx (hb hby at_328) rfl ?_
  show Go p e below _ T51 (mkF m 329 #[.val (.int p1), .val (.int p2), .val (.int p3), .unset, .unset, .unset, .unset, .unset] [(.ref b), (.ref b)])
  refine OwnGo.bipush X51 hx (z := (50 : Int32)) (hb hby at_329) (by decide) ?_
  show Go p e below _ T51 (mkF m 331 #[.val (.int p1), .val (.int p2), .val (.int p3), .unset, .unset, .unset, .unset, .unset] [(.int (50 : Int32)), (.ref b), (.ref b)])
  refine OwnGo.ldcInt X51 hx hZ hown (v := (65533 : Int32)) (hw _ (List.mem_of_getElem? (i := 9) rfl)) (hb hby at_331) ?_
  show Go p e below _ T51 (mkF m 333 #[.val (.int p1), .val (.int p2), .val (.int p3), .unset, .unset, .unset, .unset, .unset] [(.int (65533 : Int32)), (.int (50 : Int32)), (.ref b), (.ref b)])
  refine own_stIA X51 hx hZ e51 V51 N51 gb ⟨by decide, by decide⟩ (hb hby at_333) fun T52 h52 L52 X52 e52 V52 N52 => ?_
  show Go p e below _ T52 (mkF m 334 #[.val (.int p1), .val (.int p2), .val (.int p3), .unset, .unset, .unset, .unset, .unset] [(.ref b)])
  refine OwnGo.dup X52 hx (hb hby at_334) rfl ?_
  show Go p e below _ T52 (mkF m 335 #[.val (.int p1), .val (.int p2), .val (.int p3), .unset, .unset, .unset, .unset, .unset] [(.ref b), (.ref b)])
  refine OwnGo.bipush X52 hx (z := (51 : Int32)) (hb hby at_335) (by decide) ?_
  show Go p e below _ T52 (mkF m 337 #[.val (.int p1), .val (.int p2), .val (.int p3), .unset, .unset, .unset, .unset, .unset] [(.int (51 : Int32)), (.ref b), (.ref b)])
  refine OwnGo.ldcInt X52 hx hZ hown (v := (65534 : Int32)) (hw _ (List.mem_of_getElem? (i := 10) rfl)) (hb hby at_337) ?_
  show Go p e below _ T52 (mkF m 339 #[.val (.int p1), .val (.int p2), .val (.int p3), .unset, .unset, .unset, .unset, .unset] [(.int (65534 : Int32)), (.int (51 : Int32)), (.ref b), (.ref b)])
  refine own_stIA X52 hx hZ e52 V52 N52 gb ⟨by decide, by decide⟩ (hb hby at_339) fun T53 h53 L53 X53 e53 V53 N53 => ?_
  show Go p e below _ T53 (mkF m 340 #[.val (.int p1), .val (.int p2), .val (.int p3), .unset, .unset, .unset, .unset, .unset] [(.ref b)])
  refine OwnGo.dup X53 hx (hb hby at_340) rfl ?_
  show Go p e below _ T53 (mkF m 341 #[.val (.int p1), .val (.int p2), .val (.int p3), .unset, .unset, .unset, .unset, .unset] [(.ref b), (.ref b)])
  refine OwnGo.bipush X53 hx (z := (52 : Int32)) (hb hby at_341) (by decide) ?_
  show Go p e below _ T53 (mkF m 343 #[.val (.int p1), .val (.int p2), .val (.int p3), .unset, .unset, .unset, .unset, .unset] [(.int (52 : Int32)), (.ref b), (.ref b)])
  refine OwnGo.ldcInt X53 hx hZ hown (v := (65535 : Int32)) (hw _ (List.mem_of_getElem? (i := 11) rfl)) (hb hby at_343) ?_
  show Go p e below _ T53 (mkF m 345 #[.val (.int p1), .val (.int p2), .val (.int p3), .unset, .unset, .unset, .unset, .unset] [(.int (65535 : Int32)), (.int (52 : Int32)), (.ref b), (.ref b)])
  refine own_stIA X53 hx hZ e53 V53 N53 gb ⟨by decide, by decide⟩ (hb hby at_345) fun T54 h54 L54 X54 e54 V54 N54 => ?_
  show Go p e below _ T54 (mkF m 346 #[.val (.int p1), .val (.int p2), .val (.int p3), .unset, .unset, .unset, .unset, .unset] [(.ref b)])
  refine OwnGo.dup X54 hx (hb hby at_346) rfl ?_
  show Go p e below _ T54 (mkF m 347 #[.val (.int p1), .val (.int p2), .val (.int p3), .unset, .unset, .unset, .unset, .unset] [(.ref b), (.ref b)])
  refine OwnGo.bipush X54 hx (z := (53 : Int32)) (hb hby at_347) (by decide) ?_
  show Go p e below _ T54 (mkF m 349 #[.val (.int p1), .val (.int p2), .val (.int p3), .unset, .unset, .unset, .unset, .unset] [(.int (53 : Int32)), (.ref b), (.ref b)])
  refine OwnGo.ldcInt X54 hx hZ hown (v := (65536 : Int32)) (hw _ (List.mem_of_getElem? (i := 12) rfl)) (hb hby at_349) ?_
  show Go p e below _ T54 (mkF m 351 #[.val (.int p1), .val (.int p2), .val (.int p3), .unset, .unset, .unset, .unset, .unset] [(.int (65536 : Int32)), (.int (53 : Int32)), (.ref b), (.ref b)])
  refine own_stIA X54 hx hZ e54 V54 N54 gb ⟨by decide, by decide⟩ (hb hby at_351) fun T55 h55 L55 X55 e55 V55 N55 => ?_
  show Go p e below _ T55 (mkF m 352 #[.val (.int p1), .val (.int p2), .val (.int p3), .unset, .unset, .unset, .unset, .unset] [(.ref b)])
  refine OwnGo.dup X55 hx (hb hby at_352) rfl ?_
  show Go p e below _ T55 (mkF m 353 #[.val (.int p1), .val (.int p2), .val (.int p3), .unset, .unset, .unset, .unset, .unset] [(.ref b), (.ref b)])
  refine OwnGo.bipush X55 hx (z := (54 : Int32)) (hb hby at_353) (by decide) ?_
  show Go p e below _ T55 (mkF m 355 #[.val (.int p1), .val (.int p2), .val (.int p3), .unset, .unset, .unset, .unset, .unset] [(.int (54 : Int32)), (.ref b), (.ref b)])
  refine OwnGo.ldcInt X55 hx hZ hown (v := (983039 : Int32)) (hw _ (List.mem_of_getElem? (i := 13) rfl)) (hb hby at_355) ?_
  show Go p e below _ T55 (mkF m 357 #[.val (.int p1), .val (.int p2), .val (.int p3), .unset, .unset, .unset, .unset, .unset] [(.int (983039 : Int32)), (.int (54 : Int32)), (.ref b), (.ref b)])
  refine own_stIA X55 hx hZ e55 V55 N55 gb ⟨by decide, by decide⟩ (hb hby at_357) fun T56 h56 L56 X56 e56 V56 N56 => ?_
  show Go p e below _ T56 (mkF m 358 #[.val (.int p1), .val (.int p2), .val (.int p3), .unset, .unset, .unset, .unset, .unset] [(.ref b)])
  refine OwnGo.dup X56 hx (hb hby at_358) rfl ?_
  show Go p e below _ T56 (mkF m 359 #[.val (.int p1), .val (.int p2), .val (.int p3), .unset, .unset, .unset, .unset, .unset] [(.ref b), (.ref b)])
  refine OwnGo.bipush X56 hx (z := (55 : Int32)) (hb hby at_359) (by decide) ?_
  show Go p e below _ T56 (mkF m 361 #[.val (.int p1), .val (.int p2), .val (.int p3), .unset, .unset, .unset, .unset, .unset] [(.int (55 : Int32)), (.ref b), (.ref b)])
  refine OwnGo.ldcInt X56 hx hZ hown (v := (983040 : Int32)) (hw _ (List.mem_of_getElem? (i := 14) rfl)) (hb hby at_361) ?_
  show Go p e below _ T56 (mkF m 363 #[.val (.int p1), .val (.int p2), .val (.int p3), .unset, .unset, .unset, .unset, .unset] [(.int (983040 : Int32)), (.int (55 : Int32)), (.ref b), (.ref b)])
  refine own_stIA X56 hx hZ e56 V56 N56 gb ⟨by decide, by decide⟩ (hb hby at_363) fun T57 h57 L57 X57 e57 V57 N57 => ?_
  show Go p e below _ T57 (mkF m 364 #[.val (.int p1), .val (.int p2), .val (.int p3), .unset, .unset, .unset, .unset, .unset] [(.ref b)])
  refine OwnGo.dup X57 hx (hb hby at_364) rfl ?_
  show Go p e below _ T57 (mkF m 365 #[.val (.int p1), .val (.int p2), .val (.int p3), .unset, .unset, .unset, .unset, .unset] [(.ref b), (.ref b)])
  refine OwnGo.bipush X57 hx (z := (56 : Int32)) (hb hby at_365) (by decide) ?_
  show Go p e below _ T57 (mkF m 367 #[.val (.int p1), .val (.int p2), .val (.int p3), .unset, .unset, .unset, .unset, .unset] [(.int (56 : Int32)), (.ref b), (.ref b)])
  refine OwnGo.ldcInt X57 hx hZ hown (v := (1114111 : Int32)) (hw _ (List.mem_of_getElem? (i := 15) rfl)) (hb hby at_367) ?_
  show Go p e below _ T57 (mkF m 369 #[.val (.int p1), .val (.int p2), .val (.int p3), .unset, .unset, .unset, .unset, .unset] [(.int (1114111 : Int32)), (.int (56 : Int32)), (.ref b), (.ref b)])
  refine own_stIA X57 hx hZ e57 V57 N57 gb ⟨by decide, by decide⟩ (hb hby at_369) fun T58 h58 L58 X58 e58 V58 N58 => ?_
  show Go p e below _ T58 (mkF m 370 #[.val (.int p1), .val (.int p2), .val (.int p3), .unset, .unset, .unset, .unset, .unset] [(.ref b)])
  refine OwnGo.astoreN X58 hx (hb hby at_370) rfl (Ls' := #[.val (.int p1), .val (.int p2), .val (.int p3), .val (.ref b), .unset, .unset, .unset, .unset]) rfl ?_
  show Go p e below _ T58 (mkF m 371 #[.val (.int p1), .val (.int p2), .val (.int p3), .val (.ref b), .unset, .unset, .unset, .unset] [])
  refine OwnGo.iloadN X58 hx (hb hby at_371) rfl ?_
  show Go p e below _ T58 (mkF m 372 #[.val (.int p1), .val (.int p2), .val (.int p3), .val (.ref b), .unset, .unset, .unset, .unset] [(.int p2)])
  refine OwnGo.ldcInt X58 hx hZ hown (v := (2147483647 : Int32)) (hw _ (List.mem_of_getElem? (i := 16) rfl)) (hb hby at_372) ?_
  show Go p e below _ T58 (mkF m 374 #[.val (.int p1), .val (.int p2), .val (.int p3), .val (.ref b), .unset, .unset, .unset, .unset] [(.int (2147483647 : Int32)), (.int p2)])
  refine OwnGo.iand X58 hx (hb hby at_374) rfl ?_
  show Go p e below _ T58 (mkF m 375 #[.val (.int p1), .val (.int p2), .val (.int p3), .val (.ref b), .unset, .unset, .unset, .unset] [(.int (p2 &&& (2147483647 : Int32)))])
  refine OwnGo.aloadN X58 hx (hb hby at_375) rfl rfl ?_
  show Go p e below _ T58 (mkF m 376 #[.val (.int p1), .val (.int p2), .val (.int p3), .val (.ref b), .unset, .unset, .unset, .unset] [(.ref b), (.int (p2 &&& (2147483647 : Int32)))])
  refine own_lenIA X58 hx hZ e58 V58 (hb hby at_376) ?_
  show Go p e below _ T58 (mkF m 377 #[.val (.int p1), .val (.int p2), .val (.int p3), .val (.ref b), .unset, .unset, .unset, .unset] [(.int (57 : Int32)), (.int (p2 &&& (2147483647 : Int32)))])
  refine OwnGo.irem X58 hx (hb hby at_377) (by decide) rfl ?_
  show Go p e below _ T58 (mkF m 378 #[.val (.int p1), .val (.int p2), .val (.int p3), .val (.ref b), .unset, .unset, .unset, .unset] [(.int ((p2 &&& (2147483647 : Int32)) % (57 : Int32)))])
  refine OwnGo.istore X58 hx (hb hby at_378) (Ls' := #[.val (.int p1), .val (.int p2), .val (.int p3), .val (.ref b), .val (.int ((p2 &&& (2147483647 : Int32)) % (57 : Int32))), .unset, .unset, .unset]) rfl ?_
  show Go p e below _ T58 (mkF m 380 #[.val (.int p1), .val (.int p2), .val (.int p3), .val (.ref b), .val (.int ((p2 &&& (2147483647 : Int32)) % (57 : Int32))), .unset, .unset, .unset] [])
  refine OwnGo.aloadN X58 hx (hb hby at_380) rfl rfl ?_
  show Go p e below _ T58 (mkF m 381 #[.val (.int p1), .val (.int p2), .val (.int p3), .val (.ref b), .val (.int ((p2 &&& (2147483647 : Int32)) % (57 : Int32))), .unset, .unset, .unset] [(.ref b)])
  refine OwnGo.iload X58 hx (hb hby at_381) rfl ?_
  show Go p e below _ T58 (mkF m 383 #[.val (.int p1), .val (.int p2), .val (.int p3), .val (.ref b), .val (.int ((p2 &&& (2147483647 : Int32)) % (57 : Int32))), .unset, .unset, .unset] [(.int ((p2 &&& (2147483647 : Int32)) % (57 : Int32))), (.ref b)])
  refine own_ldIA X58 hx hZ e58 V58 (own_idx p2) (hb hby at_383) fun xe => ?_
  show Go p e below _ T58 (mkF m 384 #[.val (.int p1), .val (.int p2), .val (.int p3), .val (.ref b), .val (.int ((p2 &&& (2147483647 : Int32)) % (57 : Int32))), .unset, .unset, .unset] [(.int xe)])
  refine OwnGo.iloadN X58 hx (hb hby at_384) rfl ?_
  show Go p e below _ T58 (mkF m 385 #[.val (.int p1), .val (.int p2), .val (.int p3), .val (.ref b), .val (.int ((p2 &&& (2147483647 : Int32)) % (57 : Int32))), .unset, .unset, .unset] [(.int p3), (.int xe)])
  refine OwnGo.iconst X58 hx (z := (3 : Int32)) (hb hby at_385) (by decide) ?_
  show Go p e below _ T58 (mkF m 386 #[.val (.int p1), .val (.int p2), .val (.int p3), .val (.ref b), .val (.int ((p2 &&& (2147483647 : Int32)) % (57 : Int32))), .unset, .unset, .unset] [(.int (3 : Int32)), (.int p3), (.int xe)])
  refine OwnGo.iand X58 hx (hb hby at_386) rfl ?_
  show Go p e below _ T58 (mkF m 387 #[.val (.int p1), .val (.int p2), .val (.int p3), .val (.ref b), .val (.int ((p2 &&& (2147483647 : Int32)) % (57 : Int32))), .unset, .unset, .unset] [(.int (p3 &&& (3 : Int32))), (.int xe)])
  refine OwnGo.iconst X58 hx (z := (1 : Int32)) (hb hby at_387) (by decide) ?_
  show Go p e below _ T58 (mkF m 388 #[.val (.int p1), .val (.int p2), .val (.int p3), .val (.ref b), .val (.int ((p2 &&& (2147483647 : Int32)) % (57 : Int32))), .unset, .unset, .unset] [(.int (1 : Int32)), (.int (p3 &&& (3 : Int32))), (.int xe)])
  refine OwnGo.isub X58 hx (hb hby at_388) rfl ?_
  show Go p e below _ T58 (mkF m 389 #[.val (.int p1), .val (.int p2), .val (.int p3), .val (.ref b), .val (.int ((p2 &&& (2147483647 : Int32)) % (57 : Int32))), .unset, .unset, .unset] [(.int ((p3 &&& (3 : Int32)) - (1 : Int32))), (.int xe)])
  refine OwnGo.iadd X58 hx (hb hby at_389) rfl ?_
  show Go p e below _ T58 (mkF m 390 #[.val (.int p1), .val (.int p2), .val (.int p3), .val (.ref b), .val (.int ((p2 &&& (2147483647 : Int32)) % (57 : Int32))), .unset, .unset, .unset] [(.int (xe + ((p3 &&& (3 : Int32)) - (1 : Int32))))])
  refine OwnGo.istore X58 hx (hb hby at_390) (Ls' := #[.val (.int p1), .val (.int p2), .val (.int p3), .val (.ref b), .val (.int ((p2 &&& (2147483647 : Int32)) % (57 : Int32))), .val (.int (xe + ((p3 &&& (3 : Int32)) - (1 : Int32)))), .unset, .unset]) rfl ?_
  show Go p e below _ T58 (mkF m 392 #[.val (.int p1), .val (.int p2), .val (.int p3), .val (.ref b), .val (.int ((p2 &&& (2147483647 : Int32)) % (57 : Int32))), .val (.int (xe + ((p3 &&& (3 : Int32)) - (1 : Int32)))), .unset, .unset] [])
  refine OwnGo.iloadN X58 hx (hb hby at_392) rfl ?_
  show Go p e below _ T58 (mkF m 393 #[.val (.int p1), .val (.int p2), .val (.int p3), .val (.ref b), .val (.int ((p2 &&& (2147483647 : Int32)) % (57 : Int32))), .val (.int (xe + ((p3 &&& (3 : Int32)) - (1 : Int32)))), .unset, .unset] [(.int p1)])
  refine OwnGo.callS X58 hx hZ hown (y := (⟨"com/example/sibling/sibling/xpath/XmlCharacters", "isNameStart", "(I)Z"⟩ : MethodName)) (hw _ (List.mem_of_getElem? (i := 17) rfl)) (hw _ (List.mem_of_getElem? (i := 18) rfl)) (hw _ (List.mem_of_getElem? (i := 19) rfl)) (hw _ (List.mem_of_getElem? (i := 20) rfl)) (by decide) e58 (as := [(.int p1)]) (rm2 l Z a0 hw p1 h58) (W := 0) (by decide) (by decide) (by decide) (by decide) (by rw [hml]; rfl) (lenOf own_pd1 rfl) (rest := []) rfl rfl (hb hby at_393) fun v59 T59 L59 X59 q59 => ?_
  obtain ⟨rfl, e59, rfl⟩ := q59
  rw [List.append_nil] at X59
  show Go p e below _ T59 (mkF m 396 #[.val (.int p1), .val (.int p2), .val (.int p3), .val (.ref b), .val (.int ((p2 &&& (2147483647 : Int32)) % (57 : Int32))), .val (.int (xe + ((p3 &&& (3 : Int32)) - (1 : Int32)))), .unset, .unset] [(.int (own_v p1))])
  refine OwnGo.iloadN X59 hx (hb hby at_396) rfl ?_
  show Go p e below _ T59 (mkF m 397 #[.val (.int p1), .val (.int p2), .val (.int p3), .val (.ref b), .val (.int ((p2 &&& (2147483647 : Int32)) % (57 : Int32))), .val (.int (xe + ((p3 &&& (3 : Int32)) - (1 : Int32)))), .unset, .unset] [(.int p1), (.int (own_v p1))])
  refine OwnGo.callS X59 hx hZ hown (y := (⟨"com/example/sibling/sibling/xpath/XmlCharactersIsNameStartPinLaw", "ref", "(I)Z"⟩ : MethodName)) (hw _ (List.mem_of_getElem? (i := 24) rfl)) (hw _ (List.mem_of_getElem? (i := 25) rfl)) (hw _ (List.mem_of_getElem? (i := 26) rfl)) (hw _ (List.mem_of_getElem? (i := 27) rfl)) (by decide) e59 (as := [(.int p1)]) (rm3 l Z a0 hw p1 h58) (W := 1) (by decide) (by decide) (by decide) (by decide) (by rw [hml]; rfl) (lenOf own_pd1 rfl) (rest := [(.int (own_v p1))]) rfl rfl (hb hby at_397) fun v60 T60 L60 X60 q60 => ?_
  obtain ⟨rfl, e60, rfl⟩ := q60
  rw [List.append_nil] at X60
  show Go p e below _ T60 (mkF m 400 #[.val (.int p1), .val (.int p2), .val (.int p3), .val (.ref b), .val (.int ((p2 &&& (2147483647 : Int32)) % (57 : Int32))), .val (.int (xe + ((p3 &&& (3 : Int32)) - (1 : Int32)))), .unset, .unset] [(.int (own_v p1)), (.int (own_v p1))])
  refine OwnGo.ic_ne X60 hx (pc' := 407) (hb hby at_400) (by decide) (by decide) (fun q => absurd rfl q) (fun _ => ?_)
  show Go p e below _ T60 (mkF m 403 #[.val (.int p1), .val (.int p2), .val (.int p3), .val (.ref b), .val (.int ((p2 &&& (2147483647 : Int32)) % (57 : Int32))), .val (.int (xe + ((p3 &&& (3 : Int32)) - (1 : Int32)))), .unset, .unset] [])
  refine OwnGo.iconst X60 hx (z := (1 : Int32)) (hb hby at_403) (by decide) ?_
  show Go p e below _ T60 (mkF m 404 #[.val (.int p1), .val (.int p2), .val (.int p3), .val (.ref b), .val (.int ((p2 &&& (2147483647 : Int32)) % (57 : Int32))), .val (.int (xe + ((p3 &&& (3 : Int32)) - (1 : Int32)))), .unset, .unset] [(.int (1 : Int32))])
  refine OwnGo.goto X60 hx (pc' := 408) (hb hby at_404) (by decide) (by decide) ?_
  show Go p e below _ T60 (mkF m 408 #[.val (.int p1), .val (.int p2), .val (.int p3), .val (.ref b), .val (.int ((p2 &&& (2147483647 : Int32)) % (57 : Int32))), .val (.int (xe + ((p3 &&& (3 : Int32)) - (1 : Int32)))), .unset, .unset] [(.int (1 : Int32))])
  refine OwnGo.istore X60 hx (hb hby at_408) (Ls' := #[.val (.int p1), .val (.int p2), .val (.int p3), .val (.ref b), .val (.int ((p2 &&& (2147483647 : Int32)) % (57 : Int32))), .val (.int (xe + ((p3 &&& (3 : Int32)) - (1 : Int32)))), .val (.int (1 : Int32)), .unset]) rfl ?_
  show Go p e below _ T60 (mkF m 410 #[.val (.int p1), .val (.int p2), .val (.int p3), .val (.ref b), .val (.int ((p2 &&& (2147483647 : Int32)) % (57 : Int32))), .val (.int (xe + ((p3 &&& (3 : Int32)) - (1 : Int32)))), .val (.int (1 : Int32)), .unset] [])
  refine OwnGo.iload X60 hx (hb hby at_410) rfl ?_
  show Go p e below _ T60 (mkF m 412 #[.val (.int p1), .val (.int p2), .val (.int p3), .val (.ref b), .val (.int ((p2 &&& (2147483647 : Int32)) % (57 : Int32))), .val (.int (xe + ((p3 &&& (3 : Int32)) - (1 : Int32)))), .val (.int (1 : Int32)), .unset] [(.int (xe + ((p3 &&& (3 : Int32)) - (1 : Int32))))])
  refine OwnGo.callS X60 hx hZ hown (y := (⟨"com/example/sibling/sibling/xpath/XmlCharacters", "isNameStart", "(I)Z"⟩ : MethodName)) (hw _ (List.mem_of_getElem? (i := 17) rfl)) (hw _ (List.mem_of_getElem? (i := 18) rfl)) (hw _ (List.mem_of_getElem? (i := 19) rfl)) (hw _ (List.mem_of_getElem? (i := 20) rfl)) (by decide) e60 (as := [(.int (xe + ((p3 &&& (3 : Int32)) - (1 : Int32))))]) (rm2 l Z a0 hw (xe + ((p3 &&& (3 : Int32)) - (1 : Int32))) h58) (W := 0) (by decide) (by decide) (by decide) (by decide) (by rw [hml]; rfl) (lenOf own_pd1 rfl) (rest := []) rfl rfl (hb hby at_412) fun v61 T61 L61 X61 q61 => ?_
  obtain ⟨rfl, e61, rfl⟩ := q61
  rw [List.append_nil] at X61
  show Go p e below _ T61 (mkF m 415 #[.val (.int p1), .val (.int p2), .val (.int p3), .val (.ref b), .val (.int ((p2 &&& (2147483647 : Int32)) % (57 : Int32))), .val (.int (xe + ((p3 &&& (3 : Int32)) - (1 : Int32)))), .val (.int (1 : Int32)), .unset] [(.int (own_v (xe + ((p3 &&& (3 : Int32)) - (1 : Int32)))))])
  refine OwnGo.iload X61 hx (hb hby at_415) rfl ?_
  show Go p e below _ T61 (mkF m 417 #[.val (.int p1), .val (.int p2), .val (.int p3), .val (.ref b), .val (.int ((p2 &&& (2147483647 : Int32)) % (57 : Int32))), .val (.int (xe + ((p3 &&& (3 : Int32)) - (1 : Int32)))), .val (.int (1 : Int32)), .unset] [(.int (xe + ((p3 &&& (3 : Int32)) - (1 : Int32)))), (.int (own_v (xe + ((p3 &&& (3 : Int32)) - (1 : Int32)))))])
  refine OwnGo.callS X61 hx hZ hown (y := (⟨"com/example/sibling/sibling/xpath/XmlCharactersIsNameStartPinLaw", "ref", "(I)Z"⟩ : MethodName)) (hw _ (List.mem_of_getElem? (i := 24) rfl)) (hw _ (List.mem_of_getElem? (i := 25) rfl)) (hw _ (List.mem_of_getElem? (i := 26) rfl)) (hw _ (List.mem_of_getElem? (i := 27) rfl)) (by decide) e61 (as := [(.int (xe + ((p3 &&& (3 : Int32)) - (1 : Int32))))]) (rm3 l Z a0 hw (xe + ((p3 &&& (3 : Int32)) - (1 : Int32))) h58) (W := 1) (by decide) (by decide) (by decide) (by decide) (by rw [hml]; rfl) (lenOf own_pd1 rfl) (rest := [(.int (own_v (xe + ((p3 &&& (3 : Int32)) - (1 : Int32)))))]) rfl rfl (hb hby at_417) fun v62 T62 L62 X62 q62 => ?_
  obtain ⟨rfl, e62, rfl⟩ := q62
  rw [List.append_nil] at X62
  show Go p e below _ T62 (mkF m 420 #[.val (.int p1), .val (.int p2), .val (.int p3), .val (.ref b), .val (.int ((p2 &&& (2147483647 : Int32)) % (57 : Int32))), .val (.int (xe + ((p3 &&& (3 : Int32)) - (1 : Int32)))), .val (.int (1 : Int32)), .unset] [(.int (own_v (xe + ((p3 &&& (3 : Int32)) - (1 : Int32))))), (.int (own_v (xe + ((p3 &&& (3 : Int32)) - (1 : Int32)))))])
  refine OwnGo.ic_ne X62 hx (pc' := 427) (hb hby at_420) (by decide) (by decide) (fun q => absurd rfl q) (fun _ => ?_)
  show Go p e below _ T62 (mkF m 423 #[.val (.int p1), .val (.int p2), .val (.int p3), .val (.ref b), .val (.int ((p2 &&& (2147483647 : Int32)) % (57 : Int32))), .val (.int (xe + ((p3 &&& (3 : Int32)) - (1 : Int32)))), .val (.int (1 : Int32)), .unset] [])
  refine OwnGo.iconst X62 hx (z := (1 : Int32)) (hb hby at_423) (by decide) ?_
  show Go p e below _ T62 (mkF m 424 #[.val (.int p1), .val (.int p2), .val (.int p3), .val (.ref b), .val (.int ((p2 &&& (2147483647 : Int32)) % (57 : Int32))), .val (.int (xe + ((p3 &&& (3 : Int32)) - (1 : Int32)))), .val (.int (1 : Int32)), .unset] [(.int (1 : Int32))])
  refine OwnGo.goto X62 hx (pc' := 428) (hb hby at_424) (by decide) (by decide) ?_
  show Go p e below _ T62 (mkF m 428 #[.val (.int p1), .val (.int p2), .val (.int p3), .val (.ref b), .val (.int ((p2 &&& (2147483647 : Int32)) % (57 : Int32))), .val (.int (xe + ((p3 &&& (3 : Int32)) - (1 : Int32)))), .val (.int (1 : Int32)), .unset] [(.int (1 : Int32))])
  refine OwnGo.istore X62 hx (hb hby at_428) (Ls' := #[.val (.int p1), .val (.int p2), .val (.int p3), .val (.ref b), .val (.int ((p2 &&& (2147483647 : Int32)) % (57 : Int32))), .val (.int (xe + ((p3 &&& (3 : Int32)) - (1 : Int32)))), .val (.int (1 : Int32)), .val (.int (1 : Int32))]) rfl ?_
  show Go p e below _ T62 (mkF m 430 #[.val (.int p1), .val (.int p2), .val (.int p3), .val (.ref b), .val (.int ((p2 &&& (2147483647 : Int32)) % (57 : Int32))), .val (.int (xe + ((p3 &&& (3 : Int32)) - (1 : Int32)))), .val (.int (1 : Int32)), .val (.int (1 : Int32))] [])
  refine OwnGo.iload X62 hx (hb hby at_430) rfl ?_
  show Go p e below _ T62 (mkF m 432 #[.val (.int p1), .val (.int p2), .val (.int p3), .val (.ref b), .val (.int ((p2 &&& (2147483647 : Int32)) % (57 : Int32))), .val (.int (xe + ((p3 &&& (3 : Int32)) - (1 : Int32)))), .val (.int (1 : Int32)), .val (.int (1 : Int32))] [(.int (1 : Int32))])
  refine OwnGo.if_eq X62 hx (pc' := 444) (hb hby at_432) (by decide) (by decide) (fun q => absurd q (by decide)) (fun _ => ?_)
  show Go p e below _ T62 (mkF m 435 #[.val (.int p1), .val (.int p2), .val (.int p3), .val (.ref b), .val (.int ((p2 &&& (2147483647 : Int32)) % (57 : Int32))), .val (.int (xe + ((p3 &&& (3 : Int32)) - (1 : Int32)))), .val (.int (1 : Int32)), .val (.int (1 : Int32))] [])
  refine OwnGo.iload X62 hx (hb hby at_435) rfl ?_
  show Go p e below _ T62 (mkF m 437 #[.val (.int p1), .val (.int p2), .val (.int p3), .val (.ref b), .val (.int ((p2 &&& (2147483647 : Int32)) % (57 : Int32))), .val (.int (xe + ((p3 &&& (3 : Int32)) - (1 : Int32)))), .val (.int (1 : Int32)), .val (.int (1 : Int32))] [(.int (1 : Int32))])
  refine OwnGo.if_eq X62 hx (pc' := 444) (hb hby at_437) (by decide) (by decide) (fun q => absurd q (by decide)) (fun _ => ?_)
  show Go p e below _ T62 (mkF m 440 #[.val (.int p1), .val (.int p2), .val (.int p3), .val (.ref b), .val (.int ((p2 &&& (2147483647 : Int32)) % (57 : Int32))), .val (.int (xe + ((p3 &&& (3 : Int32)) - (1 : Int32)))), .val (.int (1 : Int32)), .val (.int (1 : Int32))] [])
  refine OwnGo.iconst X62 hx (z := (1 : Int32)) (hb hby at_440) (by decide) ?_
  show Go p e below _ T62 (mkF m 441 #[.val (.int p1), .val (.int p2), .val (.int p3), .val (.ref b), .val (.int ((p2 &&& (2147483647 : Int32)) % (57 : Int32))), .val (.int (xe + ((p3 &&& (3 : Int32)) - (1 : Int32)))), .val (.int (1 : Int32)), .val (.int (1 : Int32))] [(.int (1 : Int32))])
  refine OwnGo.goto X62 hx (pc' := 445) (hb hby at_441) (by decide) (by decide) ?_
  show Go p e below _ T62 (mkF m 445 #[.val (.int p1), .val (.int p2), .val (.int p3), .val (.ref b), .val (.int ((p2 &&& (2147483647 : Int32)) % (57 : Int32))), .val (.int (xe + ((p3 &&& (3 : Int32)) - (1 : Int32)))), .val (.int (1 : Int32)), .val (.int (1 : Int32))] [(.int (1 : Int32))])
  exact OwnGo.retB X62 hx hlk (z' := (1 : Int32)) hret (hb hby at_445) rfl ⟨rfl, N58⟩ (by decide) (by decide)
set_option maxRecDepth 65536 in
set_option maxHeartbeats 40000000 in
theorem comes_1 {Post : Tables → Env → Array Value → State → Outcome → State → Prop} (hpost : ∀ tb e args s v u, (limb_1_1.after args s (.returned v) u = true ∧ limb_1_2.after args s (.returned v) u = true ∧ True) → FrameEnd s (.returned v) u (Jvm.fieldLocs frame_1_writes args s ++ Jvm.arrayLocs frame_1_arrays args s ++ Jvm.staticLocs frame_1_statics s) 16 192 → Post tb e args s (.returned v) u) :
    ArmFor flags0 classFile x code maxLocals ret World_1 tables_1 room_1 Calls_1 rest_1 Pre_1 Post := by
  intro l hfl _ _ p e ha hc hk s m args below hf hA hF happ hP
  obtain ⟨hcalls, hrest, hpre⟩ := hP
  obtain ⟨-, -, -, hnamed, -, -, -, hat⟩ := (Spec.applies_iff hf).mp happ
  obtain ⟨hg, hn⟩ := and_e (Cond.before_iff.mp (show (Jvm.Cond.and given_1 narrow_1).before args s = true from hpre))
  obtain ⟨gc0, gr0⟩ := and_e hg
  obtain ⟨gc1, gr1⟩ := and_e gr0
  obtain ⟨gc2, gr2⟩ := and_e gr1
  obtain ⟨w0, w1, w2, rfl⟩ : ∃ w0 w1 w2 : Value, args = #[w0, w1, w2] := by
    have hs : args.size = 3 := by simpa [Cond.value, given_1] using gc0
    obtain ⟨L⟩ := args
    match L, hs with
    | [w0, w1, w2], _ => exact ⟨w0, w1, w2, rfl⟩
  have hw := fun d (hd : d ∈ tables_1) => atoms_spec (ws := Jvm.Cond.code x code maxLocals ret :: tables_1) hat d (List.mem_cons_of_mem _ hd)
  obtain ⟨i0, ei0⟩ := is_v gc1
  obtain rfl : w0 = (.int i0) := Option.some.inj ei0
  obtain ⟨i1, ei1⟩ := is_v gc2
  obtain rfl : w1 = (.int i1) := Option.some.inj ei1
  obtain ⟨i2, ei2⟩ := is_v gr2
  obtain rfl : w2 = (.int i2) := Option.some.inj ei2
  obtain ⟨n, o, h1, h2, h3, _, L, rfl, ⟨rfl, N⟩, hq⟩ := rm0 l s _ hw i0 i1 i2 s.heap s.heap.size (Nat.le_refl _) tables_1 p e ha hc hk s m _ below hf ((Spec.applies_iff_loose hf).mp happ).1 ⟨rfl, State.Warmed39.refl s, rfl⟩ trivial
  refine ⟨n, _, h1, h2, h3, hpost _ _ _ _ _ _ ⟨Cond.after_iff.mpr rfl, Cond.after_iff.mpr (eq_i res_at (Term.int_eval (1)) rfl), trivial⟩ ⟨hq.1, hq.2.1, (hq.2.2.sift fun y hy => Or.inr (N y hy)).mono (by decide) (by decide)⟩⟩
theorem main_1_1 : Claimed_1_1 := comes_1 fun _ _ _ _ _ _ h hF => ⟨h.1, hF⟩
theorem main_1_2 : Claimed_1_2 := comes_1 fun _ _ _ _ _ _ h hF => ⟨h.2.1, hF⟩
end Jvm.Pilot.@@N@@
namespace Jvm.Pilot.@@N@@
open Jvm Jvm.ClassFile Sem Op Lib Jvm.Free Jvm.Stand Jvm.Pilot.@@N@@.Jvm.D
/-! MADE BY PROGRAM (witnessworld.py) out of the Statement's table words and the real class files: 9 classes; the members and pool entries that the words name. The judged class is class 1, her method 3. -/
namespace start1
open Jvm.ClassFile
def u (s : String) : CpInfo := .utf8 (stringToUtf16 s)
/-- a pool by its gaps: so many unusable entries, then the entry; so many at the end -/
def gap : Nat → List CpInfo → List CpInfo
  | 0, r => r
  | n + 1, r => .unusable :: gap n r
def poolList (es : List (Nat × CpInfo)) (last : Nat) : List CpInfo := es.foldr (fun e r => gap e.1 (e.2 :: r)) (gap last [])
def pool (es : List (Nat × CpInfo)) (last : Nat) : Array CpInfo := ⟨poolList es last⟩
def fileOf (pool : Array CpInfo) (this : Nat) (attrs : Array Attribute := #[]) (ms : Array MethodInfo := #[]) (fl : Nat := 33) (sup : Nat := 0) (ifs : Array Nat := #[]) (fds : Array FieldInfo := #[]) : ClassFile where
  minorVersion := 0
  majorVersion := 65
  constantPool := pool
  accessFlags := fl
  thisClass := this
  superClass := sup
  interfaces := ifs
  fields := fds
  methods := ms
  attributes := attrs
def plain (name : String) (sup : Option ClassId) : Class where
  name := name
  kind := .ordinary
  loader := none
  accessFlags := 33
  super := sup
  interfaces := #[]
  cf := none
  fields := #[]
  methods := #[]
  instanceTypes := #[]
  staticTypes := #[]
  resolved := #[]
  callSites := []
  init := .initialized
  statics := none
  mirror := none

def pool0 : Array CpInfo := pool [(5, u "<init>"), (0, u "()V"), (1, .class_ 10), (1, u "java/lang/Object")] 113

def k0m0 : Method := { name := "<init>", desc := "()V", sig := { parameters := [], returnType := none }, accessFlags := 1, code := none }
/-- java/lang/Object -/
def k0 : Class := { plain "java/lang/Object" none with
  accessFlags := 33
  interfaces := #[]
  cf := some (fileOf pool0 8 #[] #[{ accessFlags := 1, nameIndex := 5, descriptorIndex := 6, attributes := #[] }] 33 0 #[] #[])
  fields := #[]
  methods := #[k0m0]
  instanceTypes := #[]
  staticTypes := #[]
  resolved := Array.replicate 124 none
  statics := none }

def pool1 : Array CpInfo := pool [(2, .class_ 4), (1, u "java/lang/Object"), (0, u "<init>"), (0, u "()V"), (0, .methodref 8 9), (0, .class_ 10), (0, .nameAndType 11 12), (0, u "com/example/sibling/sibling/xpath/XmlCharactersIsNameStartPinLaw"), (0, u "in"), (0, u "(III)Z"), (0, .integer 55295), (0, .integer 63744), (0, .integer 64975), (0, .integer 65008), (0, .integer 65533), (0, .integer 65536), (0, .integer 983039), (0, .integer 55296), (0, .integer 63743), (0, .integer 64976), (0, .integer 65007), (0, .integer 65534), (0, .integer 65535), (0, .integer 983040), (0, .integer 1114111), (0, .integer 2147483647), (0, .methodref 30 31), (0, .class_ 32), (0, .nameAndType 33 34), (0, u "com/example/sibling/sibling/xpath/XmlCharacters"), (0, u "isNameStart"), (0, u "(I)Z"), (0, .methodref 8 36), (0, .nameAndType 37 34), (0, u "ref"), (3, u "law")] 4

def k1m0 : Method := { name := "<init>", desc := "()V", sig := { parameters := [], returnType := none }, accessFlags := 1, code := none }
def k1c1 : Code := { maxStack := 2, maxLocals := 3, code := method_2_code, exceptionTable := #[], attributes := #[] }
def k1m1 : Method := { name := "in", desc := "(III)Z", sig := { parameters := [.int, .int, .int], returnType := some .boolean }, accessFlags := 10, code := some k1c1 }
def k1c2 : Code := { maxStack := 3, maxLocals := 1, code := method_3_code, exceptionTable := #[], attributes := #[] }
def k1m2 : Method := { name := "ref", desc := "(I)Z", sig := { parameters := [.int], returnType := some .boolean }, accessFlags := 10, code := some k1c2 }
def k1c3 : Code := { maxStack := 4, maxLocals := 8, code := code, exceptionTable := #[], attributes := #[] }
def k1m3 : Method := { name := "law", desc := "(III)Z", sig := { parameters := [.int, .int, .int], returnType := some .boolean }, accessFlags := 9, code := some k1c3 }
/-- com/example/sibling/sibling/xpath/XmlCharactersIsNameStartPinLaw -/
def k1 : Class := { plain "com/example/sibling/sibling/xpath/XmlCharactersIsNameStartPinLaw" (some 0) with
  accessFlags := 49
  interfaces := #[]
  cf := some (fileOf pool1 8 #[] #[{ accessFlags := 1, nameIndex := 5, descriptorIndex := 6, attributes := #[] }, { accessFlags := 10, nameIndex := 11, descriptorIndex := 12, attributes := #[] }, { accessFlags := 10, nameIndex := 37, descriptorIndex := 34, attributes := #[] }, { accessFlags := 9, nameIndex := 41, descriptorIndex := 12, attributes := #[] }] 49 2 #[] #[])
  fields := #[]
  methods := #[k1m0, k1m1, k1m2, k1m3]
  instanceTypes := #[]
  staticTypes := #[]
  resolved := Array.replicate 46 none
  statics := none }

def pool2 : Array CpInfo := pool [(2, .class_ 4), (1, u "java/lang/Object"), (0, u "<init>"), (0, u "()V"), (11, .class_ 20), (1, u "com/example/sibling/sibling/xpath/XmlCharacters"), (29, u "isNameStart"), (0, u "(I)Z"), (18, .integer 55295), (0, .integer 63744), (0, .integer 64975), (0, .integer 65008), (0, .integer 65533), (0, .integer 65536), (0, .integer 983039)] 11

def k2m0 : Method := { name := "<init>", desc := "()V", sig := { parameters := [], returnType := none }, accessFlags := 2, code := none }
def k2c1 : Code := { maxStack := 2, maxLocals := 1, code := prog_135_method_7_code, exceptionTable := #[], attributes := #[] }
def k2m1 : Method := { name := "isNameStart", desc := "(I)Z", sig := { parameters := [.int], returnType := some .boolean }, accessFlags := 8, code := some k2c1 }
/-- com/example/sibling/sibling/xpath/XmlCharacters -/
def k2 : Class := { plain "com/example/sibling/sibling/xpath/XmlCharacters" (some 0) with
  accessFlags := 49
  interfaces := #[]
  cf := some (fileOf pool2 18 #[] #[{ accessFlags := 2, nameIndex := 5, descriptorIndex := 6, attributes := #[] }, { accessFlags := 8, nameIndex := 50, descriptorIndex := 51, attributes := #[] }] 49 2 #[] #[])
  fields := #[]
  methods := #[k2m0, k2m1]
  instanceTypes := #[]
  staticTypes := #[]
  resolved := Array.replicate 88 none
  statics := none }

def pool3 : Array CpInfo := pool [(1, u "java/lang/Cloneable"), (0, .class_ 1), (0, u "java/lang/Object"), (0, .class_ 3)] 3

/-- java/lang/Cloneable -/
def k3 : Class := { plain "java/lang/Cloneable" (some 0) with
  accessFlags := 1537
  interfaces := #[]
  cf := some (fileOf pool3 2 #[] #[] 1537 4 #[] #[])
  fields := #[]
  methods := #[]
  instanceTypes := #[]
  staticTypes := #[]
  resolved := Array.replicate 8 none
  statics := none }

def pool4 : Array CpInfo := pool [(1, u "java/io/Serializable"), (0, .class_ 1), (0, u "java/lang/Object"), (0, .class_ 3)] 3

/-- java/io/Serializable -/
def k4 : Class := { plain "java/io/Serializable" (some 0) with
  accessFlags := 1537
  interfaces := #[]
  cf := some (fileOf pool4 2 #[] #[] 1537 4 #[] #[])
  fields := #[]
  methods := #[]
  instanceTypes := #[]
  staticTypes := #[]
  resolved := Array.replicate 8 none
  statics := none }

/-- the primitive byte -/
def k5 : Class := { plain "byte" none with kind := .primitive 'B', accessFlags := 0x411 }
/-- [B -/
def k6 : Class := { plain "[B" (some 0) with kind := .array 5 .byte, interfaces := #[3, 4], accessFlags := 1041 }

/-- the primitive int -/
def k7 : Class := { plain "int" none with kind := .primitive 'I', accessFlags := 0x411 }
/-- [I -/
def k8 : Class := { plain "[I" (some 0) with kind := .array 7 .int, interfaces := #[3, 4], accessFlags := 1041 }

def heap : Heap := #[]
def classes : Array Class := #[k0, k1, k2, k3, k4, k5, k6, k7, k8]
def interned : List (Array UInt16 × Addr) := []
def slotsUsed : Nat := 0
def theMethod : MethodId := ⟨1, 3⟩
def args0 : Array Value := #[.int 5, .int 7, .int 6]
def aboutOver (below : List Frame) : State where
  vm := { classes := classes, interned := interned.toArray }
  heap := heap
  slotsUsed := slotsUsed
  threads := #[{ frames := .invoking theMethod args0 :: below }]
def below0 : List Frame := [.native { method := ⟨0, 0⟩, args := #[] }]
def about1 : State := aboutOver below0
def p0 : Program := .bare "" "" ""
def e0 : Env := launch0.env 0 0 0
theorem w_frames : about1.frames = Frame.invoking theMethod args0 :: below0 := rfl
set_option maxRecDepth 65536 in
theorem w_args : argsFit about1.vm theMethod args0 = true := by decide +kernel
set_option maxRecDepth 65536 in
theorem w_heap : heapFits about1 = true := by decide +kernel
set_option maxRecDepth 65536 in
theorem w_runnable : about1.curStatus? = some .runnable := by decide +kernel
set_option maxRecDepth 65536 in
theorem w_alone : about1.alone = true := by decide +kernel
set_option maxRecDepth 65536 in
theorem w_named : about1.methodNamed? x = some theMethod := by decide +kernel
set_option maxRecDepth 65536 in
theorem w_hears : about1.hears theMethod below0 = true := by decide +kernel
set_option maxRecDepth 65536 in
theorem w_ripe : about1.ripe theMethod args0 below0 = true := by decide +kernel
theorem w_running : about1.status = .running := rfl
set_option maxRecDepth 65536 in
theorem w_room : about1.hasRoom e0.platform room_1 = true :=
  launch0.hasRoom_least _ room_1 (by decide +kernel) (by decide +kernel) (by decide +kernel) (by decide +kernel) (by decide +kernel) (by decide +kernel)
theorem allAtoms_all (ts : List Jvm.Cond) (a : Array Jvm.Value) (st : Jvm.State) : (allAtoms ts).before a st = ts.all (fun c => c.before a st) := by
  induction ts with
  | nil => rfl
  | cons c t ih =>
    show (Jvm.Cond.and c (allAtoms t)).before a st = _
    rw [Jvm.Cond.before_and, ih, List.all_cons]
def words1 : List Jvm.Cond := Jvm.Cond.code x code maxLocals ret :: tables_1
/-- a 'code' word, met by the world's own term for the bytes: nothing is compared byte by byte -/
theorem code_word {y : MethodName} {bytes : ByteArray} {mx : Nat} {rt : Option FieldType} {a : Array Value} {s : State} {m : MethodId} {meth : Method} {c : Code} (h1 : s.methodNamed? y = some m) (h2 : s.vm.method? m = some meth) (h3 : meth.code = some c) (h4 : c.code = bytes)
    (h5 : (c.maxLocals == mx && c.exceptionTable.isEmpty && decide (c.maxStack ≤ mostOperands) && decide (meth.sig.returnType = rt) && !meth.locks && decide (parseMethodDescriptor y.desc = some meth.sig)) = true) : (Jvm.Cond.code y bytes mx rt).before a s = true := by
  simp only [Bool.and_eq_true, beq_iff_eq, Bool.not_eq_true', decide_eq_true_eq] at h5
  obtain ⟨⟨⟨⟨⟨g1, g2⟩, g3⟩, g4⟩, g5⟩, g6⟩ := h5
  simp [Cond.before, Cond.holds, Cond.value, h1, h2, h3, h4, g1, g2, g3, g4, g5, g6]
def isCode : Jvm.Cond → Bool
  | .code _ _ _ _ => true
  | _ => false
theorem all_split {L : List Jvm.Cond} {P : Jvm.Cond → Bool} (h1 : L.all (fun c => isCode c || P c) = true) (h2 : ∀ c ∈ L.filter isCode, P c = true) : L.all P = true := by
  refine List.all_eq_true.mpr fun c hc => ?_
  have h := List.all_eq_true.mp h1 c hc
  rcases Bool.eq_false_or_eq_true (isCode c) with hi | hi
  · exact h2 c (List.mem_filter.mpr ⟨hc, hi⟩)
  · simpa [hi] using h
set_option maxRecDepth 65536 in
theorem w_c0 : (Jvm.Cond.code x code maxLocals ret).before args0 about1 = true := code_word (m := ⟨1, 3⟩) (meth := k1m3) (c := k1c3) (by decide +kernel) rfl rfl rfl (by decide +kernel)
set_option maxRecDepth 65536 in
theorem w_c1 : (Jvm.Cond.code ({ cls := "com/example/sibling/sibling/xpath/XmlCharacters", name := "isNameStart", desc := "(I)Z" } : Jvm.MethodName) prog_135_method_7_code (1 : Nat) (Option.some Jvm.ClassFile.FieldType.boolean)).before args0 about1 = true := code_word (m := ⟨2, 1⟩) (meth := k2m1) (c := k2c1) (by decide +kernel) rfl rfl rfl (by decide +kernel)
set_option maxRecDepth 65536 in
theorem w_c2 : (Jvm.Cond.code ({ cls := "com/example/sibling/sibling/xpath/XmlCharactersIsNameStartPinLaw", name := "ref", desc := "(I)Z" } : Jvm.MethodName) method_3_code (1 : Nat) (Option.some Jvm.ClassFile.FieldType.boolean)).before args0 about1 = true := code_word (m := ⟨1, 2⟩) (meth := k1m2) (c := k1c2) (by decide +kernel) rfl rfl rfl (by decide +kernel)
set_option maxRecDepth 65536 in
theorem w_c3 : (Jvm.Cond.code ({ cls := "com/example/sibling/sibling/xpath/XmlCharactersIsNameStartPinLaw", name := "in", desc := "(III)Z" } : Jvm.MethodName) method_2_code (3 : Nat) (Option.some Jvm.ClassFile.FieldType.boolean)).before args0 about1 = true := code_word (m := ⟨1, 1⟩) (meth := k1m1) (c := k1c1) (by decide +kernel) rfl rfl rfl (by decide +kernel)
def codes1 : List Jvm.Cond := [Jvm.Cond.code x code maxLocals ret, Jvm.Cond.code ({ cls := "com/example/sibling/sibling/xpath/XmlCharacters", name := "isNameStart", desc := "(I)Z" } : Jvm.MethodName) prog_135_method_7_code (1 : Nat) (Option.some Jvm.ClassFile.FieldType.boolean), Jvm.Cond.code ({ cls := "com/example/sibling/sibling/xpath/XmlCharactersIsNameStartPinLaw", name := "ref", desc := "(I)Z" } : Jvm.MethodName) method_3_code (1 : Nat) (Option.some Jvm.ClassFile.FieldType.boolean), Jvm.Cond.code ({ cls := "com/example/sibling/sibling/xpath/XmlCharactersIsNameStartPinLaw", name := "in", desc := "(III)Z" } : Jvm.MethodName) method_2_code (3 : Nat) (Option.some Jvm.ClassFile.FieldType.boolean)]
set_option maxRecDepth 65536 in
theorem codes_eq : words1.filter isCode = codes1 := rfl
theorem w_codes : ∀ c ∈ words1.filter isCode, c.before args0 about1 = true := by
  rw [codes_eq]
  intro c hc
  simp only [codes1, List.mem_cons, List.not_mem_nil, or_false] at hc
  rcases hc with rfl | rfl | rfl | rfl
  · exact w_c0
  · exact w_c1
  · exact w_c2
  · exact w_c3
set_option maxRecDepth 65536 in
theorem w_t1 : (words1.take 24).all (fun c => isCode c || c.before args0 about1) = true := by decide +kernel
set_option maxRecDepth 65536 in
theorem w_t2 : (words1.drop 24).all (fun c => isCode c || c.before args0 about1) = true := by decide +kernel
theorem w_tables : (allAtoms (Jvm.Cond.code x code maxLocals ret :: tables_1)).before args0 about1 = true := by
  rw [allAtoms_all]
  show words1.all (fun c => c.before args0 about1) = true
  refine all_split ?_ w_codes
  rw [← List.take_append_drop 24 words1, List.all_append, w_t1, w_t2]
  rfl
set_option maxRecDepth 65536 in
theorem w_case : (Jvm.Cond.and given_1 narrow_1).before args0 about1 = true := by decide +kernel
theorem w_applies : (headSpec (Jvm.Cond.code x code maxLocals ret :: tables_1) room_1).applies x e0.platform about1 = true :=
  (Spec.applies_iff w_frames).mpr ⟨w_running, w_runnable, w_alone, w_named, w_hears, w_ripe, w_room, w_tables⟩
theorem atStart : AtStart classFile x code maxLocals ret World_1 tables_1 room_1 Calls_1 rest_1 Pre_1 launch0 p0 e0 about1 theMethod args0 below0 :=
  ⟨lists_1, trivial, launch0.admits_env _ _ _, launch0.least_env, fairChoices_fair.cas, fairChoices_fair.clock, w_frames, w_args, w_heap, w_applies, trivial, trivial, w_case⟩
end start1
theorem witness_1 : WitnessClaimed_1 := ⟨start1.p0, start1.e0, start1.about1, start1.theMethod, start1.args0, start1.below0, start1.atStart⟩
end Jvm.Pilot.@@N@@
