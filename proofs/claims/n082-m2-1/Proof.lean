import JvmDerived
import JvmDerived.Pilot.@@N@@Statement
import JvmDerived.Pilot.@@N@@Code
set_option linter.unusedVariables false
set_option linter.unusedSimpArgs false
@@BLOCK:NumsL.lean.txt@@
namespace Jvm.OwnGo
open Jvm Jvm.ClassFile Sem Op Lib Jvm.Free Jvm.Stand Jvm.LawKit Jvm.RoadKit
/-- from T with the frame g on top the run comes to an end of which En holds -/
def Go (p : Program) (e : Env) (below : List Frame) (En : State → Outcome → Prop) (T : State) (g : JFrame) : Prop :=
  ∃ t o, Steps p.tables e below (T.setTop g) t ∧ t.status = .running ∧ Ended t below o ∧ En t o
/-- it has returned; the value, the heap and the written places meet Q; at most C cells and S slots were made since s -/
def EndN (s : State) (Q : Option Value → Heap → List Loc → Prop) (C S : Nat) : State → Outcome → Prop := fun t o => ∃ v L, o = .returned v ∧ Q v t.heap L ∧ FrameEnd s o t L C S
/-- what a callee's own walk promises -/
def Con (l : Launch) (Z : State) (y : MethodName) (bytes : ByteArray) (maxL : Nat) (ret : Option FieldType) (rm : Room) (as : List Value) (h : Heap) (Q : Option Value → Heap → List Loc → Prop) : Prop :=
  ∀ ws : List Jvm.Cond, MetFree l y (head1 (Jvm.Cond.code y bytes maxL ret :: ws) rm) (fun a U => a = as.toArray ∧ Z.Warmed39 U.vm ∧ U.heap = h) (fun _ _ _ _ _ => True) (fun _ U o U' => ∃ v L, o = .returned v ∧ Q v U'.heap L ∧ FrameEnd U o U' L rm.cells rm.slots)
/-- it returns r and leaves the heap as it was -/
def Ret (r : Option Value) (h : Heap) : Option Value → Heap → List Loc → Prop := fun v h' L => v = r ∧ h' = h ∧ L = []
section Own
variable {p : Program} {l : Launch} {e : Env} {R : Room} {s : State} {m : MethodId} {args : Array Value} {below : List Frame} {meth : Method} {c : Code} {T : State} {locs : List Loc} {cells slots : Nat} {Z : State} {a0 : Array Value} {h : Heap} {Q : Option Value → Heap → List Loc → Prop} {C S : Nat} {En : State → Outcome → Prop} {pc : Nat} {Ls : Array Slot} {st : List Value}
theorem Go.of {T' : State} {g g' : JFrame} (k : ∀ t, Steps p.tables e below (T'.setTop g') t → Steps p.tables e below (T.setTop g) t) (r : Go p e below En T' g') : Go p e below En T g := by
  obtain ⟨t, o, h1, r⟩ := r
  exact ⟨t, o, k t h1, r⟩
theorem Con.of {y : MethodName} {bytes : ByteArray} {maxL : Nat} {ret : Option FieldType} {rm : Room} {as : List Value} {Ls0 : Array Slot} (hp : plainFor y = true) (ef : ∀ m, entryFrame m as.toArray maxL = mkF m 0 Ls0 [])
    (body : ∀ (p : Program) (e : Env) (s : State) (m : MethodId) (below : List Frame) (meth : Method) (c : Code) (T : State), Stand p l e rm s m as.toArray below meth c T [] 0 0 → p.tables.exec = Jvm.exec → Z.Warmed39 s.vm → c.code = bytes → c.maxLocals = maxL → s.vm.findClass y.cls = some m.cls → meth.name = y.name → meth.sig.returnType = ret → meth.locks = false → T.heap = h → Go p e below (EndN s Q rm.cells rm.slots) T (mkF m 0 Ls0 [])) :
    Con l Z y bytes maxL ret rm as h Q := by
  intro ws
  refine MetFree.of_bodySF hp hisR ?_
  intro p e s m args below meth c s₁ Bd hml0 hP hK
  obtain ⟨rfl, hZ, hh⟩ := hP
  have X0 : Stand p l e rm s m as.toArray below meth c s₁ [] 0 0 := Stand.of_body Bd
  have e0 : s₁.heap = h := by rw [← hh, Bd.state]; rfl
  obtain ⟨t, o, h1, r⟩ := body p e s m below meth c s₁ X0 Bd.exec hZ Bd.bytes hml0 (findClass_of_methodNamed Bd.named) (name_of_methodNamed Bd.named Bd.method).1 Bd.returns Bd.notSynchronized e0
  exact ⟨t, o, castTop (ef m) h1, r⟩
theorem iloadN (X : Stand p l e R s m args below meth c T locs cells slots) (hx : p.tables.exec = Jvm.exec) {k : Fin 4} {v : Int32} (hd : decode c.code pc = .ok (.iload_n k, 1)) (hl : Ls[k.val]? = some (.val (.int v))) (r : Go p e below En T (mkF m (pc + 1) Ls (.int v :: st))) : Go p e below En T (mkF m pc Ls st) :=
  Go.of (fun t k => XS.iloadN (g := mkF m pc Ls st) X.here hx rfl hd hl k) r
theorem lloadN (X : Stand p l e R s m args below meth c T locs cells slots) (hx : p.tables.exec = Jvm.exec) {k : Fin 4} {v : Int64} (hd : decode c.code pc = .ok (.lload_n k, 1)) (hl : Ls[k.val]? = some (.val (.long v))) (r : Go p e below En T (mkF m (pc + 1) Ls (.long v :: st))) : Go p e below En T (mkF m pc Ls st) :=
  Go.of (fun t k => XS.lloadN (g := mkF m pc Ls st) X.here hx rfl hd hl k) r
theorem aloadN (X : Stand p l e R s m args below meth c T locs cells slots) (hx : p.tables.exec = Jvm.exec) {k : Fin 4} {v : Value} (hd : decode c.code pc = .ok (.aload_n k, 1)) (hl : Ls[k.val]? = some (.val v)) (hv : v.isRef = true) (r : Go p e below En T (mkF m (pc + 1) Ls (v :: st))) : Go p e below En T (mkF m pc Ls st) :=
  Go.of (fun t k => XS.aloadN (g := mkF m pc Ls st) X.here hx rfl hd hl hv k) r
theorem istoreN (X : Stand p l e R s m args below meth c T locs cells slots) (hx : p.tables.exec = Jvm.exec) {k : Fin 4} {v : Int32} {Ls' : Array Slot} (hd : decode c.code pc = .ok (.istore_n k, 1)) (hl : storeLocals Ls k.val (.int v) = some Ls') (r : Go p e below En T (mkF m (pc + 1) Ls' st)) : Go p e below En T (mkF m pc Ls (.int v :: st)) :=
  Go.of (fun t k => XS.istoreN (g := mkF m pc Ls (.int v :: st)) X.here hx rfl hd rfl hl k) r
theorem lstoreN (X : Stand p l e R s m args below meth c T locs cells slots) (hx : p.tables.exec = Jvm.exec) {k : Fin 4} {v : Int64} {Ls' : Array Slot} (hd : decode c.code pc = .ok (.lstore_n k, 1)) (hl : storeLocals Ls k.val (.long v) = some Ls') (r : Go p e below En T (mkF m (pc + 1) Ls' st)) : Go p e below En T (mkF m pc Ls (.long v :: st)) :=
  Go.of (fun t k => XS.lstoreN (g := mkF m pc Ls (.long v :: st)) X.here hx rfl hd rfl hl k) r
theorem astoreN (X : Stand p l e R s m args below meth c T locs cells slots) (hx : p.tables.exec = Jvm.exec) {k : Fin 4} {v : Value} {Ls' : Array Slot} (hd : decode c.code pc = .ok (.astore_n k, 1)) (hv : v.isRef = true) (hl : storeLocals Ls k.val v = some Ls') (r : Go p e below En T (mkF m (pc + 1) Ls' st)) : Go p e below En T (mkF m pc Ls (v :: st)) :=
  Go.of (fun t k => XS.astoreN (g := mkF m pc Ls (v :: st)) X.here hx rfl hd rfl hv hl k) r
theorem iload (X : Stand p l e R s m args below meth c T locs cells slots) (hx : p.tables.exec = Jvm.exec) {k : Nat} {v : Int32} (hd : decode c.code pc = .ok (.iload k, 2)) (hl : Ls[k]? = some (.val (.int v))) (r : Go p e below En T (mkF m (pc + 2) Ls (.int v :: st))) : Go p e below En T (mkF m pc Ls st) :=
  Go.of (fun t k => XS.iload (g := mkF m pc Ls st) X.here hx rfl hd hl k) r
theorem lload (X : Stand p l e R s m args below meth c T locs cells slots) (hx : p.tables.exec = Jvm.exec) {k : Nat} {v : Int64} (hd : decode c.code pc = .ok (.lload k, 2)) (hl : Ls[k]? = some (.val (.long v))) (r : Go p e below En T (mkF m (pc + 2) Ls (.long v :: st))) : Go p e below En T (mkF m pc Ls st) :=
  Go.of (fun t k => XS.lload (g := mkF m pc Ls st) X.here hx rfl hd hl k) r
theorem aload (X : Stand p l e R s m args below meth c T locs cells slots) (hx : p.tables.exec = Jvm.exec) {k : Nat} {v : Value} (hd : decode c.code pc = .ok (.aload k, 2)) (hl : Ls[k]? = some (.val v)) (hv : v.isRef = true) (r : Go p e below En T (mkF m (pc + 2) Ls (v :: st))) : Go p e below En T (mkF m pc Ls st) :=
  Go.of (fun t k => XS.aload (g := mkF m pc Ls st) X.here hx rfl hd hl hv k) r
theorem istore (X : Stand p l e R s m args below meth c T locs cells slots) (hx : p.tables.exec = Jvm.exec) {k : Nat} {v : Int32} {Ls' : Array Slot} (hd : decode c.code pc = .ok (.istore k, 2)) (hl : storeLocals Ls k (.int v) = some Ls') (r : Go p e below En T (mkF m (pc + 2) Ls' st)) : Go p e below En T (mkF m pc Ls (.int v :: st)) :=
  Go.of (fun t k => XS.istore (g := mkF m pc Ls (.int v :: st)) X.here hx rfl hd rfl hl k) r
theorem lstore (X : Stand p l e R s m args below meth c T locs cells slots) (hx : p.tables.exec = Jvm.exec) {k : Nat} {v : Int64} {Ls' : Array Slot} (hd : decode c.code pc = .ok (.lstore k, 2)) (hl : storeLocals Ls k (.long v) = some Ls') (r : Go p e below En T (mkF m (pc + 2) Ls' st)) : Go p e below En T (mkF m pc Ls (.long v :: st)) :=
  Go.of (fun t k => XS.lstore (g := mkF m pc Ls (.long v :: st)) X.here hx rfl hd rfl hl k) r
theorem astore (X : Stand p l e R s m args below meth c T locs cells slots) (hx : p.tables.exec = Jvm.exec) {k : Nat} {v : Value} {Ls' : Array Slot} (hd : decode c.code pc = .ok (.astore k, 2)) (hv : v.isRef = true) (hl : storeLocals Ls k v = some Ls') (r : Go p e below En T (mkF m (pc + 2) Ls' st)) : Go p e below En T (mkF m pc Ls (v :: st)) :=
  Go.of (fun t k => XS.astore (g := mkF m pc Ls (v :: st)) X.here hx rfl hd rfl hv hl k) r
theorem iconst (X : Stand p l e R s m args below meth c T locs cells slots) (hx : p.tables.exec = Jvm.exec) {i : Int} {z : Int32} (hd : decode c.code pc = .ok (.iconst i, 1)) (hz : Int32.ofInt i = z) (r : Go p e below En T (mkF m (pc + 1) Ls (.int z :: st))) : Go p e below En T (mkF m pc Ls st) :=
  Go.of (fun t k => XS.iconst (g := mkF m pc Ls st) X.here hx rfl hd (by rw [hz]; exact k)) r
theorem bipush (X : Stand p l e R s m args below meth c T locs cells slots) (hx : p.tables.exec = Jvm.exec) {i : Int} {z : Int32} (hd : decode c.code pc = .ok (.bipush i, 2)) (hz : (Int8.ofInt i).toInt32 = z) (r : Go p e below En T (mkF m (pc + 2) Ls (.int z :: st))) : Go p e below En T (mkF m pc Ls st) :=
  Go.of (fun t k => XS.bipush (g := mkF m pc Ls st) X.here hx rfl hd (by rw [hz]; exact k)) r
theorem sipush (X : Stand p l e R s m args below meth c T locs cells slots) (hx : p.tables.exec = Jvm.exec) {i : Int} {z : Int32} (hd : decode c.code pc = .ok (.sipush i, 3)) (hz : (Int16.ofInt i).toInt32 = z) (r : Go p e below En T (mkF m (pc + 3) Ls (.int z :: st))) : Go p e below En T (mkF m pc Ls st) :=
  Go.of (fun t k => XS.sipush (g := mkF m pc Ls st) X.here hx rfl hd (by rw [hz]; exact k)) r
theorem lconst (X : Stand p l e R s m args below meth c T locs cells slots) (hx : p.tables.exec = Jvm.exec) {i : Fin 2} {v : Int64} (hd : decode c.code pc = .ok (.lconst i, 1)) (hv : Int64.ofNat i.val = v) (r : Go p e below En T (mkF m (pc + 1) Ls (.long v :: st))) : Go p e below En T (mkF m pc Ls st) :=
  Go.of (fun t k => XS.lconst (g := mkF m pc Ls st) X.here hx rfl hd (by rw [hv]; exact k)) r
theorem aconstNull (X : Stand p l e R s m args below meth c T locs cells slots) (hx : p.tables.exec = Jvm.exec)  (hd : decode c.code pc = .ok (.aconst_null, 1))  (r : Go p e below En T (mkF m (pc + 1) Ls (.null :: st))) : Go p e below En T (mkF m pc Ls st) :=
  Go.of (fun t k => XS.aconstNull (g := mkF m pc Ls st) X.here hx rfl hd k) r
theorem iadd (X : Stand p l e R s m args below meth c T locs cells slots) (hx : p.tables.exec = Jvm.exec) {x y z : Int32} (hd : decode c.code pc = .ok (.iadd, 1)) (hz : x + y = z) (r : Go p e below En T (mkF m (pc + 1) Ls (.int z :: st))) : Go p e below En T (mkF m pc Ls (.int y :: .int x :: st)) :=
  Go.of (fun t k => XS.iadd (g := mkF m pc Ls (.int y :: .int x :: st)) X.here hx rfl hd rfl (by rw [hz]; exact k)) r
theorem isub (X : Stand p l e R s m args below meth c T locs cells slots) (hx : p.tables.exec = Jvm.exec) {x y z : Int32} (hd : decode c.code pc = .ok (.isub, 1)) (hz : x - y = z) (r : Go p e below En T (mkF m (pc + 1) Ls (.int z :: st))) : Go p e below En T (mkF m pc Ls (.int y :: .int x :: st)) :=
  Go.of (fun t k => XS.isub (g := mkF m pc Ls (.int y :: .int x :: st)) X.here hx rfl hd rfl (by rw [hz]; exact k)) r
theorem imul (X : Stand p l e R s m args below meth c T locs cells slots) (hx : p.tables.exec = Jvm.exec) {x y z : Int32} (hd : decode c.code pc = .ok (.imul, 1)) (hz : x * y = z) (r : Go p e below En T (mkF m (pc + 1) Ls (.int z :: st))) : Go p e below En T (mkF m pc Ls (.int y :: .int x :: st)) :=
  Go.of (fun t k => XS.imul (g := mkF m pc Ls (.int y :: .int x :: st)) X.here hx rfl hd rfl (by rw [hz]; exact k)) r
theorem iand (X : Stand p l e R s m args below meth c T locs cells slots) (hx : p.tables.exec = Jvm.exec) {x y z : Int32} (hd : decode c.code pc = .ok (.iand, 1)) (hz : x &&& y = z) (r : Go p e below En T (mkF m (pc + 1) Ls (.int z :: st))) : Go p e below En T (mkF m pc Ls (.int y :: .int x :: st)) :=
  Go.of (fun t k => XS.iand (g := mkF m pc Ls (.int y :: .int x :: st)) X.here hx rfl hd rfl (by rw [hz]; exact k)) r
theorem ior (X : Stand p l e R s m args below meth c T locs cells slots) (hx : p.tables.exec = Jvm.exec) {x y z : Int32} (hd : decode c.code pc = .ok (.ior, 1)) (hz : x ||| y = z) (r : Go p e below En T (mkF m (pc + 1) Ls (.int z :: st))) : Go p e below En T (mkF m pc Ls (.int y :: .int x :: st)) :=
  Go.of (fun t k => XS.ior (g := mkF m pc Ls (.int y :: .int x :: st)) X.here hx rfl hd rfl (by rw [hz]; exact k)) r
theorem ixor (X : Stand p l e R s m args below meth c T locs cells slots) (hx : p.tables.exec = Jvm.exec) {x y z : Int32} (hd : decode c.code pc = .ok (.ixor, 1)) (hz : x ^^^ y = z) (r : Go p e below En T (mkF m (pc + 1) Ls (.int z :: st))) : Go p e below En T (mkF m pc Ls (.int y :: .int x :: st)) :=
  Go.of (fun t k => XS.ixor (g := mkF m pc Ls (.int y :: .int x :: st)) X.here hx rfl hd rfl (by rw [hz]; exact k)) r
theorem ladd (X : Stand p l e R s m args below meth c T locs cells slots) (hx : p.tables.exec = Jvm.exec) {x y z : Int64} (hd : decode c.code pc = .ok (.ladd, 1)) (hz : x + y = z) (r : Go p e below En T (mkF m (pc + 1) Ls (.long z :: st))) : Go p e below En T (mkF m pc Ls (.long y :: .long x :: st)) :=
  Go.of (fun t k => XS.ladd (g := mkF m pc Ls (.long y :: .long x :: st)) X.here hx rfl hd rfl (by rw [hz]; exact k)) r
theorem lsub (X : Stand p l e R s m args below meth c T locs cells slots) (hx : p.tables.exec = Jvm.exec) {x y z : Int64} (hd : decode c.code pc = .ok (.lsub, 1)) (hz : x - y = z) (r : Go p e below En T (mkF m (pc + 1) Ls (.long z :: st))) : Go p e below En T (mkF m pc Ls (.long y :: .long x :: st)) :=
  Go.of (fun t k => XS.lsub (g := mkF m pc Ls (.long y :: .long x :: st)) X.here hx rfl hd rfl (by rw [hz]; exact k)) r
theorem lmul (X : Stand p l e R s m args below meth c T locs cells slots) (hx : p.tables.exec = Jvm.exec) {x y z : Int64} (hd : decode c.code pc = .ok (.lmul, 1)) (hz : x * y = z) (r : Go p e below En T (mkF m (pc + 1) Ls (.long z :: st))) : Go p e below En T (mkF m pc Ls (.long y :: .long x :: st)) :=
  Go.of (fun t k => XS.lmul (g := mkF m pc Ls (.long y :: .long x :: st)) X.here hx rfl hd rfl (by rw [hz]; exact k)) r
theorem land (X : Stand p l e R s m args below meth c T locs cells slots) (hx : p.tables.exec = Jvm.exec) {x y z : Int64} (hd : decode c.code pc = .ok (.land, 1)) (hz : x &&& y = z) (r : Go p e below En T (mkF m (pc + 1) Ls (.long z :: st))) : Go p e below En T (mkF m pc Ls (.long y :: .long x :: st)) :=
  Go.of (fun t k => XS.land (g := mkF m pc Ls (.long y :: .long x :: st)) X.here hx rfl hd rfl (by rw [hz]; exact k)) r
theorem lor (X : Stand p l e R s m args below meth c T locs cells slots) (hx : p.tables.exec = Jvm.exec) {x y z : Int64} (hd : decode c.code pc = .ok (.lor, 1)) (hz : x ||| y = z) (r : Go p e below En T (mkF m (pc + 1) Ls (.long z :: st))) : Go p e below En T (mkF m pc Ls (.long y :: .long x :: st)) :=
  Go.of (fun t k => XS.lor (g := mkF m pc Ls (.long y :: .long x :: st)) X.here hx rfl hd rfl (by rw [hz]; exact k)) r
theorem lxor (X : Stand p l e R s m args below meth c T locs cells slots) (hx : p.tables.exec = Jvm.exec) {x y z : Int64} (hd : decode c.code pc = .ok (.lxor, 1)) (hz : x ^^^ y = z) (r : Go p e below En T (mkF m (pc + 1) Ls (.long z :: st))) : Go p e below En T (mkF m pc Ls (.long y :: .long x :: st)) :=
  Go.of (fun t k => XS.lxor (g := mkF m pc Ls (.long y :: .long x :: st)) X.here hx rfl hd rfl (by rw [hz]; exact k)) r
theorem iushr (X : Stand p l e R s m args below meth c T locs cells slots) (hx : p.tables.exec = Jvm.exec) {x y z : Int32} (hd : decode c.code pc = .ok (.iushr, 1)) (hz : ((x.toUInt32 >>> (y &&& 31).toUInt32).toInt32) = z) (r : Go p e below En T (mkF m (pc + 1) Ls (.int z :: st))) : Go p e below En T (mkF m pc Ls (.int y :: .int x :: st)) :=
  Go.of (fun t k => XS.iushr (g := mkF m pc Ls (.int y :: .int x :: st)) X.here hx rfl hd rfl (by rw [hz]; exact k)) r
theorem ishr (X : Stand p l e R s m args below meth c T locs cells slots) (hx : p.tables.exec = Jvm.exec) {x y z : Int32} (hd : decode c.code pc = .ok (.ishr, 1)) (hz : (x >>> (y &&& 31)) = z) (r : Go p e below En T (mkF m (pc + 1) Ls (.int z :: st))) : Go p e below En T (mkF m pc Ls (.int y :: .int x :: st)) :=
  Go.of (fun t k => XS.ishr (g := mkF m pc Ls (.int y :: .int x :: st)) X.here hx rfl hd rfl (by rw [hz]; exact k)) r
theorem ishl (X : Stand p l e R s m args below meth c T locs cells slots) (hx : p.tables.exec = Jvm.exec) {x y z : Int32} (hd : decode c.code pc = .ok (.ishl, 1)) (hz : (x <<< (y &&& 31)) = z) (r : Go p e below En T (mkF m (pc + 1) Ls (.int z :: st))) : Go p e below En T (mkF m pc Ls (.int y :: .int x :: st)) :=
  Go.of (fun t k => XS.ishl (g := mkF m pc Ls (.int y :: .int x :: st)) X.here hx rfl hd rfl (by rw [hz]; exact k)) r
theorem irem (X : Stand p l e R s m args below meth c T locs cells slots) (hx : p.tables.exec = Jvm.exec) {x y z : Int32} (hd : decode c.code pc = .ok (.irem, 1)) (hy : y ≠ 0) (hz : x % y = z) (r : Go p e below En T (mkF m (pc + 1) Ls (.int z :: st))) : Go p e below En T (mkF m pc Ls (.int y :: .int x :: st)) :=
  Go.of (fun t k => iremM (g := mkF m pc Ls (.int y :: .int x :: st)) X hx rfl hd rfl hy (by rw [hz]; exact k)) r
theorem i2l (X : Stand p l e R s m args below meth c T locs cells slots) (hx : p.tables.exec = Jvm.exec) {x : Int32} {z : Int64} (hd : decode c.code pc = .ok (.i2l, 1)) (hz : x.toInt64 = z) (r : Go p e below En T (mkF m (pc + 1) Ls (.long z :: st))) : Go p e below En T (mkF m pc Ls (.int x :: st)) :=
  Go.of (fun t k => XS.i2l (g := mkF m pc Ls (.int x :: st)) X.here hx rfl hd rfl (by rw [hz]; exact k)) r
theorem l2i (X : Stand p l e R s m args below meth c T locs cells slots) (hx : p.tables.exec = Jvm.exec) {x : Int64} {z : Int32} (hd : decode c.code pc = .ok (.l2i, 1)) (hz : x.toInt32 = z) (r : Go p e below En T (mkF m (pc + 1) Ls (.int z :: st))) : Go p e below En T (mkF m pc Ls (.long x :: st)) :=
  Go.of (fun t k => XS.l2i (g := mkF m pc Ls (.long x :: st)) X.here hx rfl hd rfl (by rw [hz]; exact k)) r
theorem i2c (X : Stand p l e R s m args below meth c T locs cells slots) (hx : p.tables.exec = Jvm.exec) {x : Int32} {z : Int32} (hd : decode c.code pc = .ok (.i2c, 1)) (hz : (x.toUInt32.toUInt16.toUInt32.toInt32) = z) (r : Go p e below En T (mkF m (pc + 1) Ls (.int z :: st))) : Go p e below En T (mkF m pc Ls (.int x :: st)) :=
  Go.of (fun t k => XS.i2c (g := mkF m pc Ls (.int x :: st)) X.here hx rfl hd rfl (by rw [hz]; exact k)) r
theorem i2b (X : Stand p l e R s m args below meth c T locs cells slots) (hx : p.tables.exec = Jvm.exec) {x : Int32} {z : Int32} (hd : decode c.code pc = .ok (.i2b, 1)) (hz : (x.toInt8.toInt32) = z) (r : Go p e below En T (mkF m (pc + 1) Ls (.int z :: st))) : Go p e below En T (mkF m pc Ls (.int x :: st)) :=
  Go.of (fun t k => XS.i2b (g := mkF m pc Ls (.int x :: st)) X.here hx rfl hd rfl (by rw [hz]; exact k)) r
theorem dup (X : Stand p l e R s m args below meth c T locs cells slots) (hx : p.tables.exec = Jvm.exec) {v : Value} (hd : decode c.code pc = .ok (.dup, 1)) (hc : v.category = 1) (r : Go p e below En T (mkF m (pc + 1) Ls (v :: v :: st))) : Go p e below En T (mkF m pc Ls (v :: st)) :=
  Go.of (fun t k => XS.dup (g := mkF m pc Ls (v :: st)) X.here hx rfl hd rfl hc k) r
theorem pop (X : Stand p l e R s m args below meth c T locs cells slots) (hx : p.tables.exec = Jvm.exec) {v : Value} (hd : decode c.code pc = .ok (.pop, 1)) (hc : v.category = 1) (r : Go p e below En T (mkF m (pc + 1) Ls st)) : Go p e below En T (mkF m pc Ls (v :: st)) :=
  Go.of (fun t k => XS.pop (g := mkF m pc Ls (v :: st)) X.here hx rfl hd rfl hc k) r
theorem iinc (X : Stand p l e R s m args below meth c T locs cells slots) (hx : p.tables.exec = Jvm.exec) {k : Nat} {i : Int} {v z : Int32} {Ls' : Array Slot} (hd : decode c.code pc = .ok (.iinc k i, 3)) (hl : Ls[k]? = some (.val (.int v))) (hz : v + Int32.ofInt i = z) (hl' : storeLocals Ls k (.int z) = some Ls') (r : Go p e below En T (mkF m (pc + 3) Ls' st)) : Go p e below En T (mkF m pc Ls st) :=
  Go.of (fun t k => XS.iinc (g := mkF m pc Ls st) X.here hx rfl hd hl (by rw [hz]; exact hl') k) r
theorem goto (X : Stand p l e R s m args below meth c T locs cells slots) (hx : p.tables.exec = Jvm.exec) {o : Int} {pc' : Nat} (hd : decode c.code pc = .ok (.goto o, 3)) (ho : 0 ≤ (pc : Int) + o) (hp : ((pc : Int) + o).toNat = pc') (r : Go p e below En T (mkF m pc' Ls st)) : Go p e below En T (mkF m pc Ls st) :=
  Go.of (fun t k => XS.goto (g := mkF m pc Ls st) X.here hx rfl rfl hd ho hp k) r
theorem ic_eq (X : Stand p l e R s m args below meth c T locs cells slots) (hx : p.tables.exec = Jvm.exec) {o : Int} {pc' : Nat} {x y : Int32} (hd : decode c.code pc = .ok (.if_icmp .eq o, 3)) (ho : 0 ≤ (pc : Int) + o) (hp : ((pc : Int) + o).toNat = pc') (yes : x = y → Go p e below En T (mkF m pc' Ls st)) (no : ¬ (x = y) → Go p e below En T (mkF m (pc + 3) Ls st)) : Go p e below En T (mkF m pc Ls (.int y :: .int x :: st)) := by
  by_cases q : x = y
  · exact Go.of (fun t k => XS.icmpYes (g := mkF m pc Ls (.int y :: .int x :: st)) X.here hx rfl rfl hd rfl (teq q).1 ho hp k) (yes q)
  · exact Go.of (fun t k => XS.icmpNo (g := mkF m pc Ls (.int y :: .int x :: st)) X.here hx rfl hd rfl (feq q).1 k) (no q)
theorem if_eq (X : Stand p l e R s m args below meth c T locs cells slots) (hx : p.tables.exec = Jvm.exec) {o : Int} {pc' : Nat} {x : Int32} (hd : decode c.code pc = .ok (.ifCond .eq o, 3)) (ho : 0 ≤ (pc : Int) + o) (hp : ((pc : Int) + o).toNat = pc') (yes : x = 0 → Go p e below En T (mkF m pc' Ls st)) (no : ¬ (x = 0) → Go p e below En T (mkF m (pc + 3) Ls st)) : Go p e below En T (mkF m pc Ls (.int x :: st)) := by
  by_cases q : x = 0
  · exact Go.of (fun t k => XS.ifYes (g := mkF m pc Ls (.int x :: st)) X.here hx rfl rfl hd rfl ((if0 _ _).trans (teq q).1) ho hp k) (yes q)
  · exact Go.of (fun t k => XS.ifNo (g := mkF m pc Ls (.int x :: st)) X.here hx rfl hd rfl ((if0 _ _).trans (feq q).1) k) (no q)
theorem ic_ne (X : Stand p l e R s m args below meth c T locs cells slots) (hx : p.tables.exec = Jvm.exec) {o : Int} {pc' : Nat} {x y : Int32} (hd : decode c.code pc = .ok (.if_icmp .ne o, 3)) (ho : 0 ≤ (pc : Int) + o) (hp : ((pc : Int) + o).toNat = pc') (yes : ¬ (x = y) → Go p e below En T (mkF m pc' Ls st)) (no : x = y → Go p e below En T (mkF m (pc + 3) Ls st)) : Go p e below En T (mkF m pc Ls (.int y :: .int x :: st)) := by
  by_cases q : x = y
  · exact Go.of (fun t k => XS.icmpNo (g := mkF m pc Ls (.int y :: .int x :: st)) X.here hx rfl hd rfl (teq q).2 k) (no q)
  · exact Go.of (fun t k => XS.icmpYes (g := mkF m pc Ls (.int y :: .int x :: st)) X.here hx rfl rfl hd rfl (feq q).2 ho hp k) (yes q)
theorem if_ne (X : Stand p l e R s m args below meth c T locs cells slots) (hx : p.tables.exec = Jvm.exec) {o : Int} {pc' : Nat} {x : Int32} (hd : decode c.code pc = .ok (.ifCond .ne o, 3)) (ho : 0 ≤ (pc : Int) + o) (hp : ((pc : Int) + o).toNat = pc') (yes : ¬ (x = 0) → Go p e below En T (mkF m pc' Ls st)) (no : x = 0 → Go p e below En T (mkF m (pc + 3) Ls st)) : Go p e below En T (mkF m pc Ls (.int x :: st)) := by
  by_cases q : x = 0
  · exact Go.of (fun t k => XS.ifNo (g := mkF m pc Ls (.int x :: st)) X.here hx rfl hd rfl ((if0 _ _).trans (teq q).2) k) (no q)
  · exact Go.of (fun t k => XS.ifYes (g := mkF m pc Ls (.int x :: st)) X.here hx rfl rfl hd rfl ((if0 _ _).trans (feq q).2) ho hp k) (yes q)
theorem ic_lt (X : Stand p l e R s m args below meth c T locs cells slots) (hx : p.tables.exec = Jvm.exec) {o : Int} {pc' : Nat} {x y : Int32} (hd : decode c.code pc = .ok (.if_icmp .lt o, 3)) (ho : 0 ≤ (pc : Int) + o) (hp : ((pc : Int) + o).toNat = pc') (yes : x < y → Go p e below En T (mkF m pc' Ls st)) (no : ¬ (x < y) → Go p e below En T (mkF m (pc + 3) Ls st)) : Go p e below En T (mkF m pc Ls (.int y :: .int x :: st)) := by
  by_cases q : x < y
  · exact Go.of (fun t k => XS.icmpYes (g := mkF m pc Ls (.int y :: .int x :: st)) X.here hx rfl rfl hd rfl (tlt q).1 ho hp k) (yes q)
  · exact Go.of (fun t k => XS.icmpNo (g := mkF m pc Ls (.int y :: .int x :: st)) X.here hx rfl hd rfl (flt q).1 k) (no q)
theorem if_lt (X : Stand p l e R s m args below meth c T locs cells slots) (hx : p.tables.exec = Jvm.exec) {o : Int} {pc' : Nat} {x : Int32} (hd : decode c.code pc = .ok (.ifCond .lt o, 3)) (ho : 0 ≤ (pc : Int) + o) (hp : ((pc : Int) + o).toNat = pc') (yes : x < 0 → Go p e below En T (mkF m pc' Ls st)) (no : ¬ (x < 0) → Go p e below En T (mkF m (pc + 3) Ls st)) : Go p e below En T (mkF m pc Ls (.int x :: st)) := by
  by_cases q : x < 0
  · exact Go.of (fun t k => XS.ifYes (g := mkF m pc Ls (.int x :: st)) X.here hx rfl rfl hd rfl ((if0 _ _).trans (tlt q).1) ho hp k) (yes q)
  · exact Go.of (fun t k => XS.ifNo (g := mkF m pc Ls (.int x :: st)) X.here hx rfl hd rfl ((if0 _ _).trans (flt q).1) k) (no q)
theorem ic_ge (X : Stand p l e R s m args below meth c T locs cells slots) (hx : p.tables.exec = Jvm.exec) {o : Int} {pc' : Nat} {x y : Int32} (hd : decode c.code pc = .ok (.if_icmp .ge o, 3)) (ho : 0 ≤ (pc : Int) + o) (hp : ((pc : Int) + o).toNat = pc') (yes : ¬ (x < y) → Go p e below En T (mkF m pc' Ls st)) (no : x < y → Go p e below En T (mkF m (pc + 3) Ls st)) : Go p e below En T (mkF m pc Ls (.int y :: .int x :: st)) := by
  by_cases q : x < y
  · exact Go.of (fun t k => XS.icmpNo (g := mkF m pc Ls (.int y :: .int x :: st)) X.here hx rfl hd rfl (tlt q).2.1 k) (no q)
  · exact Go.of (fun t k => XS.icmpYes (g := mkF m pc Ls (.int y :: .int x :: st)) X.here hx rfl rfl hd rfl (flt q).2.1 ho hp k) (yes q)
theorem if_ge (X : Stand p l e R s m args below meth c T locs cells slots) (hx : p.tables.exec = Jvm.exec) {o : Int} {pc' : Nat} {x : Int32} (hd : decode c.code pc = .ok (.ifCond .ge o, 3)) (ho : 0 ≤ (pc : Int) + o) (hp : ((pc : Int) + o).toNat = pc') (yes : ¬ (x < 0) → Go p e below En T (mkF m pc' Ls st)) (no : x < 0 → Go p e below En T (mkF m (pc + 3) Ls st)) : Go p e below En T (mkF m pc Ls (.int x :: st)) := by
  by_cases q : x < 0
  · exact Go.of (fun t k => XS.ifNo (g := mkF m pc Ls (.int x :: st)) X.here hx rfl hd rfl ((if0 _ _).trans (tlt q).2.1) k) (no q)
  · exact Go.of (fun t k => XS.ifYes (g := mkF m pc Ls (.int x :: st)) X.here hx rfl rfl hd rfl ((if0 _ _).trans (flt q).2.1) ho hp k) (yes q)
theorem ic_gt (X : Stand p l e R s m args below meth c T locs cells slots) (hx : p.tables.exec = Jvm.exec) {o : Int} {pc' : Nat} {x y : Int32} (hd : decode c.code pc = .ok (.if_icmp .gt o, 3)) (ho : 0 ≤ (pc : Int) + o) (hp : ((pc : Int) + o).toNat = pc') (yes : y < x → Go p e below En T (mkF m pc' Ls st)) (no : ¬ (y < x) → Go p e below En T (mkF m (pc + 3) Ls st)) : Go p e below En T (mkF m pc Ls (.int y :: .int x :: st)) := by
  by_cases q : y < x
  · exact Go.of (fun t k => XS.icmpYes (g := mkF m pc Ls (.int y :: .int x :: st)) X.here hx rfl rfl hd rfl (tlt q).2.2.1 ho hp k) (yes q)
  · exact Go.of (fun t k => XS.icmpNo (g := mkF m pc Ls (.int y :: .int x :: st)) X.here hx rfl hd rfl (flt q).2.2.1 k) (no q)
theorem if_gt (X : Stand p l e R s m args below meth c T locs cells slots) (hx : p.tables.exec = Jvm.exec) {o : Int} {pc' : Nat} {x : Int32} (hd : decode c.code pc = .ok (.ifCond .gt o, 3)) (ho : 0 ≤ (pc : Int) + o) (hp : ((pc : Int) + o).toNat = pc') (yes : 0 < x → Go p e below En T (mkF m pc' Ls st)) (no : ¬ (0 < x) → Go p e below En T (mkF m (pc + 3) Ls st)) : Go p e below En T (mkF m pc Ls (.int x :: st)) := by
  by_cases q : 0 < x
  · exact Go.of (fun t k => XS.ifYes (g := mkF m pc Ls (.int x :: st)) X.here hx rfl rfl hd rfl ((if0 _ _).trans (tlt q).2.2.1) ho hp k) (yes q)
  · exact Go.of (fun t k => XS.ifNo (g := mkF m pc Ls (.int x :: st)) X.here hx rfl hd rfl ((if0 _ _).trans (flt q).2.2.1) k) (no q)
theorem ic_le (X : Stand p l e R s m args below meth c T locs cells slots) (hx : p.tables.exec = Jvm.exec) {o : Int} {pc' : Nat} {x y : Int32} (hd : decode c.code pc = .ok (.if_icmp .le o, 3)) (ho : 0 ≤ (pc : Int) + o) (hp : ((pc : Int) + o).toNat = pc') (yes : ¬ (y < x) → Go p e below En T (mkF m pc' Ls st)) (no : y < x → Go p e below En T (mkF m (pc + 3) Ls st)) : Go p e below En T (mkF m pc Ls (.int y :: .int x :: st)) := by
  by_cases q : y < x
  · exact Go.of (fun t k => XS.icmpNo (g := mkF m pc Ls (.int y :: .int x :: st)) X.here hx rfl hd rfl (tlt q).2.2.2 k) (no q)
  · exact Go.of (fun t k => XS.icmpYes (g := mkF m pc Ls (.int y :: .int x :: st)) X.here hx rfl rfl hd rfl (flt q).2.2.2 ho hp k) (yes q)
theorem if_le (X : Stand p l e R s m args below meth c T locs cells slots) (hx : p.tables.exec = Jvm.exec) {o : Int} {pc' : Nat} {x : Int32} (hd : decode c.code pc = .ok (.ifCond .le o, 3)) (ho : 0 ≤ (pc : Int) + o) (hp : ((pc : Int) + o).toNat = pc') (yes : ¬ (0 < x) → Go p e below En T (mkF m pc' Ls st)) (no : 0 < x → Go p e below En T (mkF m (pc + 3) Ls st)) : Go p e below En T (mkF m pc Ls (.int x :: st)) := by
  by_cases q : 0 < x
  · exact Go.of (fun t k => XS.ifNo (g := mkF m pc Ls (.int x :: st)) X.here hx rfl hd rfl ((if0 _ _).trans (tlt q).2.2.2) k) (no q)
  · exact Go.of (fun t k => XS.ifYes (g := mkF m pc Ls (.int x :: st)) X.here hx rfl rfl hd rfl ((if0 _ _).trans (flt q).2.2.2) ho hp k) (yes q)
theorem own_lc_eq (x y : Int64) : (lcmpW x y = 0) = (x = y) := by rw [lcW]; exact propext (Jvm.RoadKit.lc_eq x y)
theorem own_lc_lt (x y : Int64) : (lcmpW x y < 0) = (x < y) := by rw [lcW]; exact propext (Jvm.RoadKit.lc_lt x y)
theorem own_lc_gt (x y : Int64) : (0 < lcmpW x y) = (y < x) := by rw [lcW]; exact propext (Jvm.RoadKit.lc_gt x y)
theorem lcmp (X : Stand p l e R s m args below meth c T locs cells slots) (hx : p.tables.exec = Jvm.exec) {x y : Int64} (hd : decode c.code pc = .ok (.lcmp, 1))  (r : Go p e below En T (mkF m (pc + 1) Ls (.int (lcmpW x y) :: st))) : Go p e below En T (mkF m pc Ls (.long y :: .long x :: st)) :=
  Go.of (fun t k => XS.lcmp (g := mkF m pc Ls (.long y :: .long x :: st)) X.here hx rfl hd rfl k) r
theorem lc_eq_ (X : Stand p l e R s m args below meth c T locs cells slots) (hx : p.tables.exec = Jvm.exec) {o : Int} {pc' : Nat} {x y : Int64} (hd : decode c.code pc = .ok (.lcmp, 1)) (hd' : decode c.code (pc + 1) = .ok (.ifCond .eq o, 3)) (ho : 0 ≤ ((pc + 1 : Nat) : Int) + o) (hp : (((pc + 1 : Nat) : Int) + o).toNat = pc') (yes : x = y → Go p e below En T (mkF m pc' Ls st)) (no : ¬ (x = y) → Go p e below En T (mkF m (pc + 4) Ls st)) : Go p e below En T (mkF m pc Ls (.long y :: .long x :: st)) :=
  lcmp X hx hd (if_eq X hx hd' ho hp (fun q => yes (by rw [own_lc_eq] at q; exact q)) (fun q => no (by rw [own_lc_eq] at q; exact q)))
theorem lc_ne_ (X : Stand p l e R s m args below meth c T locs cells slots) (hx : p.tables.exec = Jvm.exec) {o : Int} {pc' : Nat} {x y : Int64} (hd : decode c.code pc = .ok (.lcmp, 1)) (hd' : decode c.code (pc + 1) = .ok (.ifCond .ne o, 3)) (ho : 0 ≤ ((pc + 1 : Nat) : Int) + o) (hp : (((pc + 1 : Nat) : Int) + o).toNat = pc') (yes : ¬ (x = y) → Go p e below En T (mkF m pc' Ls st)) (no : x = y → Go p e below En T (mkF m (pc + 4) Ls st)) : Go p e below En T (mkF m pc Ls (.long y :: .long x :: st)) :=
  lcmp X hx hd (if_ne X hx hd' ho hp (fun q => yes (by rw [own_lc_eq] at q; exact q)) (fun q => no (by rw [own_lc_eq] at q; exact q)))
theorem lc_lt_ (X : Stand p l e R s m args below meth c T locs cells slots) (hx : p.tables.exec = Jvm.exec) {o : Int} {pc' : Nat} {x y : Int64} (hd : decode c.code pc = .ok (.lcmp, 1)) (hd' : decode c.code (pc + 1) = .ok (.ifCond .lt o, 3)) (ho : 0 ≤ ((pc + 1 : Nat) : Int) + o) (hp : (((pc + 1 : Nat) : Int) + o).toNat = pc') (yes : x < y → Go p e below En T (mkF m pc' Ls st)) (no : ¬ (x < y) → Go p e below En T (mkF m (pc + 4) Ls st)) : Go p e below En T (mkF m pc Ls (.long y :: .long x :: st)) :=
  lcmp X hx hd (if_lt X hx hd' ho hp (fun q => yes (by rw [own_lc_lt] at q; exact q)) (fun q => no (by rw [own_lc_lt] at q; exact q)))
theorem lc_ge_ (X : Stand p l e R s m args below meth c T locs cells slots) (hx : p.tables.exec = Jvm.exec) {o : Int} {pc' : Nat} {x y : Int64} (hd : decode c.code pc = .ok (.lcmp, 1)) (hd' : decode c.code (pc + 1) = .ok (.ifCond .ge o, 3)) (ho : 0 ≤ ((pc + 1 : Nat) : Int) + o) (hp : (((pc + 1 : Nat) : Int) + o).toNat = pc') (yes : ¬ (x < y) → Go p e below En T (mkF m pc' Ls st)) (no : x < y → Go p e below En T (mkF m (pc + 4) Ls st)) : Go p e below En T (mkF m pc Ls (.long y :: .long x :: st)) :=
  lcmp X hx hd (if_ge X hx hd' ho hp (fun q => yes (by rw [own_lc_lt] at q; exact q)) (fun q => no (by rw [own_lc_lt] at q; exact q)))
theorem lc_gt_ (X : Stand p l e R s m args below meth c T locs cells slots) (hx : p.tables.exec = Jvm.exec) {o : Int} {pc' : Nat} {x y : Int64} (hd : decode c.code pc = .ok (.lcmp, 1)) (hd' : decode c.code (pc + 1) = .ok (.ifCond .gt o, 3)) (ho : 0 ≤ ((pc + 1 : Nat) : Int) + o) (hp : (((pc + 1 : Nat) : Int) + o).toNat = pc') (yes : y < x → Go p e below En T (mkF m pc' Ls st)) (no : ¬ (y < x) → Go p e below En T (mkF m (pc + 4) Ls st)) : Go p e below En T (mkF m pc Ls (.long y :: .long x :: st)) :=
  lcmp X hx hd (if_gt X hx hd' ho hp (fun q => yes (by rw [own_lc_gt] at q; exact q)) (fun q => no (by rw [own_lc_gt] at q; exact q)))
theorem lc_le_ (X : Stand p l e R s m args below meth c T locs cells slots) (hx : p.tables.exec = Jvm.exec) {o : Int} {pc' : Nat} {x y : Int64} (hd : decode c.code pc = .ok (.lcmp, 1)) (hd' : decode c.code (pc + 1) = .ok (.ifCond .le o, 3)) (ho : 0 ≤ ((pc + 1 : Nat) : Int) + o) (hp : (((pc + 1 : Nat) : Int) + o).toNat = pc') (yes : ¬ (y < x) → Go p e below En T (mkF m pc' Ls st)) (no : y < x → Go p e below En T (mkF m (pc + 4) Ls st)) : Go p e below En T (mkF m pc Ls (.long y :: .long x :: st)) :=
  lcmp X hx hd (if_le X hx hd' ho hp (fun q => yes (by rw [own_lc_gt] at q; exact q)) (fun q => no (by rw [own_lc_gt] at q; exact q)))
theorem ac_eq (X : Stand p l e R s m args below meth c T locs cells slots) (hx : p.tables.exec = Jvm.exec) {o : Int} {pc' : Nat} {x y : Value} (hx1 : x.isRef = true) (hy1 : y.isRef = true) (hd : decode c.code pc = .ok (.if_acmp .eq o, 3)) (ho : 0 ≤ (pc : Int) + o) (hp : ((pc : Int) + o).toNat = pc') (yes : x = y → Go p e below En T (mkF m pc' Ls st)) (no : ¬ (x = y) → Go p e below En T (mkF m (pc + 3) Ls st)) : Go p e below En T (mkF m pc Ls (y :: x :: st)) := by
  by_cases q : x = y
  · exact Go.of (fun t k => Jvm.RoadKit.acmp (g := mkF m pc Ls (y :: x :: st)) X hx rfl hx1 hy1 (pc0 := pc) (pc' := pc') (same := true) rfl hd rfl (decide_eq_true q) ho (hp.symm) k) (yes q)
  · exact Go.of (fun t k => Jvm.RoadKit.acmp (g := mkF m pc Ls (y :: x :: st)) X hx rfl hx1 hy1 (pc0 := pc) (pc' := pc + 3) (same := false) rfl hd rfl (decide_eq_false q) ho (rfl) k) (no q)
theorem ac_ne (X : Stand p l e R s m args below meth c T locs cells slots) (hx : p.tables.exec = Jvm.exec) {o : Int} {pc' : Nat} {x y : Value} (hx1 : x.isRef = true) (hy1 : y.isRef = true) (hd : decode c.code pc = .ok (.if_acmp .ne o, 3)) (ho : 0 ≤ (pc : Int) + o) (hp : ((pc : Int) + o).toNat = pc') (yes : ¬ (x = y) → Go p e below En T (mkF m pc' Ls st)) (no : x = y → Go p e below En T (mkF m (pc + 3) Ls st)) : Go p e below En T (mkF m pc Ls (y :: x :: st)) := by
  by_cases q : x = y
  · exact Go.of (fun t k => Jvm.RoadKit.acmp (g := mkF m pc Ls (y :: x :: st)) X hx rfl hx1 hy1 (pc0 := pc) (pc' := pc + 3) (same := true) rfl hd rfl (decide_eq_true q) ho (rfl) k) (no q)
  · exact Go.of (fun t k => Jvm.RoadKit.acmp (g := mkF m pc Ls (y :: x :: st)) X hx rfl hx1 hy1 (pc0 := pc) (pc' := pc') (same := false) rfl hd rfl (decide_eq_false q) ho (hp.symm) k) (yes q)
theorem ifnull_y (X : Stand p l e R s m args below meth c T locs cells slots) (hx : p.tables.exec = Jvm.exec) {o : Int} {pc' : Nat} (hd : decode c.code pc = .ok (.ifnull o, 3)) (ho : 0 ≤ (pc : Int) + o) (hp : ((pc : Int) + o).toNat = pc') (r : Go p e below En T (mkF m pc' Ls st)) : Go p e below En T (mkF m pc Ls (.null :: st)) :=
  Go.of (fun t k => XS.ifnullYes (g := mkF m pc Ls (.null :: st)) X.here hx rfl rfl hd rfl ho hp k) r
theorem ifnull_n (X : Stand p l e R s m args below meth c T locs cells slots) (hx : p.tables.exec = Jvm.exec) {o : Int} {b : Addr} (hd : decode c.code pc = .ok (.ifnull o, 3))  (r : Go p e below En T (mkF m (pc + 3) Ls st)) : Go p e below En T (mkF m pc Ls (.ref b :: st)) :=
  Go.of (fun t k => XS.ifnullNo (g := mkF m pc Ls (.ref b :: st)) X.here hx rfl hd rfl k) r
theorem ifnonnull_y (X : Stand p l e R s m args below meth c T locs cells slots) (hx : p.tables.exec = Jvm.exec) {o : Int} {pc' : Nat} {b : Addr} (hd : decode c.code pc = .ok (.ifnonnull o, 3)) (ho : 0 ≤ (pc : Int) + o) (hp : ((pc : Int) + o).toNat = pc') (r : Go p e below En T (mkF m pc' Ls st)) : Go p e below En T (mkF m pc Ls (.ref b :: st)) :=
  Go.of (fun t k => XS.ifnonnullYes (g := mkF m pc Ls (.ref b :: st)) X.here hx rfl rfl hd rfl ho hp k) r
theorem ifnonnull_n (X : Stand p l e R s m args below meth c T locs cells slots) (hx : p.tables.exec = Jvm.exec) {o : Int} (hd : decode c.code pc = .ok (.ifnonnull o, 3))  (r : Go p e below En T (mkF m (pc + 3) Ls st)) : Go p e below En T (mkF m pc Ls (.null :: st)) :=
  Go.of (fun t k => XS.ifnonnullNo (g := mkF m pc Ls (.null :: st)) X.here hx rfl hd rfl k) r
theorem ldcInt (X : Stand p l e R s m args below meth c T locs cells slots) (hx : p.tables.exec = Jvm.exec) (hZ : Z.Warmed39 s.vm) {own : String} {index : Nat} (hown : s.vm.findClass own = some m.cls) {v : Int32} (w : (Cond.constant own index v).before a0 Z = true) (hd : decode c.code pc = .ok (.ldc index, 2)) (r : Go p e below En T (mkF m (pc + 2) Ls (.int v :: st))) : Go p e below En T (mkF m pc Ls st) :=
  Go.of (fun t k => X.ldcInt hx hown (mvT hZ w) (g := mkF m pc Ls st) rfl hd _ k) r
theorem ldc2Long (X : Stand p l e R s m args below meth c T locs cells slots) (hx : p.tables.exec = Jvm.exec) (hZ : Z.Warmed39 s.vm) {own : String} {index : Nat} (hown : s.vm.findClass own = some m.cls) {v : Int64} (w : (Cond.constantLong own index v).before a0 Z = true) (hd : decode c.code pc = .ok (.ldc2_w index, 3)) (r : Go p e below En T (mkF m (pc + 3) Ls (.long v :: st))) : Go p e below En T (mkF m pc Ls st) :=
  Go.of (fun t k => X.ldc2Long hx hown (mvT hZ w) (g := mkF m pc Ls st) rfl hd _ k) r
theorem getS (X : Stand p l e R s m args below meth c T locs cells slots) (hx : p.tables.exec = Jvm.exec) (hZ : Z.Warmed39 s.vm) {own : String} {index : Nat} (hown : s.vm.findClass own = some m.cls) {R0 O n d host : String} (w : (Cond.fieldLink own index R0 n d).before a0 Z = true ∨ (Cond.fieldLinkNest own index R0 n d host).before a0 Z = true) (via : Via Z R0 O n d) (eT : T.heap = h) {v : Value} (F : Sta Z h O n d v) (hd : decode c.code pc = .ok (.getstatic index, 3)) (r : ∀ T', Stand p l e R s m args below meth c T' locs cells slots → T'.heap = h → Go p e below En T' (mkF m (pc + 3) Ls (v :: st))) : Go p e below En T (mkF m pc Ls st) := by
  obtain ⟨T', X', e', k⟩ := getS2 X hx hZ hown w via eT F (g := mkF m pc Ls st) rfl hd
  exact Go.of k (r T' X' e')
theorem getF (X : Stand p l e R s m args below meth c T locs cells slots) (hx : p.tables.exec = Jvm.exec) (hZ : Z.Warmed39 s.vm) {own : String} {index : Nat} (hown : s.vm.findClass own = some m.cls) {R0 O n d host : String} (w : (Cond.fieldLink own index R0 n d).before a0 Z = true ∨ (Cond.fieldLinkNest own index R0 n d host).before a0 Z = true) (via : Via Z R0 O n d) (eT : T.heap = h) {a : Addr} {v : Value} (F : Fld Z h a O n d v) (hd : decode c.code pc = .ok (.getfield index, 3)) (r : ∀ T', Stand p l e R s m args below meth c T' locs cells slots → T'.heap = h → Go p e below En T' (mkF m (pc + 3) Ls (v :: st))) : Go p e below En T (mkF m pc Ls (.ref a :: st)) := by
  obtain ⟨T', X', e', k⟩ := Jvm.RoadKit.getF X hx hZ hown w via eT F (g := mkF m pc Ls (.ref a :: st)) rfl rfl hd
  exact Go.of k (r T' X' e')
theorem newO (X : Stand p l e R s m args below meth c T locs cells slots) (hx : p.tables.exec = Jvm.exec) (hZ : Z.Warmed39 s.vm) {own : String} {index : Nat} (hown : s.vm.findClass own = some m.cls) {C0 : String} {n : Nat} (w : (Cond.classLink own index C0).before a0 Z = true) (wi : (Cond.instantiable C0 n).before a0 Z = true) (wz : (Cond.initialized C0).before a0 Z = true) (eT : T.heap = h) (hd : decode c.code pc = .ok (.new index, 3)) (hc : cells + 1 ≤ R.cells) (hl : slots + n ≤ R.slots) (r : ∀ T' h' a, a = h.size → Stand p l e R s m args below meth c T' locs (cells + 1) (slots + n) → T'.heap = h' → Ext h h' → Exa Z h' a C0 → (∀ {O nm d : String} {ty : FieldType}, Laid Z a0 C0 O nm d → parseFieldDescriptor d = some ty → Fld Z h' a O nm d (defaultValue ty)) → Go p e below En T' (mkF m (pc + 3) Ls (.ref a :: st))) : Go p e below En T (mkF m pc Ls st) := by
  obtain ⟨T', h', X', e', E', A', D', -, k⟩ := Jvm.RoadKit.newO X hx hZ hown w wi wz eT (g := mkF m pc Ls st) rfl hd hc hl
  exact Go.of k (r T' h' h.size rfl X' e' E' A' D')
theorem initO (X : Stand p l e R s m args below meth c T locs cells slots) (hx : p.tables.exec = Jvm.exec) (hZ : Z.Warmed39 s.vm) {own : String} {index : Nat} (hown : s.vm.findClass own = some m.cls) (w1 : (Cond.methodLink own index Lib.objectInit).before a0 Z = true) (w2 : (Cond.instanceMethod Lib.objectInit).before a0 Z = true) (w3 : (Cond.code Lib.objectInit ⟨#[0xb1]⟩ 1 none).before a0 Z = true) (eT : T.heap = h) (hsize : Ls.size = c.maxLocals) {a : Addr} (hd : decode c.code pc = .ok (.invokespecial index, 3)) (hf : 1 ≤ R.frames) (W : Nat) (hW : (st.map fun v => v.category).sum = W) (hl : W + 12 ≤ R.locals) (r : ∀ T', Stand p l e R s m args below meth c T' locs cells slots → T'.heap = h → Go p e below En T' (mkF m (pc + 3) Ls st)) : Go p e below En T (mkF m pc Ls (.ref a :: st)) := by
  obtain ⟨T', X', e', k⟩ := Jvm.RoadKit.initO X hx hZ hown w1 w2 w3 eT (g := mkF m pc Ls (.ref a :: st)) rfl hsize rfl hd hf (W := W) (by show 2 * 0 + _ ≤ _; rw [hW]; omega) hl
  exact Go.of k (r T' X' e')
theorem putF (X : Stand p l e R s m args below meth c T locs cells slots) (hx : p.tables.exec = Jvm.exec) (hZ : Z.Warmed39 s.vm) {own : String} {index : Nat} (hown : s.vm.findClass own = some m.cls) {R0 O n d host C0 : String} {kk : Nat} {ty : FieldType} (w : (Cond.fieldLink own index R0 n d).before a0 Z = true ∨ (Cond.fieldLinkNest own index R0 n d host).before a0 Z = true) (via : Via Z R0 O n d) (eT : T.heap = h) {a : Addr} {v old : Value} (F : Fld Z h a O n d old) (E : Exa Z h a C0) (L : (Cond.lays C0 O n d).before a0 Z = true ∨ ((Cond.laysFinal C0 O n d).before a0 Z = true ∧ own = O ∧ meth.name = "<init>")) (wi : (Cond.instantiable C0 kk).before a0 Z = true) (hty : parseFieldDescriptor d = some ty) (hn : narrow ty v = v) (hf : fits ty v = true) (hd : decode c.code pc = .ok (.putfield index, 3)) (r : ∀ T' h', Stand p l e R s m args below meth c T' (locs ++ [⟨a, Jvm.RoadKit.slotOf Z O n d⟩]) cells slots → T'.heap = h' → Wr h h' a (Jvm.RoadKit.slotOf Z O n d) v → Go p e below En T' (mkF m (pc + 3) Ls st)) : Go p e below En T (mkF m pc Ls (v :: .ref a :: st)) := by
  obtain ⟨T', h', X', e', W', k⟩ := Jvm.RoadKit.putF X hx hZ hown w via eT F E L wi hty hn hf (g := mkF m pc Ls (v :: .ref a :: st)) rfl rfl hd
  exact Go.of k (r T' h' X' e' W')
theorem newP (X : Stand p l e R s m args below meth c T locs cells slots) (hx : p.tables.exec = Jvm.exec) (hZ : Z.Warmed39 s.vm) {aty : ArrayType} (w : (Cond.arrayClass (newarray.typeOf aty)).before a0 Z = true) (eT : T.heap = h) (hd : decode c.code pc = .ok (.newarray aty, 2)) {n : Int32} (hn : ¬ n < 0) (cap : Nat) (hcap : n.toNatClampNeg ≤ cap) (hb : cap * 8 ≤ 536870912) (hc : cells + 1 ≤ R.cells) (hl : slots + cap ≤ R.slots) (r : ∀ T' h' k a, a = h.size → Stand p l e R s m args below meth c T' locs (cells + 1) (slots + cap) → T'.heap = h' → Ext h h' → Arr Z h' a (newA k (newarray.typeOf aty) n) (newarray.typeOf aty) → Go p e below En T' (mkF m (pc + 2) Ls (.ref a :: st))) : Go p e below En T (mkF m pc Ls (.int n :: st)) := by
  obtain ⟨T', h', k', X', e', E', A', k⟩ := Jvm.RoadKit.newP X hx hZ w eT (g := mkF m pc Ls (.int n :: st)) rfl hd rfl hn hcap hb hc hl
  exact Go.of k (r T' h' k' h.size rfl X' e' E' A')
theorem newR (X : Stand p l e R s m args below meth c T locs cells slots) (hx : p.tables.exec = Jvm.exec) (hZ : Z.Warmed39 s.vm) {own : String} {index : Nat} (hown : s.vm.findClass own = some m.cls) {C0 : String} (w1 : (Cond.classLink own index C0).before a0 Z = true) (w2 : (Cond.arrayOver (.object C0)).before a0 Z = true) (eT : T.heap = h) (hd : decode c.code pc = .ok (.anewarray index, 3)) {n : Int32} (hn : ¬ n < 0) (cap : Nat) (hcap : n.toNatClampNeg ≤ cap) (hb : cap * 8 ≤ 536870912) (hc : cells + 1 ≤ R.cells) (hl : slots + cap ≤ R.slots) (r : ∀ T' h' k a, a = h.size → Stand p l e R s m args below meth c T' locs (cells + 1) (slots + cap) → T'.heap = h' → Ext h h' → Arr Z h' a (newA k (.object C0) n) (.object C0) → Ovr Z k C0 → Go p e below En T' (mkF m (pc + 3) Ls (.ref a :: st))) : Go p e below En T (mkF m pc Ls (.int n :: st)) := by
  obtain ⟨T', h', k', X', e', E', A', O', k⟩ := Jvm.RoadKit.newR X hx hZ hown w1 w2 eT (g := mkF m pc Ls (.int n :: st)) rfl hd rfl hn hcap hb hc hl
  exact Go.of k (r T' h' k' h.size rfl X' e' E' A' O')
theorem stI (X : Stand p l e R s m args below meth c T locs cells slots) (hx : p.tables.exec = Jvm.exec) (hZ : Z.Warmed39 s.vm) (eT : T.heap = h) {a : Addr} {cl : Cell} (A : Arr Z h a cl .int) {j x : Int32} (hj : ¬ (j < 0 ∨ cl.slots.size ≤ j.toNatClampNeg)) (hd : decode c.code pc = .ok (.iastore, 1)) (r : ∀ T' h', Stand p l e R s m args below meth c T' (locs ++ [⟨a, j.toNatClampNeg⟩]) cells slots → T'.heap = h' → Wr h h' a j.toNatClampNeg (.int x) → Go p e below En T' (mkF m (pc + 1) Ls st)) : Go p e below En T (mkF m pc Ls ((.int x) :: .int j :: .ref a :: st)) := by
  obtain ⟨T', h', X', e', W', k⟩ := Jvm.RoadKit.stI X hx hZ eT A hj (g := mkF m pc Ls ((.int x) :: .int j :: .ref a :: st)) rfl rfl hd
  exact Go.of k (r T' h' X' e' W')
theorem stC (X : Stand p l e R s m args below meth c T locs cells slots) (hx : p.tables.exec = Jvm.exec) (hZ : Z.Warmed39 s.vm) (eT : T.heap = h) {a : Addr} {cl : Cell} (A : Arr Z h a cl .char) {j x : Int32} (hj : ¬ (j < 0 ∨ cl.slots.size ≤ j.toNatClampNeg)) (hd : decode c.code pc = .ok (.castore, 1)) (r : ∀ T' h', Stand p l e R s m args below meth c T' (locs ++ [⟨a, j.toNatClampNeg⟩]) cells slots → T'.heap = h' → Wr h h' a j.toNatClampNeg (.int (nar .char x)) → Go p e below En T' (mkF m (pc + 1) Ls st)) : Go p e below En T (mkF m pc Ls ((.int x) :: .int j :: .ref a :: st)) := by
  obtain ⟨T', h', X', e', W', k⟩ := Jvm.RoadKit.stC X hx hZ eT A hj (g := mkF m pc Ls ((.int x) :: .int j :: .ref a :: st)) rfl rfl hd
  exact Go.of k (r T' h' X' e' W')
theorem stR (X : Stand p l e R s m args below meth c T locs cells slots) (hx : p.tables.exec = Jvm.exec) (hZ : Z.Warmed39 s.vm) (eT : T.heap = h) {a : Addr} {cl : Cell} {ty : FieldType} (A : Arr Z h a cl ty) {j : Int32} {v : Value} (hj : ¬ (j < 0 ∨ cl.slots.size ≤ j.toNatClampNeg)) (hty : ty.isReference = true) (F : Sto Z h a v) (hd : decode c.code pc = .ok (.aastore, 1)) (r : ∀ T' h', Stand p l e R s m args below meth c T' (locs ++ [⟨a, j.toNatClampNeg⟩]) cells slots → T'.heap = h' → Wr h h' a j.toNatClampNeg v → Go p e below En T' (mkF m (pc + 1) Ls st)) : Go p e below En T (mkF m pc Ls (v :: .int j :: .ref a :: st)) := by
  obtain ⟨T', h', X', e', W', k⟩ := Jvm.RoadKit.stR X hx hZ eT A hj hty F (g := mkF m pc Ls (v :: .int j :: .ref a :: st)) rfl rfl hd
  exact Go.of k (r T' h' X' e' W')
theorem iaload (X : Stand p l e R s m args below meth c T locs cells slots) (hx : p.tables.exec = Jvm.exec) (hZ : Z.Warmed39 s.vm) (eT : T.heap = h) {a : Addr} {cl : Cell} (A : Arr Z h a cl .int) {j : Int32} {v : Value} (hj : ¬ (j < 0 ∨ cl.slots.size ≤ j.toNatClampNeg)) (hv : cl.slots[j.toNatClampNeg]? = some v) (hd : decode c.code pc = .ok (.iaload, 1)) (r : Go p e below En T (mkF m (pc + 1) Ls (v :: st))) : Go p e below En T (mkF m pc Ls (.int j :: .ref a :: st)) :=
  Go.of (fun t k => X.iaload hx (by rw [eT]; exact A.1) (State.isArrayOf_alike hZ.alike A.2.1) A.2.2 hj hv (g := mkF m pc Ls (.int j :: .ref a :: st)) rfl rfl hd t k) r
theorem caload (X : Stand p l e R s m args below meth c T locs cells slots) (hx : p.tables.exec = Jvm.exec) (hZ : Z.Warmed39 s.vm) (eT : T.heap = h) {a : Addr} {cl : Cell} (A : Arr Z h a cl .char) {j : Int32} {v : Value} (hj : ¬ (j < 0 ∨ cl.slots.size ≤ j.toNatClampNeg)) (hv : cl.slots[j.toNatClampNeg]? = some v) (hd : decode c.code pc = .ok (.caload, 1)) (r : Go p e below En T (mkF m (pc + 1) Ls (v :: st))) : Go p e below En T (mkF m pc Ls (.int j :: .ref a :: st)) :=
  Go.of (fun t k => X.caload hx (by rw [eT]; exact A.1) (State.isArrayOf_alike hZ.alike A.2.1) A.2.2 hj hv (g := mkF m pc Ls (.int j :: .ref a :: st)) rfl rfl hd t k) r
theorem aaload (X : Stand p l e R s m args below meth c T locs cells slots) (hx : p.tables.exec = Jvm.exec) (hZ : Z.Warmed39 s.vm) (eT : T.heap = h) {a : Addr} {cl : Cell} {ty : FieldType} (A : Arr Z h a cl ty) (hty : ty.isReference = true) {j : Int32} {v : Value} (hj : ¬ (j < 0 ∨ cl.slots.size ≤ j.toNatClampNeg)) (hv : cl.slots[j.toNatClampNeg]? = some v) (hd : decode c.code pc = .ok (.aaload, 1)) (r : Go p e below En T (mkF m (pc + 1) Ls (v :: st))) : Go p e below En T (mkF m pc Ls (.int j :: .ref a :: st)) :=
  Go.of (fun t k => X.aaload hx (by rw [eT]; exact A.1) (State.isArrayOf_alike hZ.alike A.2.1) hty A.2.2 hj hv (g := mkF m pc Ls (.int j :: .ref a :: st)) rfl rfl hd t k) r
theorem arraylength (X : Stand p l e R s m args below meth c T locs cells slots) (hx : p.tables.exec = Jvm.exec) (hZ : Z.Warmed39 s.vm) (eT : T.heap = h) {a : Addr} {cl : Cell} {ty : FieldType} (A : Arr Z h a cl ty) {n : Int32} (hn : cl.slots.size.toInt32 = n) (hd : decode c.code pc = .ok (.arraylength, 1)) (r : Go p e below En T (mkF m (pc + 1) Ls (.int n :: st))) : Go p e below En T (mkF m pc Ls (.ref a :: st)) := by
  subst hn
  exact Go.of (fun t k => X.arraylength hx (by rw [eT]; exact A.1) (State.isArrayOf_alike hZ.alike A.2.1) (g := mkF m pc Ls (.ref a :: st)) rfl rfl hd t k) r
theorem retB (X : Stand p l e R s m args below meth c T locs cells slots) (hx : p.tables.exec = Jvm.exec) (hlk : meth.locks = false) {z z' : Int32} (hret : meth.sig.returnType = some .boolean) (hd : decode c.code pc = .ok (.ireturn, 1)) (hz : nar .boolean z = z') (hq : Q (some (.int z')) T.heap locs) (hC : cells ≤ C) (hS : slots ≤ S) : Go p e below (EndN s Q C S) T (mkF m pc Ls (.int z :: st)) := by
  obtain ⟨fs, hr, hrun, hended, hW, hsame⟩ := X.leave (v := (some (.int z'))) (fun h => by rw [hret] at h; cases h) hlk
  exact ⟨_, _, (by subst hz; exact retN X hx (t := .boolean) hret (by simp) hd hr), hrun, hended, _, _, rfl, hq, ⟨_, rfl⟩, hW, hsame.mono hC hS⟩
theorem retC (X : Stand p l e R s m args below meth c T locs cells slots) (hx : p.tables.exec = Jvm.exec) (hlk : meth.locks = false) {z z' : Int32} (hret : meth.sig.returnType = some .char) (hd : decode c.code pc = .ok (.ireturn, 1)) (hz : nar .char z = z') (hq : Q (some (.int z')) T.heap locs) (hC : cells ≤ C) (hS : slots ≤ S) : Go p e below (EndN s Q C S) T (mkF m pc Ls (.int z :: st)) := by
  obtain ⟨fs, hr, hrun, hended, hW, hsame⟩ := X.leave (v := (some (.int z'))) (fun h => by rw [hret] at h; cases h) hlk
  exact ⟨_, _, (by subst hz; exact retN X hx (t := .char) hret (by simp) hd hr), hrun, hended, _, _, rfl, hq, ⟨_, rfl⟩, hW, hsame.mono hC hS⟩
theorem own_retI (X : Stand p l e R s m args below meth c T locs cells slots) (hx : p.tables.exec = Jvm.exec) {z : Int32} {rest : List Value} (hret : meth.sig.returnType = some .int) (hd : decode c.code pc = .ok (.ireturn, 1)) {fs : List Frame}
    (hl : ∀ (f : JFrame) (acts : List Action), f.method = m → f.locked = none → f.entered = [] → (doReturn e (T.setTop f) acts (some (.int z))).1 = T.setFrames fs) : Steps p.tables e below (T.setTop (mkF m pc Ls (.int z :: rest))) (T.setFrames fs) := by
  have hm' : T.vm.method? m = some meth := X.method'
  have hn : narrow .int (.int z) = .int z := rfl
  show Steps p.tables e below (T.setTop { method := m, pc := pc, locals := Ls, stack := _ :: rest, locked := none }) _
  jvm_step X.here [X.here.top, hx, hd, hm', hret, hn]
  first | (intro acts; rw [hl _ acts rfl rfl rfl]) | rw [hl _ _ rfl rfl rfl]
  exact Steps.refl _
theorem own_retJ (X : Stand p l e R s m args below meth c T locs cells slots) (hx : p.tables.exec = Jvm.exec) {z : Int64} {rest : List Value} (hret : meth.sig.returnType = some .long) (hd : decode c.code pc = .ok (.lreturn, 1)) {fs : List Frame}
    (hl : ∀ (f : JFrame) (acts : List Action), f.method = m → f.locked = none → f.entered = [] → (doReturn e (T.setTop f) acts (some (.long z))).1 = T.setFrames fs) : Steps p.tables e below (T.setTop (mkF m pc Ls (.long z :: rest))) (T.setFrames fs) := by
  have hm' : T.vm.method? m = some meth := X.method'
  show Steps p.tables e below (T.setTop { method := m, pc := pc, locals := Ls, stack := _ :: rest, locked := none }) _
  jvm_step X.here [X.here.top, hx, hd, hm', hret, narrow]
  first | (intro acts; rw [hl _ acts rfl rfl rfl]) | rw [hl _ _ rfl rfl rfl]
  exact Steps.refl _
theorem own_retA (X : Stand p l e R s m args below meth c T locs cells slots) (hx : p.tables.exec = Jvm.exec) {z : Value} (hz : z.isRef = true) {t : FieldType} (ht : t.isReference = true) {rest : List Value} (hret : meth.sig.returnType = some t) (hd : decode c.code pc = .ok (.areturn, 1)) {fs : List Frame}
    (hl : ∀ (f : JFrame) (acts : List Action), f.method = m → f.locked = none → f.entered = [] → (doReturn e (T.setTop f) acts (some z)).1 = T.setFrames fs) : Steps p.tables e below (T.setTop (mkF m pc Ls (z :: rest))) (T.setFrames fs) := by
  have hm' : T.vm.method? m = some meth := X.method'
  show Steps p.tables e below (T.setTop { method := m, pc := pc, locals := Ls, stack := _ :: rest, locked := none }) _
  rcases ref_cases hz with rfl | ⟨b, rfl⟩
  all_goals
    jvm_step X.here [X.here.top, hx, hd, hm', hret, ht, Value.isRef]
    first | (intro acts; rw [hl _ acts rfl rfl rfl]) | rw [hl _ _ rfl rfl rfl]
    exact Steps.refl _
theorem retI (X : Stand p l e R s m args below meth c T locs cells slots) (hx : p.tables.exec = Jvm.exec) (hlk : meth.locks = false) {z : Int32} (hret : meth.sig.returnType = some .int) (hd : decode c.code pc = .ok (.ireturn, 1)) (hq : Q (some (.int z)) T.heap locs) (hC : cells ≤ C) (hS : slots ≤ S) : Go p e below (EndN s Q C S) T (mkF m pc Ls (.int z :: st)) := by
  obtain ⟨fs, hr, hrun, hended, hW, hsame⟩ := X.leave (v := (some (.int z))) (fun h => by rw [hret] at h; cases h) hlk
  exact ⟨_, _, own_retI X hx hret hd hr, hrun, hended, _, _, rfl, hq, ⟨_, rfl⟩, hW, hsame.mono hC hS⟩
theorem retJ (X : Stand p l e R s m args below meth c T locs cells slots) (hx : p.tables.exec = Jvm.exec) (hlk : meth.locks = false) {z : Int64} (hret : meth.sig.returnType = some .long) (hd : decode c.code pc = .ok (.lreturn, 1)) (hq : Q (some (.long z)) T.heap locs) (hC : cells ≤ C) (hS : slots ≤ S) : Go p e below (EndN s Q C S) T (mkF m pc Ls (.long z :: st)) := by
  obtain ⟨fs, hr, hrun, hended, hW, hsame⟩ := X.leave (v := (some (.long z))) (fun h => by rw [hret] at h; cases h) hlk
  exact ⟨_, _, own_retJ X hx hret hd hr, hrun, hended, _, _, rfl, hq, ⟨_, rfl⟩, hW, hsame.mono hC hS⟩
theorem retA (X : Stand p l e R s m args below meth c T locs cells slots) (hx : p.tables.exec = Jvm.exec) (hlk : meth.locks = false) {z : Value} {t : FieldType} (hz : z.isRef = true) (ht : t.isReference = true) (hret : meth.sig.returnType = some t) (hd : decode c.code pc = .ok (.areturn, 1)) (hq : Q (some z) T.heap locs) (hC : cells ≤ C) (hS : slots ≤ S) : Go p e below (EndN s Q C S) T (mkF m pc Ls (z :: st)) := by
  obtain ⟨fs, hr, hrun, hended, hW, hsame⟩ := X.leave (v := (some z)) (fun h => by rw [hret] at h; cases h) hlk
  exact ⟨_, _, own_retA X hx hz ht hret hd hr, hrun, hended, _, _, rfl, hq, ⟨_, rfl⟩, hW, hsame.mono hC hS⟩
theorem retV (X : Stand p l e R s m args below meth c T locs cells slots) (hx : p.tables.exec = Jvm.exec) (hlk : meth.locks = false)  (hret : meth.sig.returnType = none) (hd : decode c.code pc = .ok (.return_, 1)) (hq : Q none T.heap locs) (hC : cells ≤ C) (hS : slots ≤ S) : Go p e below (EndN s Q C S) T (mkF m pc Ls []) := by
  obtain ⟨fs, hr, hrun, hended, hW, hsame⟩ := X.leave (v := none) (fun _ => rfl) hlk
  exact ⟨_, _, X.returnOut hx hret hd hr, hrun, hended, _, _, rfl, hq, ⟨_, rfl⟩, hW, hsame.mono hC hS⟩
theorem callS (X : Stand p l e R s m args below meth c T locs cells slots) (hx : p.tables.exec = Jvm.exec) (hZ : Z.Warmed39 s.vm) {own : String} {index : Nat} (hown : s.vm.findClass own = some m.cls) {y : MethodName} {bytes : ByteArray} {maxL : Nat} {ret : Option FieldType} {rm : Room} {as : List Value} {Qc : Option Value → Heap → List Loc → Prop} (w1 : (Cond.methodLink own index y).before a0 Z = true) (w2 : (Cond.static y).before a0 Z = true) (w3 : (Cond.initialized y.cls).before a0 Z = true) (w4 : (Cond.code y bytes maxL ret).before a0 Z = true) (hy : y.cls ≠ "java/lang/invoke/MethodHandle" ∧ y.cls ≠ "java/lang/invoke/VarHandle") (eT : T.heap = h) (hM : Con l Z y bytes maxL ret rm as h Qc) {rest : List Value} (W : Nat) (hf : rm.frames + 1 ≤ R.frames) (hlo : W + (maxL + 11) + rm.locals ≤ R.locals) (hc : cells + rm.cells ≤ R.cells) (hs : slots + rm.slots ≤ R.slots) (hsize : Ls.size = c.maxLocals) (hlen : ∀ sig, parseMethodDescriptor y.desc = some sig → as.length = sig.parameters.length) (hst : st = as.reverse ++ rest) (hW : (rest.map fun v => v.category).sum = W) (hd : decode c.code pc = .ok (.invokestatic index, 3)) (r : ∀ v T' L, Stand p l e R s m args below meth c T' (locs ++ L) (cells + rm.cells) (slots + rm.slots) → Qc v T'.heap L → Go p e below En T' (mkF m (pc + 3) Ls (v.toList ++ rest))) : Go p e below En T (mkF m pc Ls st) := by
  obtain ⟨v, _, ⟨T', L', k', n'⟩, -, X', ⟨Lc, hq, e1, e2, e3⟩, k⟩ := Jvm.LawKit.callS X hx hown (mvT hZ w1) (mvT hZ w2) (mvT hZ w3) (mvT hZ w4) hy (backOf (W := W) (len := 3) (hM []) hZ w4 w3 hf hlo) (g := mkF m pc Ls st) rfl hsize (argsL := as) (rest := rest) hlen hst (by show 2 * 0 + _ ≤ _; rw [hW]; omega) hd (fun _ _ => ⟨rfl, eT, hc, hs⟩)
  dsimp only [Pt.U, Pt.locs, Pt.cells, Pt.slots] at X' e1 e2 e3 k hq
  subst e1 e2 e3
  exact Go.of k (r v T' Lc X' hq)
theorem callV (X : Stand p l e R s m args below meth c T locs cells slots) (hx : p.tables.exec = Jvm.exec) (hZ : Z.Warmed39 s.vm) {own : String} {index : Nat} (hown : s.vm.findClass own = some m.cls) {y : MethodName} {bytes : ByteArray} {maxL : Nat} {ret : Option FieldType} {rm : Room} {as : List Value} {Qc : Option Value → Heap → List Loc → Prop} {z : MethodName} {C0 : String} (w1 : (Cond.methodLink own index y).before a0 Z = true) (wd : (Cond.declares y).before a0 Z = true) (nf : NotFace s y) (ws : (Cond.selects C0 y z).before a0 Z = true) (wi : (Cond.instanceMethod z).before a0 Z = true) (w3 : (Cond.initialized z.cls).before a0 Z = true) (w4 : (Cond.code z bytes maxL ret).before a0 Z = true) (hy : y.cls ≠ "java/lang/invoke/MethodHandle" ∧ y.cls ≠ "java/lang/invoke/VarHandle") (eT : T.heap = h) {b : Addr} (E : Exa Z h b C0) (hM : Con l Z z bytes maxL ret rm (.ref b :: as) h Qc) {rest : List Value} (W : Nat) (hf : rm.frames + 1 ≤ R.frames) (hlo : W + (maxL + 11) + rm.locals ≤ R.locals) (hc : cells + rm.cells ≤ R.cells) (hs : slots + rm.slots ≤ R.slots) (hsize : Ls.size = c.maxLocals) (hlen : ∀ sig, parseMethodDescriptor y.desc = some sig → as.length = sig.parameters.length) (hst : st = as.reverse ++ .ref b :: rest) (hW : (rest.map fun v => v.category).sum = W) (hd : decode c.code pc = .ok (.invokevirtual index, 3)) (r : ∀ v T' L, Stand p l e R s m args below meth c T' (locs ++ L) (cells + rm.cells) (slots + rm.slots) → Qc v T'.heap L → Go p e below En T' (mkF m (pc + 3) Ls (v.toList ++ rest))) : Go p e below En T (mkF m pc Ls st) := by
  obtain ⟨cB, kB, q1, -, q3⟩ := isOf hZ eT E
  obtain ⟨v, _, ⟨T', L', k', n'⟩, -, X', ⟨Lc, hq, e1, e2, e3⟩, k⟩ := X.virtualBack hx hown (mvT hZ w1) (mvT hZ wd) nf (mvT hZ ws) (mvT hZ wi) hy (backOf (W := W) (len := 3) (hM []) hZ w4 w3 hf hlo) q1 q3 (g := mkF m pc Ls st) rfl hsize (Steps.refl _) (argsL := as) (rest := rest) hlen hst (by show 2 * 0 + _ ≤ _; rw [hW]; omega) hd (fun _ _ => ⟨rfl, eT, hc, hs⟩)
  dsimp only [Pt.U, Pt.locs, Pt.cells, Pt.slots] at X' e1 e2 e3 k hq
  subst e1 e2 e3
  exact Go.of (fun t q => k.trans q) (r v T' Lc X' hq)
theorem callI (X : Stand p l e R s m args below meth c T locs cells slots) (hx : p.tables.exec = Jvm.exec) (hZ : Z.Warmed39 s.vm) {own : String} {index : Nat} (hown : s.vm.findClass own = some m.cls) {y : MethodName} {bytes : ByteArray} {maxL : Nat} {rm : Room} {as : List Value} {Qc : Option Value → Heap → List Loc → Prop} (hn : y.name = "<init>") (w1 : (Cond.methodLink own index y).before a0 Z = true) (wi : (Cond.instanceMethod y).before a0 Z = true) (w3 : (Cond.initialized y.cls).before a0 Z = true) (w4 : (Cond.code y bytes maxL none).before a0 Z = true) (hy : y.cls ≠ "java/lang/invoke/MethodHandle" ∧ y.cls ≠ "java/lang/invoke/VarHandle") (eT : T.heap = h) {b : Addr} (hM : Con l Z y bytes maxL none rm (.ref b :: as) h Qc) {rest : List Value} (W : Nat) (hf : rm.frames + 1 ≤ R.frames) (hlo : W + (maxL + 11) + rm.locals ≤ R.locals) (hc : cells + rm.cells ≤ R.cells) (hs : slots + rm.slots ≤ R.slots) (hsize : Ls.size = c.maxLocals) (hlen : ∀ sig, parseMethodDescriptor y.desc = some sig → as.length = sig.parameters.length) (hst : st = as.reverse ++ .ref b :: rest) (hW : (rest.map fun v => v.category).sum = W) (hd : decode c.code pc = .ok (.invokespecial index, 3)) (r : ∀ v T' L, Stand p l e R s m args below meth c T' (locs ++ L) (cells + rm.cells) (slots + rm.slots) → Qc v T'.heap L → Go p e below En T' (mkF m (pc + 3) Ls (v.toList ++ rest))) : Go p e below En T (mkF m pc Ls st) := by
  obtain ⟨v, _, ⟨T', L', k', n'⟩, -, X', ⟨Lc, hq, e1, e2, e3⟩, k⟩ := X.specialBack hx hn hown (mvT hZ w1) (mvT hZ wi) (mvT hZ w4) hy (backOf (W := W) (len := 3) (hM []) hZ w4 w3 hf hlo) (g := mkF m pc Ls st) rfl hsize (Steps.refl _) (a := b) (argsL := as) (rest := rest) hlen hst (by show 2 * 0 + _ ≤ _; rw [hW]; omega) hd (fun _ _ => ⟨rfl, eT, hc, hs⟩)
  dsimp only [Pt.U, Pt.locs, Pt.cells, Pt.slots] at X' e1 e2 e3 k hq
  subst e1 e2 e3
  exact Go.of (fun t q => k.trans q) (r v T' Lc X' hq)
/-- it has returned, and may have interned String constants on the way -/
def EndW (s : State) (Q : Option Value → Heap → List Loc → Prop) (C S : Nat) : State → Outcome → Prop := fun t o => ∃ v L, o = .returned v ∧ Q v t.heap L ∧ ReturnedEndW s o t L C S
/-- a law's own walk from the state Z itself, its end wide -/
def ConL (l : Launch) (Z : State) (y : MethodName) (bytes : ByteArray) (maxL : Nat) (ret : Option FieldType) (rm : Room) (as : List Value) (Q : Option Value → Heap → List Loc → Prop) : Prop :=
  ∀ ws : List Jvm.Cond, MetFree l y (head1 (Jvm.Cond.code y bytes maxL ret :: ws) rm) (fun a U => a = as.toArray ∧ U = Z) (fun _ _ _ _ _ => True) (fun _ U o U' => ∃ v L, o = .returned v ∧ Q v U'.heap L ∧ ReturnedEndW U o U' L rm.cells rm.slots)
theorem ConL.of {y : MethodName} {bytes : ByteArray} {maxL : Nat} {ret : Option FieldType} {rm : Room} {as : List Value} {Ls0 : Array Slot} (hp : plainFor y = true) (ef : ∀ m, entryFrame m as.toArray maxL = mkF m 0 Ls0 [])
    (body : ∀ (p : Program) (e : Env) (m : MethodId) (below : List Frame) (meth : Method) (c : Code) (T : State), Stand p l e rm Z m as.toArray below meth c T [] 0 0 → p.tables.exec = Jvm.exec → Z.Warmed39 Z.vm → c.code = bytes → c.maxLocals = maxL → Z.vm.findClass y.cls = some m.cls → meth.name = y.name → meth.sig.returnType = ret → meth.locks = false → T.heap = Z.heap → Go p e below (EndW Z Q rm.cells rm.slots) T (mkF m 0 Ls0 [])) :
    ConL l Z y bytes maxL ret rm as Q := by
  intro ws
  refine MetFree.of_bodySF hp hisR ?_
  intro p e s m args below meth c s₁ Bd hml0 hP hK
  obtain ⟨rfl, hh⟩ := hP
  subst hh
  have X0 : Stand p l e rm s m as.toArray below meth c s₁ [] 0 0 := Stand.of_body Bd
  have e0 : s₁.heap = s.heap := by rw [Bd.state]; rfl
  obtain ⟨t, o, h1, r⟩ := body p e m below meth c s₁ X0 Bd.exec (State.Warmed39.refl s) Bd.bytes hml0 (findClass_of_methodNamed Bd.named) (name_of_methodNamed Bd.named Bd.method).1 Bd.returns Bd.notSynchronized e0
  exact ⟨t, o, castTop (ef m) h1, r⟩
theorem retBW {vm1 : Vm} (X : Stand p l e R (s.setVm vm1) m args below meth c T locs cells slots) (hx : p.tables.exec = Jvm.exec) {k1 : Nat} (hS : s.Since vm1 k1) (hk : k1 ≤ T.heap.size) (hlk : meth.locks = false) {z z' : Int32} (hret : meth.sig.returnType = some .boolean) (hd : decode c.code pc = .ok (.ireturn, 1)) (hz : nar .boolean z = z') (hq : Q (some (.int z')) T.heap locs) (hC : cells ≤ C) (hS' : slots ≤ S) : Go p e below (EndW s Q C S) T (mkF m pc Ls (.int z :: st)) := by
  obtain ⟨fs, hr, hrun, hended, h1, h2, h3, h4⟩ := X.leaveW hS hk (v := some (.int z')) (fun h => by rw [hret] at h; cases h) hlk
  exact ⟨_, _, (by subst hz; exact retN X hx (t := .boolean) hret (by simp) hd hr), hrun, hended, _, _, rfl, hq, h1, h2, h3, h4.mono hC hS'⟩
theorem ldcSV {vm0 : Vm} {own text : String} {index : Nat} {Ts : List String} (X : Stand p l e R (s.setVm vm0) m args below meth c T locs cells slots) (hx : p.tables.exec = Jvm.exec) (hZ : Z.Warmed39 vm0) (hown : vm0.findClass own = some m.cls) (w : (Cond.stringLink own index text).before a0 Z = true) (wS : ∀ a ∈ Bundle.stringAtoms, a.before a0 Z = true)
    (eT : T.heap = h) {k0 : Nat} (hS : s.Since vm0 k0) (hk : k0 ≤ h.size) (N : Fr s.heap.size locs) (hkeep : ∀ (b : Addr) (cl : Cell), Z.heap[b]? = some cl → s.heap[b]? = some cl) (I : IB Z vm0 Ts) (hnot : text ∉ Ts) (hh : Jvm.Lit.constHeld Z own index) (hcw : Jvm.Lit.compactW.before a0 Z = true)
    {vs : List Value} {z : Int32} (ht : (∀ c ∈ text.toList, c.toNat < 256) ∧ text.toList.map (fun c => Value.int (Jvm.Lit.byteI c.toNat.toUInt16)) = vs) (hz : ¬ z < 0) (hl : z.toNatClampNeg = vs.length)
    (hd : decode c.code pc = .ok (.ldc index, 2)) (n : Nat) (hn : 4 * text.toList.length ≤ n) (hbig : n ≤ 536870912) (hc : cells + 2 ≤ R.cells) (hl' : slots + (n + 4) ≤ R.slots)
    (r : ∀ (a : Addr) (T' : State) (h' : Heap) (k1 : Nat) (b : Addr) (k : ClassId), Stand p l e R (s.setVm T'.vm) m args below meth c T' locs (cells + 2) (slots + (n + 4)) → T'.heap = h' → Ext h h' → s.Since T'.vm k1 → k1 ≤ h'.size → Z.Warmed39 (s.setVm T'.vm).vm → (s.setVm T'.vm).vm.findClass own = some m.cls →
      Exa Z h' a "java/lang/String" → Fld Z h' a "java/lang/String" "coder" "B" (.int 0) → Fld Z h' a "java/lang/String" "value" "[B" (.ref b) → Arv Z h' b k .byte z vs (.int 0) → Go p e below En T' (mkF m (pc + 2) Ls (.ref a :: st))) : Go p e below En T (mkF m pc Ls st) := by
  obtain ⟨a, T', h', k1, b, k, r1, r2, r3, r4, r5, r6, r7, r8, r9, r10, r11, -, -, -, q⟩ := Jvm.RoadKit.ldcSV X hx hZ hown w wS eT hS hk N hkeep I hnot hh hcw ht hz hl (g := mkF m pc Ls st) rfl hd hn hbig hc hl'
  exact Go.of q (r a T' h' k1 b k r1 r2 r3 r4 r5 r6 r7 r8 r9 r10 r11)
theorem baload (X : Stand p l e R s m args below meth c T locs cells slots) (hx : p.tables.exec = Jvm.exec) (hZ : Z.Warmed39 s.vm) (eT : T.heap = h) {a : Addr} {cl : Cell} (A : Arr Z h a cl .byte) {j : Int32} {v : Value} (hj : ¬ (j < 0 ∨ cl.slots.size ≤ j.toNatClampNeg)) (hv : cl.slots[j.toNatClampNeg]? = some v) (hd : decode c.code pc = .ok (.baload, 1)) (r : Go p e below En T (mkF m (pc + 1) Ls (v :: st))) : Go p e below En T (mkF m pc Ls (.int j :: .ref a :: st)) :=
  Go.of (fun t k => X.baloadBytes hx (by rw [eT]; exact A.1) (State.isArrayOf_alike hZ.alike A.2.1) A.2.2 hj hv (g := mkF m pc Ls (.int j :: .ref a :: st)) rfl rfl hd t k) r
theorem castY (X : Stand p l e R s m args below meth c T locs cells slots) (hx : p.tables.exec = Jvm.exec) (hZ : Z.Warmed39 s.vm) {own : String} {index : Nat} (hown : s.vm.findClass own = some m.cls) {K : String} (w : (Cond.classLink own index K).before a0 Z = true) (eT : T.heap = h) {a : Addr} (F : Ins Z h a K true) (hd : decode c.code pc = .ok (.checkcast index, 3)) (r : ∀ T', Stand p l e R s m args below meth c T' locs cells slots → T'.heap = h → Go p e below En T' (mkF m (pc + 3) Ls (.ref a :: st))) : Go p e below En T (mkF m pc Ls (.ref a :: st)) := by
  obtain ⟨T', X', e', k⟩ := Jvm.RoadKit.castY X hx hZ hown w eT F (g := mkF m pc Ls (.ref a :: st)) rfl rfl hd
  exact Go.of k (r T' X' e')
theorem instY (X : Stand p l e R s m args below meth c T locs cells slots) (hx : p.tables.exec = Jvm.exec) (hZ : Z.Warmed39 s.vm) {own : String} {index : Nat} (hown : s.vm.findClass own = some m.cls) {K : String} (w : (Cond.classLink own index K).before a0 Z = true) (eT : T.heap = h) {a : Addr} (F : Ins Z h a K true) (hd : decode c.code pc = .ok (.instanceof index, 3)) (r : ∀ T', Stand p l e R s m args below meth c T' locs cells slots → T'.heap = h → Go p e below En T' (mkF m (pc + 3) Ls (.int 1 :: st))) : Go p e below En T (mkF m pc Ls (.ref a :: st)) := by
  obtain ⟨T', X', e', k⟩ := Jvm.RoadKit.instY X hx hZ hown w eT F (g := mkF m pc Ls (.ref a :: st)) rfl rfl hd
  exact Go.of k (r T' X' e')
end Own
end Jvm.OwnGo
namespace Jvm.Pilot.@@N@@
open Jvm Jvm.ClassFile Sem Op Lib Jvm.Free Jvm.Stand Jvm.LawKit Jvm.RoadKit Bundle Jvm.Pilot.@@N@@.Jvm.D
open Jvm.OwnGo (Go Con Ret)
theorem own_pd0 : parseMethodDescriptor "(II)I" = some ⟨[.int, .int], some .int⟩ := by decide +kernel
theorem own_pd1 : parseMethodDescriptor "([II)[I" = some ⟨[(.array .int), .int], some (.array .int)⟩ := by decide +kernel
theorem own_pd2 : parseMethodDescriptor "(JJ)J" = some ⟨[.long, .long], some .long⟩ := by decide +kernel
theorem own_pd3 : parseMethodDescriptor "()V" = some ⟨[], none⟩ := by decide +kernel
theorem own_pd4 : parseMethodDescriptor "(I)V" = some ⟨[.int], none⟩ := by decide +kernel
theorem own_pd5 : parseMethodDescriptor "(II)V" = some ⟨[.int, .int], none⟩ := by decide +kernel
theorem own_pd6 : parseMethodDescriptor "()I" = some ⟨[], some .int⟩ := by decide +kernel
theorem own_pd7 : parseMethodDescriptor "(I)I" = some ⟨[.int], some .int⟩ := by decide +kernel
theorem own_pd8 : parseMethodDescriptor "(IIIIII)I" = some ⟨[.int, .int, .int, .int, .int, .int], some .int⟩ := by decide +kernel
theorem own_pn0 : plainName "com/example/sibling/sibling/xpath/IntColumn" = true := by first | (simp [plainName, overriddenIn]; done) | decide +kernel
theorem own_pn1 : plainName "java/util/Arrays" = true := by first | (simp [plainName, overriddenIn]; done) | decide +kernel
theorem own_pn2 : plainName "com/example/sibling/sibling/xpath/IntColumnSetPinLaw" = true := by first | (simp [plainName, overriddenIn]; done) | decide +kernel
def own_maxI (a b : Int32) : Int32 := if a < b then b else a
def own_minI (a b : Int32) : Int32 := if b < a then b else a
def own_minJ (a b : Int64) : Int64 := if b < a then b else a
theorem own_privCall {p : Program} {l : Launch} {e : Env} {R : Room} {s : State} {m : MethodId} {args : Array Value} {below : List Frame} {meth : Method} {c : Code} {T : State} {locs : List Loc} {cells slots : Nat} {Z : State} {a0 : Array Value} {h : Heap} {En : State → Outcome → Prop} {pc : Nat} {Ls : Array Slot} {st : List Value}
    (X : Stand p l e R s m args below meth c T locs cells slots) (hx : p.tables.exec = Jvm.exec) (hZ : Z.Warmed39 s.vm) {own : String} {index : Nat} (hown : s.vm.findClass own = some m.cls) {y : MethodName} {bytes : ByteArray} {maxL : Nat} {ret : Option FieldType} {rm : Room} {as : List Value} {Qc : Option Value → Heap → List Loc → Prop}
    (w1 : (Jvm.Cond.methodLink own index y).before a0 Z = true) (wi : (Jvm.Cond.instanceMethod y).before a0 Z = true) (wp : (Jvm.Cond.privateMethod y).before a0 Z = true) {C1 : String} {y2 z2 : MethodName} (wn : (Jvm.Cond.selects C1 y2 z2).before a0 Z = true) (hz2 : z2.cls = y.cls) (w3 : (Jvm.Cond.initialized y.cls).before a0 Z = true) (w4 : (Jvm.Cond.code y bytes maxL ret).before a0 Z = true) (hy : y.cls ≠ "java/lang/invoke/MethodHandle" ∧ y.cls ≠ "java/lang/invoke/VarHandle") (eT : T.heap = h) {b : Addr} {C0 : String} (E : Exa Z h b C0) (hM : Con l Z y bytes maxL ret rm (.ref b :: as) h Qc) {rest : List Value} (W : Nat)
    (hf : rm.frames + 1 ≤ R.frames) (hlo : W + (maxL + 11) + rm.locals ≤ R.locals) (hc : cells + rm.cells ≤ R.cells) (hs : slots + rm.slots ≤ R.slots) (hsize : Ls.size = c.maxLocals) (hlen : ∀ sig, parseMethodDescriptor y.desc = some sig → as.length = sig.parameters.length) (hst : st = as.reverse ++ .ref b :: rest) (hW : (rest.map fun v => v.category).sum = W) (hd : decode c.code pc = .ok (.invokevirtual index, 3))
    (r : ∀ v T' L, Stand p l e R s m args below meth c T' (locs ++ L) (cells + rm.cells) (slots + rm.slots) → Qc v T'.heap L → Go p e below En T' (mkF m (pc + 3) Ls (v.toList ++ rest))) : Go p e below En T (mkF m pc Ls st) := by
  have hcode : (Jvm.Cond.code y bytes maxL ret).before args s = true := mvT hZ w4
  have hinst : (Jvm.Cond.instanceMethod y).before args s = true := mvT hZ wi
  obtain ⟨mk, methM, hnamed, hmethM, hstM, habM⟩ := Cond.instanceMethod_spec hinst
  obtain ⟨methM', cM, hmethM', -, -, -, -, -, -, hsigM⟩ := Cond.code_spec hnamed hcode
  cases hmethM.symm.trans hmethM'
  obtain ⟨c2, r2, m2, -, -, q3, -, kP, hkP, hkPi⟩ := Cond.selects_spec (mvT hZ wn : (Jvm.Cond.selects C1 y2 z2).before args s = true)
  have hcl : mk.cls = m2.cls := by
    have u1 := findClass_of_methodNamed hnamed
    have u2 := findClass_of_methodNamed q3
    rw [hz2] at u2
    exact Option.some.inj (u1.symm.trans u2)
  rw [← hcl] at hkP
  have hpriv : s.PrivateAt y := Cond.privateMethod_at (mvP hZ wp (args := #[]))
  obtain ⟨cell, hcell, hobj⟩ := E.cell
  have hselP : selectMethod e.platform s.vm cell.cls mk = .method mk := selectMethod_private hmethM (hpriv mk methM hnamed hmethM)
  obtain ⟨vm₁, X₁, hstep₁⟩ := X.invokevirtual hx hown (mvT hZ w1) hnamed hmethM hstM hkP hkPi hy (a := b) (cell := cell) (by rw [eT]; exact hcell) hobj hselP hmethM habM hkP hkPi (g := mkF m pc Ls st) rfl (argsL := as) (rest := rest) (hlen _ hsigM) hst hd
  obtain ⟨v, ⟨T', L', k', n'⟩, X', ⟨Lc, hq, e1, e2, e3⟩, k⟩ := (backOf (W := W) (len := 3) (hM []) hZ w4 w3 hf hlo) m meth c ⟨T.setVm vm₁, locs, cells, slots⟩ { mkF m pc Ls st with stack := rest } (.invokevirtual index) mk (.ref b :: as).toArray X₁ rfl hsize hd (by show 2 * 0 + _ ≤ _; rw [hW]; omega) (X₁.named hnamed) ⟨rfl, eT, hc, hs⟩
  dsimp only [Pt.U, Pt.locs, Pt.cells, Pt.slots] at X' e1 e2 e3 k hq
  subst e1 e2 e3
  exact Go.of (fun t q => (hstep₁ _ fun acts => by rw [doInvoke_state]; exact Steps.refl _).trans (k.trans q)) (r v T' Lc X' hq)
theorem d5_0 : decode jdk_29_method_65_code 0 = .ok (.iload_n 0, 1) := by decide +kernel
theorem d5_1 : decode jdk_29_method_65_code 1 = .ok (.iload_n 1, 1) := by decide +kernel
theorem d5_2 : decode jdk_29_method_65_code 2 = .ok (.if_icmp .lt 7, 3) := by decide +kernel
theorem d5_5 : decode jdk_29_method_65_code 5 = .ok (.iload_n 0, 1) := by decide +kernel
theorem d5_6 : decode jdk_29_method_65_code 6 = .ok (.goto 4, 3) := by decide +kernel
theorem d5_9 : decode jdk_29_method_65_code 9 = .ok (.iload_n 1, 1) := by decide +kernel
theorem d5_10 : decode jdk_29_method_65_code 10 = .ok (.ireturn, 1) := by decide +kernel
theorem own_ef_rmMX (m : MethodId) (x0 : Int32) (x1 : Int32) : entryFrame m [(.int x0), (.int x1)].toArray 2 = mkF m 0 #[.val (.int x0), .val (.int x1)] [] := by first | (simp [entryFrame, mkF, argsToLocals, Value.category]; done) | rfl
set_option maxRecDepth 65536 in
set_option maxHeartbeats 40000000 in
theorem rmMX (l : Launch) (Z : State) (a0 : Array Value) (hw : ∀ d ∈ tables_1, d.before a0 Z = true) (p1 p2 r : Int32) (h0 : Heap) (hr : own_maxI p1 p2 = r) :
    Con l Z (⟨"java/lang/Math", "max", "(II)I"⟩ : MethodName) jdk_29_method_65_code 2 (some .int) ({ frames := 0, cells := 0, slots := 0, locals := 0 } : Room) [(.int p1), (.int p2)] h0 (Ret (some (.int r)) h0) := by
  refine OwnGo.Con.of (Jvm.Free.JP.mathPlain rfl (by decide +kernel)) (Ls0 := #[.val (.int p1), .val (.int p2)]) (fun m => own_ef_rmMX m p1 p2) ?_
  intro p e s m below meth c T0 X0 hx hZ hby hml hown hnm hret hlk e0
  show Go p e below _ T0 (mkF m 0 #[.val (.int p1), .val (.int p2)] [])
  refine OwnGo.iloadN X0 hx (hb hby d5_0) rfl ?_
  show Go p e below _ T0 (mkF m 1 #[.val (.int p1), .val (.int p2)] [(.int p1)])
  refine OwnGo.iloadN X0 hx (hb hby d5_1) rfl ?_
  show Go p e below _ T0 (mkF m 2 #[.val (.int p1), .val (.int p2)] [(.int p2), (.int p1)])
  refine OwnGo.ic_lt X0 hx (pc' := 9) (hb hby d5_2) (by decide) (by decide) (fun h2 => ?_) (fun h2 => ?_)
  ·
    show Go p e below _ T0 (mkF m 9 #[.val (.int p1), .val (.int p2)] [])
    refine OwnGo.iloadN X0 hx (hb hby d5_9) rfl ?_
    show Go p e below _ T0 (mkF m 10 #[.val (.int p1), .val (.int p2)] [(.int p2)])
    exact OwnGo.retI X0 hx hlk hret (hb hby d5_10) ⟨by rw [← hr]; simp only [own_maxI, h2, not_true_eq_false, not_false_eq_true, false_and, and_false, and_true, true_and, true_or, or_true, false_or, or_false, if_true, if_false], e0, rfl⟩ (by decide) (by decide)
  ·
    show Go p e below _ T0 (mkF m 5 #[.val (.int p1), .val (.int p2)] [])
    refine OwnGo.iloadN X0 hx (hb hby d5_5) rfl ?_
    show Go p e below _ T0 (mkF m 6 #[.val (.int p1), .val (.int p2)] [(.int p1)])
    refine OwnGo.goto X0 hx (pc' := 10) (hb hby d5_6) (by decide) (by decide) ?_
    show Go p e below _ T0 (mkF m 10 #[.val (.int p1), .val (.int p2)] [(.int p1)])
    exact OwnGo.retI X0 hx hlk hret (hb hby d5_10) ⟨by rw [← hr]; simp only [own_maxI, h2, not_true_eq_false, not_false_eq_true, false_and, and_false, and_true, true_and, true_or, or_true, false_or, or_false, if_true, if_false], e0, rfl⟩ (by decide) (by decide)
theorem d7_0 : decode jdk_29_method_69_code 0 = .ok (.iload_n 0, 1) := by decide +kernel
theorem d7_1 : decode jdk_29_method_69_code 1 = .ok (.iload_n 1, 1) := by decide +kernel
theorem d7_2 : decode jdk_29_method_69_code 2 = .ok (.if_icmp .gt 7, 3) := by decide +kernel
theorem d7_5 : decode jdk_29_method_69_code 5 = .ok (.iload_n 0, 1) := by decide +kernel
theorem d7_6 : decode jdk_29_method_69_code 6 = .ok (.goto 4, 3) := by decide +kernel
theorem d7_9 : decode jdk_29_method_69_code 9 = .ok (.iload_n 1, 1) := by decide +kernel
theorem d7_10 : decode jdk_29_method_69_code 10 = .ok (.ireturn, 1) := by decide +kernel
theorem own_ef_rmMI (m : MethodId) (x0 : Int32) (x1 : Int32) : entryFrame m [(.int x0), (.int x1)].toArray 2 = mkF m 0 #[.val (.int x0), .val (.int x1)] [] := by first | (simp [entryFrame, mkF, argsToLocals, Value.category]; done) | rfl
set_option maxRecDepth 65536 in
set_option maxHeartbeats 40000000 in
theorem rmMI (l : Launch) (Z : State) (a0 : Array Value) (hw : ∀ d ∈ tables_1, d.before a0 Z = true) (p1 p2 r : Int32) (h0 : Heap) (hr : own_minI p1 p2 = r) :
    Con l Z (⟨"java/lang/Math", "min", "(II)I"⟩ : MethodName) jdk_29_method_69_code 2 (some .int) ({ frames := 0, cells := 0, slots := 0, locals := 0 } : Room) [(.int p1), (.int p2)] h0 (Ret (some (.int r)) h0) := by
  refine OwnGo.Con.of (Jvm.Free.JP.mathPlain rfl (by decide +kernel)) (Ls0 := #[.val (.int p1), .val (.int p2)]) (fun m => own_ef_rmMI m p1 p2) ?_
  intro p e s m below meth c T0 X0 hx hZ hby hml hown hnm hret hlk e0
  show Go p e below _ T0 (mkF m 0 #[.val (.int p1), .val (.int p2)] [])
  refine OwnGo.iloadN X0 hx (hb hby d7_0) rfl ?_
  show Go p e below _ T0 (mkF m 1 #[.val (.int p1), .val (.int p2)] [(.int p1)])
  refine OwnGo.iloadN X0 hx (hb hby d7_1) rfl ?_
  show Go p e below _ T0 (mkF m 2 #[.val (.int p1), .val (.int p2)] [(.int p2), (.int p1)])
  refine OwnGo.ic_gt X0 hx (pc' := 9) (hb hby d7_2) (by decide) (by decide) (fun h2 => ?_) (fun h2 => ?_)
  ·
    show Go p e below _ T0 (mkF m 9 #[.val (.int p1), .val (.int p2)] [])
    refine OwnGo.iloadN X0 hx (hb hby d7_9) rfl ?_
    show Go p e below _ T0 (mkF m 10 #[.val (.int p1), .val (.int p2)] [(.int p2)])
    exact OwnGo.retI X0 hx hlk hret (hb hby d7_10) ⟨by rw [← hr]; simp only [own_minI, h2, not_true_eq_false, not_false_eq_true, false_and, and_false, and_true, true_and, true_or, or_true, false_or, or_false, if_true, if_false], e0, rfl⟩ (by decide) (by decide)
  ·
    show Go p e below _ T0 (mkF m 5 #[.val (.int p1), .val (.int p2)] [])
    refine OwnGo.iloadN X0 hx (hb hby d7_5) rfl ?_
    show Go p e below _ T0 (mkF m 6 #[.val (.int p1), .val (.int p2)] [(.int p1)])
    refine OwnGo.goto X0 hx (pc' := 10) (hb hby d7_6) (by decide) (by decide) ?_
    show Go p e below _ T0 (mkF m 10 #[.val (.int p1), .val (.int p2)] [(.int p1)])
    exact OwnGo.retI X0 hx hlk hret (hb hby d7_10) ⟨by rw [← hr]; simp only [own_minI, h2, not_true_eq_false, not_false_eq_true, false_and, and_false, and_true, true_and, true_or, or_true, false_or, or_false, if_true, if_false], e0, rfl⟩ (by decide) (by decide)
theorem d8_0 : decode jdk_29_method_70_code 0 = .ok (.lload_n 0, 1) := by decide +kernel
theorem d8_1 : decode jdk_29_method_70_code 1 = .ok (.lload_n 2, 1) := by decide +kernel
theorem d8_2 : decode jdk_29_method_70_code 2 = .ok (.lcmp, 1) := by decide +kernel
theorem d8_3 : decode jdk_29_method_70_code 3 = .ok (.ifCond .gt 7, 3) := by decide +kernel
theorem d8_6 : decode jdk_29_method_70_code 6 = .ok (.lload_n 0, 1) := by decide +kernel
theorem d8_7 : decode jdk_29_method_70_code 7 = .ok (.goto 4, 3) := by decide +kernel
theorem d8_10 : decode jdk_29_method_70_code 10 = .ok (.lload_n 2, 1) := by decide +kernel
theorem d8_11 : decode jdk_29_method_70_code 11 = .ok (.lreturn, 1) := by decide +kernel
theorem own_ef_rmMJ (m : MethodId) (x0 : Int64) (x1 : Int64) : entryFrame m [(.long x0), (.long x1)].toArray 4 = mkF m 0 #[.val (.long x0), .second, .val (.long x1), .second] [] := by first | (simp [entryFrame, mkF, argsToLocals, Value.category]; done) | rfl
set_option maxRecDepth 65536 in
set_option maxHeartbeats 40000000 in
theorem rmMJ (l : Launch) (Z : State) (a0 : Array Value) (hw : ∀ d ∈ tables_1, d.before a0 Z = true) (p1 p2 r : Int64) (h0 : Heap) (hr : own_minJ p1 p2 = r) :
    Con l Z (⟨"java/lang/Math", "min", "(JJ)J"⟩ : MethodName) jdk_29_method_70_code 4 (some .long) ({ frames := 0, cells := 0, slots := 0, locals := 0 } : Room) [(.long p1), (.long p2)] h0 (Ret (some (.long r)) h0) := by
  refine OwnGo.Con.of (Jvm.Free.JP.mathPlain rfl (by decide +kernel)) (Ls0 := #[.val (.long p1), .second, .val (.long p2), .second]) (fun m => own_ef_rmMJ m p1 p2) ?_
  intro p e s m below meth c T0 X0 hx hZ hby hml hown hnm hret hlk e0
  show Go p e below _ T0 (mkF m 0 #[.val (.long p1), .second, .val (.long p2), .second] [])
  refine OwnGo.lloadN X0 hx (hb hby d8_0) rfl ?_
  show Go p e below _ T0 (mkF m 1 #[.val (.long p1), .second, .val (.long p2), .second] [(.long p1)])
  refine OwnGo.lloadN X0 hx (hb hby d8_1) rfl ?_
  show Go p e below _ T0 (mkF m 2 #[.val (.long p1), .second, .val (.long p2), .second] [(.long p2), (.long p1)])
  refine OwnGo.lc_gt_ X0 hx (pc' := 10) (hb hby d8_2) (hb hby d8_3) (by decide) (by decide) (fun h2 => ?_) (fun h2 => ?_)
  ·
    show Go p e below _ T0 (mkF m 10 #[.val (.long p1), .second, .val (.long p2), .second] [])
    refine OwnGo.lloadN X0 hx (hb hby d8_10) rfl ?_
    show Go p e below _ T0 (mkF m 11 #[.val (.long p1), .second, .val (.long p2), .second] [(.long p2)])
    exact OwnGo.retJ X0 hx hlk hret (hb hby d8_11) ⟨by rw [← hr]; simp only [own_minJ, h2, not_true_eq_false, not_false_eq_true, false_and, and_false, and_true, true_and, true_or, or_true, false_or, or_false, if_true, if_false], e0, rfl⟩ (by decide) (by decide)
  ·
    show Go p e below _ T0 (mkF m 6 #[.val (.long p1), .second, .val (.long p2), .second] [])
    refine OwnGo.lloadN X0 hx (hb hby d8_6) rfl ?_
    show Go p e below _ T0 (mkF m 7 #[.val (.long p1), .second, .val (.long p2), .second] [(.long p1)])
    refine OwnGo.goto X0 hx (pc' := 11) (hb hby d8_7) (by decide) (by decide) ?_
    show Go p e below _ T0 (mkF m 11 #[.val (.long p1), .second, .val (.long p2), .second] [(.long p1)])
    exact OwnGo.retJ X0 hx hlk hret (hb hby d8_11) ⟨by rw [← hr]; simp only [own_minJ, h2, not_true_eq_false, not_false_eq_true, false_and, and_false, and_true, true_and, true_or, or_true, false_or, or_false, if_true, if_false], e0, rfl⟩ (by decide) (by decide)
theorem d1_0 : decode prog_55_method_1_code 0 = .ok (.aload_n 0, 1) := by decide +kernel
theorem d1_1 : decode prog_55_method_1_code 1 = .ok (.invokespecial 3, 3) := by decide +kernel
theorem d1_4 : decode prog_55_method_1_code 4 = .ok (.aload_n 0, 1) := by decide +kernel
theorem d1_5 : decode prog_55_method_1_code 5 = .ok (.getstatic 9, 3) := by decide +kernel
theorem d1_8 : decode prog_55_method_1_code 8 = .ok (.putfield 13, 3) := by decide +kernel
theorem d1_11 : decode prog_55_method_1_code 11 = .ok (.aload_n 0, 1) := by decide +kernel
theorem d1_12 : decode prog_55_method_1_code 12 = .ok (.getstatic 9, 3) := by decide +kernel
theorem d1_15 : decode prog_55_method_1_code 15 = .ok (.putfield 16, 3) := by decide +kernel
theorem d1_18 : decode prog_55_method_1_code 18 = .ok (.return_, 1) := by decide +kernel
theorem own_ef_rmINI (m : MethodId) (x0 : Addr) : entryFrame m [(.ref x0)].toArray 1 = mkF m 0 #[.val (.ref x0)] [] := by first | (simp [entryFrame, mkF, argsToLocals, Value.category]; done) | rfl
set_option maxRecDepth 65536 in
set_option maxHeartbeats 40000000 in
theorem rmINI (l : Launch) (Z : State) (a0 : Array Value) (hw : ∀ d ∈ tables_1, d.before a0 Z = true) (a1 av : Addr) (h0 : Heap) (n0 : Nat) (Z0 : n0 ≤ h0.size) (ga : n0 ≤ a1) (E1 : Exa Z h0 a1 "com/example/sibling/sibling/xpath/IntColumn") (F_first : Fld Z h0 a1 "com/example/sibling/sibling/xpath/IntColumn" "first" "[I" .null) (F_tail : Fld Z h0 a1 "com/example/sibling/sibling/xpath/IntColumn" "tail" "[I" .null) (F_size : Fld Z h0 a1 "com/example/sibling/sibling/xpath/IntColumn" "size" "I" (.int (0 : Int32))) (F_limit : Fld Z h0 a1 "com/example/sibling/sibling/xpath/IntColumn" "limit" "I" (.int (0 : Int32))) (F_tailStart : Fld Z h0 a1 "com/example/sibling/sibling/xpath/IntColumn" "tailStart" "I" (.int (0 : Int32))) (Sn : Sta Z h0 "com/example/sibling/sibling/xpath/IntColumn" "NO_VALUES" "[I" (.ref av)) :
    Con l Z (⟨"com/example/sibling/sibling/xpath/IntColumn", "<init>", "()V"⟩ : MethodName) prog_55_method_1_code 1 none ({ frames := 1, cells := 0, slots := 0, locals := 14 } : Room) [(.ref a1)] h0 (fun v h L => v = none ∧ Fr n0 L ∧ Keep h0 h [a1] ∧ Exa Z h a1 "com/example/sibling/sibling/xpath/IntColumn" ∧ Fld Z h a1 "com/example/sibling/sibling/xpath/IntColumn" "first" "[I" (.ref av) ∧ Fld Z h a1 "com/example/sibling/sibling/xpath/IntColumn" "tail" "[I" (.ref av) ∧ Fld Z h a1 "com/example/sibling/sibling/xpath/IntColumn" "size" "I" (.int (0 : Int32)) ∧ Fld Z h a1 "com/example/sibling/sibling/xpath/IntColumn" "limit" "I" (.int (0 : Int32)) ∧ Fld Z h a1 "com/example/sibling/sibling/xpath/IntColumn" "tailStart" "I" (.int (0 : Int32))) := by
  refine OwnGo.Con.of (plainFor_of_name own_pn0) (Ls0 := #[.val (.ref a1)]) (fun m => own_ef_rmINI m a1) ?_
  intro p e s m below meth c T0 X0 hx hZ hby hml hown hnm hret hlk e0
  show Go p e below _ T0 (mkF m 0 #[.val (.ref a1)] [])
  refine OwnGo.aloadN X0 hx (hb hby d1_0) rfl rfl ?_
  show Go p e below _ T0 (mkF m 1 #[.val (.ref a1)] [(.ref a1)])
  refine OwnGo.initO X0 hx hZ hown (hw _ (List.mem_of_getElem? (i := 6) rfl)) (hw _ (List.mem_of_getElem? (i := 7) rfl)) (hw _ (List.mem_of_getElem? (i := 8) rfl)) e0 (by rw [hml]; rfl) (hb hby d1_1) (by decide) (W := 0) rfl (by decide) fun T1 X1 e1 => ?_
  show Go p e below _ T1 (mkF m 4 #[.val (.ref a1)] [])
  refine OwnGo.aloadN X1 hx (hb hby d1_4) rfl rfl ?_
  show Go p e below _ T1 (mkF m 5 #[.val (.ref a1)] [(.ref a1)])
  refine OwnGo.getS X1 hx hZ hown (host := "") (Or.inl (hw _ (List.mem_of_getElem? (i := 9) rfl))) Via.refl e1 Sn (hb hby d1_5) fun T2 X2 e2 => ?_
  show Go p e below _ T2 (mkF m 8 #[.val (.ref a1)] [(.ref av), (.ref a1)])
  refine OwnGo.putF X2 hx hZ hown (host := "") (Or.inl (hw _ (List.mem_of_getElem? (i := 11) rfl))) Via.refl e2 F_first E1 (Or.inl (hw _ (List.mem_of_getElem? (i := 12) rfl))) (hw _ (List.mem_of_getElem? (i := 1) rfl)) (ty := (.array .int)) (by decide) rfl rfl (hb hby d1_8) fun T3 h3 X3 e3 W3 => ?_
  have E1_c3 := E1.wr W3
  have F_first_c3 := F_first.same W3
  have F_tail_c3 := F_tail.other W3 (Or.inr (slot_ne (Or.inl (hw _ (List.mem_of_getElem? (i := 14) rfl))) (Or.inl (hw _ (List.mem_of_getElem? (i := 12) rfl))) (by decide) (t := (.array .int)) (t' := (.array .int)) (by decide) (by decide)))
  have F_size_c3 := F_size.other W3 (Or.inr (slot_ne (Or.inl (hw _ (List.mem_of_getElem? (i := 21) rfl))) (Or.inl (hw _ (List.mem_of_getElem? (i := 12) rfl))) (by decide) (t := .int) (t' := (.array .int)) (by decide) (by decide)))
  have F_limit_c3 := F_limit.other W3 (Or.inr (slot_ne (Or.inl (hw _ (List.mem_of_getElem? (i := 23) rfl))) (Or.inl (hw _ (List.mem_of_getElem? (i := 12) rfl))) (by decide) (t := .int) (t' := (.array .int)) (by decide) (by decide)))
  have F_tailStart_c3 := F_tailStart.other W3 (Or.inr (slot_ne (Or.inl (hw _ (List.mem_of_getElem? (i := 46) rfl))) (Or.inl (hw _ (List.mem_of_getElem? (i := 12) rfl))) (by decide) (t := .int) (t' := (.array .int)) (by decide) (by decide)))
  have Sn_c3 := Sn.wr W3
  have Z3 := Nat.le_trans Z0 (Keep.of_wr W3).1
  have K3_ := (Keep.refl h0 [a1]).wr W3 (Or.inl (List.mem_of_getElem? (i := 0) rfl))
  have N3_ := Fr.snoc X3 (Fr.nil n0) ga
  show Go p e below _ T3 (mkF m 11 #[.val (.ref a1)] [])
  refine OwnGo.aloadN X3 hx (hb hby d1_11) rfl rfl ?_
  show Go p e below _ T3 (mkF m 12 #[.val (.ref a1)] [(.ref a1)])
  refine OwnGo.getS X3 hx hZ hown (host := "") (Or.inl (hw _ (List.mem_of_getElem? (i := 9) rfl))) Via.refl e3 Sn_c3 (hb hby d1_12) fun T4 X4 e4 => ?_
  show Go p e below _ T4 (mkF m 15 #[.val (.ref a1)] [(.ref av), (.ref a1)])
  refine OwnGo.putF X4 hx hZ hown (host := "") (Or.inl (hw _ (List.mem_of_getElem? (i := 13) rfl))) Via.refl e4 F_tail_c3 E1_c3 (Or.inl (hw _ (List.mem_of_getElem? (i := 14) rfl))) (hw _ (List.mem_of_getElem? (i := 1) rfl)) (ty := (.array .int)) (by decide) rfl rfl (hb hby d1_15) fun T5 h5 X5 e5 W5 => ?_
  have E1_c5 := E1_c3.wr W5
  have F_first_c5 := F_first_c3.other W5 (Or.inr (slot_ne (Or.inl (hw _ (List.mem_of_getElem? (i := 12) rfl))) (Or.inl (hw _ (List.mem_of_getElem? (i := 14) rfl))) (by decide) (t := (.array .int)) (t' := (.array .int)) (by decide) (by decide)))
  have F_tail_c5 := F_tail_c3.same W5
  have F_size_c5 := F_size_c3.other W5 (Or.inr (slot_ne (Or.inl (hw _ (List.mem_of_getElem? (i := 21) rfl))) (Or.inl (hw _ (List.mem_of_getElem? (i := 14) rfl))) (by decide) (t := .int) (t' := (.array .int)) (by decide) (by decide)))
  have F_limit_c5 := F_limit_c3.other W5 (Or.inr (slot_ne (Or.inl (hw _ (List.mem_of_getElem? (i := 23) rfl))) (Or.inl (hw _ (List.mem_of_getElem? (i := 14) rfl))) (by decide) (t := .int) (t' := (.array .int)) (by decide) (by decide)))
  have F_tailStart_c5 := F_tailStart_c3.other W5 (Or.inr (slot_ne (Or.inl (hw _ (List.mem_of_getElem? (i := 46) rfl))) (Or.inl (hw _ (List.mem_of_getElem? (i := 14) rfl))) (by decide) (t := .int) (t' := (.array .int)) (by decide) (by decide)))
  have Sn_c5 := Sn_c3.wr W5
  have Z5 := Nat.le_trans Z3 (Keep.of_wr W5).1
  have K5_ := K3_.wr W5 (Or.inl (List.mem_of_getElem? (i := 0) rfl))
  have N5_ := Fr.snoc X5 N3_ ga
  show Go p e below _ T5 (mkF m 18 #[.val (.ref a1)] [])
  refine OwnGo.retV X5 hx hlk hret (hb hby d1_18) ?_ (by decide) (by decide)
  rw [e5]
  exact ⟨rfl, N5_, K5_, E1_c5, F_first_c5, F_tail_c5, F_size_c5, F_limit_c5, F_tailStart_c5⟩
theorem d6_0 : decode jdk_65_method_123_code 0 = .ok (.iload_n 1, 1) := by decide +kernel
theorem d6_1 : decode jdk_65_method_123_code 1 = .ok (.aload_n 0, 1) := by decide +kernel
theorem d6_2 : decode jdk_65_method_123_code 2 = .ok (.arraylength, 1) := by decide +kernel
theorem d6_3 : decode jdk_65_method_123_code 3 = .ok (.if_icmp .ne 11, 3) := by decide +kernel
theorem d6_14 : decode jdk_65_method_123_code 14 = .ok (.iload_n 1, 1) := by decide +kernel
theorem d6_15 : decode jdk_65_method_123_code 15 = .ok (.newarray .int, 2) := by decide +kernel
theorem d6_17 : decode jdk_65_method_123_code 17 = .ok (.astore_n 2, 1) := by decide +kernel
theorem d6_18 : decode jdk_65_method_123_code 18 = .ok (.aload_n 0, 1) := by decide +kernel
theorem d6_19 : decode jdk_65_method_123_code 19 = .ok (.iconst 0, 1) := by decide +kernel
theorem d6_20 : decode jdk_65_method_123_code 20 = .ok (.aload_n 2, 1) := by decide +kernel
theorem d6_21 : decode jdk_65_method_123_code 21 = .ok (.iconst 0, 1) := by decide +kernel
theorem d6_22 : decode jdk_65_method_123_code 22 = .ok (.aload_n 0, 1) := by decide +kernel
theorem d6_23 : decode jdk_65_method_123_code 23 = .ok (.arraylength, 1) := by decide +kernel
theorem d6_24 : decode jdk_65_method_123_code 24 = .ok (.iload_n 1, 1) := by decide +kernel
theorem d6_25 : decode jdk_65_method_123_code 25 = .ok (.invokestatic 304, 3) := by decide +kernel
theorem d6_28 : decode jdk_65_method_123_code 28 = .ok (.invokestatic 150, 3) := by decide +kernel
theorem d6_31 : decode jdk_65_method_123_code 31 = .ok (.aload_n 2, 1) := by decide +kernel
theorem d6_32 : decode jdk_65_method_123_code 32 = .ok (.areturn, 1) := by decide +kernel
theorem own_ef_rmCP (m : MethodId) (x0 : Addr) (x1 : Int32) : entryFrame m [(.ref x0), (.int x1)].toArray 3 = mkF m 0 #[.val (.ref x0), .val (.int x1), .unset] [] := by first | (simp [entryFrame, mkF, argsToLocals, Value.category]; done) | rfl
set_option maxRecDepth 65536 in
set_option maxHeartbeats 40000000 in
theorem rmCP (l : Launch) (Z : State) (a0 : Array Value) (hw : ∀ d ∈ tables_1, d.before a0 Z = true) (av : Addr) (kv : ClassId) (h0 : Heap) (n0 : Nat) (Z0 : n0 ≤ h0.size) (V_av : Arv Z h0 av kv .int (0 : Int32) [] (.int (0 : Int32))) :
    Con l Z (⟨"java/util/Arrays", "copyOf", "([II)[I"⟩ : MethodName) jdk_65_method_123_code 3 (some (.array .int)) ({ frames := 1, cells := 1, slots := 8, locals := 60 } : Room) [(.ref av), (.int (8 : Int32))] h0 (fun v h L => ∃ r k, v = some (.ref r) ∧ Fr n0 L ∧ h0.size ≤ r ∧ n0 ≤ r ∧ Keep h0 h [] ∧ Arv Z h r k .int (8 : Int32) [(.int (0 : Int32)), (.int (0 : Int32)), (.int (0 : Int32)), (.int (0 : Int32)), (.int (0 : Int32)), (.int (0 : Int32)), (.int (0 : Int32)), (.int (0 : Int32))] (.int (0 : Int32))) := by
  refine OwnGo.Con.of (plainFor_of_name own_pn1) (Ls0 := #[.val (.ref av), .val (.int (8 : Int32)), .unset]) (fun m => own_ef_rmCP m av (8 : Int32)) ?_
  intro p e s m below meth c T0 X0 hx hZ hby hml hown hnm hret hlk e0
  show Go p e below _ T0 (mkF m 0 #[.val (.ref av), .val (.int (8 : Int32)), .unset] [])
  refine OwnGo.iloadN X0 hx (hb hby d6_0) rfl ?_
  show Go p e below _ T0 (mkF m 1 #[.val (.ref av), .val (.int (8 : Int32)), .unset] [(.int (8 : Int32))])
  refine OwnGo.aloadN X0 hx (hb hby d6_1) rfl rfl ?_
  show Go p e below _ T0 (mkF m 2 #[.val (.ref av), .val (.int (8 : Int32)), .unset] [(.ref av), (.int (8 : Int32))])
  obtain ⟨cl1, Ar1, -, Sz1, Nn1, -, -⟩ := (id V_av)
  refine OwnGo.arraylength X0 hx hZ e0 Ar1 (len_of Sz1 Nn1) (hb hby d6_2) ?_
  show Go p e below _ T0 (mkF m 3 #[.val (.ref av), .val (.int (8 : Int32)), .unset] [(.int (0 : Int32)), (.int (8 : Int32))])
  refine OwnGo.ic_ne X0 hx (pc' := 14) (hb hby d6_3) (by decide) (by decide) (fun _ => ?_) (fun q => absurd q (by decide))
  show Go p e below _ T0 (mkF m 14 #[.val (.ref av), .val (.int (8 : Int32)), .unset] [])
  refine OwnGo.iloadN X0 hx (hb hby d6_14) rfl ?_
  show Go p e below _ T0 (mkF m 15 #[.val (.ref av), .val (.int (8 : Int32)), .unset] [(.int (8 : Int32))])
  refine OwnGo.newP X0 hx hZ (aty := .int) (hw _ (List.mem_of_getElem? (i := 37) rfl)) e0 (hb hby d6_15) (n := (8 : Int32)) (by decide) (cap := 8) (by decide) (by decide) (by decide) (by decide) fun T2 h2 k2 b2 g2 X2 e2 E2 A2 => ?_
  have gb2 : n0 ≤ b2 := Nat.le_trans Z0 (Nat.le_of_eq g2.symm)
  have gz2 : h0.size ≤ b2 := Nat.le_trans (Keep.refl h0 []).1 (Nat.le_of_eq g2.symm)
  have ne_av_b2 : av ≠ b2 := Nat.ne_of_lt (Nat.lt_of_lt_of_le V_av.lt (Nat.le_of_eq g2.symm))
  have V_av_c2 := V_av.ext E2
  have Z2 := Nat.le_trans Z0 E2.1
  have K2_ := (Keep.refl h0 []).ext E2
  have V2 : Arv Z h2 b2 k2 .int (8 : Int32) [(.int (0 : Int32)), (.int (0 : Int32)), (.int (0 : Int32)), (.int (0 : Int32)), (.int (0 : Int32)), (.int (0 : Int32)), (.int (0 : Int32)), (.int (0 : Int32))] (.int (0 : Int32)) := (Arv.new A2 (by decide)).pad (pad_rep [] _ 8)
  show Go p e below _ T2 (mkF m 17 #[.val (.ref av), .val (.int (8 : Int32)), .unset] [(.ref b2)])
  refine OwnGo.astoreN X2 hx (hb hby d6_17) rfl (Ls' := #[.val (.ref av), .val (.int (8 : Int32)), .val (.ref b2)]) rfl ?_
  show Go p e below _ T2 (mkF m 18 #[.val (.ref av), .val (.int (8 : Int32)), .val (.ref b2)] [])
  refine OwnGo.aloadN X2 hx (hb hby d6_18) rfl rfl ?_
  show Go p e below _ T2 (mkF m 19 #[.val (.ref av), .val (.int (8 : Int32)), .val (.ref b2)] [(.ref av)])
  refine OwnGo.iconst X2 hx (z := (0 : Int32)) (hb hby d6_19) (by decide) ?_
  show Go p e below _ T2 (mkF m 20 #[.val (.ref av), .val (.int (8 : Int32)), .val (.ref b2)] [(.int (0 : Int32)), (.ref av)])
  refine OwnGo.aloadN X2 hx (hb hby d6_20) rfl rfl ?_
  show Go p e below _ T2 (mkF m 21 #[.val (.ref av), .val (.int (8 : Int32)), .val (.ref b2)] [(.ref b2), (.int (0 : Int32)), (.ref av)])
  refine OwnGo.iconst X2 hx (z := (0 : Int32)) (hb hby d6_21) (by decide) ?_
  show Go p e below _ T2 (mkF m 22 #[.val (.ref av), .val (.int (8 : Int32)), .val (.ref b2)] [(.int (0 : Int32)), (.ref b2), (.int (0 : Int32)), (.ref av)])
  refine OwnGo.aloadN X2 hx (hb hby d6_22) rfl rfl ?_
  show Go p e below _ T2 (mkF m 23 #[.val (.ref av), .val (.int (8 : Int32)), .val (.ref b2)] [(.ref av), (.int (0 : Int32)), (.ref b2), (.int (0 : Int32)), (.ref av)])
  obtain ⟨cl3, Ar3, -, Sz3, Nn3, -, -⟩ := (id V_av_c2)
  refine OwnGo.arraylength X2 hx hZ e2 Ar3 (len_of Sz3 Nn3) (hb hby d6_23) ?_
  show Go p e below _ T2 (mkF m 24 #[.val (.ref av), .val (.int (8 : Int32)), .val (.ref b2)] [(.int (0 : Int32)), (.int (0 : Int32)), (.ref b2), (.int (0 : Int32)), (.ref av)])
  refine OwnGo.iloadN X2 hx (hb hby d6_24) rfl ?_
  show Go p e below _ T2 (mkF m 25 #[.val (.ref av), .val (.int (8 : Int32)), .val (.ref b2)] [(.int (8 : Int32)), (.int (0 : Int32)), (.int (0 : Int32)), (.ref b2), (.int (0 : Int32)), (.ref av)])
  refine OwnGo.callS X2 hx hZ hown (y := (⟨"java/lang/Math", "min", "(II)I"⟩ : MethodName)) (hw _ (List.mem_of_getElem? (i := 38) rfl)) (hw _ (List.mem_of_getElem? (i := 39) rfl)) (hw _ (List.mem_of_getElem? (i := 31) rfl)) (hw _ (List.mem_of_getElem? (i := 40) rfl)) (by decide) e2 (as := [(.int (0 : Int32)), (.int (8 : Int32))]) (rmMI l Z a0 hw (0 : Int32) (8 : Int32) (0 : Int32) h2 (by decide)) (W := 4) (by decide) (by decide) (by decide) (by decide) (by rw [hml]; rfl) (lenOf own_pd0 rfl) (rest := [(.int (0 : Int32)), (.ref b2), (.int (0 : Int32)), (.ref av)]) rfl rfl (hb hby d6_25) fun v4 T4 L4 X4 q4 => ?_
  obtain ⟨rfl, e4, rfl⟩ := q4
  rw [List.append_nil] at X4
  show Go p e below _ T4 (mkF m 28 #[.val (.ref av), .val (.int (8 : Int32)), .val (.ref b2)] [(.int (0 : Int32)), (.int (0 : Int32)), (.ref b2), (.int (0 : Int32)), (.ref av)])
  obtain ⟨T5, h5, L5, X5, e5, N5, K5, V5, st5⟩ := cpA X4 hx hZ hown (hw _ (List.mem_of_getElem? (i := 41) rfl)) (hw _ (List.mem_of_getElem? (i := 44) rfl)) (hw _ (List.mem_of_getElem? (i := 42) rfl)) (hw _ (List.mem_of_getElem? (i := 43) rfl)) e4 V_av_c2 V2 (us := []) (Or.inl ⟨rfl, rfl⟩) (by decide) (by decide) (by decide) (by decide) (by decide) rfl (by decide) (Fr.nil n0) gb2 (g := (mkF m 28 #[.val (.ref av), .val (.int (8 : Int32)), .val (.ref b2)] [(.int (0 : Int32)), (.int (0 : Int32)), (.ref b2), (.int (0 : Int32)), (.ref av)])) rfl (by rw [hml]; rfl) rfl (hb hby d6_28) (by decide) (W := 0) (by show 2 * 0 + _ ≤ _; exact Nat.le_of_eq rfl) (by decide)
  refine Go.of st5 ?_
  have V_av_c5 := V_av_c2.keep K5 (ninS ne_av_b2 nin0)
  have Z5 := Nat.le_trans Z2 K5.1
  have K5_ := K2_.trans K5 (allS (Or.inr gz2) all0)
  have Vv5 : Arv Z h5 b2 k2 .int (8 : Int32) [(.int (0 : Int32)), (.int (0 : Int32)), (.int (0 : Int32)), (.int (0 : Int32)), (.int (0 : Int32)), (.int (0 : Int32)), (.int (0 : Int32)), (.int (0 : Int32))] (.int (0 : Int32)) := V5
  show Go p e below _ T5 (mkF m 31 #[.val (.ref av), .val (.int (8 : Int32)), .val (.ref b2)] [])
  refine OwnGo.aloadN X5 hx (hb hby d6_31) rfl rfl ?_
  show Go p e below _ T5 (mkF m 32 #[.val (.ref av), .val (.int (8 : Int32)), .val (.ref b2)] [(.ref b2)])
  refine OwnGo.retA X5 hx hlk rfl rfl hret (hb hby d6_32) ?_ (by decide) (by decide)
  rw [e5]
  exact ⟨b2, k2, rfl, N5, gz2, gb2, K5_, Vv5⟩
theorem d4_0 : decode prog_55_method_6_code 0 = .ok (.aload_n 0, 1) := by decide +kernel
theorem d4_1 : decode prog_55_method_6_code 1 = .ok (.getfield 19, 3) := by decide +kernel
theorem d4_4 : decode prog_55_method_6_code 4 = .ok (.ldc 35, 2) := by decide +kernel
theorem d4_6 : decode prog_55_method_6_code 6 = .ok (.if_icmp .ne 13, 3) := by decide +kernel
theorem d4_19 : decode prog_55_method_6_code 19 = .ok (.aload_n 0, 1) := by decide +kernel
theorem d4_20 : decode prog_55_method_6_code 20 = .ok (.getfield 19, 3) := by decide +kernel
theorem d4_23 : decode prog_55_method_6_code 23 = .ok (.bipush 14, 2) := by decide +kernel
theorem d4_25 : decode prog_55_method_6_code 25 = .ok (.iushr, 1) := by decide +kernel
theorem d4_26 : decode prog_55_method_6_code 26 = .ok (.istore_n 1, 1) := by decide +kernel
theorem d4_27 : decode prog_55_method_6_code 27 = .ok (.aload_n 0, 1) := by decide +kernel
theorem d4_28 : decode prog_55_method_6_code 28 = .ok (.getfield 19, 3) := by decide +kernel
theorem d4_31 : decode prog_55_method_6_code 31 = .ok (.sipush 16383, 3) := by decide +kernel
theorem d4_34 : decode prog_55_method_6_code 34 = .ok (.iand, 1) := by decide +kernel
theorem d4_35 : decode prog_55_method_6_code 35 = .ok (.istore_n 2, 1) := by decide +kernel
theorem d4_36 : decode prog_55_method_6_code 36 = .ok (.iload_n 1, 1) := by decide +kernel
theorem d4_37 : decode prog_55_method_6_code 37 = .ok (.ifCond .ne 42, 3) := by decide +kernel
theorem d4_40 : decode prog_55_method_6_code 40 = .ok (.iload_n 2, 1) := by decide +kernel
theorem d4_41 : decode prog_55_method_6_code 41 = .ok (.aload_n 0, 1) := by decide +kernel
theorem d4_42 : decode prog_55_method_6_code 42 = .ok (.getfield 13, 3) := by decide +kernel
theorem d4_45 : decode prog_55_method_6_code 45 = .ok (.arraylength, 1) := by decide +kernel
theorem d4_46 : decode prog_55_method_6_code 46 = .ok (.if_icmp .ne 22, 3) := by decide +kernel
theorem d4_49 : decode prog_55_method_6_code 49 = .ok (.aload_n 0, 1) := by decide +kernel
theorem d4_50 : decode prog_55_method_6_code 50 = .ok (.aload_n 0, 1) := by decide +kernel
theorem d4_51 : decode prog_55_method_6_code 51 = .ok (.getfield 13, 3) := by decide +kernel
theorem d4_54 : decode prog_55_method_6_code 54 = .ok (.bipush 8, 2) := by decide +kernel
theorem d4_56 : decode prog_55_method_6_code 56 = .ok (.iload_n 2, 1) := by decide +kernel
theorem d4_57 : decode prog_55_method_6_code 57 = .ok (.iconst 2, 1) := by decide +kernel
theorem d4_58 : decode prog_55_method_6_code 58 = .ok (.imul, 1) := by decide +kernel
theorem d4_59 : decode prog_55_method_6_code 59 = .ok (.invokestatic 43, 3) := by decide +kernel
theorem d4_62 : decode prog_55_method_6_code 62 = .ok (.invokestatic 49, 3) := by decide +kernel
theorem d4_65 : decode prog_55_method_6_code 65 = .ok (.putfield 13, 3) := by decide +kernel
theorem d4_68 : decode prog_55_method_6_code 68 = .ok (.aload_n 0, 1) := by decide +kernel
theorem d4_69 : decode prog_55_method_6_code 69 = .ok (.aload_n 0, 1) := by decide +kernel
theorem d4_70 : decode prog_55_method_6_code 70 = .ok (.getfield 13, 3) := by decide +kernel
theorem d4_73 : decode prog_55_method_6_code 73 = .ok (.putfield 16, 3) := by decide +kernel
theorem d4_76 : decode prog_55_method_6_code 76 = .ok (.goto 87, 3) := by decide +kernel
theorem d4_163 : decode prog_55_method_6_code 163 = .ok (.aload_n 0, 1) := by decide +kernel
theorem d4_164 : decode prog_55_method_6_code 164 = .ok (.aload_n 0, 1) := by decide +kernel
theorem d4_165 : decode prog_55_method_6_code 165 = .ok (.getfield 19, 3) := by decide +kernel
theorem d4_168 : decode prog_55_method_6_code 168 = .ok (.iload_n 2, 1) := by decide +kernel
theorem d4_169 : decode prog_55_method_6_code 169 = .ok (.isub, 1) := by decide +kernel
theorem d4_170 : decode prog_55_method_6_code 170 = .ok (.putfield 60, 3) := by decide +kernel
theorem d4_173 : decode prog_55_method_6_code 173 = .ok (.aload_n 0, 1) := by decide +kernel
theorem d4_174 : decode prog_55_method_6_code 174 = .ok (.ldc2_w 63, 3) := by decide +kernel
theorem d4_177 : decode prog_55_method_6_code 177 = .ok (.aload_n 0, 1) := by decide +kernel
theorem d4_178 : decode prog_55_method_6_code 178 = .ok (.getfield 60, 3) := by decide +kernel
theorem d4_181 : decode prog_55_method_6_code 181 = .ok (.i2l, 1) := by decide +kernel
theorem d4_182 : decode prog_55_method_6_code 182 = .ok (.aload_n 0, 1) := by decide +kernel
theorem d4_183 : decode prog_55_method_6_code 183 = .ok (.getfield 16, 3) := by decide +kernel
theorem d4_186 : decode prog_55_method_6_code 186 = .ok (.arraylength, 1) := by decide +kernel
theorem d4_187 : decode prog_55_method_6_code 187 = .ok (.i2l, 1) := by decide +kernel
theorem d4_188 : decode prog_55_method_6_code 188 = .ok (.ladd, 1) := by decide +kernel
theorem d4_189 : decode prog_55_method_6_code 189 = .ok (.invokestatic 65, 3) := by decide +kernel
theorem d4_192 : decode prog_55_method_6_code 192 = .ok (.l2i, 1) := by decide +kernel
theorem d4_193 : decode prog_55_method_6_code 193 = .ok (.putfield 27, 3) := by decide +kernel
theorem d4_196 : decode prog_55_method_6_code 196 = .ok (.return_, 1) := by decide +kernel
theorem own_ef_rmMKR (m : MethodId) (x0 : Addr) : entryFrame m [(.ref x0)].toArray 3 = mkF m 0 #[.val (.ref x0), .unset, .unset] [] := by first | (simp [entryFrame, mkF, argsToLocals, Value.category]; done) | rfl
set_option maxRecDepth 65536 in
set_option maxHeartbeats 40000000 in
theorem rmMKR (l : Launch) (Z : State) (a0 : Array Value) (hw : ∀ d ∈ tables_1, d.before a0 Z = true) (a1 av : Addr) (kv : ClassId) (h0 : Heap) (n0 : Nat) (Z0 : n0 ≤ h0.size) (ga : n0 ≤ a1) (E1 : Exa Z h0 a1 "com/example/sibling/sibling/xpath/IntColumn") (F_first : Fld Z h0 a1 "com/example/sibling/sibling/xpath/IntColumn" "first" "[I" (.ref av)) (F_tail : Fld Z h0 a1 "com/example/sibling/sibling/xpath/IntColumn" "tail" "[I" (.ref av)) (F_size : Fld Z h0 a1 "com/example/sibling/sibling/xpath/IntColumn" "size" "I" (.int (0 : Int32))) (F_limit : Fld Z h0 a1 "com/example/sibling/sibling/xpath/IntColumn" "limit" "I" (.int (0 : Int32))) (F_tailStart : Fld Z h0 a1 "com/example/sibling/sibling/xpath/IntColumn" "tailStart" "I" (.int (0 : Int32))) (V_av : Arv Z h0 av kv .int (0 : Int32) [] (.int (0 : Int32))) (nav : a1 ≠ av) :
    Con l Z (⟨"com/example/sibling/sibling/xpath/IntColumn", "makeRoom", "()V"⟩ : MethodName) prog_55_method_6_code 3 none ({ frames := 2, cells := 1, slots := 8, locals := 76 } : Room) [(.ref a1)] h0 (fun v h L => ∃ r kr, v = none ∧ Fr n0 L ∧ h0.size ≤ r ∧ n0 ≤ r ∧ Keep h0 h [a1] ∧ Exa Z h a1 "com/example/sibling/sibling/xpath/IntColumn" ∧ Fld Z h a1 "com/example/sibling/sibling/xpath/IntColumn" "first" "[I" (.ref r) ∧ Fld Z h a1 "com/example/sibling/sibling/xpath/IntColumn" "tail" "[I" (.ref r) ∧ Fld Z h a1 "com/example/sibling/sibling/xpath/IntColumn" "size" "I" (.int (0 : Int32)) ∧ Fld Z h a1 "com/example/sibling/sibling/xpath/IntColumn" "limit" "I" (.int (8 : Int32)) ∧ Fld Z h a1 "com/example/sibling/sibling/xpath/IntColumn" "tailStart" "I" (.int (0 : Int32)) ∧ Arv Z h r kr .int (8 : Int32) [(.int (0 : Int32)), (.int (0 : Int32)), (.int (0 : Int32)), (.int (0 : Int32)), (.int (0 : Int32)), (.int (0 : Int32)), (.int (0 : Int32)), (.int (0 : Int32))] (.int (0 : Int32))) := by
  refine OwnGo.Con.of (plainFor_of_name own_pn0) (Ls0 := #[.val (.ref a1), .unset, .unset]) (fun m => own_ef_rmMKR m a1) ?_
  intro p e s m below meth c T0 X0 hx hZ hby hml hown hnm hret hlk e0
  show Go p e below _ T0 (mkF m 0 #[.val (.ref a1), .unset, .unset] [])
  refine OwnGo.aloadN X0 hx (hb hby d4_0) rfl rfl ?_
  show Go p e below _ T0 (mkF m 1 #[.val (.ref a1), .unset, .unset] [(.ref a1)])
  refine OwnGo.getF X0 hx hZ hown (host := "") (Or.inl (hw _ (List.mem_of_getElem? (i := 20) rfl))) Via.refl e0 F_size (hb hby d4_1) fun T1 X1 e1 => ?_
  show Go p e below _ T1 (mkF m 4 #[.val (.ref a1), .unset, .unset] [(.int (0 : Int32))])
  refine OwnGo.ldcInt X1 hx hZ hown (v := (2147483647 : Int32)) (hw _ (List.mem_of_getElem? (i := 28) rfl)) (hb hby d4_4) ?_
  show Go p e below _ T1 (mkF m 6 #[.val (.ref a1), .unset, .unset] [(.int (2147483647 : Int32)), (.int (0 : Int32))])
  refine OwnGo.ic_ne X1 hx (pc' := 19) (hb hby d4_6) (by decide) (by decide) (fun _ => ?_) (fun q => absurd q (by decide))
  show Go p e below _ T1 (mkF m 19 #[.val (.ref a1), .unset, .unset] [])
  refine OwnGo.aloadN X1 hx (hb hby d4_19) rfl rfl ?_
  show Go p e below _ T1 (mkF m 20 #[.val (.ref a1), .unset, .unset] [(.ref a1)])
  refine OwnGo.getF X1 hx hZ hown (host := "") (Or.inl (hw _ (List.mem_of_getElem? (i := 20) rfl))) Via.refl e1 F_size (hb hby d4_20) fun T2 X2 e2 => ?_
  show Go p e below _ T2 (mkF m 23 #[.val (.ref a1), .unset, .unset] [(.int (0 : Int32))])
  refine OwnGo.bipush X2 hx (z := (14 : Int32)) (hb hby d4_23) (by decide) ?_
  show Go p e below _ T2 (mkF m 25 #[.val (.ref a1), .unset, .unset] [(.int (14 : Int32)), (.int (0 : Int32))])
  refine OwnGo.iushr X2 hx (z := (0 : Int32)) (hb hby d4_25) (by decide) ?_
  show Go p e below _ T2 (mkF m 26 #[.val (.ref a1), .unset, .unset] [(.int (0 : Int32))])
  refine OwnGo.istoreN X2 hx (hb hby d4_26) (Ls' := #[.val (.ref a1), .val (.int (0 : Int32)), .unset]) rfl ?_
  show Go p e below _ T2 (mkF m 27 #[.val (.ref a1), .val (.int (0 : Int32)), .unset] [])
  refine OwnGo.aloadN X2 hx (hb hby d4_27) rfl rfl ?_
  show Go p e below _ T2 (mkF m 28 #[.val (.ref a1), .val (.int (0 : Int32)), .unset] [(.ref a1)])
  refine OwnGo.getF X2 hx hZ hown (host := "") (Or.inl (hw _ (List.mem_of_getElem? (i := 20) rfl))) Via.refl e2 F_size (hb hby d4_28) fun T3 X3 e3 => ?_
  show Go p e below _ T3 (mkF m 31 #[.val (.ref a1), .val (.int (0 : Int32)), .unset] [(.int (0 : Int32))])
  refine OwnGo.sipush X3 hx (z := (16383 : Int32)) (hb hby d4_31) (by decide) ?_
  show Go p e below _ T3 (mkF m 34 #[.val (.ref a1), .val (.int (0 : Int32)), .unset] [(.int (16383 : Int32)), (.int (0 : Int32))])
  refine OwnGo.iand X3 hx (z := (0 : Int32)) (hb hby d4_34) (by decide) ?_
  show Go p e below _ T3 (mkF m 35 #[.val (.ref a1), .val (.int (0 : Int32)), .unset] [(.int (0 : Int32))])
  refine OwnGo.istoreN X3 hx (hb hby d4_35) (Ls' := #[.val (.ref a1), .val (.int (0 : Int32)), .val (.int (0 : Int32))]) rfl ?_
  show Go p e below _ T3 (mkF m 36 #[.val (.ref a1), .val (.int (0 : Int32)), .val (.int (0 : Int32))] [])
  refine OwnGo.iloadN X3 hx (hb hby d4_36) rfl ?_
  show Go p e below _ T3 (mkF m 37 #[.val (.ref a1), .val (.int (0 : Int32)), .val (.int (0 : Int32))] [(.int (0 : Int32))])
  refine OwnGo.if_ne X3 hx (pc' := 79) (hb hby d4_37) (by decide) (by decide) (fun q => absurd q (by decide)) (fun _ => ?_)
  show Go p e below _ T3 (mkF m 40 #[.val (.ref a1), .val (.int (0 : Int32)), .val (.int (0 : Int32))] [])
  refine OwnGo.iloadN X3 hx (hb hby d4_40) rfl ?_
  show Go p e below _ T3 (mkF m 41 #[.val (.ref a1), .val (.int (0 : Int32)), .val (.int (0 : Int32))] [(.int (0 : Int32))])
  refine OwnGo.aloadN X3 hx (hb hby d4_41) rfl rfl ?_
  show Go p e below _ T3 (mkF m 42 #[.val (.ref a1), .val (.int (0 : Int32)), .val (.int (0 : Int32))] [(.ref a1), (.int (0 : Int32))])
  refine OwnGo.getF X3 hx hZ hown (host := "") (Or.inl (hw _ (List.mem_of_getElem? (i := 11) rfl))) Via.refl e3 F_first (hb hby d4_42) fun T4 X4 e4 => ?_
  show Go p e below _ T4 (mkF m 45 #[.val (.ref a1), .val (.int (0 : Int32)), .val (.int (0 : Int32))] [(.ref av), (.int (0 : Int32))])
  obtain ⟨cl5, Ar5, -, Sz5, Nn5, -, -⟩ := (id V_av)
  refine OwnGo.arraylength X4 hx hZ e4 Ar5 (len_of Sz5 Nn5) (hb hby d4_45) ?_
  show Go p e below _ T4 (mkF m 46 #[.val (.ref a1), .val (.int (0 : Int32)), .val (.int (0 : Int32))] [(.int (0 : Int32)), (.int (0 : Int32))])
  refine OwnGo.ic_ne X4 hx (pc' := 68) (hb hby d4_46) (by decide) (by decide) (fun q => absurd q (by decide)) (fun _ => ?_)
  show Go p e below _ T4 (mkF m 49 #[.val (.ref a1), .val (.int (0 : Int32)), .val (.int (0 : Int32))] [])
  refine OwnGo.aloadN X4 hx (hb hby d4_49) rfl rfl ?_
  show Go p e below _ T4 (mkF m 50 #[.val (.ref a1), .val (.int (0 : Int32)), .val (.int (0 : Int32))] [(.ref a1)])
  refine OwnGo.aloadN X4 hx (hb hby d4_50) rfl rfl ?_
  show Go p e below _ T4 (mkF m 51 #[.val (.ref a1), .val (.int (0 : Int32)), .val (.int (0 : Int32))] [(.ref a1), (.ref a1)])
  refine OwnGo.getF X4 hx hZ hown (host := "") (Or.inl (hw _ (List.mem_of_getElem? (i := 11) rfl))) Via.refl e4 F_first (hb hby d4_51) fun T6 X6 e6 => ?_
  show Go p e below _ T6 (mkF m 54 #[.val (.ref a1), .val (.int (0 : Int32)), .val (.int (0 : Int32))] [(.ref av), (.ref a1)])
  refine OwnGo.bipush X6 hx (z := (8 : Int32)) (hb hby d4_54) (by decide) ?_
  show Go p e below _ T6 (mkF m 56 #[.val (.ref a1), .val (.int (0 : Int32)), .val (.int (0 : Int32))] [(.int (8 : Int32)), (.ref av), (.ref a1)])
  refine OwnGo.iloadN X6 hx (hb hby d4_56) rfl ?_
  show Go p e below _ T6 (mkF m 57 #[.val (.ref a1), .val (.int (0 : Int32)), .val (.int (0 : Int32))] [(.int (0 : Int32)), (.int (8 : Int32)), (.ref av), (.ref a1)])
  refine OwnGo.iconst X6 hx (z := (2 : Int32)) (hb hby d4_57) (by decide) ?_
  show Go p e below _ T6 (mkF m 58 #[.val (.ref a1), .val (.int (0 : Int32)), .val (.int (0 : Int32))] [(.int (2 : Int32)), (.int (0 : Int32)), (.int (8 : Int32)), (.ref av), (.ref a1)])
  refine OwnGo.imul X6 hx (z := (0 : Int32)) (hb hby d4_58) (by decide) ?_
  show Go p e below _ T6 (mkF m 59 #[.val (.ref a1), .val (.int (0 : Int32)), .val (.int (0 : Int32))] [(.int (0 : Int32)), (.int (8 : Int32)), (.ref av), (.ref a1)])
  refine OwnGo.callS X6 hx hZ hown (y := (⟨"java/lang/Math", "max", "(II)I"⟩ : MethodName)) (hw _ (List.mem_of_getElem? (i := 29) rfl)) (hw _ (List.mem_of_getElem? (i := 30) rfl)) (hw _ (List.mem_of_getElem? (i := 31) rfl)) (hw _ (List.mem_of_getElem? (i := 32) rfl)) (by decide) e6 (as := [(.int (8 : Int32)), (.int (0 : Int32))]) (rmMX l Z a0 hw (8 : Int32) (0 : Int32) (8 : Int32) h0 (by decide)) (W := 2) (by decide) (by decide) (by decide) (by decide) (by rw [hml]; rfl) (lenOf own_pd0 rfl) (rest := [(.ref av), (.ref a1)]) rfl rfl (hb hby d4_59) fun v7 T7 L7 X7 q7 => ?_
  obtain ⟨rfl, e7, rfl⟩ := q7
  rw [List.append_nil] at X7
  show Go p e below _ T7 (mkF m 62 #[.val (.ref a1), .val (.int (0 : Int32)), .val (.int (0 : Int32))] [(.int (8 : Int32)), (.ref av), (.ref a1)])
  refine OwnGo.callS X7 hx hZ hown (y := (⟨"java/util/Arrays", "copyOf", "([II)[I"⟩ : MethodName)) (hw _ (List.mem_of_getElem? (i := 33) rfl)) (hw _ (List.mem_of_getElem? (i := 34) rfl)) (hw _ (List.mem_of_getElem? (i := 35) rfl)) (hw _ (List.mem_of_getElem? (i := 36) rfl)) (by decide) e7 (as := [(.ref av), (.int (8 : Int32))]) (rmCP l Z a0 hw av kv h0 n0 Z0 V_av) (W := 1) (by decide) (by decide) (by decide) (by decide) (by rw [hml]; rfl) (lenOf own_pd1 rfl) (rest := [(.ref a1)]) rfl rfl (hb hby d4_62) fun v8 T8 L8 X8 q8 => ?_
  obtain ⟨r, kr, rfl, N8, g08, g18, K8, V8⟩ := q8
  have nr_a1 : a1 ≠ r := Nat.ne_of_lt (Nat.lt_of_lt_of_le E1.lt g08)
  have nr_av : av ≠ r := Nat.ne_of_lt (Nat.lt_of_lt_of_le V_av.lt g08)
  have E1_c8 := E1.keep K8
  have F_first_c8 := F_first.keep K8 nin0
  have F_tail_c8 := F_tail.keep K8 nin0
  have F_size_c8 := F_size.keep K8 nin0
  have F_limit_c8 := F_limit.keep K8 nin0
  have F_tailStart_c8 := F_tailStart.keep K8 nin0
  have V_av_c8 := V_av.keep K8 nin0
  have Z8 := Nat.le_trans Z0 K8.1
  have K8_ := (Keep.refl h0 [a1]).trans K8 all0
  have gz0_8 : h0.size ≤ r := Nat.le_trans (Keep.refl h0 [a1]).1 g08
  show Go p e below _ T8 (mkF m 65 #[.val (.ref a1), .val (.int (0 : Int32)), .val (.int (0 : Int32))] [(.ref r), (.ref a1)])
  refine OwnGo.putF X8 hx hZ hown (host := "") (Or.inl (hw _ (List.mem_of_getElem? (i := 11) rfl))) Via.refl rfl F_first_c8 E1_c8 (Or.inl (hw _ (List.mem_of_getElem? (i := 12) rfl))) (hw _ (List.mem_of_getElem? (i := 1) rfl)) (ty := (.array .int)) (by decide) rfl rfl (hb hby d4_65) fun T9 h9 X9 e9 W9 => ?_
  have E1_c9 := E1_c8.wr W9
  have F_first_c9 := F_first_c8.same W9
  have F_tail_c9 := F_tail_c8.other W9 (Or.inr (slot_ne (Or.inl (hw _ (List.mem_of_getElem? (i := 14) rfl))) (Or.inl (hw _ (List.mem_of_getElem? (i := 12) rfl))) (by decide) (t := (.array .int)) (t' := (.array .int)) (by decide) (by decide)))
  have F_size_c9 := F_size_c8.other W9 (Or.inr (slot_ne (Or.inl (hw _ (List.mem_of_getElem? (i := 21) rfl))) (Or.inl (hw _ (List.mem_of_getElem? (i := 12) rfl))) (by decide) (t := .int) (t' := (.array .int)) (by decide) (by decide)))
  have F_limit_c9 := F_limit_c8.other W9 (Or.inr (slot_ne (Or.inl (hw _ (List.mem_of_getElem? (i := 23) rfl))) (Or.inl (hw _ (List.mem_of_getElem? (i := 12) rfl))) (by decide) (t := .int) (t' := (.array .int)) (by decide) (by decide)))
  have F_tailStart_c9 := F_tailStart_c8.other W9 (Or.inr (slot_ne (Or.inl (hw _ (List.mem_of_getElem? (i := 46) rfl))) (Or.inl (hw _ (List.mem_of_getElem? (i := 12) rfl))) (by decide) (t := .int) (t' := (.array .int)) (by decide) (by decide)))
  have V_av_c9 := V_av_c8.other W9 (Ne.symm nav)
  have V8_c9 := V8.other W9 (Ne.symm nr_a1)
  have Z9 := Nat.le_trans Z8 (Keep.of_wr W9).1
  have K9_ := K8_.wr W9 (Or.inl (List.mem_of_getElem? (i := 0) rfl))
  have N9_ := Fr.snoc X9 (Fr.app (Fr.nil n0) N8) ga
  show Go p e below _ T9 (mkF m 68 #[.val (.ref a1), .val (.int (0 : Int32)), .val (.int (0 : Int32))] [])
  refine OwnGo.aloadN X9 hx (hb hby d4_68) rfl rfl ?_
  show Go p e below _ T9 (mkF m 69 #[.val (.ref a1), .val (.int (0 : Int32)), .val (.int (0 : Int32))] [(.ref a1)])
  refine OwnGo.aloadN X9 hx (hb hby d4_69) rfl rfl ?_
  show Go p e below _ T9 (mkF m 70 #[.val (.ref a1), .val (.int (0 : Int32)), .val (.int (0 : Int32))] [(.ref a1), (.ref a1)])
  refine OwnGo.getF X9 hx hZ hown (host := "") (Or.inl (hw _ (List.mem_of_getElem? (i := 11) rfl))) Via.refl e9 F_first_c9 (hb hby d4_70) fun T10 X10 e10 => ?_
  show Go p e below _ T10 (mkF m 73 #[.val (.ref a1), .val (.int (0 : Int32)), .val (.int (0 : Int32))] [(.ref r), (.ref a1)])
  refine OwnGo.putF X10 hx hZ hown (host := "") (Or.inl (hw _ (List.mem_of_getElem? (i := 13) rfl))) Via.refl e10 F_tail_c9 E1_c9 (Or.inl (hw _ (List.mem_of_getElem? (i := 14) rfl))) (hw _ (List.mem_of_getElem? (i := 1) rfl)) (ty := (.array .int)) (by decide) rfl rfl (hb hby d4_73) fun T11 h11 X11 e11 W11 => ?_
  have E1_c11 := E1_c9.wr W11
  have F_first_c11 := F_first_c9.other W11 (Or.inr (slot_ne (Or.inl (hw _ (List.mem_of_getElem? (i := 12) rfl))) (Or.inl (hw _ (List.mem_of_getElem? (i := 14) rfl))) (by decide) (t := (.array .int)) (t' := (.array .int)) (by decide) (by decide)))
  have F_tail_c11 := F_tail_c9.same W11
  have F_size_c11 := F_size_c9.other W11 (Or.inr (slot_ne (Or.inl (hw _ (List.mem_of_getElem? (i := 21) rfl))) (Or.inl (hw _ (List.mem_of_getElem? (i := 14) rfl))) (by decide) (t := .int) (t' := (.array .int)) (by decide) (by decide)))
  have F_limit_c11 := F_limit_c9.other W11 (Or.inr (slot_ne (Or.inl (hw _ (List.mem_of_getElem? (i := 23) rfl))) (Or.inl (hw _ (List.mem_of_getElem? (i := 14) rfl))) (by decide) (t := .int) (t' := (.array .int)) (by decide) (by decide)))
  have F_tailStart_c11 := F_tailStart_c9.other W11 (Or.inr (slot_ne (Or.inl (hw _ (List.mem_of_getElem? (i := 46) rfl))) (Or.inl (hw _ (List.mem_of_getElem? (i := 14) rfl))) (by decide) (t := .int) (t' := (.array .int)) (by decide) (by decide)))
  have V_av_c11 := V_av_c9.other W11 (Ne.symm nav)
  have V8_c11 := V8_c9.other W11 (Ne.symm nr_a1)
  have Z11 := Nat.le_trans Z9 (Keep.of_wr W11).1
  have K11_ := K9_.wr W11 (Or.inl (List.mem_of_getElem? (i := 0) rfl))
  have N11_ := Fr.snoc X11 N9_ ga
  show Go p e below _ T11 (mkF m 76 #[.val (.ref a1), .val (.int (0 : Int32)), .val (.int (0 : Int32))] [])
  refine OwnGo.goto X11 hx (pc' := 163) (hb hby d4_76) (by decide) (by decide) ?_
  show Go p e below _ T11 (mkF m 163 #[.val (.ref a1), .val (.int (0 : Int32)), .val (.int (0 : Int32))] [])
  refine OwnGo.aloadN X11 hx (hb hby d4_163) rfl rfl ?_
  show Go p e below _ T11 (mkF m 164 #[.val (.ref a1), .val (.int (0 : Int32)), .val (.int (0 : Int32))] [(.ref a1)])
  refine OwnGo.aloadN X11 hx (hb hby d4_164) rfl rfl ?_
  show Go p e below _ T11 (mkF m 165 #[.val (.ref a1), .val (.int (0 : Int32)), .val (.int (0 : Int32))] [(.ref a1), (.ref a1)])
  refine OwnGo.getF X11 hx hZ hown (host := "") (Or.inl (hw _ (List.mem_of_getElem? (i := 20) rfl))) Via.refl e11 F_size_c11 (hb hby d4_165) fun T12 X12 e12 => ?_
  show Go p e below _ T12 (mkF m 168 #[.val (.ref a1), .val (.int (0 : Int32)), .val (.int (0 : Int32))] [(.int (0 : Int32)), (.ref a1)])
  refine OwnGo.iloadN X12 hx (hb hby d4_168) rfl ?_
  show Go p e below _ T12 (mkF m 169 #[.val (.ref a1), .val (.int (0 : Int32)), .val (.int (0 : Int32))] [(.int (0 : Int32)), (.int (0 : Int32)), (.ref a1)])
  refine OwnGo.isub X12 hx (z := (0 : Int32)) (hb hby d4_169) (by decide) ?_
  show Go p e below _ T12 (mkF m 170 #[.val (.ref a1), .val (.int (0 : Int32)), .val (.int (0 : Int32))] [(.int (0 : Int32)), (.ref a1)])
  refine OwnGo.putF X12 hx hZ hown (host := "") (Or.inl (hw _ (List.mem_of_getElem? (i := 45) rfl))) Via.refl e12 F_tailStart_c11 E1_c11 (Or.inl (hw _ (List.mem_of_getElem? (i := 46) rfl))) (hw _ (List.mem_of_getElem? (i := 1) rfl)) (ty := .int) (by decide) rfl rfl (hb hby d4_170) fun T13 h13 X13 e13 W13 => ?_
  have E1_c13 := E1_c11.wr W13
  have F_first_c13 := F_first_c11.other W13 (Or.inr (slot_ne (Or.inl (hw _ (List.mem_of_getElem? (i := 12) rfl))) (Or.inl (hw _ (List.mem_of_getElem? (i := 46) rfl))) (by decide) (t := (.array .int)) (t' := .int) (by decide) (by decide)))
  have F_tail_c13 := F_tail_c11.other W13 (Or.inr (slot_ne (Or.inl (hw _ (List.mem_of_getElem? (i := 14) rfl))) (Or.inl (hw _ (List.mem_of_getElem? (i := 46) rfl))) (by decide) (t := (.array .int)) (t' := .int) (by decide) (by decide)))
  have F_size_c13 := F_size_c11.other W13 (Or.inr (slot_ne (Or.inl (hw _ (List.mem_of_getElem? (i := 21) rfl))) (Or.inl (hw _ (List.mem_of_getElem? (i := 46) rfl))) (by decide) (t := .int) (t' := .int) (by decide) (by decide)))
  have F_limit_c13 := F_limit_c11.other W13 (Or.inr (slot_ne (Or.inl (hw _ (List.mem_of_getElem? (i := 23) rfl))) (Or.inl (hw _ (List.mem_of_getElem? (i := 46) rfl))) (by decide) (t := .int) (t' := .int) (by decide) (by decide)))
  have F_tailStart_c13 := F_tailStart_c11.same W13
  have V_av_c13 := V_av_c11.other W13 (Ne.symm nav)
  have V8_c13 := V8_c11.other W13 (Ne.symm nr_a1)
  have Z13 := Nat.le_trans Z11 (Keep.of_wr W13).1
  have K13_ := K11_.wr W13 (Or.inl (List.mem_of_getElem? (i := 0) rfl))
  have N13_ := Fr.snoc X13 N11_ ga
  show Go p e below _ T13 (mkF m 173 #[.val (.ref a1), .val (.int (0 : Int32)), .val (.int (0 : Int32))] [])
  refine OwnGo.aloadN X13 hx (hb hby d4_173) rfl rfl ?_
  show Go p e below _ T13 (mkF m 174 #[.val (.ref a1), .val (.int (0 : Int32)), .val (.int (0 : Int32))] [(.ref a1)])
  refine OwnGo.ldc2Long X13 hx hZ hown (v := (2147483647 : Int64)) (hw _ (List.mem_of_getElem? (i := 47) rfl)) (hb hby d4_174) ?_
  show Go p e below _ T13 (mkF m 177 #[.val (.ref a1), .val (.int (0 : Int32)), .val (.int (0 : Int32))] [(.long (2147483647 : Int64)), (.ref a1)])
  refine OwnGo.aloadN X13 hx (hb hby d4_177) rfl rfl ?_
  show Go p e below _ T13 (mkF m 178 #[.val (.ref a1), .val (.int (0 : Int32)), .val (.int (0 : Int32))] [(.ref a1), (.long (2147483647 : Int64)), (.ref a1)])
  refine OwnGo.getF X13 hx hZ hown (host := "") (Or.inl (hw _ (List.mem_of_getElem? (i := 45) rfl))) Via.refl e13 F_tailStart_c13 (hb hby d4_178) fun T14 X14 e14 => ?_
  show Go p e below _ T14 (mkF m 181 #[.val (.ref a1), .val (.int (0 : Int32)), .val (.int (0 : Int32))] [(.int (0 : Int32)), (.long (2147483647 : Int64)), (.ref a1)])
  refine OwnGo.i2l X14 hx (z := (0 : Int64)) (hb hby d4_181) (by decide) ?_
  show Go p e below _ T14 (mkF m 182 #[.val (.ref a1), .val (.int (0 : Int32)), .val (.int (0 : Int32))] [(.long (0 : Int64)), (.long (2147483647 : Int64)), (.ref a1)])
  refine OwnGo.aloadN X14 hx (hb hby d4_182) rfl rfl ?_
  show Go p e below _ T14 (mkF m 183 #[.val (.ref a1), .val (.int (0 : Int32)), .val (.int (0 : Int32))] [(.ref a1), (.long (0 : Int64)), (.long (2147483647 : Int64)), (.ref a1)])
  refine OwnGo.getF X14 hx hZ hown (host := "") (Or.inl (hw _ (List.mem_of_getElem? (i := 13) rfl))) Via.refl e14 F_tail_c13 (hb hby d4_183) fun T15 X15 e15 => ?_
  show Go p e below _ T15 (mkF m 186 #[.val (.ref a1), .val (.int (0 : Int32)), .val (.int (0 : Int32))] [(.ref r), (.long (0 : Int64)), (.long (2147483647 : Int64)), (.ref a1)])
  obtain ⟨cl16, Ar16, -, Sz16, Nn16, -, -⟩ := (id V8_c13)
  refine OwnGo.arraylength X15 hx hZ e15 Ar16 (len_of Sz16 Nn16) (hb hby d4_186) ?_
  show Go p e below _ T15 (mkF m 187 #[.val (.ref a1), .val (.int (0 : Int32)), .val (.int (0 : Int32))] [(.int (8 : Int32)), (.long (0 : Int64)), (.long (2147483647 : Int64)), (.ref a1)])
  refine OwnGo.i2l X15 hx (z := (8 : Int64)) (hb hby d4_187) (by decide) ?_
  show Go p e below _ T15 (mkF m 188 #[.val (.ref a1), .val (.int (0 : Int32)), .val (.int (0 : Int32))] [(.long (8 : Int64)), (.long (0 : Int64)), (.long (2147483647 : Int64)), (.ref a1)])
  refine OwnGo.ladd X15 hx (z := (8 : Int64)) (hb hby d4_188) (by decide) ?_
  show Go p e below _ T15 (mkF m 189 #[.val (.ref a1), .val (.int (0 : Int32)), .val (.int (0 : Int32))] [(.long (8 : Int64)), (.long (2147483647 : Int64)), (.ref a1)])
  refine OwnGo.callS X15 hx hZ hown (y := (⟨"java/lang/Math", "min", "(JJ)J"⟩ : MethodName)) (hw _ (List.mem_of_getElem? (i := 48) rfl)) (hw _ (List.mem_of_getElem? (i := 49) rfl)) (hw _ (List.mem_of_getElem? (i := 31) rfl)) (hw _ (List.mem_of_getElem? (i := 50) rfl)) (by decide) e15 (as := [(.long (2147483647 : Int64)), (.long (8 : Int64))]) (rmMJ l Z a0 hw (2147483647 : Int64) (8 : Int64) (8 : Int64) h13 (by decide)) (W := 1) (by decide) (by decide) (by decide) (by decide) (by rw [hml]; rfl) (lenOf own_pd2 rfl) (rest := [(.ref a1)]) rfl rfl (hb hby d4_189) fun v17 T17 L17 X17 q17 => ?_
  obtain ⟨rfl, e17, rfl⟩ := q17
  rw [List.append_nil] at X17
  show Go p e below _ T17 (mkF m 192 #[.val (.ref a1), .val (.int (0 : Int32)), .val (.int (0 : Int32))] [(.long (8 : Int64)), (.ref a1)])
  refine OwnGo.l2i X17 hx (z := (8 : Int32)) (hb hby d4_192) (by decide) ?_
  show Go p e below _ T17 (mkF m 193 #[.val (.ref a1), .val (.int (0 : Int32)), .val (.int (0 : Int32))] [(.int (8 : Int32)), (.ref a1)])
  refine OwnGo.putF X17 hx hZ hown (host := "") (Or.inl (hw _ (List.mem_of_getElem? (i := 22) rfl))) Via.refl e17 F_limit_c13 E1_c13 (Or.inl (hw _ (List.mem_of_getElem? (i := 23) rfl))) (hw _ (List.mem_of_getElem? (i := 1) rfl)) (ty := .int) (by decide) rfl rfl (hb hby d4_193) fun T18 h18 X18 e18 W18 => ?_
  have E1_c18 := E1_c13.wr W18
  have F_first_c18 := F_first_c13.other W18 (Or.inr (slot_ne (Or.inl (hw _ (List.mem_of_getElem? (i := 12) rfl))) (Or.inl (hw _ (List.mem_of_getElem? (i := 23) rfl))) (by decide) (t := (.array .int)) (t' := .int) (by decide) (by decide)))
  have F_tail_c18 := F_tail_c13.other W18 (Or.inr (slot_ne (Or.inl (hw _ (List.mem_of_getElem? (i := 14) rfl))) (Or.inl (hw _ (List.mem_of_getElem? (i := 23) rfl))) (by decide) (t := (.array .int)) (t' := .int) (by decide) (by decide)))
  have F_size_c18 := F_size_c13.other W18 (Or.inr (slot_ne (Or.inl (hw _ (List.mem_of_getElem? (i := 21) rfl))) (Or.inl (hw _ (List.mem_of_getElem? (i := 23) rfl))) (by decide) (t := .int) (t' := .int) (by decide) (by decide)))
  have F_limit_c18 := F_limit_c13.same W18
  have F_tailStart_c18 := F_tailStart_c13.other W18 (Or.inr (slot_ne (Or.inl (hw _ (List.mem_of_getElem? (i := 46) rfl))) (Or.inl (hw _ (List.mem_of_getElem? (i := 23) rfl))) (by decide) (t := .int) (t' := .int) (by decide) (by decide)))
  have V_av_c18 := V_av_c13.other W18 (Ne.symm nav)
  have V8_c18 := V8_c13.other W18 (Ne.symm nr_a1)
  have Z18 := Nat.le_trans Z13 (Keep.of_wr W18).1
  have K18_ := K13_.wr W18 (Or.inl (List.mem_of_getElem? (i := 0) rfl))
  have N18_ := Fr.snoc X18 N13_ ga
  show Go p e below _ T18 (mkF m 196 #[.val (.ref a1), .val (.int (0 : Int32)), .val (.int (0 : Int32))] [])
  refine OwnGo.retV X18 hx hlk hret (hb hby d4_196) ?_ (by decide) (by decide)
  rw [e18]
  exact ⟨r, kr, rfl, N18_, gz0_8, g18, K18_, E1_c18, F_first_c18, F_tail_c18, F_size_c18, F_limit_c18, F_tailStart_c18, V8_c18⟩
theorem d3_0 : decode prog_55_method_5_code 0 = .ok (.aload_n 0, 1) := by decide +kernel
theorem d3_1 : decode prog_55_method_5_code 1 = .ok (.getfield 19, 3) := by decide +kernel
theorem d3_4 : decode prog_55_method_5_code 4 = .ok (.aload_n 0, 1) := by decide +kernel
theorem d3_5 : decode prog_55_method_5_code 5 = .ok (.getfield 27, 3) := by decide +kernel
theorem d3_8 : decode prog_55_method_5_code 8 = .ok (.if_icmp .ne 7, 3) := by decide +kernel
theorem d3_11 : decode prog_55_method_5_code 11 = .ok (.aload_n 0, 1) := by decide +kernel
theorem d3_12 : decode prog_55_method_5_code 12 = .ok (.invokevirtual 30, 3) := by decide +kernel
theorem d3_15 : decode prog_55_method_5_code 15 = .ok (.aload_n 0, 1) := by decide +kernel
theorem d3_16 : decode prog_55_method_5_code 16 = .ok (.getfield 16, 3) := by decide +kernel
theorem d3_19 : decode prog_55_method_5_code 19 = .ok (.aload_n 0, 1) := by decide +kernel
theorem d3_20 : decode prog_55_method_5_code 20 = .ok (.getfield 19, 3) := by decide +kernel
theorem d3_23 : decode prog_55_method_5_code 23 = .ok (.sipush 16383, 3) := by decide +kernel
theorem d3_26 : decode prog_55_method_5_code 26 = .ok (.iand, 1) := by decide +kernel
theorem d3_27 : decode prog_55_method_5_code 27 = .ok (.iload_n 1, 1) := by decide +kernel
theorem d3_28 : decode prog_55_method_5_code 28 = .ok (.iastore, 1) := by decide +kernel
theorem d3_29 : decode prog_55_method_5_code 29 = .ok (.aload_n 0, 1) := by decide +kernel
theorem d3_30 : decode prog_55_method_5_code 30 = .ok (.dup, 1) := by decide +kernel
theorem d3_31 : decode prog_55_method_5_code 31 = .ok (.getfield 19, 3) := by decide +kernel
theorem d3_34 : decode prog_55_method_5_code 34 = .ok (.iconst 1, 1) := by decide +kernel
theorem d3_35 : decode prog_55_method_5_code 35 = .ok (.iadd, 1) := by decide +kernel
theorem d3_36 : decode prog_55_method_5_code 36 = .ok (.putfield 19, 3) := by decide +kernel
theorem d3_39 : decode prog_55_method_5_code 39 = .ok (.return_, 1) := by decide +kernel
theorem own_ef_rmADD0 (m : MethodId) (x0 : Addr) (x1 : Int32) : entryFrame m [(.ref x0), (.int x1)].toArray 2 = mkF m 0 #[.val (.ref x0), .val (.int x1)] [] := by first | (simp [entryFrame, mkF, argsToLocals, Value.category]; done) | rfl
set_option maxRecDepth 65536 in
set_option maxHeartbeats 40000000 in
theorem rmADD0 (l : Launch) (Z : State) (a0 : Array Value) (hw : ∀ d ∈ tables_1, d.before a0 Z = true) (a1 av : Addr) (kv : ClassId) (p1 : Int32) (h0 : Heap) (n0 : Nat) (Z0 : n0 ≤ h0.size) (ga : n0 ≤ a1) (E1 : Exa Z h0 a1 "com/example/sibling/sibling/xpath/IntColumn") (F_first : Fld Z h0 a1 "com/example/sibling/sibling/xpath/IntColumn" "first" "[I" (.ref av)) (F_tail : Fld Z h0 a1 "com/example/sibling/sibling/xpath/IntColumn" "tail" "[I" (.ref av)) (F_size : Fld Z h0 a1 "com/example/sibling/sibling/xpath/IntColumn" "size" "I" (.int (0 : Int32))) (F_limit : Fld Z h0 a1 "com/example/sibling/sibling/xpath/IntColumn" "limit" "I" (.int (0 : Int32))) (F_tailStart : Fld Z h0 a1 "com/example/sibling/sibling/xpath/IntColumn" "tailStart" "I" (.int (0 : Int32))) (V_av : Arv Z h0 av kv .int (0 : Int32) [] (.int (0 : Int32))) (nav : a1 ≠ av) :
    Con l Z (⟨"com/example/sibling/sibling/xpath/IntColumn", "add", "(I)V"⟩ : MethodName) prog_55_method_5_code 2 none ({ frames := 3, cells := 1, slots := 8, locals := 92 } : Room) [(.ref a1), (.int p1)] h0 (fun v h L => ∃ r kr, v = none ∧ Fr n0 L ∧ h0.size ≤ r ∧ n0 ≤ r ∧ Keep h0 h [a1] ∧ Exa Z h a1 "com/example/sibling/sibling/xpath/IntColumn" ∧ Fld Z h a1 "com/example/sibling/sibling/xpath/IntColumn" "first" "[I" (.ref r) ∧ Fld Z h a1 "com/example/sibling/sibling/xpath/IntColumn" "tail" "[I" (.ref r) ∧ Fld Z h a1 "com/example/sibling/sibling/xpath/IntColumn" "size" "I" (.int (1 : Int32)) ∧ Fld Z h a1 "com/example/sibling/sibling/xpath/IntColumn" "limit" "I" (.int (8 : Int32)) ∧ Fld Z h a1 "com/example/sibling/sibling/xpath/IntColumn" "tailStart" "I" (.int (0 : Int32)) ∧ Arv Z h r kr .int (8 : Int32) [(.int p1), (.int (0 : Int32)), (.int (0 : Int32)), (.int (0 : Int32)), (.int (0 : Int32)), (.int (0 : Int32)), (.int (0 : Int32)), (.int (0 : Int32))] (.int (0 : Int32))) := by
  refine OwnGo.Con.of (plainFor_of_name own_pn0) (Ls0 := #[.val (.ref a1), .val (.int p1)]) (fun m => own_ef_rmADD0 m a1 p1) ?_
  intro p e s m below meth c T0 X0 hx hZ hby hml hown hnm hret hlk e0
  show Go p e below _ T0 (mkF m 0 #[.val (.ref a1), .val (.int p1)] [])
  refine OwnGo.aloadN X0 hx (hb hby d3_0) rfl rfl ?_
  show Go p e below _ T0 (mkF m 1 #[.val (.ref a1), .val (.int p1)] [(.ref a1)])
  refine OwnGo.getF X0 hx hZ hown (host := "") (Or.inl (hw _ (List.mem_of_getElem? (i := 20) rfl))) Via.refl e0 F_size (hb hby d3_1) fun T1 X1 e1 => ?_
  show Go p e below _ T1 (mkF m 4 #[.val (.ref a1), .val (.int p1)] [(.int (0 : Int32))])
  refine OwnGo.aloadN X1 hx (hb hby d3_4) rfl rfl ?_
  show Go p e below _ T1 (mkF m 5 #[.val (.ref a1), .val (.int p1)] [(.ref a1), (.int (0 : Int32))])
  refine OwnGo.getF X1 hx hZ hown (host := "") (Or.inl (hw _ (List.mem_of_getElem? (i := 22) rfl))) Via.refl e1 F_limit (hb hby d3_5) fun T2 X2 e2 => ?_
  show Go p e below _ T2 (mkF m 8 #[.val (.ref a1), .val (.int p1)] [(.int (0 : Int32)), (.int (0 : Int32))])
  refine OwnGo.ic_ne X2 hx (pc' := 15) (hb hby d3_8) (by decide) (by decide) (fun q => absurd q (by decide)) (fun _ => ?_)
  show Go p e below _ T2 (mkF m 11 #[.val (.ref a1), .val (.int p1)] [])
  refine OwnGo.aloadN X2 hx (hb hby d3_11) rfl rfl ?_
  show Go p e below _ T2 (mkF m 12 #[.val (.ref a1), .val (.int p1)] [(.ref a1)])
  refine own_privCall X2 hx hZ hown (y := (⟨"com/example/sibling/sibling/xpath/IntColumn", "makeRoom", "()V"⟩ : MethodName)) (hw _ (List.mem_of_getElem? (i := 24) rfl)) (hw _ (List.mem_of_getElem? (i := 25) rfl)) (hw _ (List.mem_of_getElem? (i := 26) rfl)) (hw _ (List.mem_of_getElem? (i := 18) rfl)) rfl (hw _ (List.mem_of_getElem? (i := 2) rfl)) (hw _ (List.mem_of_getElem? (i := 27) rfl)) (by decide) e2 E1 (as := []) (rmMKR l Z a0 hw a1 av kv h0 n0 Z0 ga E1 F_first F_tail F_size F_limit F_tailStart V_av nav) (W := 0) (by decide) (by decide) (by decide) (by decide) (by rw [hml]; rfl) (lenOf own_pd3 rfl) (rest := []) rfl rfl (hb hby d3_12) fun v3 T3 L3 X3 q3 => ?_
  obtain ⟨r, kr, rfl, N3, g03, gr, K3, E3, F3_first, F3_tail, F3_size, F3_limit, F3_tailStart, V3⟩ := q3
  have nar : a1 ≠ r := Nat.ne_of_lt (Nat.lt_of_lt_of_le E1.lt g03)
  have Zs3 := Nat.le_trans Z0 K3.1
  show Go p e below _ T3 (mkF m 15 #[.val (.ref a1), .val (.int p1)] [])
  refine OwnGo.aloadN X3 hx (hb hby d3_15) rfl rfl ?_
  show Go p e below _ T3 (mkF m 16 #[.val (.ref a1), .val (.int p1)] [(.ref a1)])
  refine OwnGo.getF X3 hx hZ hown (host := "") (Or.inl (hw _ (List.mem_of_getElem? (i := 13) rfl))) Via.refl rfl F3_tail (hb hby d3_16) fun T4 X4 e4 => ?_
  show Go p e below _ T4 (mkF m 19 #[.val (.ref a1), .val (.int p1)] [(.ref r)])
  refine OwnGo.aloadN X4 hx (hb hby d3_19) rfl rfl ?_
  show Go p e below _ T4 (mkF m 20 #[.val (.ref a1), .val (.int p1)] [(.ref a1), (.ref r)])
  refine OwnGo.getF X4 hx hZ hown (host := "") (Or.inl (hw _ (List.mem_of_getElem? (i := 20) rfl))) Via.refl e4 F3_size (hb hby d3_20) fun T5 X5 e5 => ?_
  show Go p e below _ T5 (mkF m 23 #[.val (.ref a1), .val (.int p1)] [(.int (0 : Int32)), (.ref r)])
  refine OwnGo.sipush X5 hx (z := (16383 : Int32)) (hb hby d3_23) (by decide) ?_
  show Go p e below _ T5 (mkF m 26 #[.val (.ref a1), .val (.int p1)] [(.int (16383 : Int32)), (.int (0 : Int32)), (.ref r)])
  refine OwnGo.iand X5 hx (z := (0 : Int32)) (hb hby d3_26) (by decide) ?_
  show Go p e below _ T5 (mkF m 27 #[.val (.ref a1), .val (.int p1)] [(.int (0 : Int32)), (.ref r)])
  refine OwnGo.iloadN X5 hx (hb hby d3_27) rfl ?_
  show Go p e below _ T5 (mkF m 28 #[.val (.ref a1), .val (.int p1)] [(.int p1), (.int (0 : Int32)), (.ref r)])
  obtain ⟨cl6, Ar6, Kq6, Sz6, Nn6, Hh6, Gg6⟩ := (id V3)
  have hin6 : ¬ ((0 : Int32) < 0 ∨ cl6.slots.size ≤ ((0 : Int32)).toNatClampNeg) := inb_of Sz6 ⟨by decide, by decide⟩
  refine OwnGo.stI X5 hx hZ e5 Ar6 hin6 (hb hby d3_28) fun T6 h6 X6 e6 W6 => ?_
  have E3_c6 := E3.wr W6
  have F3_first_c6 := F3_first.other W6 (Or.inl nar)
  have F3_tail_c6 := F3_tail.other W6 (Or.inl nar)
  have F3_size_c6 := F3_size.other W6 (Or.inl nar)
  have F3_limit_c6 := F3_limit.other W6 (Or.inl nar)
  have F3_tailStart_c6 := F3_tailStart.other W6 (Or.inl nar)
  have Z6 := Nat.le_trans Zs3 (Keep.of_wr W6).1
  have K6_ := K3.wr W6 (Or.inr g03)
  have N6_ := Fr.snoc X6 (Fr.app (Fr.nil n0) N3) gr
  have V6 : Arv Z h6 r kr .int (8 : Int32) [(.int p1), (.int (0 : Int32)), (.int (0 : Int32)), (.int (0 : Int32)), (.int (0 : Int32)), (.int (0 : Int32)), (.int (0 : Int32)), (.int (0 : Int32))] (.int (0 : Int32)) := Arv.set Ar6 Kq6 Sz6 Nn6 Hh6 Gg6 rfl W6 0 rfl (Nat.le_of_ble_eq_true rfl)
  show Go p e below _ T6 (mkF m 29 #[.val (.ref a1), .val (.int p1)] [])
  refine OwnGo.aloadN X6 hx (hb hby d3_29) rfl rfl ?_
  show Go p e below _ T6 (mkF m 30 #[.val (.ref a1), .val (.int p1)] [(.ref a1)])
  refine OwnGo.dup X6 hx (hb hby d3_30) rfl ?_
  show Go p e below _ T6 (mkF m 31 #[.val (.ref a1), .val (.int p1)] [(.ref a1), (.ref a1)])
  refine OwnGo.getF X6 hx hZ hown (host := "") (Or.inl (hw _ (List.mem_of_getElem? (i := 20) rfl))) Via.refl e6 F3_size_c6 (hb hby d3_31) fun T7 X7 e7 => ?_
  show Go p e below _ T7 (mkF m 34 #[.val (.ref a1), .val (.int p1)] [(.int (0 : Int32)), (.ref a1)])
  refine OwnGo.iconst X7 hx (z := (1 : Int32)) (hb hby d3_34) (by decide) ?_
  show Go p e below _ T7 (mkF m 35 #[.val (.ref a1), .val (.int p1)] [(.int (1 : Int32)), (.int (0 : Int32)), (.ref a1)])
  refine OwnGo.iadd X7 hx (z := (1 : Int32)) (hb hby d3_35) (by decide) ?_
  show Go p e below _ T7 (mkF m 36 #[.val (.ref a1), .val (.int p1)] [(.int (1 : Int32)), (.ref a1)])
  refine OwnGo.putF X7 hx hZ hown (host := "") (Or.inl (hw _ (List.mem_of_getElem? (i := 20) rfl))) Via.refl e7 F3_size_c6 E3_c6 (Or.inl (hw _ (List.mem_of_getElem? (i := 21) rfl))) (hw _ (List.mem_of_getElem? (i := 1) rfl)) (ty := .int) (by decide) rfl rfl (hb hby d3_36) fun T8 h8 X8 e8 W8 => ?_
  have E3_c8 := E3_c6.wr W8
  have F3_first_c8 := F3_first_c6.other W8 (Or.inr (slot_ne (Or.inl (hw _ (List.mem_of_getElem? (i := 12) rfl))) (Or.inl (hw _ (List.mem_of_getElem? (i := 21) rfl))) (by decide) (t := (.array .int)) (t' := .int) (by decide) (by decide)))
  have F3_tail_c8 := F3_tail_c6.other W8 (Or.inr (slot_ne (Or.inl (hw _ (List.mem_of_getElem? (i := 14) rfl))) (Or.inl (hw _ (List.mem_of_getElem? (i := 21) rfl))) (by decide) (t := (.array .int)) (t' := .int) (by decide) (by decide)))
  have F3_size_c8 := F3_size_c6.same W8
  have F3_limit_c8 := F3_limit_c6.other W8 (Or.inr (slot_ne (Or.inl (hw _ (List.mem_of_getElem? (i := 23) rfl))) (Or.inl (hw _ (List.mem_of_getElem? (i := 21) rfl))) (by decide) (t := .int) (t' := .int) (by decide) (by decide)))
  have F3_tailStart_c8 := F3_tailStart_c6.other W8 (Or.inr (slot_ne (Or.inl (hw _ (List.mem_of_getElem? (i := 46) rfl))) (Or.inl (hw _ (List.mem_of_getElem? (i := 21) rfl))) (by decide) (t := .int) (t' := .int) (by decide) (by decide)))
  have V6_c8 := V6.other W8 (Ne.symm nar)
  have Z8 := Nat.le_trans Z6 (Keep.of_wr W8).1
  have K8_ := K6_.wr W8 (Or.inl (List.mem_of_getElem? (i := 0) rfl))
  have N8_ := Fr.snoc X8 N6_ ga
  show Go p e below _ T8 (mkF m 39 #[.val (.ref a1), .val (.int p1)] [])
  refine OwnGo.retV X8 hx hlk hret (hb hby d3_39) ?_ (by decide) (by decide)
  rw [e8]
  exact ⟨r, kr, rfl, N8_, g03, gr, K8_, E3_c8, F3_first_c8, F3_tail_c8, F3_size_c8, F3_limit_c8, F3_tailStart_c8, V6_c8⟩
theorem own_ef_rmADD1 (m : MethodId) (x0 : Addr) (x1 : Int32) : entryFrame m [(.ref x0), (.int x1)].toArray 2 = mkF m 0 #[.val (.ref x0), .val (.int x1)] [] := by first | (simp [entryFrame, mkF, argsToLocals, Value.category]; done) | rfl
set_option maxRecDepth 65536 in
set_option maxHeartbeats 40000000 in
theorem rmADD1 (l : Launch) (Z : State) (a0 : Array Value) (hw : ∀ d ∈ tables_1, d.before a0 Z = true) (a1 r : Addr) (kr : ClassId) (q0 p1 : Int32) (h0 : Heap) (n0 : Nat) (Z0 : n0 ≤ h0.size) (ga : n0 ≤ a1) (E1 : Exa Z h0 a1 "com/example/sibling/sibling/xpath/IntColumn") (gr : n0 ≤ r) (F_first : Fld Z h0 a1 "com/example/sibling/sibling/xpath/IntColumn" "first" "[I" (.ref r)) (F_tail : Fld Z h0 a1 "com/example/sibling/sibling/xpath/IntColumn" "tail" "[I" (.ref r)) (F_size : Fld Z h0 a1 "com/example/sibling/sibling/xpath/IntColumn" "size" "I" (.int (1 : Int32))) (F_limit : Fld Z h0 a1 "com/example/sibling/sibling/xpath/IntColumn" "limit" "I" (.int (8 : Int32))) (F_tailStart : Fld Z h0 a1 "com/example/sibling/sibling/xpath/IntColumn" "tailStart" "I" (.int (0 : Int32))) (V_r : Arv Z h0 r kr .int (8 : Int32) [(.int q0), (.int (0 : Int32)), (.int (0 : Int32)), (.int (0 : Int32)), (.int (0 : Int32)), (.int (0 : Int32)), (.int (0 : Int32)), (.int (0 : Int32))] (.int (0 : Int32))) (nar : a1 ≠ r) :
    Con l Z (⟨"com/example/sibling/sibling/xpath/IntColumn", "add", "(I)V"⟩ : MethodName) prog_55_method_5_code 2 none ({ frames := 0, cells := 0, slots := 0, locals := 0 } : Room) [(.ref a1), (.int p1)] h0 (fun v h L => v = none ∧ Fr n0 L ∧ Keep h0 h [a1, r] ∧ Exa Z h a1 "com/example/sibling/sibling/xpath/IntColumn" ∧ Fld Z h a1 "com/example/sibling/sibling/xpath/IntColumn" "first" "[I" (.ref r) ∧ Fld Z h a1 "com/example/sibling/sibling/xpath/IntColumn" "tail" "[I" (.ref r) ∧ Fld Z h a1 "com/example/sibling/sibling/xpath/IntColumn" "size" "I" (.int (2 : Int32)) ∧ Fld Z h a1 "com/example/sibling/sibling/xpath/IntColumn" "limit" "I" (.int (8 : Int32)) ∧ Fld Z h a1 "com/example/sibling/sibling/xpath/IntColumn" "tailStart" "I" (.int (0 : Int32)) ∧ Arv Z h r kr .int (8 : Int32) [(.int q0), (.int p1), (.int (0 : Int32)), (.int (0 : Int32)), (.int (0 : Int32)), (.int (0 : Int32)), (.int (0 : Int32)), (.int (0 : Int32))] (.int (0 : Int32))) := by
  refine OwnGo.Con.of (plainFor_of_name own_pn0) (Ls0 := #[.val (.ref a1), .val (.int p1)]) (fun m => own_ef_rmADD1 m a1 p1) ?_
  intro p e s m below meth c T0 X0 hx hZ hby hml hown hnm hret hlk e0
  show Go p e below _ T0 (mkF m 0 #[.val (.ref a1), .val (.int p1)] [])
  refine OwnGo.aloadN X0 hx (hb hby d3_0) rfl rfl ?_
  show Go p e below _ T0 (mkF m 1 #[.val (.ref a1), .val (.int p1)] [(.ref a1)])
  refine OwnGo.getF X0 hx hZ hown (host := "") (Or.inl (hw _ (List.mem_of_getElem? (i := 20) rfl))) Via.refl e0 F_size (hb hby d3_1) fun T1 X1 e1 => ?_
  show Go p e below _ T1 (mkF m 4 #[.val (.ref a1), .val (.int p1)] [(.int (1 : Int32))])
  refine OwnGo.aloadN X1 hx (hb hby d3_4) rfl rfl ?_
  show Go p e below _ T1 (mkF m 5 #[.val (.ref a1), .val (.int p1)] [(.ref a1), (.int (1 : Int32))])
  refine OwnGo.getF X1 hx hZ hown (host := "") (Or.inl (hw _ (List.mem_of_getElem? (i := 22) rfl))) Via.refl e1 F_limit (hb hby d3_5) fun T2 X2 e2 => ?_
  show Go p e below _ T2 (mkF m 8 #[.val (.ref a1), .val (.int p1)] [(.int (8 : Int32)), (.int (1 : Int32))])
  refine OwnGo.ic_ne X2 hx (pc' := 15) (hb hby d3_8) (by decide) (by decide) (fun _ => ?_) (fun q => absurd q (by decide))
  show Go p e below _ T2 (mkF m 15 #[.val (.ref a1), .val (.int p1)] [])
  refine OwnGo.aloadN X2 hx (hb hby d3_15) rfl rfl ?_
  show Go p e below _ T2 (mkF m 16 #[.val (.ref a1), .val (.int p1)] [(.ref a1)])
  refine OwnGo.getF X2 hx hZ hown (host := "") (Or.inl (hw _ (List.mem_of_getElem? (i := 13) rfl))) Via.refl e2 F_tail (hb hby d3_16) fun T3 X3 e3 => ?_
  show Go p e below _ T3 (mkF m 19 #[.val (.ref a1), .val (.int p1)] [(.ref r)])
  refine OwnGo.aloadN X3 hx (hb hby d3_19) rfl rfl ?_
  show Go p e below _ T3 (mkF m 20 #[.val (.ref a1), .val (.int p1)] [(.ref a1), (.ref r)])
  refine OwnGo.getF X3 hx hZ hown (host := "") (Or.inl (hw _ (List.mem_of_getElem? (i := 20) rfl))) Via.refl e3 F_size (hb hby d3_20) fun T4 X4 e4 => ?_
  show Go p e below _ T4 (mkF m 23 #[.val (.ref a1), .val (.int p1)] [(.int (1 : Int32)), (.ref r)])
  refine OwnGo.sipush X4 hx (z := (16383 : Int32)) (hb hby d3_23) (by decide) ?_
  show Go p e below _ T4 (mkF m 26 #[.val (.ref a1), .val (.int p1)] [(.int (16383 : Int32)), (.int (1 : Int32)), (.ref r)])
  refine OwnGo.iand X4 hx (z := (1 : Int32)) (hb hby d3_26) (by decide) ?_
  show Go p e below _ T4 (mkF m 27 #[.val (.ref a1), .val (.int p1)] [(.int (1 : Int32)), (.ref r)])
  refine OwnGo.iloadN X4 hx (hb hby d3_27) rfl ?_
  show Go p e below _ T4 (mkF m 28 #[.val (.ref a1), .val (.int p1)] [(.int p1), (.int (1 : Int32)), (.ref r)])
  obtain ⟨cl5, Ar5, Kq5, Sz5, Nn5, Hh5, Gg5⟩ := (id V_r)
  have hin5 : ¬ ((1 : Int32) < 0 ∨ cl5.slots.size ≤ ((1 : Int32)).toNatClampNeg) := inb_of Sz5 ⟨by decide, by decide⟩
  refine OwnGo.stI X4 hx hZ e4 Ar5 hin5 (hb hby d3_28) fun T5 h5 X5 e5 W5 => ?_
  have E1_c5 := E1.wr W5
  have F_first_c5 := F_first.other W5 (Or.inl nar)
  have F_tail_c5 := F_tail.other W5 (Or.inl nar)
  have F_size_c5 := F_size.other W5 (Or.inl nar)
  have F_limit_c5 := F_limit.other W5 (Or.inl nar)
  have F_tailStart_c5 := F_tailStart.other W5 (Or.inl nar)
  have Z5 := Nat.le_trans Z0 (Keep.of_wr W5).1
  have K5_ := (Keep.refl h0 [a1, r]).wr W5 (Or.inl (List.mem_of_getElem? (i := 1) rfl))
  have N5_ := Fr.snoc X5 (Fr.nil n0) gr
  have V5 : Arv Z h5 r kr .int (8 : Int32) [(.int q0), (.int p1), (.int (0 : Int32)), (.int (0 : Int32)), (.int (0 : Int32)), (.int (0 : Int32)), (.int (0 : Int32)), (.int (0 : Int32))] (.int (0 : Int32)) := Arv.set Ar5 Kq5 Sz5 Nn5 Hh5 Gg5 rfl W5 1 rfl (Nat.le_of_ble_eq_true rfl)
  show Go p e below _ T5 (mkF m 29 #[.val (.ref a1), .val (.int p1)] [])
  refine OwnGo.aloadN X5 hx (hb hby d3_29) rfl rfl ?_
  show Go p e below _ T5 (mkF m 30 #[.val (.ref a1), .val (.int p1)] [(.ref a1)])
  refine OwnGo.dup X5 hx (hb hby d3_30) rfl ?_
  show Go p e below _ T5 (mkF m 31 #[.val (.ref a1), .val (.int p1)] [(.ref a1), (.ref a1)])
  refine OwnGo.getF X5 hx hZ hown (host := "") (Or.inl (hw _ (List.mem_of_getElem? (i := 20) rfl))) Via.refl e5 F_size_c5 (hb hby d3_31) fun T6 X6 e6 => ?_
  show Go p e below _ T6 (mkF m 34 #[.val (.ref a1), .val (.int p1)] [(.int (1 : Int32)), (.ref a1)])
  refine OwnGo.iconst X6 hx (z := (1 : Int32)) (hb hby d3_34) (by decide) ?_
  show Go p e below _ T6 (mkF m 35 #[.val (.ref a1), .val (.int p1)] [(.int (1 : Int32)), (.int (1 : Int32)), (.ref a1)])
  refine OwnGo.iadd X6 hx (z := (2 : Int32)) (hb hby d3_35) (by decide) ?_
  show Go p e below _ T6 (mkF m 36 #[.val (.ref a1), .val (.int p1)] [(.int (2 : Int32)), (.ref a1)])
  refine OwnGo.putF X6 hx hZ hown (host := "") (Or.inl (hw _ (List.mem_of_getElem? (i := 20) rfl))) Via.refl e6 F_size_c5 E1_c5 (Or.inl (hw _ (List.mem_of_getElem? (i := 21) rfl))) (hw _ (List.mem_of_getElem? (i := 1) rfl)) (ty := .int) (by decide) rfl rfl (hb hby d3_36) fun T7 h7 X7 e7 W7 => ?_
  have E1_c7 := E1_c5.wr W7
  have F_first_c7 := F_first_c5.other W7 (Or.inr (slot_ne (Or.inl (hw _ (List.mem_of_getElem? (i := 12) rfl))) (Or.inl (hw _ (List.mem_of_getElem? (i := 21) rfl))) (by decide) (t := (.array .int)) (t' := .int) (by decide) (by decide)))
  have F_tail_c7 := F_tail_c5.other W7 (Or.inr (slot_ne (Or.inl (hw _ (List.mem_of_getElem? (i := 14) rfl))) (Or.inl (hw _ (List.mem_of_getElem? (i := 21) rfl))) (by decide) (t := (.array .int)) (t' := .int) (by decide) (by decide)))
  have F_size_c7 := F_size_c5.same W7
  have F_limit_c7 := F_limit_c5.other W7 (Or.inr (slot_ne (Or.inl (hw _ (List.mem_of_getElem? (i := 23) rfl))) (Or.inl (hw _ (List.mem_of_getElem? (i := 21) rfl))) (by decide) (t := .int) (t' := .int) (by decide) (by decide)))
  have F_tailStart_c7 := F_tailStart_c5.other W7 (Or.inr (slot_ne (Or.inl (hw _ (List.mem_of_getElem? (i := 46) rfl))) (Or.inl (hw _ (List.mem_of_getElem? (i := 21) rfl))) (by decide) (t := .int) (t' := .int) (by decide) (by decide)))
  have V5_c7 := V5.other W7 (Ne.symm nar)
  have Z7 := Nat.le_trans Z5 (Keep.of_wr W7).1
  have K7_ := K5_.wr W7 (Or.inl (List.mem_of_getElem? (i := 0) rfl))
  have N7_ := Fr.snoc X7 N5_ ga
  show Go p e below _ T7 (mkF m 39 #[.val (.ref a1), .val (.int p1)] [])
  refine OwnGo.retV X7 hx hlk hret (hb hby d3_39) ?_ (by decide) (by decide)
  rw [e7]
  exact ⟨rfl, N7_, K7_, E1_c7, F_first_c7, F_tail_c7, F_size_c7, F_limit_c7, F_tailStart_c7, V5_c7⟩
theorem own_ef_rmADD2 (m : MethodId) (x0 : Addr) (x1 : Int32) : entryFrame m [(.ref x0), (.int x1)].toArray 2 = mkF m 0 #[.val (.ref x0), .val (.int x1)] [] := by first | (simp [entryFrame, mkF, argsToLocals, Value.category]; done) | rfl
set_option maxRecDepth 65536 in
set_option maxHeartbeats 40000000 in
theorem rmADD2 (l : Launch) (Z : State) (a0 : Array Value) (hw : ∀ d ∈ tables_1, d.before a0 Z = true) (a1 r : Addr) (kr : ClassId) (q0 q1 p1 : Int32) (h0 : Heap) (n0 : Nat) (Z0 : n0 ≤ h0.size) (ga : n0 ≤ a1) (E1 : Exa Z h0 a1 "com/example/sibling/sibling/xpath/IntColumn") (gr : n0 ≤ r) (F_first : Fld Z h0 a1 "com/example/sibling/sibling/xpath/IntColumn" "first" "[I" (.ref r)) (F_tail : Fld Z h0 a1 "com/example/sibling/sibling/xpath/IntColumn" "tail" "[I" (.ref r)) (F_size : Fld Z h0 a1 "com/example/sibling/sibling/xpath/IntColumn" "size" "I" (.int (2 : Int32))) (F_limit : Fld Z h0 a1 "com/example/sibling/sibling/xpath/IntColumn" "limit" "I" (.int (8 : Int32))) (F_tailStart : Fld Z h0 a1 "com/example/sibling/sibling/xpath/IntColumn" "tailStart" "I" (.int (0 : Int32))) (V_r : Arv Z h0 r kr .int (8 : Int32) [(.int q0), (.int q1), (.int (0 : Int32)), (.int (0 : Int32)), (.int (0 : Int32)), (.int (0 : Int32)), (.int (0 : Int32)), (.int (0 : Int32))] (.int (0 : Int32))) (nar : a1 ≠ r) :
    Con l Z (⟨"com/example/sibling/sibling/xpath/IntColumn", "add", "(I)V"⟩ : MethodName) prog_55_method_5_code 2 none ({ frames := 0, cells := 0, slots := 0, locals := 0 } : Room) [(.ref a1), (.int p1)] h0 (fun v h L => v = none ∧ Fr n0 L ∧ Keep h0 h [a1, r] ∧ Exa Z h a1 "com/example/sibling/sibling/xpath/IntColumn" ∧ Fld Z h a1 "com/example/sibling/sibling/xpath/IntColumn" "first" "[I" (.ref r) ∧ Fld Z h a1 "com/example/sibling/sibling/xpath/IntColumn" "tail" "[I" (.ref r) ∧ Fld Z h a1 "com/example/sibling/sibling/xpath/IntColumn" "size" "I" (.int (3 : Int32)) ∧ Fld Z h a1 "com/example/sibling/sibling/xpath/IntColumn" "limit" "I" (.int (8 : Int32)) ∧ Fld Z h a1 "com/example/sibling/sibling/xpath/IntColumn" "tailStart" "I" (.int (0 : Int32)) ∧ Arv Z h r kr .int (8 : Int32) [(.int q0), (.int q1), (.int p1), (.int (0 : Int32)), (.int (0 : Int32)), (.int (0 : Int32)), (.int (0 : Int32)), (.int (0 : Int32))] (.int (0 : Int32))) := by
  refine OwnGo.Con.of (plainFor_of_name own_pn0) (Ls0 := #[.val (.ref a1), .val (.int p1)]) (fun m => own_ef_rmADD2 m a1 p1) ?_
  intro p e s m below meth c T0 X0 hx hZ hby hml hown hnm hret hlk e0
  show Go p e below _ T0 (mkF m 0 #[.val (.ref a1), .val (.int p1)] [])
  refine OwnGo.aloadN X0 hx (hb hby d3_0) rfl rfl ?_
  show Go p e below _ T0 (mkF m 1 #[.val (.ref a1), .val (.int p1)] [(.ref a1)])
  refine OwnGo.getF X0 hx hZ hown (host := "") (Or.inl (hw _ (List.mem_of_getElem? (i := 20) rfl))) Via.refl e0 F_size (hb hby d3_1) fun T1 X1 e1 => ?_
  show Go p e below _ T1 (mkF m 4 #[.val (.ref a1), .val (.int p1)] [(.int (2 : Int32))])
  refine OwnGo.aloadN X1 hx (hb hby d3_4) rfl rfl ?_
  show Go p e below _ T1 (mkF m 5 #[.val (.ref a1), .val (.int p1)] [(.ref a1), (.int (2 : Int32))])
  refine OwnGo.getF X1 hx hZ hown (host := "") (Or.inl (hw _ (List.mem_of_getElem? (i := 22) rfl))) Via.refl e1 F_limit (hb hby d3_5) fun T2 X2 e2 => ?_
  show Go p e below _ T2 (mkF m 8 #[.val (.ref a1), .val (.int p1)] [(.int (8 : Int32)), (.int (2 : Int32))])
  refine OwnGo.ic_ne X2 hx (pc' := 15) (hb hby d3_8) (by decide) (by decide) (fun _ => ?_) (fun q => absurd q (by decide))
  show Go p e below _ T2 (mkF m 15 #[.val (.ref a1), .val (.int p1)] [])
  refine OwnGo.aloadN X2 hx (hb hby d3_15) rfl rfl ?_
  show Go p e below _ T2 (mkF m 16 #[.val (.ref a1), .val (.int p1)] [(.ref a1)])
  refine OwnGo.getF X2 hx hZ hown (host := "") (Or.inl (hw _ (List.mem_of_getElem? (i := 13) rfl))) Via.refl e2 F_tail (hb hby d3_16) fun T3 X3 e3 => ?_
  show Go p e below _ T3 (mkF m 19 #[.val (.ref a1), .val (.int p1)] [(.ref r)])
  refine OwnGo.aloadN X3 hx (hb hby d3_19) rfl rfl ?_
  show Go p e below _ T3 (mkF m 20 #[.val (.ref a1), .val (.int p1)] [(.ref a1), (.ref r)])
  refine OwnGo.getF X3 hx hZ hown (host := "") (Or.inl (hw _ (List.mem_of_getElem? (i := 20) rfl))) Via.refl e3 F_size (hb hby d3_20) fun T4 X4 e4 => ?_
  show Go p e below _ T4 (mkF m 23 #[.val (.ref a1), .val (.int p1)] [(.int (2 : Int32)), (.ref r)])
  refine OwnGo.sipush X4 hx (z := (16383 : Int32)) (hb hby d3_23) (by decide) ?_
  show Go p e below _ T4 (mkF m 26 #[.val (.ref a1), .val (.int p1)] [(.int (16383 : Int32)), (.int (2 : Int32)), (.ref r)])
  refine OwnGo.iand X4 hx (z := (2 : Int32)) (hb hby d3_26) (by decide) ?_
  show Go p e below _ T4 (mkF m 27 #[.val (.ref a1), .val (.int p1)] [(.int (2 : Int32)), (.ref r)])
  refine OwnGo.iloadN X4 hx (hb hby d3_27) rfl ?_
  show Go p e below _ T4 (mkF m 28 #[.val (.ref a1), .val (.int p1)] [(.int p1), (.int (2 : Int32)), (.ref r)])
  obtain ⟨cl5, Ar5, Kq5, Sz5, Nn5, Hh5, Gg5⟩ := (id V_r)
  have hin5 : ¬ ((2 : Int32) < 0 ∨ cl5.slots.size ≤ ((2 : Int32)).toNatClampNeg) := inb_of Sz5 ⟨by decide, by decide⟩
  refine OwnGo.stI X4 hx hZ e4 Ar5 hin5 (hb hby d3_28) fun T5 h5 X5 e5 W5 => ?_
  have E1_c5 := E1.wr W5
  have F_first_c5 := F_first.other W5 (Or.inl nar)
  have F_tail_c5 := F_tail.other W5 (Or.inl nar)
  have F_size_c5 := F_size.other W5 (Or.inl nar)
  have F_limit_c5 := F_limit.other W5 (Or.inl nar)
  have F_tailStart_c5 := F_tailStart.other W5 (Or.inl nar)
  have Z5 := Nat.le_trans Z0 (Keep.of_wr W5).1
  have K5_ := (Keep.refl h0 [a1, r]).wr W5 (Or.inl (List.mem_of_getElem? (i := 1) rfl))
  have N5_ := Fr.snoc X5 (Fr.nil n0) gr
  have V5 : Arv Z h5 r kr .int (8 : Int32) [(.int q0), (.int q1), (.int p1), (.int (0 : Int32)), (.int (0 : Int32)), (.int (0 : Int32)), (.int (0 : Int32)), (.int (0 : Int32))] (.int (0 : Int32)) := Arv.set Ar5 Kq5 Sz5 Nn5 Hh5 Gg5 rfl W5 2 rfl (Nat.le_of_ble_eq_true rfl)
  show Go p e below _ T5 (mkF m 29 #[.val (.ref a1), .val (.int p1)] [])
  refine OwnGo.aloadN X5 hx (hb hby d3_29) rfl rfl ?_
  show Go p e below _ T5 (mkF m 30 #[.val (.ref a1), .val (.int p1)] [(.ref a1)])
  refine OwnGo.dup X5 hx (hb hby d3_30) rfl ?_
  show Go p e below _ T5 (mkF m 31 #[.val (.ref a1), .val (.int p1)] [(.ref a1), (.ref a1)])
  refine OwnGo.getF X5 hx hZ hown (host := "") (Or.inl (hw _ (List.mem_of_getElem? (i := 20) rfl))) Via.refl e5 F_size_c5 (hb hby d3_31) fun T6 X6 e6 => ?_
  show Go p e below _ T6 (mkF m 34 #[.val (.ref a1), .val (.int p1)] [(.int (2 : Int32)), (.ref a1)])
  refine OwnGo.iconst X6 hx (z := (1 : Int32)) (hb hby d3_34) (by decide) ?_
  show Go p e below _ T6 (mkF m 35 #[.val (.ref a1), .val (.int p1)] [(.int (1 : Int32)), (.int (2 : Int32)), (.ref a1)])
  refine OwnGo.iadd X6 hx (z := (3 : Int32)) (hb hby d3_35) (by decide) ?_
  show Go p e below _ T6 (mkF m 36 #[.val (.ref a1), .val (.int p1)] [(.int (3 : Int32)), (.ref a1)])
  refine OwnGo.putF X6 hx hZ hown (host := "") (Or.inl (hw _ (List.mem_of_getElem? (i := 20) rfl))) Via.refl e6 F_size_c5 E1_c5 (Or.inl (hw _ (List.mem_of_getElem? (i := 21) rfl))) (hw _ (List.mem_of_getElem? (i := 1) rfl)) (ty := .int) (by decide) rfl rfl (hb hby d3_36) fun T7 h7 X7 e7 W7 => ?_
  have E1_c7 := E1_c5.wr W7
  have F_first_c7 := F_first_c5.other W7 (Or.inr (slot_ne (Or.inl (hw _ (List.mem_of_getElem? (i := 12) rfl))) (Or.inl (hw _ (List.mem_of_getElem? (i := 21) rfl))) (by decide) (t := (.array .int)) (t' := .int) (by decide) (by decide)))
  have F_tail_c7 := F_tail_c5.other W7 (Or.inr (slot_ne (Or.inl (hw _ (List.mem_of_getElem? (i := 14) rfl))) (Or.inl (hw _ (List.mem_of_getElem? (i := 21) rfl))) (by decide) (t := (.array .int)) (t' := .int) (by decide) (by decide)))
  have F_size_c7 := F_size_c5.same W7
  have F_limit_c7 := F_limit_c5.other W7 (Or.inr (slot_ne (Or.inl (hw _ (List.mem_of_getElem? (i := 23) rfl))) (Or.inl (hw _ (List.mem_of_getElem? (i := 21) rfl))) (by decide) (t := .int) (t' := .int) (by decide) (by decide)))
  have F_tailStart_c7 := F_tailStart_c5.other W7 (Or.inr (slot_ne (Or.inl (hw _ (List.mem_of_getElem? (i := 46) rfl))) (Or.inl (hw _ (List.mem_of_getElem? (i := 21) rfl))) (by decide) (t := .int) (t' := .int) (by decide) (by decide)))
  have V5_c7 := V5.other W7 (Ne.symm nar)
  have Z7 := Nat.le_trans Z5 (Keep.of_wr W7).1
  have K7_ := K5_.wr W7 (Or.inl (List.mem_of_getElem? (i := 0) rfl))
  have N7_ := Fr.snoc X7 N5_ ga
  show Go p e below _ T7 (mkF m 39 #[.val (.ref a1), .val (.int p1)] [])
  refine OwnGo.retV X7 hx hlk hret (hb hby d3_39) ?_ (by decide) (by decide)
  rw [e7]
  exact ⟨rfl, N7_, K7_, E1_c7, F_first_c7, F_tail_c7, F_size_c7, F_limit_c7, F_tailStart_c7, V5_c7⟩
theorem d9_0 : decode prog_55_method_4_code 0 = .ok (.iload_n 1, 1) := by decide +kernel
theorem d9_1 : decode prog_55_method_4_code 1 = .ok (.sipush 16384, 3) := by decide +kernel
theorem d9_4 : decode prog_55_method_4_code 4 = .ok (.if_icmp .ge 13, 3) := by decide +kernel
theorem d9_7 : decode prog_55_method_4_code 7 = .ok (.aload_n 0, 1) := by decide +kernel
theorem d9_8 : decode prog_55_method_4_code 8 = .ok (.getfield 13, 3) := by decide +kernel
theorem d9_11 : decode prog_55_method_4_code 11 = .ok (.iload_n 1, 1) := by decide +kernel
theorem d9_12 : decode prog_55_method_4_code 12 = .ok (.iload_n 2, 1) := by decide +kernel
theorem d9_13 : decode prog_55_method_4_code 13 = .ok (.iastore, 1) := by decide +kernel
theorem d9_14 : decode prog_55_method_4_code 14 = .ok (.goto 21, 3) := by decide +kernel
theorem d9_35 : decode prog_55_method_4_code 35 = .ok (.return_, 1) := by decide +kernel
theorem own_ef_rmSET0 (m : MethodId) (x0 : Addr) (x1 : Int32) (x2 : Int32) : entryFrame m [(.ref x0), (.int x1), (.int x2)].toArray 3 = mkF m 0 #[.val (.ref x0), .val (.int x1), .val (.int x2)] [] := by first | (simp [entryFrame, mkF, argsToLocals, Value.category]; done) | rfl
set_option maxRecDepth 65536 in
set_option maxHeartbeats 40000000 in
theorem rmSET0 (l : Launch) (Z : State) (a0 : Array Value) (hw : ∀ d ∈ tables_1, d.before a0 Z = true) (a1 r : Addr) (kr : ClassId) (q0 q1 q2 p1 : Int32) (h0 : Heap) (n0 : Nat) (Z0 : n0 ≤ h0.size) (gr : n0 ≤ r) (F_first : Fld Z h0 a1 "com/example/sibling/sibling/xpath/IntColumn" "first" "[I" (.ref r)) (V_r : Arv Z h0 r kr .int (8 : Int32) [(.int q0), (.int q1), (.int q2), (.int (0 : Int32)), (.int (0 : Int32)), (.int (0 : Int32)), (.int (0 : Int32)), (.int (0 : Int32))] (.int (0 : Int32))) (nar : a1 ≠ r) :
    Con l Z (⟨"com/example/sibling/sibling/xpath/IntColumn", "set", "(II)V"⟩ : MethodName) prog_55_method_4_code 3 none ({ frames := 0, cells := 0, slots := 0, locals := 0 } : Room) [(.ref a1), (.int (0 : Int32)), (.int p1)] h0 (fun v h L => v = none ∧ Fr n0 L ∧ Keep h0 h [r] ∧ Arv Z h r kr .int (8 : Int32) [(.int p1), (.int q1), (.int q2), (.int (0 : Int32)), (.int (0 : Int32)), (.int (0 : Int32)), (.int (0 : Int32)), (.int (0 : Int32))] (.int (0 : Int32))) := by
  refine OwnGo.Con.of (plainFor_of_name own_pn0) (Ls0 := #[.val (.ref a1), .val (.int (0 : Int32)), .val (.int p1)]) (fun m => own_ef_rmSET0 m a1 (0 : Int32) p1) ?_
  intro p e s m below meth c T0 X0 hx hZ hby hml hown hnm hret hlk e0
  show Go p e below _ T0 (mkF m 0 #[.val (.ref a1), .val (.int (0 : Int32)), .val (.int p1)] [])
  refine OwnGo.iloadN X0 hx (hb hby d9_0) rfl ?_
  show Go p e below _ T0 (mkF m 1 #[.val (.ref a1), .val (.int (0 : Int32)), .val (.int p1)] [(.int (0 : Int32))])
  refine OwnGo.sipush X0 hx (z := (16384 : Int32)) (hb hby d9_1) (by decide) ?_
  show Go p e below _ T0 (mkF m 4 #[.val (.ref a1), .val (.int (0 : Int32)), .val (.int p1)] [(.int (16384 : Int32)), (.int (0 : Int32))])
  refine OwnGo.ic_ge X0 hx (pc' := 17) (hb hby d9_4) (by decide) (by decide) (fun q => absurd q (by decide)) (fun _ => ?_)
  show Go p e below _ T0 (mkF m 7 #[.val (.ref a1), .val (.int (0 : Int32)), .val (.int p1)] [])
  refine OwnGo.aloadN X0 hx (hb hby d9_7) rfl rfl ?_
  show Go p e below _ T0 (mkF m 8 #[.val (.ref a1), .val (.int (0 : Int32)), .val (.int p1)] [(.ref a1)])
  refine OwnGo.getF X0 hx hZ hown (host := "") (Or.inl (hw _ (List.mem_of_getElem? (i := 11) rfl))) Via.refl e0 F_first (hb hby d9_8) fun T1 X1 e1 => ?_
  show Go p e below _ T1 (mkF m 11 #[.val (.ref a1), .val (.int (0 : Int32)), .val (.int p1)] [(.ref r)])
  refine OwnGo.iloadN X1 hx (hb hby d9_11) rfl ?_
  show Go p e below _ T1 (mkF m 12 #[.val (.ref a1), .val (.int (0 : Int32)), .val (.int p1)] [(.int (0 : Int32)), (.ref r)])
  refine OwnGo.iloadN X1 hx (hb hby d9_12) rfl ?_
  show Go p e below _ T1 (mkF m 13 #[.val (.ref a1), .val (.int (0 : Int32)), .val (.int p1)] [(.int p1), (.int (0 : Int32)), (.ref r)])
  obtain ⟨cl2, Ar2, Kq2, Sz2, Nn2, Hh2, Gg2⟩ := (id V_r)
  have hin2 : ¬ ((0 : Int32) < 0 ∨ cl2.slots.size ≤ ((0 : Int32)).toNatClampNeg) := inb_of Sz2 ⟨by decide, by decide⟩
  refine OwnGo.stI X1 hx hZ e1 Ar2 hin2 (hb hby d9_13) fun T2 h2 X2 e2 W2 => ?_
  have F_first_c2 := F_first.other W2 (Or.inl nar)
  have Z2 := Nat.le_trans Z0 (Keep.of_wr W2).1
  have K2_ := (Keep.refl h0 [r]).wr W2 (Or.inl (List.mem_of_getElem? (i := 0) rfl))
  have N2_ := Fr.snoc X2 (Fr.nil n0) gr
  have V2 : Arv Z h2 r kr .int (8 : Int32) [(.int p1), (.int q1), (.int q2), (.int (0 : Int32)), (.int (0 : Int32)), (.int (0 : Int32)), (.int (0 : Int32)), (.int (0 : Int32))] (.int (0 : Int32)) := Arv.set Ar2 Kq2 Sz2 Nn2 Hh2 Gg2 rfl W2 0 rfl (Nat.le_of_ble_eq_true rfl)
  show Go p e below _ T2 (mkF m 14 #[.val (.ref a1), .val (.int (0 : Int32)), .val (.int p1)] [])
  refine OwnGo.goto X2 hx (pc' := 35) (hb hby d9_14) (by decide) (by decide) ?_
  show Go p e below _ T2 (mkF m 35 #[.val (.ref a1), .val (.int (0 : Int32)), .val (.int p1)] [])
  refine OwnGo.retV X2 hx hlk hret (hb hby d9_35) ?_ (by decide) (by decide)
  rw [e2]
  exact ⟨rfl, N2_, K2_, V2⟩
theorem d11_0 : decode prog_55_method_3_code 0 = .ok (.iload_n 1, 1) := by decide +kernel
theorem d11_1 : decode prog_55_method_3_code 1 = .ok (.sipush 16384, 3) := by decide +kernel
theorem d11_4 : decode prog_55_method_3_code 4 = .ok (.if_icmp .ge 12, 3) := by decide +kernel
theorem d11_7 : decode prog_55_method_3_code 7 = .ok (.aload_n 0, 1) := by decide +kernel
theorem d11_8 : decode prog_55_method_3_code 8 = .ok (.getfield 13, 3) := by decide +kernel
theorem d11_11 : decode prog_55_method_3_code 11 = .ok (.iload_n 1, 1) := by decide +kernel
theorem d11_12 : decode prog_55_method_3_code 12 = .ok (.iaload, 1) := by decide +kernel
theorem d11_13 : decode prog_55_method_3_code 13 = .ok (.goto 20, 3) := by decide +kernel
theorem d11_33 : decode prog_55_method_3_code 33 = .ok (.ireturn, 1) := by decide +kernel
theorem own_ef_rmGET0 (m : MethodId) (x0 : Addr) (x1 : Int32) : entryFrame m [(.ref x0), (.int x1)].toArray 2 = mkF m 0 #[.val (.ref x0), .val (.int x1)] [] := by first | (simp [entryFrame, mkF, argsToLocals, Value.category]; done) | rfl
set_option maxRecDepth 65536 in
set_option maxHeartbeats 40000000 in
theorem rmGET0 (l : Launch) (Z : State) (a0 : Array Value) (hw : ∀ d ∈ tables_1, d.before a0 Z = true) (a1 r : Addr) (kr : ClassId) (q0 q1 q2 : Int32) (h0 : Heap) (F_first : Fld Z h0 a1 "com/example/sibling/sibling/xpath/IntColumn" "first" "[I" (.ref r)) (V_r : Arv Z h0 r kr .int (8 : Int32) [(.int q0), (.int q1), (.int q2), (.int (0 : Int32)), (.int (0 : Int32)), (.int (0 : Int32)), (.int (0 : Int32)), (.int (0 : Int32))] (.int (0 : Int32))) :
    Con l Z (⟨"com/example/sibling/sibling/xpath/IntColumn", "get", "(I)I"⟩ : MethodName) prog_55_method_3_code 2 (some .int) ({ frames := 0, cells := 0, slots := 0, locals := 0 } : Room) [(.ref a1), (.int (0 : Int32))] h0 (Ret (some (.int q0)) h0) := by
  refine OwnGo.Con.of (plainFor_of_name own_pn0) (Ls0 := #[.val (.ref a1), .val (.int (0 : Int32))]) (fun m => own_ef_rmGET0 m a1 (0 : Int32)) ?_
  intro p e s m below meth c T0 X0 hx hZ hby hml hown hnm hret hlk e0
  show Go p e below _ T0 (mkF m 0 #[.val (.ref a1), .val (.int (0 : Int32))] [])
  refine OwnGo.iloadN X0 hx (hb hby d11_0) rfl ?_
  show Go p e below _ T0 (mkF m 1 #[.val (.ref a1), .val (.int (0 : Int32))] [(.int (0 : Int32))])
  refine OwnGo.sipush X0 hx (z := (16384 : Int32)) (hb hby d11_1) (by decide) ?_
  show Go p e below _ T0 (mkF m 4 #[.val (.ref a1), .val (.int (0 : Int32))] [(.int (16384 : Int32)), (.int (0 : Int32))])
  refine OwnGo.ic_ge X0 hx (pc' := 16) (hb hby d11_4) (by decide) (by decide) (fun q => absurd q (by decide)) (fun _ => ?_)
  show Go p e below _ T0 (mkF m 7 #[.val (.ref a1), .val (.int (0 : Int32))] [])
  refine OwnGo.aloadN X0 hx (hb hby d11_7) rfl rfl ?_
  show Go p e below _ T0 (mkF m 8 #[.val (.ref a1), .val (.int (0 : Int32))] [(.ref a1)])
  refine OwnGo.getF X0 hx hZ hown (host := "") (Or.inl (hw _ (List.mem_of_getElem? (i := 11) rfl))) Via.refl e0 F_first (hb hby d11_8) fun T1 X1 e1 => ?_
  show Go p e below _ T1 (mkF m 11 #[.val (.ref a1), .val (.int (0 : Int32))] [(.ref r)])
  refine OwnGo.iloadN X1 hx (hb hby d11_11) rfl ?_
  show Go p e below _ T1 (mkF m 12 #[.val (.ref a1), .val (.int (0 : Int32))] [(.int (0 : Int32)), (.ref r)])
  obtain ⟨cl2, Ar2, Kq2, Sz2, Nn2, Hh2, Gg2⟩ := (id V_r)
  have hin2 : ¬ ((0 : Int32) < 0 ∨ cl2.slots.size ≤ ((0 : Int32)).toNatClampNeg) := inb_of Sz2 ⟨by decide, by decide⟩
  refine OwnGo.iaload X1 hx hZ e1 Ar2 hin2 (Has.at Hh2 hin2 (v := (.int q0)) rfl) (hb hby d11_12) ?_
  show Go p e below _ T1 (mkF m 13 #[.val (.ref a1), .val (.int (0 : Int32))] [(.int q0)])
  refine OwnGo.goto X1 hx (pc' := 33) (hb hby d11_13) (by decide) (by decide) ?_
  show Go p e below _ T1 (mkF m 33 #[.val (.ref a1), .val (.int (0 : Int32))] [(.int q0)])
  exact OwnGo.retI X1 hx hlk hret (hb hby d11_33) ⟨rfl, e1, rfl⟩ (by decide) (by decide)
theorem own_ef_rmSET1 (m : MethodId) (x0 : Addr) (x1 : Int32) (x2 : Int32) : entryFrame m [(.ref x0), (.int x1), (.int x2)].toArray 3 = mkF m 0 #[.val (.ref x0), .val (.int x1), .val (.int x2)] [] := by first | (simp [entryFrame, mkF, argsToLocals, Value.category]; done) | rfl
set_option maxRecDepth 65536 in
set_option maxHeartbeats 40000000 in
theorem rmSET1 (l : Launch) (Z : State) (a0 : Array Value) (hw : ∀ d ∈ tables_1, d.before a0 Z = true) (a1 r : Addr) (kr : ClassId) (q0 q1 q2 p1 : Int32) (h0 : Heap) (n0 : Nat) (Z0 : n0 ≤ h0.size) (gr : n0 ≤ r) (F_first : Fld Z h0 a1 "com/example/sibling/sibling/xpath/IntColumn" "first" "[I" (.ref r)) (V_r : Arv Z h0 r kr .int (8 : Int32) [(.int q0), (.int q1), (.int q2), (.int (0 : Int32)), (.int (0 : Int32)), (.int (0 : Int32)), (.int (0 : Int32)), (.int (0 : Int32))] (.int (0 : Int32))) (nar : a1 ≠ r) :
    Con l Z (⟨"com/example/sibling/sibling/xpath/IntColumn", "set", "(II)V"⟩ : MethodName) prog_55_method_4_code 3 none ({ frames := 0, cells := 0, slots := 0, locals := 0 } : Room) [(.ref a1), (.int (1 : Int32)), (.int p1)] h0 (fun v h L => v = none ∧ Fr n0 L ∧ Keep h0 h [r] ∧ Arv Z h r kr .int (8 : Int32) [(.int q0), (.int p1), (.int q2), (.int (0 : Int32)), (.int (0 : Int32)), (.int (0 : Int32)), (.int (0 : Int32)), (.int (0 : Int32))] (.int (0 : Int32))) := by
  refine OwnGo.Con.of (plainFor_of_name own_pn0) (Ls0 := #[.val (.ref a1), .val (.int (1 : Int32)), .val (.int p1)]) (fun m => own_ef_rmSET1 m a1 (1 : Int32) p1) ?_
  intro p e s m below meth c T0 X0 hx hZ hby hml hown hnm hret hlk e0
  show Go p e below _ T0 (mkF m 0 #[.val (.ref a1), .val (.int (1 : Int32)), .val (.int p1)] [])
  refine OwnGo.iloadN X0 hx (hb hby d9_0) rfl ?_
  show Go p e below _ T0 (mkF m 1 #[.val (.ref a1), .val (.int (1 : Int32)), .val (.int p1)] [(.int (1 : Int32))])
  refine OwnGo.sipush X0 hx (z := (16384 : Int32)) (hb hby d9_1) (by decide) ?_
  show Go p e below _ T0 (mkF m 4 #[.val (.ref a1), .val (.int (1 : Int32)), .val (.int p1)] [(.int (16384 : Int32)), (.int (1 : Int32))])
  refine OwnGo.ic_ge X0 hx (pc' := 17) (hb hby d9_4) (by decide) (by decide) (fun q => absurd q (by decide)) (fun _ => ?_)
  show Go p e below _ T0 (mkF m 7 #[.val (.ref a1), .val (.int (1 : Int32)), .val (.int p1)] [])
  refine OwnGo.aloadN X0 hx (hb hby d9_7) rfl rfl ?_
  show Go p e below _ T0 (mkF m 8 #[.val (.ref a1), .val (.int (1 : Int32)), .val (.int p1)] [(.ref a1)])
  refine OwnGo.getF X0 hx hZ hown (host := "") (Or.inl (hw _ (List.mem_of_getElem? (i := 11) rfl))) Via.refl e0 F_first (hb hby d9_8) fun T1 X1 e1 => ?_
  show Go p e below _ T1 (mkF m 11 #[.val (.ref a1), .val (.int (1 : Int32)), .val (.int p1)] [(.ref r)])
  refine OwnGo.iloadN X1 hx (hb hby d9_11) rfl ?_
  show Go p e below _ T1 (mkF m 12 #[.val (.ref a1), .val (.int (1 : Int32)), .val (.int p1)] [(.int (1 : Int32)), (.ref r)])
  refine OwnGo.iloadN X1 hx (hb hby d9_12) rfl ?_
  show Go p e below _ T1 (mkF m 13 #[.val (.ref a1), .val (.int (1 : Int32)), .val (.int p1)] [(.int p1), (.int (1 : Int32)), (.ref r)])
  obtain ⟨cl2, Ar2, Kq2, Sz2, Nn2, Hh2, Gg2⟩ := (id V_r)
  have hin2 : ¬ ((1 : Int32) < 0 ∨ cl2.slots.size ≤ ((1 : Int32)).toNatClampNeg) := inb_of Sz2 ⟨by decide, by decide⟩
  refine OwnGo.stI X1 hx hZ e1 Ar2 hin2 (hb hby d9_13) fun T2 h2 X2 e2 W2 => ?_
  have F_first_c2 := F_first.other W2 (Or.inl nar)
  have Z2 := Nat.le_trans Z0 (Keep.of_wr W2).1
  have K2_ := (Keep.refl h0 [r]).wr W2 (Or.inl (List.mem_of_getElem? (i := 0) rfl))
  have N2_ := Fr.snoc X2 (Fr.nil n0) gr
  have V2 : Arv Z h2 r kr .int (8 : Int32) [(.int q0), (.int p1), (.int q2), (.int (0 : Int32)), (.int (0 : Int32)), (.int (0 : Int32)), (.int (0 : Int32)), (.int (0 : Int32))] (.int (0 : Int32)) := Arv.set Ar2 Kq2 Sz2 Nn2 Hh2 Gg2 rfl W2 1 rfl (Nat.le_of_ble_eq_true rfl)
  show Go p e below _ T2 (mkF m 14 #[.val (.ref a1), .val (.int (1 : Int32)), .val (.int p1)] [])
  refine OwnGo.goto X2 hx (pc' := 35) (hb hby d9_14) (by decide) (by decide) ?_
  show Go p e below _ T2 (mkF m 35 #[.val (.ref a1), .val (.int (1 : Int32)), .val (.int p1)] [])
  refine OwnGo.retV X2 hx hlk hret (hb hby d9_35) ?_ (by decide) (by decide)
  rw [e2]
  exact ⟨rfl, N2_, K2_, V2⟩
theorem own_ef_rmGET1 (m : MethodId) (x0 : Addr) (x1 : Int32) : entryFrame m [(.ref x0), (.int x1)].toArray 2 = mkF m 0 #[.val (.ref x0), .val (.int x1)] [] := by first | (simp [entryFrame, mkF, argsToLocals, Value.category]; done) | rfl
set_option maxRecDepth 65536 in
set_option maxHeartbeats 40000000 in
theorem rmGET1 (l : Launch) (Z : State) (a0 : Array Value) (hw : ∀ d ∈ tables_1, d.before a0 Z = true) (a1 r : Addr) (kr : ClassId) (q0 q1 q2 : Int32) (h0 : Heap) (F_first : Fld Z h0 a1 "com/example/sibling/sibling/xpath/IntColumn" "first" "[I" (.ref r)) (V_r : Arv Z h0 r kr .int (8 : Int32) [(.int q0), (.int q1), (.int q2), (.int (0 : Int32)), (.int (0 : Int32)), (.int (0 : Int32)), (.int (0 : Int32)), (.int (0 : Int32))] (.int (0 : Int32))) :
    Con l Z (⟨"com/example/sibling/sibling/xpath/IntColumn", "get", "(I)I"⟩ : MethodName) prog_55_method_3_code 2 (some .int) ({ frames := 0, cells := 0, slots := 0, locals := 0 } : Room) [(.ref a1), (.int (1 : Int32))] h0 (Ret (some (.int q1)) h0) := by
  refine OwnGo.Con.of (plainFor_of_name own_pn0) (Ls0 := #[.val (.ref a1), .val (.int (1 : Int32))]) (fun m => own_ef_rmGET1 m a1 (1 : Int32)) ?_
  intro p e s m below meth c T0 X0 hx hZ hby hml hown hnm hret hlk e0
  show Go p e below _ T0 (mkF m 0 #[.val (.ref a1), .val (.int (1 : Int32))] [])
  refine OwnGo.iloadN X0 hx (hb hby d11_0) rfl ?_
  show Go p e below _ T0 (mkF m 1 #[.val (.ref a1), .val (.int (1 : Int32))] [(.int (1 : Int32))])
  refine OwnGo.sipush X0 hx (z := (16384 : Int32)) (hb hby d11_1) (by decide) ?_
  show Go p e below _ T0 (mkF m 4 #[.val (.ref a1), .val (.int (1 : Int32))] [(.int (16384 : Int32)), (.int (1 : Int32))])
  refine OwnGo.ic_ge X0 hx (pc' := 16) (hb hby d11_4) (by decide) (by decide) (fun q => absurd q (by decide)) (fun _ => ?_)
  show Go p e below _ T0 (mkF m 7 #[.val (.ref a1), .val (.int (1 : Int32))] [])
  refine OwnGo.aloadN X0 hx (hb hby d11_7) rfl rfl ?_
  show Go p e below _ T0 (mkF m 8 #[.val (.ref a1), .val (.int (1 : Int32))] [(.ref a1)])
  refine OwnGo.getF X0 hx hZ hown (host := "") (Or.inl (hw _ (List.mem_of_getElem? (i := 11) rfl))) Via.refl e0 F_first (hb hby d11_8) fun T1 X1 e1 => ?_
  show Go p e below _ T1 (mkF m 11 #[.val (.ref a1), .val (.int (1 : Int32))] [(.ref r)])
  refine OwnGo.iloadN X1 hx (hb hby d11_11) rfl ?_
  show Go p e below _ T1 (mkF m 12 #[.val (.ref a1), .val (.int (1 : Int32))] [(.int (1 : Int32)), (.ref r)])
  obtain ⟨cl2, Ar2, Kq2, Sz2, Nn2, Hh2, Gg2⟩ := (id V_r)
  have hin2 : ¬ ((1 : Int32) < 0 ∨ cl2.slots.size ≤ ((1 : Int32)).toNatClampNeg) := inb_of Sz2 ⟨by decide, by decide⟩
  refine OwnGo.iaload X1 hx hZ e1 Ar2 hin2 (Has.at Hh2 hin2 (v := (.int q1)) rfl) (hb hby d11_12) ?_
  show Go p e below _ T1 (mkF m 13 #[.val (.ref a1), .val (.int (1 : Int32))] [(.int q1)])
  refine OwnGo.goto X1 hx (pc' := 33) (hb hby d11_13) (by decide) (by decide) ?_
  show Go p e below _ T1 (mkF m 33 #[.val (.ref a1), .val (.int (1 : Int32))] [(.int q1)])
  exact OwnGo.retI X1 hx hlk hret (hb hby d11_33) ⟨rfl, e1, rfl⟩ (by decide) (by decide)
theorem own_ef_rmSET2 (m : MethodId) (x0 : Addr) (x1 : Int32) (x2 : Int32) : entryFrame m [(.ref x0), (.int x1), (.int x2)].toArray 3 = mkF m 0 #[.val (.ref x0), .val (.int x1), .val (.int x2)] [] := by first | (simp [entryFrame, mkF, argsToLocals, Value.category]; done) | rfl
set_option maxRecDepth 65536 in
set_option maxHeartbeats 40000000 in
theorem rmSET2 (l : Launch) (Z : State) (a0 : Array Value) (hw : ∀ d ∈ tables_1, d.before a0 Z = true) (a1 r : Addr) (kr : ClassId) (q0 q1 q2 p1 : Int32) (h0 : Heap) (n0 : Nat) (Z0 : n0 ≤ h0.size) (gr : n0 ≤ r) (F_first : Fld Z h0 a1 "com/example/sibling/sibling/xpath/IntColumn" "first" "[I" (.ref r)) (V_r : Arv Z h0 r kr .int (8 : Int32) [(.int q0), (.int q1), (.int q2), (.int (0 : Int32)), (.int (0 : Int32)), (.int (0 : Int32)), (.int (0 : Int32)), (.int (0 : Int32))] (.int (0 : Int32))) (nar : a1 ≠ r) :
    Con l Z (⟨"com/example/sibling/sibling/xpath/IntColumn", "set", "(II)V"⟩ : MethodName) prog_55_method_4_code 3 none ({ frames := 0, cells := 0, slots := 0, locals := 0 } : Room) [(.ref a1), (.int (2 : Int32)), (.int p1)] h0 (fun v h L => v = none ∧ Fr n0 L ∧ Keep h0 h [r] ∧ Arv Z h r kr .int (8 : Int32) [(.int q0), (.int q1), (.int p1), (.int (0 : Int32)), (.int (0 : Int32)), (.int (0 : Int32)), (.int (0 : Int32)), (.int (0 : Int32))] (.int (0 : Int32))) := by
  refine OwnGo.Con.of (plainFor_of_name own_pn0) (Ls0 := #[.val (.ref a1), .val (.int (2 : Int32)), .val (.int p1)]) (fun m => own_ef_rmSET2 m a1 (2 : Int32) p1) ?_
  intro p e s m below meth c T0 X0 hx hZ hby hml hown hnm hret hlk e0
  show Go p e below _ T0 (mkF m 0 #[.val (.ref a1), .val (.int (2 : Int32)), .val (.int p1)] [])
  refine OwnGo.iloadN X0 hx (hb hby d9_0) rfl ?_
  show Go p e below _ T0 (mkF m 1 #[.val (.ref a1), .val (.int (2 : Int32)), .val (.int p1)] [(.int (2 : Int32))])
  refine OwnGo.sipush X0 hx (z := (16384 : Int32)) (hb hby d9_1) (by decide) ?_
  show Go p e below _ T0 (mkF m 4 #[.val (.ref a1), .val (.int (2 : Int32)), .val (.int p1)] [(.int (16384 : Int32)), (.int (2 : Int32))])
  refine OwnGo.ic_ge X0 hx (pc' := 17) (hb hby d9_4) (by decide) (by decide) (fun q => absurd q (by decide)) (fun _ => ?_)
  show Go p e below _ T0 (mkF m 7 #[.val (.ref a1), .val (.int (2 : Int32)), .val (.int p1)] [])
  refine OwnGo.aloadN X0 hx (hb hby d9_7) rfl rfl ?_
  show Go p e below _ T0 (mkF m 8 #[.val (.ref a1), .val (.int (2 : Int32)), .val (.int p1)] [(.ref a1)])
  refine OwnGo.getF X0 hx hZ hown (host := "") (Or.inl (hw _ (List.mem_of_getElem? (i := 11) rfl))) Via.refl e0 F_first (hb hby d9_8) fun T1 X1 e1 => ?_
  show Go p e below _ T1 (mkF m 11 #[.val (.ref a1), .val (.int (2 : Int32)), .val (.int p1)] [(.ref r)])
  refine OwnGo.iloadN X1 hx (hb hby d9_11) rfl ?_
  show Go p e below _ T1 (mkF m 12 #[.val (.ref a1), .val (.int (2 : Int32)), .val (.int p1)] [(.int (2 : Int32)), (.ref r)])
  refine OwnGo.iloadN X1 hx (hb hby d9_12) rfl ?_
  show Go p e below _ T1 (mkF m 13 #[.val (.ref a1), .val (.int (2 : Int32)), .val (.int p1)] [(.int p1), (.int (2 : Int32)), (.ref r)])
  obtain ⟨cl2, Ar2, Kq2, Sz2, Nn2, Hh2, Gg2⟩ := (id V_r)
  have hin2 : ¬ ((2 : Int32) < 0 ∨ cl2.slots.size ≤ ((2 : Int32)).toNatClampNeg) := inb_of Sz2 ⟨by decide, by decide⟩
  refine OwnGo.stI X1 hx hZ e1 Ar2 hin2 (hb hby d9_13) fun T2 h2 X2 e2 W2 => ?_
  have F_first_c2 := F_first.other W2 (Or.inl nar)
  have Z2 := Nat.le_trans Z0 (Keep.of_wr W2).1
  have K2_ := (Keep.refl h0 [r]).wr W2 (Or.inl (List.mem_of_getElem? (i := 0) rfl))
  have N2_ := Fr.snoc X2 (Fr.nil n0) gr
  have V2 : Arv Z h2 r kr .int (8 : Int32) [(.int q0), (.int q1), (.int p1), (.int (0 : Int32)), (.int (0 : Int32)), (.int (0 : Int32)), (.int (0 : Int32)), (.int (0 : Int32))] (.int (0 : Int32)) := Arv.set Ar2 Kq2 Sz2 Nn2 Hh2 Gg2 rfl W2 2 rfl (Nat.le_of_ble_eq_true rfl)
  show Go p e below _ T2 (mkF m 14 #[.val (.ref a1), .val (.int (2 : Int32)), .val (.int p1)] [])
  refine OwnGo.goto X2 hx (pc' := 35) (hb hby d9_14) (by decide) (by decide) ?_
  show Go p e below _ T2 (mkF m 35 #[.val (.ref a1), .val (.int (2 : Int32)), .val (.int p1)] [])
  refine OwnGo.retV X2 hx hlk hret (hb hby d9_35) ?_ (by decide) (by decide)
  rw [e2]
  exact ⟨rfl, N2_, K2_, V2⟩
theorem own_ef_rmGET2 (m : MethodId) (x0 : Addr) (x1 : Int32) : entryFrame m [(.ref x0), (.int x1)].toArray 2 = mkF m 0 #[.val (.ref x0), .val (.int x1)] [] := by first | (simp [entryFrame, mkF, argsToLocals, Value.category]; done) | rfl
set_option maxRecDepth 65536 in
set_option maxHeartbeats 40000000 in
theorem rmGET2 (l : Launch) (Z : State) (a0 : Array Value) (hw : ∀ d ∈ tables_1, d.before a0 Z = true) (a1 r : Addr) (kr : ClassId) (q0 q1 q2 : Int32) (h0 : Heap) (F_first : Fld Z h0 a1 "com/example/sibling/sibling/xpath/IntColumn" "first" "[I" (.ref r)) (V_r : Arv Z h0 r kr .int (8 : Int32) [(.int q0), (.int q1), (.int q2), (.int (0 : Int32)), (.int (0 : Int32)), (.int (0 : Int32)), (.int (0 : Int32)), (.int (0 : Int32))] (.int (0 : Int32))) :
    Con l Z (⟨"com/example/sibling/sibling/xpath/IntColumn", "get", "(I)I"⟩ : MethodName) prog_55_method_3_code 2 (some .int) ({ frames := 0, cells := 0, slots := 0, locals := 0 } : Room) [(.ref a1), (.int (2 : Int32))] h0 (Ret (some (.int q2)) h0) := by
  refine OwnGo.Con.of (plainFor_of_name own_pn0) (Ls0 := #[.val (.ref a1), .val (.int (2 : Int32))]) (fun m => own_ef_rmGET2 m a1 (2 : Int32)) ?_
  intro p e s m below meth c T0 X0 hx hZ hby hml hown hnm hret hlk e0
  show Go p e below _ T0 (mkF m 0 #[.val (.ref a1), .val (.int (2 : Int32))] [])
  refine OwnGo.iloadN X0 hx (hb hby d11_0) rfl ?_
  show Go p e below _ T0 (mkF m 1 #[.val (.ref a1), .val (.int (2 : Int32))] [(.int (2 : Int32))])
  refine OwnGo.sipush X0 hx (z := (16384 : Int32)) (hb hby d11_1) (by decide) ?_
  show Go p e below _ T0 (mkF m 4 #[.val (.ref a1), .val (.int (2 : Int32))] [(.int (16384 : Int32)), (.int (2 : Int32))])
  refine OwnGo.ic_ge X0 hx (pc' := 16) (hb hby d11_4) (by decide) (by decide) (fun q => absurd q (by decide)) (fun _ => ?_)
  show Go p e below _ T0 (mkF m 7 #[.val (.ref a1), .val (.int (2 : Int32))] [])
  refine OwnGo.aloadN X0 hx (hb hby d11_7) rfl rfl ?_
  show Go p e below _ T0 (mkF m 8 #[.val (.ref a1), .val (.int (2 : Int32))] [(.ref a1)])
  refine OwnGo.getF X0 hx hZ hown (host := "") (Or.inl (hw _ (List.mem_of_getElem? (i := 11) rfl))) Via.refl e0 F_first (hb hby d11_8) fun T1 X1 e1 => ?_
  show Go p e below _ T1 (mkF m 11 #[.val (.ref a1), .val (.int (2 : Int32))] [(.ref r)])
  refine OwnGo.iloadN X1 hx (hb hby d11_11) rfl ?_
  show Go p e below _ T1 (mkF m 12 #[.val (.ref a1), .val (.int (2 : Int32))] [(.int (2 : Int32)), (.ref r)])
  obtain ⟨cl2, Ar2, Kq2, Sz2, Nn2, Hh2, Gg2⟩ := (id V_r)
  have hin2 : ¬ ((2 : Int32) < 0 ∨ cl2.slots.size ≤ ((2 : Int32)).toNatClampNeg) := inb_of Sz2 ⟨by decide, by decide⟩
  refine OwnGo.iaload X1 hx hZ e1 Ar2 hin2 (Has.at Hh2 hin2 (v := (.int q2)) rfl) (hb hby d11_12) ?_
  show Go p e below _ T1 (mkF m 13 #[.val (.ref a1), .val (.int (2 : Int32))] [(.int q2)])
  refine OwnGo.goto X1 hx (pc' := 33) (hb hby d11_13) (by decide) (by decide) ?_
  show Go p e below _ T1 (mkF m 33 #[.val (.ref a1), .val (.int (2 : Int32))] [(.int q2)])
  exact OwnGo.retI X1 hx hlk hret (hb hby d11_33) ⟨rfl, e1, rfl⟩ (by decide) (by decide)
theorem d10_0 : decode prog_55_method_2_code 0 = .ok (.aload_n 0, 1) := by decide +kernel
theorem d10_1 : decode prog_55_method_2_code 1 = .ok (.getfield 19, 3) := by decide +kernel
theorem d10_4 : decode prog_55_method_2_code 4 = .ok (.ireturn, 1) := by decide +kernel
theorem own_ef_rmSIZ (m : MethodId) (x0 : Addr) : entryFrame m [(.ref x0)].toArray 1 = mkF m 0 #[.val (.ref x0)] [] := by first | (simp [entryFrame, mkF, argsToLocals, Value.category]; done) | rfl
set_option maxRecDepth 65536 in
set_option maxHeartbeats 40000000 in
theorem rmSIZ (l : Launch) (Z : State) (a0 : Array Value) (hw : ∀ d ∈ tables_1, d.before a0 Z = true) (a1 : Addr) (z : Int32) (h0 : Heap) (F_size : Fld Z h0 a1 "com/example/sibling/sibling/xpath/IntColumn" "size" "I" (.int z)) :
    Con l Z (⟨"com/example/sibling/sibling/xpath/IntColumn", "size", "()I"⟩ : MethodName) prog_55_method_2_code 1 (some .int) ({ frames := 0, cells := 0, slots := 0, locals := 0 } : Room) [(.ref a1)] h0 (Ret (some (.int z)) h0) := by
  refine OwnGo.Con.of (plainFor_of_name own_pn0) (Ls0 := #[.val (.ref a1)]) (fun m => own_ef_rmSIZ m a1) ?_
  intro p e s m below meth c T0 X0 hx hZ hby hml hown hnm hret hlk e0
  show Go p e below _ T0 (mkF m 0 #[.val (.ref a1)] [])
  refine OwnGo.aloadN X0 hx (hb hby d10_0) rfl rfl ?_
  show Go p e below _ T0 (mkF m 1 #[.val (.ref a1)] [(.ref a1)])
  refine OwnGo.getF X0 hx hZ hown (host := "") (Or.inl (hw _ (List.mem_of_getElem? (i := 20) rfl))) Via.refl e0 F_size (hb hby d10_1) fun T1 X1 e1 => ?_
  show Go p e below _ T1 (mkF m 4 #[.val (.ref a1)] [(.int z)])
  exact OwnGo.retI X1 hx hlk hret (hb hby d10_4) ⟨rfl, e1, rfl⟩ (by decide) (by decide)
theorem own_three (k : Int32) : (k &&& 255) % 3 = 0 ∨ (k &&& 255) % 3 = 1 ∨ (k &&& 255) % 3 = 2 := by
  have e1 : (k &&& 255).toInt = k.toInt % 2 ^ 8 := Jvm.Kit.i32_mask k 255 (k := 8) (by decide) (by decide)
  have e2 : ((k &&& 255) % 3).toInt = (k &&& 255).toInt % (3 : Int32).toInt := Jvm.Kit.i32_rem_nonneg (by omega)
  have e3 : (3 : Int32).toInt = 3 := by decide
  rw [e3] at e2
  have h : ((k &&& 255) % 3).toInt = 0 ∨ ((k &&& 255) % 3).toInt = 1 ∨ ((k &&& 255) % 3).toInt = 2 := by omega
  rcases h with h | h | h
  · exact Or.inl (Int32.toInt_inj.mp (h.trans (by decide)))
  · exact Or.inr (Or.inl (Int32.toInt_inj.mp (h.trans (by decide))))
  · exact Or.inr (Or.inr (Int32.toInt_inj.mp (h.trans (by decide))))
def own_exp (k i j o x y : Int32) : Int32 := if k = j then y else if k = i then x else o
theorem d12_0 : decode method_3_code 0 = .ok (.iload_n 0, 1) := by decide +kernel
theorem d12_1 : decode method_3_code 1 = .ok (.iload_n 2, 1) := by decide +kernel
theorem d12_2 : decode method_3_code 2 = .ok (.if_icmp .ne 6, 3) := by decide +kernel
theorem d12_5 : decode method_3_code 5 = .ok (.iload 5, 2) := by decide +kernel
theorem d12_7 : decode method_3_code 7 = .ok (.ireturn, 1) := by decide +kernel
theorem d12_8 : decode method_3_code 8 = .ok (.iload_n 0, 1) := by decide +kernel
theorem d12_9 : decode method_3_code 9 = .ok (.iload_n 1, 1) := by decide +kernel
theorem d12_10 : decode method_3_code 10 = .ok (.if_icmp .ne 6, 3) := by decide +kernel
theorem d12_13 : decode method_3_code 13 = .ok (.iload 4, 2) := by decide +kernel
theorem d12_15 : decode method_3_code 15 = .ok (.ireturn, 1) := by decide +kernel
theorem d12_16 : decode method_3_code 16 = .ok (.iload_n 3, 1) := by decide +kernel
theorem d12_17 : decode method_3_code 17 = .ok (.ireturn, 1) := by decide +kernel
theorem own_ef_rmE (m : MethodId) (x0 : Int32) (x1 : Int32) (x2 : Int32) (x3 : Int32) (x4 : Int32) (x5 : Int32) : entryFrame m [(.int x0), (.int x1), (.int x2), (.int x3), (.int x4), (.int x5)].toArray 6 = mkF m 0 #[.val (.int x0), .val (.int x1), .val (.int x2), .val (.int x3), .val (.int x4), .val (.int x5)] [] := by first | (simp [entryFrame, mkF, argsToLocals, Value.category]; done) | rfl
set_option maxRecDepth 65536 in
set_option maxHeartbeats 40000000 in
theorem rmE (l : Launch) (Z : State) (a0 : Array Value) (hw : ∀ d ∈ tables_1, d.before a0 Z = true) (k i j o x1 y1 r : Int32) (h0 : Heap) (hr : own_exp k i j o x1 y1 = r) :
    Con l Z (⟨"com/example/sibling/sibling/xpath/IntColumnSetPinLaw", "expected", "(IIIIII)I"⟩ : MethodName) method_3_code 6 (some .int) ({ frames := 0, cells := 0, slots := 0, locals := 0 } : Room) [(.int k), (.int i), (.int j), (.int o), (.int x1), (.int y1)] h0 (Ret (some (.int r)) h0) := by
  refine OwnGo.Con.of (plainFor_of_name own_pn2) (Ls0 := #[.val (.int k), .val (.int i), .val (.int j), .val (.int o), .val (.int x1), .val (.int y1)]) (fun m => own_ef_rmE m k i j o x1 y1) ?_
  intro p e s m below meth c T0 X0 hx hZ hby hml hown hnm hret hlk e0
  show Go p e below _ T0 (mkF m 0 #[.val (.int k), .val (.int i), .val (.int j), .val (.int o), .val (.int x1), .val (.int y1)] [])
  refine OwnGo.iloadN X0 hx (hb hby d12_0) rfl ?_
  show Go p e below _ T0 (mkF m 1 #[.val (.int k), .val (.int i), .val (.int j), .val (.int o), .val (.int x1), .val (.int y1)] [(.int k)])
  refine OwnGo.iloadN X0 hx (hb hby d12_1) rfl ?_
  show Go p e below _ T0 (mkF m 2 #[.val (.int k), .val (.int i), .val (.int j), .val (.int o), .val (.int x1), .val (.int y1)] [(.int j), (.int k)])
  refine OwnGo.ic_ne X0 hx (pc' := 8) (hb hby d12_2) (by decide) (by decide) (fun h2 => ?_) (fun h2 => ?_)
  ·
    show Go p e below _ T0 (mkF m 8 #[.val (.int k), .val (.int i), .val (.int j), .val (.int o), .val (.int x1), .val (.int y1)] [])
    refine OwnGo.iloadN X0 hx (hb hby d12_8) rfl ?_
    show Go p e below _ T0 (mkF m 9 #[.val (.int k), .val (.int i), .val (.int j), .val (.int o), .val (.int x1), .val (.int y1)] [(.int k)])
    refine OwnGo.iloadN X0 hx (hb hby d12_9) rfl ?_
    show Go p e below _ T0 (mkF m 10 #[.val (.int k), .val (.int i), .val (.int j), .val (.int o), .val (.int x1), .val (.int y1)] [(.int i), (.int k)])
    refine OwnGo.ic_ne X0 hx (pc' := 16) (hb hby d12_10) (by decide) (by decide) (fun h10 => ?_) (fun h10 => ?_)
    ·
      show Go p e below _ T0 (mkF m 16 #[.val (.int k), .val (.int i), .val (.int j), .val (.int o), .val (.int x1), .val (.int y1)] [])
      refine OwnGo.iloadN X0 hx (hb hby d12_16) rfl ?_
      show Go p e below _ T0 (mkF m 17 #[.val (.int k), .val (.int i), .val (.int j), .val (.int o), .val (.int x1), .val (.int y1)] [(.int o)])
      exact OwnGo.retI X0 hx hlk hret (hb hby d12_17) ⟨by rw [← hr]; unfold own_exp; (try first | rw [if_pos h2] | rw [if_neg h2]); (try first | rw [if_pos h10] | rw [if_neg h10]); try rfl, e0, rfl⟩ (by decide) (by decide)
    ·
      show Go p e below _ T0 (mkF m 13 #[.val (.int k), .val (.int i), .val (.int j), .val (.int o), .val (.int x1), .val (.int y1)] [])
      refine OwnGo.iload X0 hx (hb hby d12_13) rfl ?_
      show Go p e below _ T0 (mkF m 15 #[.val (.int k), .val (.int i), .val (.int j), .val (.int o), .val (.int x1), .val (.int y1)] [(.int x1)])
      exact OwnGo.retI X0 hx hlk hret (hb hby d12_15) ⟨by rw [← hr]; unfold own_exp; (try first | rw [if_pos h2] | rw [if_neg h2]); (try first | rw [if_pos h10] | rw [if_neg h10]); try rfl, e0, rfl⟩ (by decide) (by decide)
  ·
    show Go p e below _ T0 (mkF m 5 #[.val (.int k), .val (.int i), .val (.int j), .val (.int o), .val (.int x1), .val (.int y1)] [])
    refine OwnGo.iload X0 hx (hb hby d12_5) rfl ?_
    show Go p e below _ T0 (mkF m 7 #[.val (.int k), .val (.int i), .val (.int j), .val (.int o), .val (.int x1), .val (.int y1)] [(.int y1)])
    exact OwnGo.retI X0 hx hlk hret (hb hby d12_7) ⟨by rw [← hr]; unfold own_exp; (try first | rw [if_pos h2] | rw [if_neg h2]); try rfl, e0, rfl⟩ (by decide) (by decide)
theorem own_len0 {s : State} {args : Array Value} {t : Term} {a : Addr} {cl : Cell} (ht : t.eval args s none [] s = some (.ref a)) (A : Arr s s.heap a cl .int) (hq : (Jvm.Cond.eq (.length t) (.int 0)).value args s none s [] = some true) : cl.slots.size = 0 := by
  obtain ⟨x, y, h1, h2, h3, h4⟩ := cmp_v (Or.inl hq)
  have hy : y = .int 0 := (Option.some.inj h2).symm
  subst hy
  obtain ⟨z, rfl⟩ := h4
  have q : z = 0 := gotT (by simp only [Cond.value, h1, h2] : (Jvm.Cond.eq (.length t) (.int 0)).value args s none s [] = some (decide (z = 0))) hq
  subst q
  have hA := A.fin (Vm.Alike.refl _)
  by_cases hl : cl.slots.size < 2 ^ 31
  · have e1 := (len_f ht hA hl).symm.trans h1
    have e2 : cl.slots.size.toInt32 = 0 := Value.int.inj (Option.some.inj e1)
    have e3 := len_toInt hl
    rw [e2] at e3
    have : (0 : Int32).toInt = 0 := rfl
    omega
  · exfalso
    have hl' : ¬ cl.slots.size < 2147483648 := by omega
    simp [Term.eval, ht, hA, hl'] at h1
theorem own_empty {s : State} {args : Array Value} {C f d : String} (hfit : Fit s) (h1 : (Jvm.Cond.arrayOf (.static C f d) .int).value args s none s [] = some true) (h3 : (Jvm.Cond.eq (.length (.static C f d)) (.int 0)).value args s none s [] = some true) (hi : (Jvm.Cond.initialized C).before args s = true) (hl : (Jvm.Cond.laysStatic C f d).before args s = true) :
    ∃ a k, Sta s s.heap C f d (.ref a) ∧ Arv s s.heap a k .int 0 [] (.int 0) := by
  obtain ⟨a, e⟩ := arr_v h1
  obtain ⟨cl, A⟩ := Arr.start e h1
  have hs := own_len0 e A h3
  exact ⟨a, cl.cls, Sta.start e (Or.inr ⟨hi, hl⟩), Arv.start hfit A (by omega) (by rw [hs]; rfl) (by decide) rfl trivial⟩
theorem own_ef_rm0 (m : MethodId) (x0 : Int32) (x1 : Int32) (x2 : Int32) (x3 : Int32) (x4 : Int32) (x5 : Int32) : entryFrame m [(.int x0), (.int x1), (.int x2), (.int x3), (.int x4), (.int x5)].toArray maxLocals = mkF m 0 #[.val (.int x0), .val (.int x1), .val (.int x2), .val (.int x3), .val (.int x4), .val (.int x5), .unset, .unset, .unset] [] := by first | (simp [entryFrame, mkF, argsToLocals, Value.category, maxLocals]; done) | rfl
set_option maxRecDepth 65536 in
set_option maxHeartbeats 40000000 in
theorem rm0 (l : Launch) (Z : State) (a0 : Array Value) (hw : ∀ d ∈ tables_1, d.before a0 Z = true) (p1 p2 p3 p4 p5 p6 : Int32) (av : Addr) (kv : ClassId) (h0 : Heap) (n0 : Nat) (Z0 : n0 ≤ h0.size) (Sn : Sta Z h0 "com/example/sibling/sibling/xpath/IntColumn" "NO_VALUES" "[I" (.ref av)) (V_av : Arv Z h0 av kv .int (0 : Int32) [] (.int (0 : Int32))) :
    Con l Z x code maxLocals ret room_1 [(.int p1), (.int p2), (.int p3), (.int p4), (.int p5), (.int p6)] h0 (fun v _ L => v = some (.int 1) ∧ Fr n0 L) := by
  refine OwnGo.Con.of (plainFor_of_name own_pn2) (Ls0 := #[.val (.int p1), .val (.int p2), .val (.int p3), .val (.int p4), .val (.int p5), .val (.int p6), .unset, .unset, .unset]) (fun m => own_ef_rm0 m p1 p2 p3 p4 p5 p6) ?_
  intro p e s m below meth c T0 X0 hx hZ hby hml hown hnm hret hlk e0
  have hml : c.maxLocals = 9 := hml
  show Go p e below _ T0 (mkF m 0 #[.val (.int p1), .val (.int p2), .val (.int p3), .val (.int p4), .val (.int p5), .val (.int p6), .unset, .unset, .unset] [])
  refine OwnGo.iloadN X0 hx (hb hby at_0) rfl ?_
  show Go p e below _ T0 (mkF m 1 #[.val (.int p1), .val (.int p2), .val (.int p3), .val (.int p4), .val (.int p5), .val (.int p6), .unset, .unset, .unset] [(.int p4)])
  refine OwnGo.sipush X0 hx (z := (255 : Int32)) (hb hby at_1) (by decide) ?_
  show Go p e below _ T0 (mkF m 4 #[.val (.int p1), .val (.int p2), .val (.int p3), .val (.int p4), .val (.int p5), .val (.int p6), .unset, .unset, .unset] [(.int (255 : Int32)), (.int p4)])
  refine OwnGo.iand X0 hx (hb hby at_4) rfl ?_
  show Go p e below _ T0 (mkF m 5 #[.val (.int p1), .val (.int p2), .val (.int p3), .val (.int p4), .val (.int p5), .val (.int p6), .unset, .unset, .unset] [(.int (p4 &&& (255 : Int32)))])
  refine OwnGo.iconst X0 hx (z := (3 : Int32)) (hb hby at_5) (by decide) ?_
  show Go p e below _ T0 (mkF m 6 #[.val (.int p1), .val (.int p2), .val (.int p3), .val (.int p4), .val (.int p5), .val (.int p6), .unset, .unset, .unset] [(.int (3 : Int32)), (.int (p4 &&& (255 : Int32)))])
  refine OwnGo.irem X0 hx (hb hby at_6) (by decide) rfl ?_
  show Go p e below _ T0 (mkF m 7 #[.val (.int p1), .val (.int p2), .val (.int p3), .val (.int p4), .val (.int p5), .val (.int p6), .unset, .unset, .unset] [(.int ((p4 &&& (255 : Int32)) % (3 : Int32)))])
  refine OwnGo.istore X0 hx (hb hby at_7) (Ls' := #[.val (.int p1), .val (.int p2), .val (.int p3), .val (.int p4), .val (.int p5), .val (.int p6), .val (.int ((p4 &&& (255 : Int32)) % (3 : Int32))), .unset, .unset]) rfl ?_
  show Go p e below _ T0 (mkF m 9 #[.val (.int p1), .val (.int p2), .val (.int p3), .val (.int p4), .val (.int p5), .val (.int p6), .val (.int ((p4 &&& (255 : Int32)) % (3 : Int32))), .unset, .unset] [])
  refine OwnGo.iloadN X0 hx (hb hby at_9) rfl ?_
  show Go p e below _ T0 (mkF m 10 #[.val (.int p1), .val (.int p2), .val (.int p3), .val (.int p4), .val (.int p5), .val (.int p6), .val (.int ((p4 &&& (255 : Int32)) % (3 : Int32))), .unset, .unset] [(.int p4)])
  refine OwnGo.bipush X0 hx (z := (8 : Int32)) (hb hby at_10) (by decide) ?_
  show Go p e below _ T0 (mkF m 12 #[.val (.int p1), .val (.int p2), .val (.int p3), .val (.int p4), .val (.int p5), .val (.int p6), .val (.int ((p4 &&& (255 : Int32)) % (3 : Int32))), .unset, .unset] [(.int (8 : Int32)), (.int p4)])
  refine OwnGo.iushr X0 hx (hb hby at_12) rfl ?_
  show Go p e below _ T0 (mkF m 13 #[.val (.int p1), .val (.int p2), .val (.int p3), .val (.int p4), .val (.int p5), .val (.int p6), .val (.int ((p4 &&& (255 : Int32)) % (3 : Int32))), .unset, .unset] [(.int ((p4.toUInt32 >>> ((8 : Int32) &&& 31).toUInt32).toInt32))])
  refine OwnGo.sipush X0 hx (z := (255 : Int32)) (hb hby at_13) (by decide) ?_
  show Go p e below _ T0 (mkF m 16 #[.val (.int p1), .val (.int p2), .val (.int p3), .val (.int p4), .val (.int p5), .val (.int p6), .val (.int ((p4 &&& (255 : Int32)) % (3 : Int32))), .unset, .unset] [(.int (255 : Int32)), (.int ((p4.toUInt32 >>> ((8 : Int32) &&& 31).toUInt32).toInt32))])
  refine OwnGo.iand X0 hx (hb hby at_16) rfl ?_
  show Go p e below _ T0 (mkF m 17 #[.val (.int p1), .val (.int p2), .val (.int p3), .val (.int p4), .val (.int p5), .val (.int p6), .val (.int ((p4 &&& (255 : Int32)) % (3 : Int32))), .unset, .unset] [(.int (((p4.toUInt32 >>> ((8 : Int32) &&& 31).toUInt32).toInt32) &&& (255 : Int32)))])
  refine OwnGo.iconst X0 hx (z := (3 : Int32)) (hb hby at_17) (by decide) ?_
  show Go p e below _ T0 (mkF m 18 #[.val (.int p1), .val (.int p2), .val (.int p3), .val (.int p4), .val (.int p5), .val (.int p6), .val (.int ((p4 &&& (255 : Int32)) % (3 : Int32))), .unset, .unset] [(.int (3 : Int32)), (.int (((p4.toUInt32 >>> ((8 : Int32) &&& 31).toUInt32).toInt32) &&& (255 : Int32)))])
  refine OwnGo.irem X0 hx (hb hby at_18) (by decide) rfl ?_
  show Go p e below _ T0 (mkF m 19 #[.val (.int p1), .val (.int p2), .val (.int p3), .val (.int p4), .val (.int p5), .val (.int p6), .val (.int ((p4 &&& (255 : Int32)) % (3 : Int32))), .unset, .unset] [(.int ((((p4.toUInt32 >>> ((8 : Int32) &&& 31).toUInt32).toInt32) &&& (255 : Int32)) % (3 : Int32)))])
  refine OwnGo.istore X0 hx (hb hby at_19) (Ls' := #[.val (.int p1), .val (.int p2), .val (.int p3), .val (.int p4), .val (.int p5), .val (.int p6), .val (.int ((p4 &&& (255 : Int32)) % (3 : Int32))), .val (.int ((((p4.toUInt32 >>> ((8 : Int32) &&& 31).toUInt32).toInt32) &&& (255 : Int32)) % (3 : Int32))), .unset]) rfl ?_
  show Go p e below _ T0 (mkF m 21 #[.val (.int p1), .val (.int p2), .val (.int p3), .val (.int p4), .val (.int p5), .val (.int p6), .val (.int ((p4 &&& (255 : Int32)) % (3 : Int32))), .val (.int ((((p4.toUInt32 >>> ((8 : Int32) &&& 31).toUInt32).toInt32) &&& (255 : Int32)) % (3 : Int32))), .unset] [])
  refine OwnGo.newO X0 hx hZ hown (hw _ (List.mem_of_getElem? (i := 0) rfl)) (hw _ (List.mem_of_getElem? (i := 1) rfl)) (hw _ (List.mem_of_getElem? (i := 2) rfl)) e0 (hb hby at_21) (by decide) (by decide) fun T1 h1 b1 g1 X1 e1 E1 A1 D1 => ?_
  have gb1 : n0 ≤ b1 := Nat.le_trans Z0 (Nat.le_of_eq g1.symm)
  have gz1 : h0.size ≤ b1 := Nat.le_trans (Keep.refl h0 []).1 (Nat.le_of_eq g1.symm)
  have ne_av_b1 : av ≠ b1 := Nat.ne_of_lt (Nat.lt_of_lt_of_le V_av.lt (Nat.le_of_eq g1.symm))
  have Sn_c1 := Sn.ext E1
  have V_av_c1 := V_av.ext E1
  have Z1 := Nat.le_trans Z0 E1.1
  have K1_ := (Keep.refl h0 []).ext E1
  have F1_first : Fld Z h1 b1 "com/example/sibling/sibling/xpath/IntColumn" "first" "[I" .null := D1 (Or.inl (hw _ (List.mem_of_getElem? (i := 12) rfl))) (ty := (.array .int)) (by decide)
  have F1_tail : Fld Z h1 b1 "com/example/sibling/sibling/xpath/IntColumn" "tail" "[I" .null := D1 (Or.inl (hw _ (List.mem_of_getElem? (i := 14) rfl))) (ty := (.array .int)) (by decide)
  have F1_size : Fld Z h1 b1 "com/example/sibling/sibling/xpath/IntColumn" "size" "I" (.int (0 : Int32)) := D1 (Or.inl (hw _ (List.mem_of_getElem? (i := 21) rfl))) (ty := .int) (by decide)
  have F1_limit : Fld Z h1 b1 "com/example/sibling/sibling/xpath/IntColumn" "limit" "I" (.int (0 : Int32)) := D1 (Or.inl (hw _ (List.mem_of_getElem? (i := 23) rfl))) (ty := .int) (by decide)
  have F1_tailStart : Fld Z h1 b1 "com/example/sibling/sibling/xpath/IntColumn" "tailStart" "I" (.int (0 : Int32)) := D1 (Or.inl (hw _ (List.mem_of_getElem? (i := 46) rfl))) (ty := .int) (by decide)
  have F1_later : Fld Z h1 b1 "com/example/sibling/sibling/xpath/IntColumn" "later" "[[I" .null := D1 (Or.inl (hw _ (List.mem_of_getElem? (i := 71) rfl))) (ty := (.array (.array .int))) (by decide)
  show Go p e below _ T1 (mkF m 24 #[.val (.int p1), .val (.int p2), .val (.int p3), .val (.int p4), .val (.int p5), .val (.int p6), .val (.int ((p4 &&& (255 : Int32)) % (3 : Int32))), .val (.int ((((p4.toUInt32 >>> ((8 : Int32) &&& 31).toUInt32).toInt32) &&& (255 : Int32)) % (3 : Int32))), .unset] [(.ref b1)])
  refine OwnGo.dup X1 hx (hb hby at_24) rfl ?_
  show Go p e below _ T1 (mkF m 25 #[.val (.int p1), .val (.int p2), .val (.int p3), .val (.int p4), .val (.int p5), .val (.int p6), .val (.int ((p4 &&& (255 : Int32)) % (3 : Int32))), .val (.int ((((p4.toUInt32 >>> ((8 : Int32) &&& 31).toUInt32).toInt32) &&& (255 : Int32)) % (3 : Int32))), .unset] [(.ref b1), (.ref b1)])
  refine OwnGo.callI X1 hx hZ hown (y := (⟨"com/example/sibling/sibling/xpath/IntColumn", "<init>", "()V"⟩ : MethodName)) rfl (hw _ (List.mem_of_getElem? (i := 3) rfl)) (hw _ (List.mem_of_getElem? (i := 4) rfl)) (hw _ (List.mem_of_getElem? (i := 2) rfl)) (hw _ (List.mem_of_getElem? (i := 5) rfl)) (by decide) e1 (as := []) (rmINI l Z a0 hw b1 av h1 n0 Z1 gb1 A1 F1_first F1_tail F1_size F1_limit F1_tailStart Sn_c1) (W := 1) (by decide) (by decide) (by decide) (by decide) (by rw [hml]; rfl) (lenOf own_pd3 rfl) (rest := [(.ref b1)]) rfl rfl (hb hby at_25) fun v2 T2 L2 X2 q2 => ?_
  obtain ⟨rfl, N2, K2, E2, F2_first, F2_tail, F2_size, F2_limit, F2_tailStart⟩ := q2
  have V_av_c2 := V_av_c1.keep K2 (ninS ne_av_b1 nin0)
  have A1_c2 := A1.keep K2
  have Z2 := Nat.le_trans Z1 K2.1
  have K2_ := K1_.trans K2 (allS (Or.inr gz1) all0)
  show Go p e below _ T2 (mkF m 28 #[.val (.int p1), .val (.int p2), .val (.int p3), .val (.int p4), .val (.int p5), .val (.int p6), .val (.int ((p4 &&& (255 : Int32)) % (3 : Int32))), .val (.int ((((p4.toUInt32 >>> ((8 : Int32) &&& 31).toUInt32).toInt32) &&& (255 : Int32)) % (3 : Int32))), .unset] [(.ref b1)])
  refine OwnGo.astore X2 hx (hb hby at_28) rfl (Ls' := #[.val (.int p1), .val (.int p2), .val (.int p3), .val (.int p4), .val (.int p5), .val (.int p6), .val (.int ((p4 &&& (255 : Int32)) % (3 : Int32))), .val (.int ((((p4.toUInt32 >>> ((8 : Int32) &&& 31).toUInt32).toInt32) &&& (255 : Int32)) % (3 : Int32))), .val (.ref b1)]) rfl ?_
  show Go p e below _ T2 (mkF m 30 #[.val (.int p1), .val (.int p2), .val (.int p3), .val (.int p4), .val (.int p5), .val (.int p6), .val (.int ((p4 &&& (255 : Int32)) % (3 : Int32))), .val (.int ((((p4.toUInt32 >>> ((8 : Int32) &&& 31).toUInt32).toInt32) &&& (255 : Int32)) % (3 : Int32))), .val (.ref b1)] [])
  refine OwnGo.aload X2 hx (hb hby at_30) rfl rfl ?_
  show Go p e below _ T2 (mkF m 32 #[.val (.int p1), .val (.int p2), .val (.int p3), .val (.int p4), .val (.int p5), .val (.int p6), .val (.int ((p4 &&& (255 : Int32)) % (3 : Int32))), .val (.int ((((p4.toUInt32 >>> ((8 : Int32) &&& 31).toUInt32).toInt32) &&& (255 : Int32)) % (3 : Int32))), .val (.ref b1)] [(.ref b1)])
  refine OwnGo.iloadN X2 hx (hb hby at_32) rfl ?_
  show Go p e below _ T2 (mkF m 33 #[.val (.int p1), .val (.int p2), .val (.int p3), .val (.int p4), .val (.int p5), .val (.int p6), .val (.int ((p4 &&& (255 : Int32)) % (3 : Int32))), .val (.int ((((p4.toUInt32 >>> ((8 : Int32) &&& 31).toUInt32).toInt32) &&& (255 : Int32)) % (3 : Int32))), .val (.ref b1)] [(.int p1), (.ref b1)])
  refine OwnGo.callV X2 hx hZ hown (y := (⟨"com/example/sibling/sibling/xpath/IntColumn", "add", "(I)V"⟩ : MethodName)) (z := (⟨"com/example/sibling/sibling/xpath/IntColumn", "add", "(I)V"⟩ : MethodName)) (hw _ (List.mem_of_getElem? (i := 15) rfl)) (hw _ (List.mem_of_getElem? (i := 16) rfl)) (notFace_of_selects (args := #[]) (mvT hZ (hw _ (List.mem_of_getElem? (i := 18) rfl)))) (hw _ (List.mem_of_getElem? (i := 18) rfl)) (hw _ (List.mem_of_getElem? (i := 17) rfl)) (hw _ (List.mem_of_getElem? (i := 2) rfl)) (hw _ (List.mem_of_getElem? (i := 19) rfl)) (by decide) rfl E2 (as := [(.int p1)]) (rmADD0 l Z a0 hw b1 av kv p1 T2.heap n0 Z2 gb1 E2 F2_first F2_tail F2_size F2_limit F2_tailStart V_av_c2 (Ne.symm ne_av_b1)) (W := 0) (by decide) (by decide) (by decide) (by decide) (by rw [hml]; rfl) (lenOf own_pd4 rfl) (rest := []) rfl rfl (hb hby at_33) fun v3 T3 L3 X3 q3 => ?_
  obtain ⟨r, kr, rfl, N3, g03, gr, K3, E3, F3_first, F3_tail, F3_size, F3_limit, F3_tailStart, V3⟩ := q3
  have nbr : b1 ≠ r := Nat.ne_of_lt (Nat.lt_of_lt_of_le E2.lt g03)
  have Zs3 := Nat.le_trans Z2 K3.1
  show Go p e below _ T3 (mkF m 36 #[.val (.int p1), .val (.int p2), .val (.int p3), .val (.int p4), .val (.int p5), .val (.int p6), .val (.int ((p4 &&& (255 : Int32)) % (3 : Int32))), .val (.int ((((p4.toUInt32 >>> ((8 : Int32) &&& 31).toUInt32).toInt32) &&& (255 : Int32)) % (3 : Int32))), .val (.ref b1)] [])
  refine OwnGo.aload X3 hx (hb hby at_36) rfl rfl ?_
  show Go p e below _ T3 (mkF m 38 #[.val (.int p1), .val (.int p2), .val (.int p3), .val (.int p4), .val (.int p5), .val (.int p6), .val (.int ((p4 &&& (255 : Int32)) % (3 : Int32))), .val (.int ((((p4.toUInt32 >>> ((8 : Int32) &&& 31).toUInt32).toInt32) &&& (255 : Int32)) % (3 : Int32))), .val (.ref b1)] [(.ref b1)])
  refine OwnGo.iloadN X3 hx (hb hby at_38) rfl ?_
  show Go p e below _ T3 (mkF m 39 #[.val (.int p1), .val (.int p2), .val (.int p3), .val (.int p4), .val (.int p5), .val (.int p6), .val (.int ((p4 &&& (255 : Int32)) % (3 : Int32))), .val (.int ((((p4.toUInt32 >>> ((8 : Int32) &&& 31).toUInt32).toInt32) &&& (255 : Int32)) % (3 : Int32))), .val (.ref b1)] [(.int p2), (.ref b1)])
  refine OwnGo.callV X3 hx hZ hown (y := (⟨"com/example/sibling/sibling/xpath/IntColumn", "add", "(I)V"⟩ : MethodName)) (z := (⟨"com/example/sibling/sibling/xpath/IntColumn", "add", "(I)V"⟩ : MethodName)) (hw _ (List.mem_of_getElem? (i := 15) rfl)) (hw _ (List.mem_of_getElem? (i := 16) rfl)) (notFace_of_selects (args := #[]) (mvT hZ (hw _ (List.mem_of_getElem? (i := 18) rfl)))) (hw _ (List.mem_of_getElem? (i := 18) rfl)) (hw _ (List.mem_of_getElem? (i := 17) rfl)) (hw _ (List.mem_of_getElem? (i := 2) rfl)) (hw _ (List.mem_of_getElem? (i := 19) rfl)) (by decide) rfl E3 (as := [(.int p2)]) (rmADD1 l Z a0 hw b1 r kr p1 p2 T3.heap n0 Zs3 gb1 E3 gr F3_first F3_tail F3_size F3_limit F3_tailStart V3 nbr) (W := 0) (by decide) (by decide) (by decide) (by decide) (by rw [hml]; rfl) (lenOf own_pd4 rfl) (rest := []) rfl rfl (hb hby at_39) fun v4 T4 L4 X4 q4 => ?_
  obtain ⟨rfl, N4, K4, E4, F4_first, F4_tail, F4_size, F4_limit, F4_tailStart, V4⟩ := q4
  have Zs4 := Nat.le_trans Zs3 K4.1
  show Go p e below _ T4 (mkF m 42 #[.val (.int p1), .val (.int p2), .val (.int p3), .val (.int p4), .val (.int p5), .val (.int p6), .val (.int ((p4 &&& (255 : Int32)) % (3 : Int32))), .val (.int ((((p4.toUInt32 >>> ((8 : Int32) &&& 31).toUInt32).toInt32) &&& (255 : Int32)) % (3 : Int32))), .val (.ref b1)] [])
  refine OwnGo.aload X4 hx (hb hby at_42) rfl rfl ?_
  show Go p e below _ T4 (mkF m 44 #[.val (.int p1), .val (.int p2), .val (.int p3), .val (.int p4), .val (.int p5), .val (.int p6), .val (.int ((p4 &&& (255 : Int32)) % (3 : Int32))), .val (.int ((((p4.toUInt32 >>> ((8 : Int32) &&& 31).toUInt32).toInt32) &&& (255 : Int32)) % (3 : Int32))), .val (.ref b1)] [(.ref b1)])
  refine OwnGo.iloadN X4 hx (hb hby at_44) rfl ?_
  show Go p e below _ T4 (mkF m 45 #[.val (.int p1), .val (.int p2), .val (.int p3), .val (.int p4), .val (.int p5), .val (.int p6), .val (.int ((p4 &&& (255 : Int32)) % (3 : Int32))), .val (.int ((((p4.toUInt32 >>> ((8 : Int32) &&& 31).toUInt32).toInt32) &&& (255 : Int32)) % (3 : Int32))), .val (.ref b1)] [(.int p3), (.ref b1)])
  refine OwnGo.callV X4 hx hZ hown (y := (⟨"com/example/sibling/sibling/xpath/IntColumn", "add", "(I)V"⟩ : MethodName)) (z := (⟨"com/example/sibling/sibling/xpath/IntColumn", "add", "(I)V"⟩ : MethodName)) (hw _ (List.mem_of_getElem? (i := 15) rfl)) (hw _ (List.mem_of_getElem? (i := 16) rfl)) (notFace_of_selects (args := #[]) (mvT hZ (hw _ (List.mem_of_getElem? (i := 18) rfl)))) (hw _ (List.mem_of_getElem? (i := 18) rfl)) (hw _ (List.mem_of_getElem? (i := 17) rfl)) (hw _ (List.mem_of_getElem? (i := 2) rfl)) (hw _ (List.mem_of_getElem? (i := 19) rfl)) (by decide) rfl E4 (as := [(.int p3)]) (rmADD2 l Z a0 hw b1 r kr p1 p2 p3 T4.heap n0 Zs4 gb1 E4 gr F4_first F4_tail F4_size F4_limit F4_tailStart V4 nbr) (W := 0) (by decide) (by decide) (by decide) (by decide) (by rw [hml]; rfl) (lenOf own_pd4 rfl) (rest := []) rfl rfl (hb hby at_45) fun v5 T5 L5 X5 q5 => ?_
  obtain ⟨rfl, N5, K5, E5, F5_first, F5_tail, F5_size, F5_limit, F5_tailStart, V5⟩ := q5
  have Zs5 := Nat.le_trans Zs4 K5.1
  rcases own_three p4 with hi | hi | hi
  ·
    rw [hi]
    rcases own_three ((p4.toUInt32 >>> ((8 : Int32) &&& 31).toUInt32).toInt32) with hj | hj | hj
    ·
      rw [hj]
      show Go p e below _ T5 (mkF m 48 #[.val (.int p1), .val (.int p2), .val (.int p3), .val (.int p4), .val (.int p5), .val (.int p6), .val (.int (0 : Int32)), .val (.int (0 : Int32)), .val (.ref b1)] [])
      refine OwnGo.aload X5 hx (hb hby at_48) rfl rfl ?_
      show Go p e below _ T5 (mkF m 50 #[.val (.int p1), .val (.int p2), .val (.int p3), .val (.int p4), .val (.int p5), .val (.int p6), .val (.int (0 : Int32)), .val (.int (0 : Int32)), .val (.ref b1)] [(.ref b1)])
      refine OwnGo.iload X5 hx (hb hby at_50) rfl ?_
      show Go p e below _ T5 (mkF m 52 #[.val (.int p1), .val (.int p2), .val (.int p3), .val (.int p4), .val (.int p5), .val (.int p6), .val (.int (0 : Int32)), .val (.int (0 : Int32)), .val (.ref b1)] [(.int (0 : Int32)), (.ref b1)])
      refine OwnGo.iload X5 hx (hb hby at_52) rfl ?_
      show Go p e below _ T5 (mkF m 54 #[.val (.int p1), .val (.int p2), .val (.int p3), .val (.int p4), .val (.int p5), .val (.int p6), .val (.int (0 : Int32)), .val (.int (0 : Int32)), .val (.ref b1)] [(.int p5), (.int (0 : Int32)), (.ref b1)])
      refine OwnGo.callV X5 hx hZ hown (y := (⟨"com/example/sibling/sibling/xpath/IntColumn", "set", "(II)V"⟩ : MethodName)) (z := (⟨"com/example/sibling/sibling/xpath/IntColumn", "set", "(II)V"⟩ : MethodName)) (hw _ (List.mem_of_getElem? (i := 51) rfl)) (hw _ (List.mem_of_getElem? (i := 52) rfl)) (notFace_of_selects (args := #[]) (mvT hZ (hw _ (List.mem_of_getElem? (i := 54) rfl)))) (hw _ (List.mem_of_getElem? (i := 54) rfl)) (hw _ (List.mem_of_getElem? (i := 53) rfl)) (hw _ (List.mem_of_getElem? (i := 2) rfl)) (hw _ (List.mem_of_getElem? (i := 55) rfl)) (by decide) rfl E5 (as := [(.int (0 : Int32)), (.int p5)]) (rmSET0 l Z a0 hw b1 r kr p1 p2 p3 p5 T5.heap n0 Zs5 gr F5_first V5 nbr) (W := 0) (by decide) (by decide) (by decide) (by decide) (by rw [hml]; rfl) (lenOf own_pd5 rfl) (rest := []) rfl rfl (hb hby at_54) fun v6 T6 L6 X6 q6 => ?_
      obtain ⟨rfl, N6, K6, V6⟩ := q6
      have Fk6 := F5_first.keep K6 (ninS nbr nin0)
      have Fz6 := F5_size.keep K6 (ninS nbr nin0)
      have Ek6 := E5.keep K6
      have Zs6 := Nat.le_trans Zs5 K6.1
      show Go p e below _ T6 (mkF m 57 #[.val (.int p1), .val (.int p2), .val (.int p3), .val (.int p4), .val (.int p5), .val (.int p6), .val (.int (0 : Int32)), .val (.int (0 : Int32)), .val (.ref b1)] [])
      refine OwnGo.aload X6 hx (hb hby at_57) rfl rfl ?_
      show Go p e below _ T6 (mkF m 59 #[.val (.int p1), .val (.int p2), .val (.int p3), .val (.int p4), .val (.int p5), .val (.int p6), .val (.int (0 : Int32)), .val (.int (0 : Int32)), .val (.ref b1)] [(.ref b1)])
      refine OwnGo.iload X6 hx (hb hby at_59) rfl ?_
      show Go p e below _ T6 (mkF m 61 #[.val (.int p1), .val (.int p2), .val (.int p3), .val (.int p4), .val (.int p5), .val (.int p6), .val (.int (0 : Int32)), .val (.int (0 : Int32)), .val (.ref b1)] [(.int (0 : Int32)), (.ref b1)])
      refine OwnGo.iload X6 hx (hb hby at_61) rfl ?_
      show Go p e below _ T6 (mkF m 63 #[.val (.int p1), .val (.int p2), .val (.int p3), .val (.int p4), .val (.int p5), .val (.int p6), .val (.int (0 : Int32)), .val (.int (0 : Int32)), .val (.ref b1)] [(.int p6), (.int (0 : Int32)), (.ref b1)])
      refine OwnGo.callV X6 hx hZ hown (y := (⟨"com/example/sibling/sibling/xpath/IntColumn", "set", "(II)V"⟩ : MethodName)) (z := (⟨"com/example/sibling/sibling/xpath/IntColumn", "set", "(II)V"⟩ : MethodName)) (hw _ (List.mem_of_getElem? (i := 51) rfl)) (hw _ (List.mem_of_getElem? (i := 52) rfl)) (notFace_of_selects (args := #[]) (mvT hZ (hw _ (List.mem_of_getElem? (i := 54) rfl)))) (hw _ (List.mem_of_getElem? (i := 54) rfl)) (hw _ (List.mem_of_getElem? (i := 53) rfl)) (hw _ (List.mem_of_getElem? (i := 2) rfl)) (hw _ (List.mem_of_getElem? (i := 55) rfl)) (by decide) rfl Ek6 (as := [(.int (0 : Int32)), (.int p6)]) (rmSET0 l Z a0 hw b1 r kr p5 p2 p3 p6 T6.heap n0 Zs6 gr Fk6 V6 nbr) (W := 0) (by decide) (by decide) (by decide) (by decide) (by rw [hml]; rfl) (lenOf own_pd5 rfl) (rest := []) rfl rfl (hb hby at_63) fun v7 T7 L7 X7 q7 => ?_
      obtain ⟨rfl, N7, K7, V7⟩ := q7
      have Fk7 := Fk6.keep K7 (ninS nbr nin0)
      have Fz7 := Fz6.keep K7 (ninS nbr nin0)
      have Ek7 := Ek6.keep K7
      have Zs7 := Nat.le_trans Zs6 K7.1
      show Go p e below _ T7 (mkF m 66 #[.val (.int p1), .val (.int p2), .val (.int p3), .val (.int p4), .val (.int p5), .val (.int p6), .val (.int (0 : Int32)), .val (.int (0 : Int32)), .val (.ref b1)] [])
      refine OwnGo.aload X7 hx (hb hby at_66) rfl rfl ?_
      show Go p e below _ T7 (mkF m 68 #[.val (.int p1), .val (.int p2), .val (.int p3), .val (.int p4), .val (.int p5), .val (.int p6), .val (.int (0 : Int32)), .val (.int (0 : Int32)), .val (.ref b1)] [(.ref b1)])
      refine OwnGo.callV X7 hx hZ hown (y := (⟨"com/example/sibling/sibling/xpath/IntColumn", "size", "()I"⟩ : MethodName)) (z := (⟨"com/example/sibling/sibling/xpath/IntColumn", "size", "()I"⟩ : MethodName)) (hw _ (List.mem_of_getElem? (i := 56) rfl)) (hw _ (List.mem_of_getElem? (i := 57) rfl)) (notFace_of_selects (args := #[]) (mvT hZ (hw _ (List.mem_of_getElem? (i := 59) rfl)))) (hw _ (List.mem_of_getElem? (i := 59) rfl)) (hw _ (List.mem_of_getElem? (i := 58) rfl)) (hw _ (List.mem_of_getElem? (i := 2) rfl)) (hw _ (List.mem_of_getElem? (i := 60) rfl)) (by decide) rfl Ek7 (as := []) (rmSIZ l Z a0 hw b1 (3 : Int32) T7.heap Fz7) (W := 0) (by decide) (by decide) (by decide) (by decide) (by rw [hml]; rfl) (lenOf own_pd6 rfl) (rest := []) rfl rfl (hb hby at_68) fun v8 T8 L8 X8 q8 => ?_
      obtain ⟨rfl, e8, rfl⟩ := q8
      rw [List.append_nil] at X8
      show Go p e below _ T8 (mkF m 71 #[.val (.int p1), .val (.int p2), .val (.int p3), .val (.int p4), .val (.int p5), .val (.int p6), .val (.int (0 : Int32)), .val (.int (0 : Int32)), .val (.ref b1)] [(.int (3 : Int32))])
      refine OwnGo.iconst X8 hx (z := (3 : Int32)) (hb hby at_71) (by decide) ?_
      show Go p e below _ T8 (mkF m 72 #[.val (.int p1), .val (.int p2), .val (.int p3), .val (.int p4), .val (.int p5), .val (.int p6), .val (.int (0 : Int32)), .val (.int (0 : Int32)), .val (.ref b1)] [(.int (3 : Int32)), (.int (3 : Int32))])
      refine OwnGo.ic_ne X8 hx (pc' := 145) (hb hby at_72) (by decide) (by decide) (fun q => absurd q (by decide)) (fun _ => ?_)
      show Go p e below _ T8 (mkF m 75 #[.val (.int p1), .val (.int p2), .val (.int p3), .val (.int p4), .val (.int p5), .val (.int p6), .val (.int (0 : Int32)), .val (.int (0 : Int32)), .val (.ref b1)] [])
      refine OwnGo.aload X8 hx (hb hby at_75) rfl rfl ?_
      show Go p e below _ T8 (mkF m 77 #[.val (.int p1), .val (.int p2), .val (.int p3), .val (.int p4), .val (.int p5), .val (.int p6), .val (.int (0 : Int32)), .val (.int (0 : Int32)), .val (.ref b1)] [(.ref b1)])
      refine OwnGo.iconst X8 hx (z := (0 : Int32)) (hb hby at_77) (by decide) ?_
      show Go p e below _ T8 (mkF m 78 #[.val (.int p1), .val (.int p2), .val (.int p3), .val (.int p4), .val (.int p5), .val (.int p6), .val (.int (0 : Int32)), .val (.int (0 : Int32)), .val (.ref b1)] [(.int (0 : Int32)), (.ref b1)])
      refine OwnGo.callV X8 hx hZ hown (y := (⟨"com/example/sibling/sibling/xpath/IntColumn", "get", "(I)I"⟩ : MethodName)) (z := (⟨"com/example/sibling/sibling/xpath/IntColumn", "get", "(I)I"⟩ : MethodName)) (hw _ (List.mem_of_getElem? (i := 61) rfl)) (hw _ (List.mem_of_getElem? (i := 62) rfl)) (notFace_of_selects (args := #[]) (mvT hZ (hw _ (List.mem_of_getElem? (i := 64) rfl)))) (hw _ (List.mem_of_getElem? (i := 64) rfl)) (hw _ (List.mem_of_getElem? (i := 63) rfl)) (hw _ (List.mem_of_getElem? (i := 2) rfl)) (hw _ (List.mem_of_getElem? (i := 65) rfl)) (by decide) e8 Ek7 (as := [(.int (0 : Int32))]) (rmGET0 l Z a0 hw b1 r kr p6 p2 p3 T7.heap Fk7 V7) (W := 0) (by decide) (by decide) (by decide) (by decide) (by rw [hml]; rfl) (lenOf own_pd7 rfl) (rest := []) rfl rfl (hb hby at_78) fun v9 T9 L9 X9 q9 => ?_
      obtain ⟨rfl, e9, rfl⟩ := q9
      rw [List.append_nil] at X9
      show Go p e below _ T9 (mkF m 81 #[.val (.int p1), .val (.int p2), .val (.int p3), .val (.int p4), .val (.int p5), .val (.int p6), .val (.int (0 : Int32)), .val (.int (0 : Int32)), .val (.ref b1)] [(.int p6)])
      refine OwnGo.iconst X9 hx (z := (0 : Int32)) (hb hby at_81) (by decide) ?_
      show Go p e below _ T9 (mkF m 82 #[.val (.int p1), .val (.int p2), .val (.int p3), .val (.int p4), .val (.int p5), .val (.int p6), .val (.int (0 : Int32)), .val (.int (0 : Int32)), .val (.ref b1)] [(.int (0 : Int32)), (.int p6)])
      refine OwnGo.iload X9 hx (hb hby at_82) rfl ?_
      show Go p e below _ T9 (mkF m 84 #[.val (.int p1), .val (.int p2), .val (.int p3), .val (.int p4), .val (.int p5), .val (.int p6), .val (.int (0 : Int32)), .val (.int (0 : Int32)), .val (.ref b1)] [(.int (0 : Int32)), (.int (0 : Int32)), (.int p6)])
      refine OwnGo.iload X9 hx (hb hby at_84) rfl ?_
      show Go p e below _ T9 (mkF m 86 #[.val (.int p1), .val (.int p2), .val (.int p3), .val (.int p4), .val (.int p5), .val (.int p6), .val (.int (0 : Int32)), .val (.int (0 : Int32)), .val (.ref b1)] [(.int (0 : Int32)), (.int (0 : Int32)), (.int (0 : Int32)), (.int p6)])
      refine OwnGo.iloadN X9 hx (hb hby at_86) rfl ?_
      show Go p e below _ T9 (mkF m 87 #[.val (.int p1), .val (.int p2), .val (.int p3), .val (.int p4), .val (.int p5), .val (.int p6), .val (.int (0 : Int32)), .val (.int (0 : Int32)), .val (.ref b1)] [(.int p1), (.int (0 : Int32)), (.int (0 : Int32)), (.int (0 : Int32)), (.int p6)])
      refine OwnGo.iload X9 hx (hb hby at_87) rfl ?_
      show Go p e below _ T9 (mkF m 89 #[.val (.int p1), .val (.int p2), .val (.int p3), .val (.int p4), .val (.int p5), .val (.int p6), .val (.int (0 : Int32)), .val (.int (0 : Int32)), .val (.ref b1)] [(.int p5), (.int p1), (.int (0 : Int32)), (.int (0 : Int32)), (.int (0 : Int32)), (.int p6)])
      refine OwnGo.iload X9 hx (hb hby at_89) rfl ?_
      show Go p e below _ T9 (mkF m 91 #[.val (.int p1), .val (.int p2), .val (.int p3), .val (.int p4), .val (.int p5), .val (.int p6), .val (.int (0 : Int32)), .val (.int (0 : Int32)), .val (.ref b1)] [(.int p6), (.int p5), (.int p1), (.int (0 : Int32)), (.int (0 : Int32)), (.int (0 : Int32)), (.int p6)])
      refine OwnGo.callS X9 hx hZ hown (y := (⟨"com/example/sibling/sibling/xpath/IntColumnSetPinLaw", "expected", "(IIIIII)I"⟩ : MethodName)) (hw _ (List.mem_of_getElem? (i := 66) rfl)) (hw _ (List.mem_of_getElem? (i := 67) rfl)) (hw _ (List.mem_of_getElem? (i := 68) rfl)) (hw _ (List.mem_of_getElem? (i := 69) rfl)) (by decide) e9 (as := [(.int (0 : Int32)), (.int (0 : Int32)), (.int (0 : Int32)), (.int p1), (.int p5), (.int p6)]) (rmE l Z a0 hw (0 : Int32) (0 : Int32) (0 : Int32) p1 p5 p6 p6 T7.heap (by simp [own_exp])) (W := 1) (by decide) (by decide) (by decide) (by decide) (by rw [hml]; rfl) (lenOf own_pd8 rfl) (rest := [(.int p6)]) rfl rfl (hb hby at_91) fun v10 T10 L10 X10 q10 => ?_
      obtain ⟨rfl, e10, rfl⟩ := q10
      rw [List.append_nil] at X10
      show Go p e below _ T10 (mkF m 94 #[.val (.int p1), .val (.int p2), .val (.int p3), .val (.int p4), .val (.int p5), .val (.int p6), .val (.int (0 : Int32)), .val (.int (0 : Int32)), .val (.ref b1)] [(.int p6), (.int p6)])
      refine OwnGo.ic_ne X10 hx (pc' := 145) (hb hby at_94) (by decide) (by decide) (fun q => absurd rfl q) (fun _ => ?_)
      show Go p e below _ T10 (mkF m 97 #[.val (.int p1), .val (.int p2), .val (.int p3), .val (.int p4), .val (.int p5), .val (.int p6), .val (.int (0 : Int32)), .val (.int (0 : Int32)), .val (.ref b1)] [])
      refine OwnGo.aload X10 hx (hb hby at_97) rfl rfl ?_
      show Go p e below _ T10 (mkF m 99 #[.val (.int p1), .val (.int p2), .val (.int p3), .val (.int p4), .val (.int p5), .val (.int p6), .val (.int (0 : Int32)), .val (.int (0 : Int32)), .val (.ref b1)] [(.ref b1)])
      refine OwnGo.iconst X10 hx (z := (1 : Int32)) (hb hby at_99) (by decide) ?_
      show Go p e below _ T10 (mkF m 100 #[.val (.int p1), .val (.int p2), .val (.int p3), .val (.int p4), .val (.int p5), .val (.int p6), .val (.int (0 : Int32)), .val (.int (0 : Int32)), .val (.ref b1)] [(.int (1 : Int32)), (.ref b1)])
      refine OwnGo.callV X10 hx hZ hown (y := (⟨"com/example/sibling/sibling/xpath/IntColumn", "get", "(I)I"⟩ : MethodName)) (z := (⟨"com/example/sibling/sibling/xpath/IntColumn", "get", "(I)I"⟩ : MethodName)) (hw _ (List.mem_of_getElem? (i := 61) rfl)) (hw _ (List.mem_of_getElem? (i := 62) rfl)) (notFace_of_selects (args := #[]) (mvT hZ (hw _ (List.mem_of_getElem? (i := 64) rfl)))) (hw _ (List.mem_of_getElem? (i := 64) rfl)) (hw _ (List.mem_of_getElem? (i := 63) rfl)) (hw _ (List.mem_of_getElem? (i := 2) rfl)) (hw _ (List.mem_of_getElem? (i := 65) rfl)) (by decide) e10 Ek7 (as := [(.int (1 : Int32))]) (rmGET1 l Z a0 hw b1 r kr p6 p2 p3 T7.heap Fk7 V7) (W := 0) (by decide) (by decide) (by decide) (by decide) (by rw [hml]; rfl) (lenOf own_pd7 rfl) (rest := []) rfl rfl (hb hby at_100) fun v11 T11 L11 X11 q11 => ?_
      obtain ⟨rfl, e11, rfl⟩ := q11
      rw [List.append_nil] at X11
      show Go p e below _ T11 (mkF m 103 #[.val (.int p1), .val (.int p2), .val (.int p3), .val (.int p4), .val (.int p5), .val (.int p6), .val (.int (0 : Int32)), .val (.int (0 : Int32)), .val (.ref b1)] [(.int p2)])
      refine OwnGo.iconst X11 hx (z := (1 : Int32)) (hb hby at_103) (by decide) ?_
      show Go p e below _ T11 (mkF m 104 #[.val (.int p1), .val (.int p2), .val (.int p3), .val (.int p4), .val (.int p5), .val (.int p6), .val (.int (0 : Int32)), .val (.int (0 : Int32)), .val (.ref b1)] [(.int (1 : Int32)), (.int p2)])
      refine OwnGo.iload X11 hx (hb hby at_104) rfl ?_
      show Go p e below _ T11 (mkF m 106 #[.val (.int p1), .val (.int p2), .val (.int p3), .val (.int p4), .val (.int p5), .val (.int p6), .val (.int (0 : Int32)), .val (.int (0 : Int32)), .val (.ref b1)] [(.int (0 : Int32)), (.int (1 : Int32)), (.int p2)])
      refine OwnGo.iload X11 hx (hb hby at_106) rfl ?_
      show Go p e below _ T11 (mkF m 108 #[.val (.int p1), .val (.int p2), .val (.int p3), .val (.int p4), .val (.int p5), .val (.int p6), .val (.int (0 : Int32)), .val (.int (0 : Int32)), .val (.ref b1)] [(.int (0 : Int32)), (.int (0 : Int32)), (.int (1 : Int32)), (.int p2)])
      refine OwnGo.iloadN X11 hx (hb hby at_108) rfl ?_
      show Go p e below _ T11 (mkF m 109 #[.val (.int p1), .val (.int p2), .val (.int p3), .val (.int p4), .val (.int p5), .val (.int p6), .val (.int (0 : Int32)), .val (.int (0 : Int32)), .val (.ref b1)] [(.int p2), (.int (0 : Int32)), (.int (0 : Int32)), (.int (1 : Int32)), (.int p2)])
      refine OwnGo.iload X11 hx (hb hby at_109) rfl ?_
      show Go p e below _ T11 (mkF m 111 #[.val (.int p1), .val (.int p2), .val (.int p3), .val (.int p4), .val (.int p5), .val (.int p6), .val (.int (0 : Int32)), .val (.int (0 : Int32)), .val (.ref b1)] [(.int p5), (.int p2), (.int (0 : Int32)), (.int (0 : Int32)), (.int (1 : Int32)), (.int p2)])
      refine OwnGo.iload X11 hx (hb hby at_111) rfl ?_
      show Go p e below _ T11 (mkF m 113 #[.val (.int p1), .val (.int p2), .val (.int p3), .val (.int p4), .val (.int p5), .val (.int p6), .val (.int (0 : Int32)), .val (.int (0 : Int32)), .val (.ref b1)] [(.int p6), (.int p5), (.int p2), (.int (0 : Int32)), (.int (0 : Int32)), (.int (1 : Int32)), (.int p2)])
      refine OwnGo.callS X11 hx hZ hown (y := (⟨"com/example/sibling/sibling/xpath/IntColumnSetPinLaw", "expected", "(IIIIII)I"⟩ : MethodName)) (hw _ (List.mem_of_getElem? (i := 66) rfl)) (hw _ (List.mem_of_getElem? (i := 67) rfl)) (hw _ (List.mem_of_getElem? (i := 68) rfl)) (hw _ (List.mem_of_getElem? (i := 69) rfl)) (by decide) e11 (as := [(.int (1 : Int32)), (.int (0 : Int32)), (.int (0 : Int32)), (.int p2), (.int p5), (.int p6)]) (rmE l Z a0 hw (1 : Int32) (0 : Int32) (0 : Int32) p2 p5 p6 p2 T7.heap (by simp [own_exp])) (W := 1) (by decide) (by decide) (by decide) (by decide) (by rw [hml]; rfl) (lenOf own_pd8 rfl) (rest := [(.int p2)]) rfl rfl (hb hby at_113) fun v12 T12 L12 X12 q12 => ?_
      obtain ⟨rfl, e12, rfl⟩ := q12
      rw [List.append_nil] at X12
      show Go p e below _ T12 (mkF m 116 #[.val (.int p1), .val (.int p2), .val (.int p3), .val (.int p4), .val (.int p5), .val (.int p6), .val (.int (0 : Int32)), .val (.int (0 : Int32)), .val (.ref b1)] [(.int p2), (.int p2)])
      refine OwnGo.ic_ne X12 hx (pc' := 145) (hb hby at_116) (by decide) (by decide) (fun q => absurd rfl q) (fun _ => ?_)
      show Go p e below _ T12 (mkF m 119 #[.val (.int p1), .val (.int p2), .val (.int p3), .val (.int p4), .val (.int p5), .val (.int p6), .val (.int (0 : Int32)), .val (.int (0 : Int32)), .val (.ref b1)] [])
      refine OwnGo.aload X12 hx (hb hby at_119) rfl rfl ?_
      show Go p e below _ T12 (mkF m 121 #[.val (.int p1), .val (.int p2), .val (.int p3), .val (.int p4), .val (.int p5), .val (.int p6), .val (.int (0 : Int32)), .val (.int (0 : Int32)), .val (.ref b1)] [(.ref b1)])
      refine OwnGo.iconst X12 hx (z := (2 : Int32)) (hb hby at_121) (by decide) ?_
      show Go p e below _ T12 (mkF m 122 #[.val (.int p1), .val (.int p2), .val (.int p3), .val (.int p4), .val (.int p5), .val (.int p6), .val (.int (0 : Int32)), .val (.int (0 : Int32)), .val (.ref b1)] [(.int (2 : Int32)), (.ref b1)])
      refine OwnGo.callV X12 hx hZ hown (y := (⟨"com/example/sibling/sibling/xpath/IntColumn", "get", "(I)I"⟩ : MethodName)) (z := (⟨"com/example/sibling/sibling/xpath/IntColumn", "get", "(I)I"⟩ : MethodName)) (hw _ (List.mem_of_getElem? (i := 61) rfl)) (hw _ (List.mem_of_getElem? (i := 62) rfl)) (notFace_of_selects (args := #[]) (mvT hZ (hw _ (List.mem_of_getElem? (i := 64) rfl)))) (hw _ (List.mem_of_getElem? (i := 64) rfl)) (hw _ (List.mem_of_getElem? (i := 63) rfl)) (hw _ (List.mem_of_getElem? (i := 2) rfl)) (hw _ (List.mem_of_getElem? (i := 65) rfl)) (by decide) e12 Ek7 (as := [(.int (2 : Int32))]) (rmGET2 l Z a0 hw b1 r kr p6 p2 p3 T7.heap Fk7 V7) (W := 0) (by decide) (by decide) (by decide) (by decide) (by rw [hml]; rfl) (lenOf own_pd7 rfl) (rest := []) rfl rfl (hb hby at_122) fun v13 T13 L13 X13 q13 => ?_
      obtain ⟨rfl, e13, rfl⟩ := q13
      rw [List.append_nil] at X13
      show Go p e below _ T13 (mkF m 125 #[.val (.int p1), .val (.int p2), .val (.int p3), .val (.int p4), .val (.int p5), .val (.int p6), .val (.int (0 : Int32)), .val (.int (0 : Int32)), .val (.ref b1)] [(.int p3)])
      refine OwnGo.iconst X13 hx (z := (2 : Int32)) (hb hby at_125) (by decide) ?_
      show Go p e below _ T13 (mkF m 126 #[.val (.int p1), .val (.int p2), .val (.int p3), .val (.int p4), .val (.int p5), .val (.int p6), .val (.int (0 : Int32)), .val (.int (0 : Int32)), .val (.ref b1)] [(.int (2 : Int32)), (.int p3)])
      refine OwnGo.iload X13 hx (hb hby at_126) rfl ?_
      show Go p e below _ T13 (mkF m 128 #[.val (.int p1), .val (.int p2), .val (.int p3), .val (.int p4), .val (.int p5), .val (.int p6), .val (.int (0 : Int32)), .val (.int (0 : Int32)), .val (.ref b1)] [(.int (0 : Int32)), (.int (2 : Int32)), (.int p3)])
      refine OwnGo.iload X13 hx (hb hby at_128) rfl ?_
      show Go p e below _ T13 (mkF m 130 #[.val (.int p1), .val (.int p2), .val (.int p3), .val (.int p4), .val (.int p5), .val (.int p6), .val (.int (0 : Int32)), .val (.int (0 : Int32)), .val (.ref b1)] [(.int (0 : Int32)), (.int (0 : Int32)), (.int (2 : Int32)), (.int p3)])
      refine OwnGo.iloadN X13 hx (hb hby at_130) rfl ?_
      show Go p e below _ T13 (mkF m 131 #[.val (.int p1), .val (.int p2), .val (.int p3), .val (.int p4), .val (.int p5), .val (.int p6), .val (.int (0 : Int32)), .val (.int (0 : Int32)), .val (.ref b1)] [(.int p3), (.int (0 : Int32)), (.int (0 : Int32)), (.int (2 : Int32)), (.int p3)])
      refine OwnGo.iload X13 hx (hb hby at_131) rfl ?_
      show Go p e below _ T13 (mkF m 133 #[.val (.int p1), .val (.int p2), .val (.int p3), .val (.int p4), .val (.int p5), .val (.int p6), .val (.int (0 : Int32)), .val (.int (0 : Int32)), .val (.ref b1)] [(.int p5), (.int p3), (.int (0 : Int32)), (.int (0 : Int32)), (.int (2 : Int32)), (.int p3)])
      refine OwnGo.iload X13 hx (hb hby at_133) rfl ?_
      show Go p e below _ T13 (mkF m 135 #[.val (.int p1), .val (.int p2), .val (.int p3), .val (.int p4), .val (.int p5), .val (.int p6), .val (.int (0 : Int32)), .val (.int (0 : Int32)), .val (.ref b1)] [(.int p6), (.int p5), (.int p3), (.int (0 : Int32)), (.int (0 : Int32)), (.int (2 : Int32)), (.int p3)])
      refine OwnGo.callS X13 hx hZ hown (y := (⟨"com/example/sibling/sibling/xpath/IntColumnSetPinLaw", "expected", "(IIIIII)I"⟩ : MethodName)) (hw _ (List.mem_of_getElem? (i := 66) rfl)) (hw _ (List.mem_of_getElem? (i := 67) rfl)) (hw _ (List.mem_of_getElem? (i := 68) rfl)) (hw _ (List.mem_of_getElem? (i := 69) rfl)) (by decide) e13 (as := [(.int (2 : Int32)), (.int (0 : Int32)), (.int (0 : Int32)), (.int p3), (.int p5), (.int p6)]) (rmE l Z a0 hw (2 : Int32) (0 : Int32) (0 : Int32) p3 p5 p6 p3 T7.heap (by simp [own_exp])) (W := 1) (by decide) (by decide) (by decide) (by decide) (by rw [hml]; rfl) (lenOf own_pd8 rfl) (rest := [(.int p3)]) rfl rfl (hb hby at_135) fun v14 T14 L14 X14 q14 => ?_
      obtain ⟨rfl, e14, rfl⟩ := q14
      rw [List.append_nil] at X14
      show Go p e below _ T14 (mkF m 138 #[.val (.int p1), .val (.int p2), .val (.int p3), .val (.int p4), .val (.int p5), .val (.int p6), .val (.int (0 : Int32)), .val (.int (0 : Int32)), .val (.ref b1)] [(.int p3), (.int p3)])
      refine OwnGo.ic_ne X14 hx (pc' := 145) (hb hby at_138) (by decide) (by decide) (fun q => absurd rfl q) (fun _ => ?_)
      show Go p e below _ T14 (mkF m 141 #[.val (.int p1), .val (.int p2), .val (.int p3), .val (.int p4), .val (.int p5), .val (.int p6), .val (.int (0 : Int32)), .val (.int (0 : Int32)), .val (.ref b1)] [])
      refine OwnGo.iconst X14 hx (z := (1 : Int32)) (hb hby at_141) (by decide) ?_
      show Go p e below _ T14 (mkF m 142 #[.val (.int p1), .val (.int p2), .val (.int p3), .val (.int p4), .val (.int p5), .val (.int p6), .val (.int (0 : Int32)), .val (.int (0 : Int32)), .val (.ref b1)] [(.int (1 : Int32))])
      refine OwnGo.goto X14 hx (pc' := 146) (hb hby at_142) (by decide) (by decide) ?_
      show Go p e below _ T14 (mkF m 146 #[.val (.int p1), .val (.int p2), .val (.int p3), .val (.int p4), .val (.int p5), .val (.int p6), .val (.int (0 : Int32)), .val (.int (0 : Int32)), .val (.ref b1)] [(.int (1 : Int32))])
      exact OwnGo.retB X14 hx hlk (z' := (1 : Int32)) hret (hb hby at_146) rfl ⟨rfl, (Fr.app (Fr.app (Fr.app (Fr.app (Fr.app (Fr.app (Fr.nil n0) N2) N3) N4) N5) N6) N7)⟩ (by decide) (by decide)
    ·
      rw [hj]
      show Go p e below _ T5 (mkF m 48 #[.val (.int p1), .val (.int p2), .val (.int p3), .val (.int p4), .val (.int p5), .val (.int p6), .val (.int (0 : Int32)), .val (.int (1 : Int32)), .val (.ref b1)] [])
      refine OwnGo.aload X5 hx (hb hby at_48) rfl rfl ?_
      show Go p e below _ T5 (mkF m 50 #[.val (.int p1), .val (.int p2), .val (.int p3), .val (.int p4), .val (.int p5), .val (.int p6), .val (.int (0 : Int32)), .val (.int (1 : Int32)), .val (.ref b1)] [(.ref b1)])
      refine OwnGo.iload X5 hx (hb hby at_50) rfl ?_
      show Go p e below _ T5 (mkF m 52 #[.val (.int p1), .val (.int p2), .val (.int p3), .val (.int p4), .val (.int p5), .val (.int p6), .val (.int (0 : Int32)), .val (.int (1 : Int32)), .val (.ref b1)] [(.int (0 : Int32)), (.ref b1)])
      refine OwnGo.iload X5 hx (hb hby at_52) rfl ?_
      show Go p e below _ T5 (mkF m 54 #[.val (.int p1), .val (.int p2), .val (.int p3), .val (.int p4), .val (.int p5), .val (.int p6), .val (.int (0 : Int32)), .val (.int (1 : Int32)), .val (.ref b1)] [(.int p5), (.int (0 : Int32)), (.ref b1)])
      refine OwnGo.callV X5 hx hZ hown (y := (⟨"com/example/sibling/sibling/xpath/IntColumn", "set", "(II)V"⟩ : MethodName)) (z := (⟨"com/example/sibling/sibling/xpath/IntColumn", "set", "(II)V"⟩ : MethodName)) (hw _ (List.mem_of_getElem? (i := 51) rfl)) (hw _ (List.mem_of_getElem? (i := 52) rfl)) (notFace_of_selects (args := #[]) (mvT hZ (hw _ (List.mem_of_getElem? (i := 54) rfl)))) (hw _ (List.mem_of_getElem? (i := 54) rfl)) (hw _ (List.mem_of_getElem? (i := 53) rfl)) (hw _ (List.mem_of_getElem? (i := 2) rfl)) (hw _ (List.mem_of_getElem? (i := 55) rfl)) (by decide) rfl E5 (as := [(.int (0 : Int32)), (.int p5)]) (rmSET0 l Z a0 hw b1 r kr p1 p2 p3 p5 T5.heap n0 Zs5 gr F5_first V5 nbr) (W := 0) (by decide) (by decide) (by decide) (by decide) (by rw [hml]; rfl) (lenOf own_pd5 rfl) (rest := []) rfl rfl (hb hby at_54) fun v15 T15 L15 X15 q15 => ?_
      obtain ⟨rfl, N15, K15, V15⟩ := q15
      have Fk15 := F5_first.keep K15 (ninS nbr nin0)
      have Fz15 := F5_size.keep K15 (ninS nbr nin0)
      have Ek15 := E5.keep K15
      have Zs15 := Nat.le_trans Zs5 K15.1
      show Go p e below _ T15 (mkF m 57 #[.val (.int p1), .val (.int p2), .val (.int p3), .val (.int p4), .val (.int p5), .val (.int p6), .val (.int (0 : Int32)), .val (.int (1 : Int32)), .val (.ref b1)] [])
      refine OwnGo.aload X15 hx (hb hby at_57) rfl rfl ?_
      show Go p e below _ T15 (mkF m 59 #[.val (.int p1), .val (.int p2), .val (.int p3), .val (.int p4), .val (.int p5), .val (.int p6), .val (.int (0 : Int32)), .val (.int (1 : Int32)), .val (.ref b1)] [(.ref b1)])
      refine OwnGo.iload X15 hx (hb hby at_59) rfl ?_
      show Go p e below _ T15 (mkF m 61 #[.val (.int p1), .val (.int p2), .val (.int p3), .val (.int p4), .val (.int p5), .val (.int p6), .val (.int (0 : Int32)), .val (.int (1 : Int32)), .val (.ref b1)] [(.int (1 : Int32)), (.ref b1)])
      refine OwnGo.iload X15 hx (hb hby at_61) rfl ?_
      show Go p e below _ T15 (mkF m 63 #[.val (.int p1), .val (.int p2), .val (.int p3), .val (.int p4), .val (.int p5), .val (.int p6), .val (.int (0 : Int32)), .val (.int (1 : Int32)), .val (.ref b1)] [(.int p6), (.int (1 : Int32)), (.ref b1)])
      refine OwnGo.callV X15 hx hZ hown (y := (⟨"com/example/sibling/sibling/xpath/IntColumn", "set", "(II)V"⟩ : MethodName)) (z := (⟨"com/example/sibling/sibling/xpath/IntColumn", "set", "(II)V"⟩ : MethodName)) (hw _ (List.mem_of_getElem? (i := 51) rfl)) (hw _ (List.mem_of_getElem? (i := 52) rfl)) (notFace_of_selects (args := #[]) (mvT hZ (hw _ (List.mem_of_getElem? (i := 54) rfl)))) (hw _ (List.mem_of_getElem? (i := 54) rfl)) (hw _ (List.mem_of_getElem? (i := 53) rfl)) (hw _ (List.mem_of_getElem? (i := 2) rfl)) (hw _ (List.mem_of_getElem? (i := 55) rfl)) (by decide) rfl Ek15 (as := [(.int (1 : Int32)), (.int p6)]) (rmSET1 l Z a0 hw b1 r kr p5 p2 p3 p6 T15.heap n0 Zs15 gr Fk15 V15 nbr) (W := 0) (by decide) (by decide) (by decide) (by decide) (by rw [hml]; rfl) (lenOf own_pd5 rfl) (rest := []) rfl rfl (hb hby at_63) fun v16 T16 L16 X16 q16 => ?_
      obtain ⟨rfl, N16, K16, V16⟩ := q16
      have Fk16 := Fk15.keep K16 (ninS nbr nin0)
      have Fz16 := Fz15.keep K16 (ninS nbr nin0)
      have Ek16 := Ek15.keep K16
      have Zs16 := Nat.le_trans Zs15 K16.1
      show Go p e below _ T16 (mkF m 66 #[.val (.int p1), .val (.int p2), .val (.int p3), .val (.int p4), .val (.int p5), .val (.int p6), .val (.int (0 : Int32)), .val (.int (1 : Int32)), .val (.ref b1)] [])
      refine OwnGo.aload X16 hx (hb hby at_66) rfl rfl ?_
      show Go p e below _ T16 (mkF m 68 #[.val (.int p1), .val (.int p2), .val (.int p3), .val (.int p4), .val (.int p5), .val (.int p6), .val (.int (0 : Int32)), .val (.int (1 : Int32)), .val (.ref b1)] [(.ref b1)])
      refine OwnGo.callV X16 hx hZ hown (y := (⟨"com/example/sibling/sibling/xpath/IntColumn", "size", "()I"⟩ : MethodName)) (z := (⟨"com/example/sibling/sibling/xpath/IntColumn", "size", "()I"⟩ : MethodName)) (hw _ (List.mem_of_getElem? (i := 56) rfl)) (hw _ (List.mem_of_getElem? (i := 57) rfl)) (notFace_of_selects (args := #[]) (mvT hZ (hw _ (List.mem_of_getElem? (i := 59) rfl)))) (hw _ (List.mem_of_getElem? (i := 59) rfl)) (hw _ (List.mem_of_getElem? (i := 58) rfl)) (hw _ (List.mem_of_getElem? (i := 2) rfl)) (hw _ (List.mem_of_getElem? (i := 60) rfl)) (by decide) rfl Ek16 (as := []) (rmSIZ l Z a0 hw b1 (3 : Int32) T16.heap Fz16) (W := 0) (by decide) (by decide) (by decide) (by decide) (by rw [hml]; rfl) (lenOf own_pd6 rfl) (rest := []) rfl rfl (hb hby at_68) fun v17 T17 L17 X17 q17 => ?_
      obtain ⟨rfl, e17, rfl⟩ := q17
      rw [List.append_nil] at X17
      show Go p e below _ T17 (mkF m 71 #[.val (.int p1), .val (.int p2), .val (.int p3), .val (.int p4), .val (.int p5), .val (.int p6), .val (.int (0 : Int32)), .val (.int (1 : Int32)), .val (.ref b1)] [(.int (3 : Int32))])
      refine OwnGo.iconst X17 hx (z := (3 : Int32)) (hb hby at_71) (by decide) ?_
      show Go p e below _ T17 (mkF m 72 #[.val (.int p1), .val (.int p2), .val (.int p3), .val (.int p4), .val (.int p5), .val (.int p6), .val (.int (0 : Int32)), .val (.int (1 : Int32)), .val (.ref b1)] [(.int (3 : Int32)), (.int (3 : Int32))])
      refine OwnGo.ic_ne X17 hx (pc' := 145) (hb hby at_72) (by decide) (by decide) (fun q => absurd q (by decide)) (fun _ => ?_)
      show Go p e below _ T17 (mkF m 75 #[.val (.int p1), .val (.int p2), .val (.int p3), .val (.int p4), .val (.int p5), .val (.int p6), .val (.int (0 : Int32)), .val (.int (1 : Int32)), .val (.ref b1)] [])
      refine OwnGo.aload X17 hx (hb hby at_75) rfl rfl ?_
      show Go p e below _ T17 (mkF m 77 #[.val (.int p1), .val (.int p2), .val (.int p3), .val (.int p4), .val (.int p5), .val (.int p6), .val (.int (0 : Int32)), .val (.int (1 : Int32)), .val (.ref b1)] [(.ref b1)])
      refine OwnGo.iconst X17 hx (z := (0 : Int32)) (hb hby at_77) (by decide) ?_
      show Go p e below _ T17 (mkF m 78 #[.val (.int p1), .val (.int p2), .val (.int p3), .val (.int p4), .val (.int p5), .val (.int p6), .val (.int (0 : Int32)), .val (.int (1 : Int32)), .val (.ref b1)] [(.int (0 : Int32)), (.ref b1)])
      refine OwnGo.callV X17 hx hZ hown (y := (⟨"com/example/sibling/sibling/xpath/IntColumn", "get", "(I)I"⟩ : MethodName)) (z := (⟨"com/example/sibling/sibling/xpath/IntColumn", "get", "(I)I"⟩ : MethodName)) (hw _ (List.mem_of_getElem? (i := 61) rfl)) (hw _ (List.mem_of_getElem? (i := 62) rfl)) (notFace_of_selects (args := #[]) (mvT hZ (hw _ (List.mem_of_getElem? (i := 64) rfl)))) (hw _ (List.mem_of_getElem? (i := 64) rfl)) (hw _ (List.mem_of_getElem? (i := 63) rfl)) (hw _ (List.mem_of_getElem? (i := 2) rfl)) (hw _ (List.mem_of_getElem? (i := 65) rfl)) (by decide) e17 Ek16 (as := [(.int (0 : Int32))]) (rmGET0 l Z a0 hw b1 r kr p5 p6 p3 T16.heap Fk16 V16) (W := 0) (by decide) (by decide) (by decide) (by decide) (by rw [hml]; rfl) (lenOf own_pd7 rfl) (rest := []) rfl rfl (hb hby at_78) fun v18 T18 L18 X18 q18 => ?_
      obtain ⟨rfl, e18, rfl⟩ := q18
      rw [List.append_nil] at X18
      show Go p e below _ T18 (mkF m 81 #[.val (.int p1), .val (.int p2), .val (.int p3), .val (.int p4), .val (.int p5), .val (.int p6), .val (.int (0 : Int32)), .val (.int (1 : Int32)), .val (.ref b1)] [(.int p5)])
      refine OwnGo.iconst X18 hx (z := (0 : Int32)) (hb hby at_81) (by decide) ?_
      show Go p e below _ T18 (mkF m 82 #[.val (.int p1), .val (.int p2), .val (.int p3), .val (.int p4), .val (.int p5), .val (.int p6), .val (.int (0 : Int32)), .val (.int (1 : Int32)), .val (.ref b1)] [(.int (0 : Int32)), (.int p5)])
      refine OwnGo.iload X18 hx (hb hby at_82) rfl ?_
      show Go p e below _ T18 (mkF m 84 #[.val (.int p1), .val (.int p2), .val (.int p3), .val (.int p4), .val (.int p5), .val (.int p6), .val (.int (0 : Int32)), .val (.int (1 : Int32)), .val (.ref b1)] [(.int (0 : Int32)), (.int (0 : Int32)), (.int p5)])
      refine OwnGo.iload X18 hx (hb hby at_84) rfl ?_
      show Go p e below _ T18 (mkF m 86 #[.val (.int p1), .val (.int p2), .val (.int p3), .val (.int p4), .val (.int p5), .val (.int p6), .val (.int (0 : Int32)), .val (.int (1 : Int32)), .val (.ref b1)] [(.int (1 : Int32)), (.int (0 : Int32)), (.int (0 : Int32)), (.int p5)])
      refine OwnGo.iloadN X18 hx (hb hby at_86) rfl ?_
      show Go p e below _ T18 (mkF m 87 #[.val (.int p1), .val (.int p2), .val (.int p3), .val (.int p4), .val (.int p5), .val (.int p6), .val (.int (0 : Int32)), .val (.int (1 : Int32)), .val (.ref b1)] [(.int p1), (.int (1 : Int32)), (.int (0 : Int32)), (.int (0 : Int32)), (.int p5)])
      refine OwnGo.iload X18 hx (hb hby at_87) rfl ?_
      show Go p e below _ T18 (mkF m 89 #[.val (.int p1), .val (.int p2), .val (.int p3), .val (.int p4), .val (.int p5), .val (.int p6), .val (.int (0 : Int32)), .val (.int (1 : Int32)), .val (.ref b1)] [(.int p5), (.int p1), (.int (1 : Int32)), (.int (0 : Int32)), (.int (0 : Int32)), (.int p5)])
      refine OwnGo.iload X18 hx (hb hby at_89) rfl ?_
      show Go p e below _ T18 (mkF m 91 #[.val (.int p1), .val (.int p2), .val (.int p3), .val (.int p4), .val (.int p5), .val (.int p6), .val (.int (0 : Int32)), .val (.int (1 : Int32)), .val (.ref b1)] [(.int p6), (.int p5), (.int p1), (.int (1 : Int32)), (.int (0 : Int32)), (.int (0 : Int32)), (.int p5)])
      refine OwnGo.callS X18 hx hZ hown (y := (⟨"com/example/sibling/sibling/xpath/IntColumnSetPinLaw", "expected", "(IIIIII)I"⟩ : MethodName)) (hw _ (List.mem_of_getElem? (i := 66) rfl)) (hw _ (List.mem_of_getElem? (i := 67) rfl)) (hw _ (List.mem_of_getElem? (i := 68) rfl)) (hw _ (List.mem_of_getElem? (i := 69) rfl)) (by decide) e18 (as := [(.int (0 : Int32)), (.int (0 : Int32)), (.int (1 : Int32)), (.int p1), (.int p5), (.int p6)]) (rmE l Z a0 hw (0 : Int32) (0 : Int32) (1 : Int32) p1 p5 p6 p5 T16.heap (by simp [own_exp])) (W := 1) (by decide) (by decide) (by decide) (by decide) (by rw [hml]; rfl) (lenOf own_pd8 rfl) (rest := [(.int p5)]) rfl rfl (hb hby at_91) fun v19 T19 L19 X19 q19 => ?_
      obtain ⟨rfl, e19, rfl⟩ := q19
      rw [List.append_nil] at X19
      show Go p e below _ T19 (mkF m 94 #[.val (.int p1), .val (.int p2), .val (.int p3), .val (.int p4), .val (.int p5), .val (.int p6), .val (.int (0 : Int32)), .val (.int (1 : Int32)), .val (.ref b1)] [(.int p5), (.int p5)])
      refine OwnGo.ic_ne X19 hx (pc' := 145) (hb hby at_94) (by decide) (by decide) (fun q => absurd rfl q) (fun _ => ?_)
      show Go p e below _ T19 (mkF m 97 #[.val (.int p1), .val (.int p2), .val (.int p3), .val (.int p4), .val (.int p5), .val (.int p6), .val (.int (0 : Int32)), .val (.int (1 : Int32)), .val (.ref b1)] [])
      refine OwnGo.aload X19 hx (hb hby at_97) rfl rfl ?_
      show Go p e below _ T19 (mkF m 99 #[.val (.int p1), .val (.int p2), .val (.int p3), .val (.int p4), .val (.int p5), .val (.int p6), .val (.int (0 : Int32)), .val (.int (1 : Int32)), .val (.ref b1)] [(.ref b1)])
      refine OwnGo.iconst X19 hx (z := (1 : Int32)) (hb hby at_99) (by decide) ?_
      show Go p e below _ T19 (mkF m 100 #[.val (.int p1), .val (.int p2), .val (.int p3), .val (.int p4), .val (.int p5), .val (.int p6), .val (.int (0 : Int32)), .val (.int (1 : Int32)), .val (.ref b1)] [(.int (1 : Int32)), (.ref b1)])
      refine OwnGo.callV X19 hx hZ hown (y := (⟨"com/example/sibling/sibling/xpath/IntColumn", "get", "(I)I"⟩ : MethodName)) (z := (⟨"com/example/sibling/sibling/xpath/IntColumn", "get", "(I)I"⟩ : MethodName)) (hw _ (List.mem_of_getElem? (i := 61) rfl)) (hw _ (List.mem_of_getElem? (i := 62) rfl)) (notFace_of_selects (args := #[]) (mvT hZ (hw _ (List.mem_of_getElem? (i := 64) rfl)))) (hw _ (List.mem_of_getElem? (i := 64) rfl)) (hw _ (List.mem_of_getElem? (i := 63) rfl)) (hw _ (List.mem_of_getElem? (i := 2) rfl)) (hw _ (List.mem_of_getElem? (i := 65) rfl)) (by decide) e19 Ek16 (as := [(.int (1 : Int32))]) (rmGET1 l Z a0 hw b1 r kr p5 p6 p3 T16.heap Fk16 V16) (W := 0) (by decide) (by decide) (by decide) (by decide) (by rw [hml]; rfl) (lenOf own_pd7 rfl) (rest := []) rfl rfl (hb hby at_100) fun v20 T20 L20 X20 q20 => ?_
      obtain ⟨rfl, e20, rfl⟩ := q20
      rw [List.append_nil] at X20
      show Go p e below _ T20 (mkF m 103 #[.val (.int p1), .val (.int p2), .val (.int p3), .val (.int p4), .val (.int p5), .val (.int p6), .val (.int (0 : Int32)), .val (.int (1 : Int32)), .val (.ref b1)] [(.int p6)])
      refine OwnGo.iconst X20 hx (z := (1 : Int32)) (hb hby at_103) (by decide) ?_
      show Go p e below _ T20 (mkF m 104 #[.val (.int p1), .val (.int p2), .val (.int p3), .val (.int p4), .val (.int p5), .val (.int p6), .val (.int (0 : Int32)), .val (.int (1 : Int32)), .val (.ref b1)] [(.int (1 : Int32)), (.int p6)])
      refine OwnGo.iload X20 hx (hb hby at_104) rfl ?_
      show Go p e below _ T20 (mkF m 106 #[.val (.int p1), .val (.int p2), .val (.int p3), .val (.int p4), .val (.int p5), .val (.int p6), .val (.int (0 : Int32)), .val (.int (1 : Int32)), .val (.ref b1)] [(.int (0 : Int32)), (.int (1 : Int32)), (.int p6)])
      refine OwnGo.iload X20 hx (hb hby at_106) rfl ?_
      show Go p e below _ T20 (mkF m 108 #[.val (.int p1), .val (.int p2), .val (.int p3), .val (.int p4), .val (.int p5), .val (.int p6), .val (.int (0 : Int32)), .val (.int (1 : Int32)), .val (.ref b1)] [(.int (1 : Int32)), (.int (0 : Int32)), (.int (1 : Int32)), (.int p6)])
      refine OwnGo.iloadN X20 hx (hb hby at_108) rfl ?_
      show Go p e below _ T20 (mkF m 109 #[.val (.int p1), .val (.int p2), .val (.int p3), .val (.int p4), .val (.int p5), .val (.int p6), .val (.int (0 : Int32)), .val (.int (1 : Int32)), .val (.ref b1)] [(.int p2), (.int (1 : Int32)), (.int (0 : Int32)), (.int (1 : Int32)), (.int p6)])
      refine OwnGo.iload X20 hx (hb hby at_109) rfl ?_
      show Go p e below _ T20 (mkF m 111 #[.val (.int p1), .val (.int p2), .val (.int p3), .val (.int p4), .val (.int p5), .val (.int p6), .val (.int (0 : Int32)), .val (.int (1 : Int32)), .val (.ref b1)] [(.int p5), (.int p2), (.int (1 : Int32)), (.int (0 : Int32)), (.int (1 : Int32)), (.int p6)])
      refine OwnGo.iload X20 hx (hb hby at_111) rfl ?_
      show Go p e below _ T20 (mkF m 113 #[.val (.int p1), .val (.int p2), .val (.int p3), .val (.int p4), .val (.int p5), .val (.int p6), .val (.int (0 : Int32)), .val (.int (1 : Int32)), .val (.ref b1)] [(.int p6), (.int p5), (.int p2), (.int (1 : Int32)), (.int (0 : Int32)), (.int (1 : Int32)), (.int p6)])
      refine OwnGo.callS X20 hx hZ hown (y := (⟨"com/example/sibling/sibling/xpath/IntColumnSetPinLaw", "expected", "(IIIIII)I"⟩ : MethodName)) (hw _ (List.mem_of_getElem? (i := 66) rfl)) (hw _ (List.mem_of_getElem? (i := 67) rfl)) (hw _ (List.mem_of_getElem? (i := 68) rfl)) (hw _ (List.mem_of_getElem? (i := 69) rfl)) (by decide) e20 (as := [(.int (1 : Int32)), (.int (0 : Int32)), (.int (1 : Int32)), (.int p2), (.int p5), (.int p6)]) (rmE l Z a0 hw (1 : Int32) (0 : Int32) (1 : Int32) p2 p5 p6 p6 T16.heap (by simp [own_exp])) (W := 1) (by decide) (by decide) (by decide) (by decide) (by rw [hml]; rfl) (lenOf own_pd8 rfl) (rest := [(.int p6)]) rfl rfl (hb hby at_113) fun v21 T21 L21 X21 q21 => ?_
      obtain ⟨rfl, e21, rfl⟩ := q21
      rw [List.append_nil] at X21
      show Go p e below _ T21 (mkF m 116 #[.val (.int p1), .val (.int p2), .val (.int p3), .val (.int p4), .val (.int p5), .val (.int p6), .val (.int (0 : Int32)), .val (.int (1 : Int32)), .val (.ref b1)] [(.int p6), (.int p6)])
      refine OwnGo.ic_ne X21 hx (pc' := 145) (hb hby at_116) (by decide) (by decide) (fun q => absurd rfl q) (fun _ => ?_)
      show Go p e below _ T21 (mkF m 119 #[.val (.int p1), .val (.int p2), .val (.int p3), .val (.int p4), .val (.int p5), .val (.int p6), .val (.int (0 : Int32)), .val (.int (1 : Int32)), .val (.ref b1)] [])
      refine OwnGo.aload X21 hx (hb hby at_119) rfl rfl ?_
      show Go p e below _ T21 (mkF m 121 #[.val (.int p1), .val (.int p2), .val (.int p3), .val (.int p4), .val (.int p5), .val (.int p6), .val (.int (0 : Int32)), .val (.int (1 : Int32)), .val (.ref b1)] [(.ref b1)])
      refine OwnGo.iconst X21 hx (z := (2 : Int32)) (hb hby at_121) (by decide) ?_
      show Go p e below _ T21 (mkF m 122 #[.val (.int p1), .val (.int p2), .val (.int p3), .val (.int p4), .val (.int p5), .val (.int p6), .val (.int (0 : Int32)), .val (.int (1 : Int32)), .val (.ref b1)] [(.int (2 : Int32)), (.ref b1)])
      refine OwnGo.callV X21 hx hZ hown (y := (⟨"com/example/sibling/sibling/xpath/IntColumn", "get", "(I)I"⟩ : MethodName)) (z := (⟨"com/example/sibling/sibling/xpath/IntColumn", "get", "(I)I"⟩ : MethodName)) (hw _ (List.mem_of_getElem? (i := 61) rfl)) (hw _ (List.mem_of_getElem? (i := 62) rfl)) (notFace_of_selects (args := #[]) (mvT hZ (hw _ (List.mem_of_getElem? (i := 64) rfl)))) (hw _ (List.mem_of_getElem? (i := 64) rfl)) (hw _ (List.mem_of_getElem? (i := 63) rfl)) (hw _ (List.mem_of_getElem? (i := 2) rfl)) (hw _ (List.mem_of_getElem? (i := 65) rfl)) (by decide) e21 Ek16 (as := [(.int (2 : Int32))]) (rmGET2 l Z a0 hw b1 r kr p5 p6 p3 T16.heap Fk16 V16) (W := 0) (by decide) (by decide) (by decide) (by decide) (by rw [hml]; rfl) (lenOf own_pd7 rfl) (rest := []) rfl rfl (hb hby at_122) fun v22 T22 L22 X22 q22 => ?_
      obtain ⟨rfl, e22, rfl⟩ := q22
      rw [List.append_nil] at X22
      show Go p e below _ T22 (mkF m 125 #[.val (.int p1), .val (.int p2), .val (.int p3), .val (.int p4), .val (.int p5), .val (.int p6), .val (.int (0 : Int32)), .val (.int (1 : Int32)), .val (.ref b1)] [(.int p3)])
      refine OwnGo.iconst X22 hx (z := (2 : Int32)) (hb hby at_125) (by decide) ?_
      show Go p e below _ T22 (mkF m 126 #[.val (.int p1), .val (.int p2), .val (.int p3), .val (.int p4), .val (.int p5), .val (.int p6), .val (.int (0 : Int32)), .val (.int (1 : Int32)), .val (.ref b1)] [(.int (2 : Int32)), (.int p3)])
      refine OwnGo.iload X22 hx (hb hby at_126) rfl ?_
      show Go p e below _ T22 (mkF m 128 #[.val (.int p1), .val (.int p2), .val (.int p3), .val (.int p4), .val (.int p5), .val (.int p6), .val (.int (0 : Int32)), .val (.int (1 : Int32)), .val (.ref b1)] [(.int (0 : Int32)), (.int (2 : Int32)), (.int p3)])
      refine OwnGo.iload X22 hx (hb hby at_128) rfl ?_
      show Go p e below _ T22 (mkF m 130 #[.val (.int p1), .val (.int p2), .val (.int p3), .val (.int p4), .val (.int p5), .val (.int p6), .val (.int (0 : Int32)), .val (.int (1 : Int32)), .val (.ref b1)] [(.int (1 : Int32)), (.int (0 : Int32)), (.int (2 : Int32)), (.int p3)])
      refine OwnGo.iloadN X22 hx (hb hby at_130) rfl ?_
      show Go p e below _ T22 (mkF m 131 #[.val (.int p1), .val (.int p2), .val (.int p3), .val (.int p4), .val (.int p5), .val (.int p6), .val (.int (0 : Int32)), .val (.int (1 : Int32)), .val (.ref b1)] [(.int p3), (.int (1 : Int32)), (.int (0 : Int32)), (.int (2 : Int32)), (.int p3)])
      refine OwnGo.iload X22 hx (hb hby at_131) rfl ?_
      show Go p e below _ T22 (mkF m 133 #[.val (.int p1), .val (.int p2), .val (.int p3), .val (.int p4), .val (.int p5), .val (.int p6), .val (.int (0 : Int32)), .val (.int (1 : Int32)), .val (.ref b1)] [(.int p5), (.int p3), (.int (1 : Int32)), (.int (0 : Int32)), (.int (2 : Int32)), (.int p3)])
      refine OwnGo.iload X22 hx (hb hby at_133) rfl ?_
      show Go p e below _ T22 (mkF m 135 #[.val (.int p1), .val (.int p2), .val (.int p3), .val (.int p4), .val (.int p5), .val (.int p6), .val (.int (0 : Int32)), .val (.int (1 : Int32)), .val (.ref b1)] [(.int p6), (.int p5), (.int p3), (.int (1 : Int32)), (.int (0 : Int32)), (.int (2 : Int32)), (.int p3)])
      refine OwnGo.callS X22 hx hZ hown (y := (⟨"com/example/sibling/sibling/xpath/IntColumnSetPinLaw", "expected", "(IIIIII)I"⟩ : MethodName)) (hw _ (List.mem_of_getElem? (i := 66) rfl)) (hw _ (List.mem_of_getElem? (i := 67) rfl)) (hw _ (List.mem_of_getElem? (i := 68) rfl)) (hw _ (List.mem_of_getElem? (i := 69) rfl)) (by decide) e22 (as := [(.int (2 : Int32)), (.int (0 : Int32)), (.int (1 : Int32)), (.int p3), (.int p5), (.int p6)]) (rmE l Z a0 hw (2 : Int32) (0 : Int32) (1 : Int32) p3 p5 p6 p3 T16.heap (by simp [own_exp])) (W := 1) (by decide) (by decide) (by decide) (by decide) (by rw [hml]; rfl) (lenOf own_pd8 rfl) (rest := [(.int p3)]) rfl rfl (hb hby at_135) fun v23 T23 L23 X23 q23 => ?_
      obtain ⟨rfl, e23, rfl⟩ := q23
      rw [List.append_nil] at X23
      show Go p e below _ T23 (mkF m 138 #[.val (.int p1), .val (.int p2), .val (.int p3), .val (.int p4), .val (.int p5), .val (.int p6), .val (.int (0 : Int32)), .val (.int (1 : Int32)), .val (.ref b1)] [(.int p3), (.int p3)])
      refine OwnGo.ic_ne X23 hx (pc' := 145) (hb hby at_138) (by decide) (by decide) (fun q => absurd rfl q) (fun _ => ?_)
      show Go p e below _ T23 (mkF m 141 #[.val (.int p1), .val (.int p2), .val (.int p3), .val (.int p4), .val (.int p5), .val (.int p6), .val (.int (0 : Int32)), .val (.int (1 : Int32)), .val (.ref b1)] [])
      refine OwnGo.iconst X23 hx (z := (1 : Int32)) (hb hby at_141) (by decide) ?_
      show Go p e below _ T23 (mkF m 142 #[.val (.int p1), .val (.int p2), .val (.int p3), .val (.int p4), .val (.int p5), .val (.int p6), .val (.int (0 : Int32)), .val (.int (1 : Int32)), .val (.ref b1)] [(.int (1 : Int32))])
      refine OwnGo.goto X23 hx (pc' := 146) (hb hby at_142) (by decide) (by decide) ?_
      show Go p e below _ T23 (mkF m 146 #[.val (.int p1), .val (.int p2), .val (.int p3), .val (.int p4), .val (.int p5), .val (.int p6), .val (.int (0 : Int32)), .val (.int (1 : Int32)), .val (.ref b1)] [(.int (1 : Int32))])
      exact OwnGo.retB X23 hx hlk (z' := (1 : Int32)) hret (hb hby at_146) rfl ⟨rfl, (Fr.app (Fr.app (Fr.app (Fr.app (Fr.app (Fr.app (Fr.nil n0) N2) N3) N4) N5) N15) N16)⟩ (by decide) (by decide)
    ·
      rw [hj]
      show Go p e below _ T5 (mkF m 48 #[.val (.int p1), .val (.int p2), .val (.int p3), .val (.int p4), .val (.int p5), .val (.int p6), .val (.int (0 : Int32)), .val (.int (2 : Int32)), .val (.ref b1)] [])
      refine OwnGo.aload X5 hx (hb hby at_48) rfl rfl ?_
      show Go p e below _ T5 (mkF m 50 #[.val (.int p1), .val (.int p2), .val (.int p3), .val (.int p4), .val (.int p5), .val (.int p6), .val (.int (0 : Int32)), .val (.int (2 : Int32)), .val (.ref b1)] [(.ref b1)])
      refine OwnGo.iload X5 hx (hb hby at_50) rfl ?_
      show Go p e below _ T5 (mkF m 52 #[.val (.int p1), .val (.int p2), .val (.int p3), .val (.int p4), .val (.int p5), .val (.int p6), .val (.int (0 : Int32)), .val (.int (2 : Int32)), .val (.ref b1)] [(.int (0 : Int32)), (.ref b1)])
      refine OwnGo.iload X5 hx (hb hby at_52) rfl ?_
      show Go p e below _ T5 (mkF m 54 #[.val (.int p1), .val (.int p2), .val (.int p3), .val (.int p4), .val (.int p5), .val (.int p6), .val (.int (0 : Int32)), .val (.int (2 : Int32)), .val (.ref b1)] [(.int p5), (.int (0 : Int32)), (.ref b1)])
      refine OwnGo.callV X5 hx hZ hown (y := (⟨"com/example/sibling/sibling/xpath/IntColumn", "set", "(II)V"⟩ : MethodName)) (z := (⟨"com/example/sibling/sibling/xpath/IntColumn", "set", "(II)V"⟩ : MethodName)) (hw _ (List.mem_of_getElem? (i := 51) rfl)) (hw _ (List.mem_of_getElem? (i := 52) rfl)) (notFace_of_selects (args := #[]) (mvT hZ (hw _ (List.mem_of_getElem? (i := 54) rfl)))) (hw _ (List.mem_of_getElem? (i := 54) rfl)) (hw _ (List.mem_of_getElem? (i := 53) rfl)) (hw _ (List.mem_of_getElem? (i := 2) rfl)) (hw _ (List.mem_of_getElem? (i := 55) rfl)) (by decide) rfl E5 (as := [(.int (0 : Int32)), (.int p5)]) (rmSET0 l Z a0 hw b1 r kr p1 p2 p3 p5 T5.heap n0 Zs5 gr F5_first V5 nbr) (W := 0) (by decide) (by decide) (by decide) (by decide) (by rw [hml]; rfl) (lenOf own_pd5 rfl) (rest := []) rfl rfl (hb hby at_54) fun v24 T24 L24 X24 q24 => ?_
      obtain ⟨rfl, N24, K24, V24⟩ := q24
      have Fk24 := F5_first.keep K24 (ninS nbr nin0)
      have Fz24 := F5_size.keep K24 (ninS nbr nin0)
      have Ek24 := E5.keep K24
      have Zs24 := Nat.le_trans Zs5 K24.1
      show Go p e below _ T24 (mkF m 57 #[.val (.int p1), .val (.int p2), .val (.int p3), .val (.int p4), .val (.int p5), .val (.int p6), .val (.int (0 : Int32)), .val (.int (2 : Int32)), .val (.ref b1)] [])
      refine OwnGo.aload X24 hx (hb hby at_57) rfl rfl ?_
      show Go p e below _ T24 (mkF m 59 #[.val (.int p1), .val (.int p2), .val (.int p3), .val (.int p4), .val (.int p5), .val (.int p6), .val (.int (0 : Int32)), .val (.int (2 : Int32)), .val (.ref b1)] [(.ref b1)])
      refine OwnGo.iload X24 hx (hb hby at_59) rfl ?_
      show Go p e below _ T24 (mkF m 61 #[.val (.int p1), .val (.int p2), .val (.int p3), .val (.int p4), .val (.int p5), .val (.int p6), .val (.int (0 : Int32)), .val (.int (2 : Int32)), .val (.ref b1)] [(.int (2 : Int32)), (.ref b1)])
      refine OwnGo.iload X24 hx (hb hby at_61) rfl ?_
      show Go p e below _ T24 (mkF m 63 #[.val (.int p1), .val (.int p2), .val (.int p3), .val (.int p4), .val (.int p5), .val (.int p6), .val (.int (0 : Int32)), .val (.int (2 : Int32)), .val (.ref b1)] [(.int p6), (.int (2 : Int32)), (.ref b1)])
      refine OwnGo.callV X24 hx hZ hown (y := (⟨"com/example/sibling/sibling/xpath/IntColumn", "set", "(II)V"⟩ : MethodName)) (z := (⟨"com/example/sibling/sibling/xpath/IntColumn", "set", "(II)V"⟩ : MethodName)) (hw _ (List.mem_of_getElem? (i := 51) rfl)) (hw _ (List.mem_of_getElem? (i := 52) rfl)) (notFace_of_selects (args := #[]) (mvT hZ (hw _ (List.mem_of_getElem? (i := 54) rfl)))) (hw _ (List.mem_of_getElem? (i := 54) rfl)) (hw _ (List.mem_of_getElem? (i := 53) rfl)) (hw _ (List.mem_of_getElem? (i := 2) rfl)) (hw _ (List.mem_of_getElem? (i := 55) rfl)) (by decide) rfl Ek24 (as := [(.int (2 : Int32)), (.int p6)]) (rmSET2 l Z a0 hw b1 r kr p5 p2 p3 p6 T24.heap n0 Zs24 gr Fk24 V24 nbr) (W := 0) (by decide) (by decide) (by decide) (by decide) (by rw [hml]; rfl) (lenOf own_pd5 rfl) (rest := []) rfl rfl (hb hby at_63) fun v25 T25 L25 X25 q25 => ?_
      obtain ⟨rfl, N25, K25, V25⟩ := q25
      have Fk25 := Fk24.keep K25 (ninS nbr nin0)
      have Fz25 := Fz24.keep K25 (ninS nbr nin0)
      have Ek25 := Ek24.keep K25
      have Zs25 := Nat.le_trans Zs24 K25.1
      show Go p e below _ T25 (mkF m 66 #[.val (.int p1), .val (.int p2), .val (.int p3), .val (.int p4), .val (.int p5), .val (.int p6), .val (.int (0 : Int32)), .val (.int (2 : Int32)), .val (.ref b1)] [])
      refine OwnGo.aload X25 hx (hb hby at_66) rfl rfl ?_
      show Go p e below _ T25 (mkF m 68 #[.val (.int p1), .val (.int p2), .val (.int p3), .val (.int p4), .val (.int p5), .val (.int p6), .val (.int (0 : Int32)), .val (.int (2 : Int32)), .val (.ref b1)] [(.ref b1)])
      refine OwnGo.callV X25 hx hZ hown (y := (⟨"com/example/sibling/sibling/xpath/IntColumn", "size", "()I"⟩ : MethodName)) (z := (⟨"com/example/sibling/sibling/xpath/IntColumn", "size", "()I"⟩ : MethodName)) (hw _ (List.mem_of_getElem? (i := 56) rfl)) (hw _ (List.mem_of_getElem? (i := 57) rfl)) (notFace_of_selects (args := #[]) (mvT hZ (hw _ (List.mem_of_getElem? (i := 59) rfl)))) (hw _ (List.mem_of_getElem? (i := 59) rfl)) (hw _ (List.mem_of_getElem? (i := 58) rfl)) (hw _ (List.mem_of_getElem? (i := 2) rfl)) (hw _ (List.mem_of_getElem? (i := 60) rfl)) (by decide) rfl Ek25 (as := []) (rmSIZ l Z a0 hw b1 (3 : Int32) T25.heap Fz25) (W := 0) (by decide) (by decide) (by decide) (by decide) (by rw [hml]; rfl) (lenOf own_pd6 rfl) (rest := []) rfl rfl (hb hby at_68) fun v26 T26 L26 X26 q26 => ?_
      obtain ⟨rfl, e26, rfl⟩ := q26
      rw [List.append_nil] at X26
      show Go p e below _ T26 (mkF m 71 #[.val (.int p1), .val (.int p2), .val (.int p3), .val (.int p4), .val (.int p5), .val (.int p6), .val (.int (0 : Int32)), .val (.int (2 : Int32)), .val (.ref b1)] [(.int (3 : Int32))])
      refine OwnGo.iconst X26 hx (z := (3 : Int32)) (hb hby at_71) (by decide) ?_
      show Go p e below _ T26 (mkF m 72 #[.val (.int p1), .val (.int p2), .val (.int p3), .val (.int p4), .val (.int p5), .val (.int p6), .val (.int (0 : Int32)), .val (.int (2 : Int32)), .val (.ref b1)] [(.int (3 : Int32)), (.int (3 : Int32))])
      refine OwnGo.ic_ne X26 hx (pc' := 145) (hb hby at_72) (by decide) (by decide) (fun q => absurd q (by decide)) (fun _ => ?_)
      show Go p e below _ T26 (mkF m 75 #[.val (.int p1), .val (.int p2), .val (.int p3), .val (.int p4), .val (.int p5), .val (.int p6), .val (.int (0 : Int32)), .val (.int (2 : Int32)), .val (.ref b1)] [])
      refine OwnGo.aload X26 hx (hb hby at_75) rfl rfl ?_
      show Go p e below _ T26 (mkF m 77 #[.val (.int p1), .val (.int p2), .val (.int p3), .val (.int p4), .val (.int p5), .val (.int p6), .val (.int (0 : Int32)), .val (.int (2 : Int32)), .val (.ref b1)] [(.ref b1)])
      refine OwnGo.iconst X26 hx (z := (0 : Int32)) (hb hby at_77) (by decide) ?_
      show Go p e below _ T26 (mkF m 78 #[.val (.int p1), .val (.int p2), .val (.int p3), .val (.int p4), .val (.int p5), .val (.int p6), .val (.int (0 : Int32)), .val (.int (2 : Int32)), .val (.ref b1)] [(.int (0 : Int32)), (.ref b1)])
      refine OwnGo.callV X26 hx hZ hown (y := (⟨"com/example/sibling/sibling/xpath/IntColumn", "get", "(I)I"⟩ : MethodName)) (z := (⟨"com/example/sibling/sibling/xpath/IntColumn", "get", "(I)I"⟩ : MethodName)) (hw _ (List.mem_of_getElem? (i := 61) rfl)) (hw _ (List.mem_of_getElem? (i := 62) rfl)) (notFace_of_selects (args := #[]) (mvT hZ (hw _ (List.mem_of_getElem? (i := 64) rfl)))) (hw _ (List.mem_of_getElem? (i := 64) rfl)) (hw _ (List.mem_of_getElem? (i := 63) rfl)) (hw _ (List.mem_of_getElem? (i := 2) rfl)) (hw _ (List.mem_of_getElem? (i := 65) rfl)) (by decide) e26 Ek25 (as := [(.int (0 : Int32))]) (rmGET0 l Z a0 hw b1 r kr p5 p2 p6 T25.heap Fk25 V25) (W := 0) (by decide) (by decide) (by decide) (by decide) (by rw [hml]; rfl) (lenOf own_pd7 rfl) (rest := []) rfl rfl (hb hby at_78) fun v27 T27 L27 X27 q27 => ?_
      obtain ⟨rfl, e27, rfl⟩ := q27
      rw [List.append_nil] at X27
      show Go p e below _ T27 (mkF m 81 #[.val (.int p1), .val (.int p2), .val (.int p3), .val (.int p4), .val (.int p5), .val (.int p6), .val (.int (0 : Int32)), .val (.int (2 : Int32)), .val (.ref b1)] [(.int p5)])
      refine OwnGo.iconst X27 hx (z := (0 : Int32)) (hb hby at_81) (by decide) ?_
      show Go p e below _ T27 (mkF m 82 #[.val (.int p1), .val (.int p2), .val (.int p3), .val (.int p4), .val (.int p5), .val (.int p6), .val (.int (0 : Int32)), .val (.int (2 : Int32)), .val (.ref b1)] [(.int (0 : Int32)), (.int p5)])
      refine OwnGo.iload X27 hx (hb hby at_82) rfl ?_
      show Go p e below _ T27 (mkF m 84 #[.val (.int p1), .val (.int p2), .val (.int p3), .val (.int p4), .val (.int p5), .val (.int p6), .val (.int (0 : Int32)), .val (.int (2 : Int32)), .val (.ref b1)] [(.int (0 : Int32)), (.int (0 : Int32)), (.int p5)])
      refine OwnGo.iload X27 hx (hb hby at_84) rfl ?_
      show Go p e below _ T27 (mkF m 86 #[.val (.int p1), .val (.int p2), .val (.int p3), .val (.int p4), .val (.int p5), .val (.int p6), .val (.int (0 : Int32)), .val (.int (2 : Int32)), .val (.ref b1)] [(.int (2 : Int32)), (.int (0 : Int32)), (.int (0 : Int32)), (.int p5)])
      refine OwnGo.iloadN X27 hx (hb hby at_86) rfl ?_
      show Go p e below _ T27 (mkF m 87 #[.val (.int p1), .val (.int p2), .val (.int p3), .val (.int p4), .val (.int p5), .val (.int p6), .val (.int (0 : Int32)), .val (.int (2 : Int32)), .val (.ref b1)] [(.int p1), (.int (2 : Int32)), (.int (0 : Int32)), (.int (0 : Int32)), (.int p5)])
      refine OwnGo.iload X27 hx (hb hby at_87) rfl ?_
      show Go p e below _ T27 (mkF m 89 #[.val (.int p1), .val (.int p2), .val (.int p3), .val (.int p4), .val (.int p5), .val (.int p6), .val (.int (0 : Int32)), .val (.int (2 : Int32)), .val (.ref b1)] [(.int p5), (.int p1), (.int (2 : Int32)), (.int (0 : Int32)), (.int (0 : Int32)), (.int p5)])
      refine OwnGo.iload X27 hx (hb hby at_89) rfl ?_
      show Go p e below _ T27 (mkF m 91 #[.val (.int p1), .val (.int p2), .val (.int p3), .val (.int p4), .val (.int p5), .val (.int p6), .val (.int (0 : Int32)), .val (.int (2 : Int32)), .val (.ref b1)] [(.int p6), (.int p5), (.int p1), (.int (2 : Int32)), (.int (0 : Int32)), (.int (0 : Int32)), (.int p5)])
      refine OwnGo.callS X27 hx hZ hown (y := (⟨"com/example/sibling/sibling/xpath/IntColumnSetPinLaw", "expected", "(IIIIII)I"⟩ : MethodName)) (hw _ (List.mem_of_getElem? (i := 66) rfl)) (hw _ (List.mem_of_getElem? (i := 67) rfl)) (hw _ (List.mem_of_getElem? (i := 68) rfl)) (hw _ (List.mem_of_getElem? (i := 69) rfl)) (by decide) e27 (as := [(.int (0 : Int32)), (.int (0 : Int32)), (.int (2 : Int32)), (.int p1), (.int p5), (.int p6)]) (rmE l Z a0 hw (0 : Int32) (0 : Int32) (2 : Int32) p1 p5 p6 p5 T25.heap (by simp [own_exp])) (W := 1) (by decide) (by decide) (by decide) (by decide) (by rw [hml]; rfl) (lenOf own_pd8 rfl) (rest := [(.int p5)]) rfl rfl (hb hby at_91) fun v28 T28 L28 X28 q28 => ?_
      obtain ⟨rfl, e28, rfl⟩ := q28
      rw [List.append_nil] at X28
      show Go p e below _ T28 (mkF m 94 #[.val (.int p1), .val (.int p2), .val (.int p3), .val (.int p4), .val (.int p5), .val (.int p6), .val (.int (0 : Int32)), .val (.int (2 : Int32)), .val (.ref b1)] [(.int p5), (.int p5)])
      refine OwnGo.ic_ne X28 hx (pc' := 145) (hb hby at_94) (by decide) (by decide) (fun q => absurd rfl q) (fun _ => ?_)
      show Go p e below _ T28 (mkF m 97 #[.val (.int p1), .val (.int p2), .val (.int p3), .val (.int p4), .val (.int p5), .val (.int p6), .val (.int (0 : Int32)), .val (.int (2 : Int32)), .val (.ref b1)] [])
      refine OwnGo.aload X28 hx (hb hby at_97) rfl rfl ?_
      show Go p e below _ T28 (mkF m 99 #[.val (.int p1), .val (.int p2), .val (.int p3), .val (.int p4), .val (.int p5), .val (.int p6), .val (.int (0 : Int32)), .val (.int (2 : Int32)), .val (.ref b1)] [(.ref b1)])
      refine OwnGo.iconst X28 hx (z := (1 : Int32)) (hb hby at_99) (by decide) ?_
      show Go p e below _ T28 (mkF m 100 #[.val (.int p1), .val (.int p2), .val (.int p3), .val (.int p4), .val (.int p5), .val (.int p6), .val (.int (0 : Int32)), .val (.int (2 : Int32)), .val (.ref b1)] [(.int (1 : Int32)), (.ref b1)])
      refine OwnGo.callV X28 hx hZ hown (y := (⟨"com/example/sibling/sibling/xpath/IntColumn", "get", "(I)I"⟩ : MethodName)) (z := (⟨"com/example/sibling/sibling/xpath/IntColumn", "get", "(I)I"⟩ : MethodName)) (hw _ (List.mem_of_getElem? (i := 61) rfl)) (hw _ (List.mem_of_getElem? (i := 62) rfl)) (notFace_of_selects (args := #[]) (mvT hZ (hw _ (List.mem_of_getElem? (i := 64) rfl)))) (hw _ (List.mem_of_getElem? (i := 64) rfl)) (hw _ (List.mem_of_getElem? (i := 63) rfl)) (hw _ (List.mem_of_getElem? (i := 2) rfl)) (hw _ (List.mem_of_getElem? (i := 65) rfl)) (by decide) e28 Ek25 (as := [(.int (1 : Int32))]) (rmGET1 l Z a0 hw b1 r kr p5 p2 p6 T25.heap Fk25 V25) (W := 0) (by decide) (by decide) (by decide) (by decide) (by rw [hml]; rfl) (lenOf own_pd7 rfl) (rest := []) rfl rfl (hb hby at_100) fun v29 T29 L29 X29 q29 => ?_
      obtain ⟨rfl, e29, rfl⟩ := q29
      rw [List.append_nil] at X29
      show Go p e below _ T29 (mkF m 103 #[.val (.int p1), .val (.int p2), .val (.int p3), .val (.int p4), .val (.int p5), .val (.int p6), .val (.int (0 : Int32)), .val (.int (2 : Int32)), .val (.ref b1)] [(.int p2)])
      refine OwnGo.iconst X29 hx (z := (1 : Int32)) (hb hby at_103) (by decide) ?_
      show Go p e below _ T29 (mkF m 104 #[.val (.int p1), .val (.int p2), .val (.int p3), .val (.int p4), .val (.int p5), .val (.int p6), .val (.int (0 : Int32)), .val (.int (2 : Int32)), .val (.ref b1)] [(.int (1 : Int32)), (.int p2)])
      refine OwnGo.iload X29 hx (hb hby at_104) rfl ?_
      show Go p e below _ T29 (mkF m 106 #[.val (.int p1), .val (.int p2), .val (.int p3), .val (.int p4), .val (.int p5), .val (.int p6), .val (.int (0 : Int32)), .val (.int (2 : Int32)), .val (.ref b1)] [(.int (0 : Int32)), (.int (1 : Int32)), (.int p2)])
      refine OwnGo.iload X29 hx (hb hby at_106) rfl ?_
      show Go p e below _ T29 (mkF m 108 #[.val (.int p1), .val (.int p2), .val (.int p3), .val (.int p4), .val (.int p5), .val (.int p6), .val (.int (0 : Int32)), .val (.int (2 : Int32)), .val (.ref b1)] [(.int (2 : Int32)), (.int (0 : Int32)), (.int (1 : Int32)), (.int p2)])
      refine OwnGo.iloadN X29 hx (hb hby at_108) rfl ?_
      show Go p e below _ T29 (mkF m 109 #[.val (.int p1), .val (.int p2), .val (.int p3), .val (.int p4), .val (.int p5), .val (.int p6), .val (.int (0 : Int32)), .val (.int (2 : Int32)), .val (.ref b1)] [(.int p2), (.int (2 : Int32)), (.int (0 : Int32)), (.int (1 : Int32)), (.int p2)])
      refine OwnGo.iload X29 hx (hb hby at_109) rfl ?_
      show Go p e below _ T29 (mkF m 111 #[.val (.int p1), .val (.int p2), .val (.int p3), .val (.int p4), .val (.int p5), .val (.int p6), .val (.int (0 : Int32)), .val (.int (2 : Int32)), .val (.ref b1)] [(.int p5), (.int p2), (.int (2 : Int32)), (.int (0 : Int32)), (.int (1 : Int32)), (.int p2)])
      refine OwnGo.iload X29 hx (hb hby at_111) rfl ?_
      show Go p e below _ T29 (mkF m 113 #[.val (.int p1), .val (.int p2), .val (.int p3), .val (.int p4), .val (.int p5), .val (.int p6), .val (.int (0 : Int32)), .val (.int (2 : Int32)), .val (.ref b1)] [(.int p6), (.int p5), (.int p2), (.int (2 : Int32)), (.int (0 : Int32)), (.int (1 : Int32)), (.int p2)])
      refine OwnGo.callS X29 hx hZ hown (y := (⟨"com/example/sibling/sibling/xpath/IntColumnSetPinLaw", "expected", "(IIIIII)I"⟩ : MethodName)) (hw _ (List.mem_of_getElem? (i := 66) rfl)) (hw _ (List.mem_of_getElem? (i := 67) rfl)) (hw _ (List.mem_of_getElem? (i := 68) rfl)) (hw _ (List.mem_of_getElem? (i := 69) rfl)) (by decide) e29 (as := [(.int (1 : Int32)), (.int (0 : Int32)), (.int (2 : Int32)), (.int p2), (.int p5), (.int p6)]) (rmE l Z a0 hw (1 : Int32) (0 : Int32) (2 : Int32) p2 p5 p6 p2 T25.heap (by simp [own_exp])) (W := 1) (by decide) (by decide) (by decide) (by decide) (by rw [hml]; rfl) (lenOf own_pd8 rfl) (rest := [(.int p2)]) rfl rfl (hb hby at_113) fun v30 T30 L30 X30 q30 => ?_
      obtain ⟨rfl, e30, rfl⟩ := q30
      rw [List.append_nil] at X30
      show Go p e below _ T30 (mkF m 116 #[.val (.int p1), .val (.int p2), .val (.int p3), .val (.int p4), .val (.int p5), .val (.int p6), .val (.int (0 : Int32)), .val (.int (2 : Int32)), .val (.ref b1)] [(.int p2), (.int p2)])
      refine OwnGo.ic_ne X30 hx (pc' := 145) (hb hby at_116) (by decide) (by decide) (fun q => absurd rfl q) (fun _ => ?_)
      show Go p e below _ T30 (mkF m 119 #[.val (.int p1), .val (.int p2), .val (.int p3), .val (.int p4), .val (.int p5), .val (.int p6), .val (.int (0 : Int32)), .val (.int (2 : Int32)), .val (.ref b1)] [])
      refine OwnGo.aload X30 hx (hb hby at_119) rfl rfl ?_
      show Go p e below _ T30 (mkF m 121 #[.val (.int p1), .val (.int p2), .val (.int p3), .val (.int p4), .val (.int p5), .val (.int p6), .val (.int (0 : Int32)), .val (.int (2 : Int32)), .val (.ref b1)] [(.ref b1)])
      refine OwnGo.iconst X30 hx (z := (2 : Int32)) (hb hby at_121) (by decide) ?_
      show Go p e below _ T30 (mkF m 122 #[.val (.int p1), .val (.int p2), .val (.int p3), .val (.int p4), .val (.int p5), .val (.int p6), .val (.int (0 : Int32)), .val (.int (2 : Int32)), .val (.ref b1)] [(.int (2 : Int32)), (.ref b1)])
      refine OwnGo.callV X30 hx hZ hown (y := (⟨"com/example/sibling/sibling/xpath/IntColumn", "get", "(I)I"⟩ : MethodName)) (z := (⟨"com/example/sibling/sibling/xpath/IntColumn", "get", "(I)I"⟩ : MethodName)) (hw _ (List.mem_of_getElem? (i := 61) rfl)) (hw _ (List.mem_of_getElem? (i := 62) rfl)) (notFace_of_selects (args := #[]) (mvT hZ (hw _ (List.mem_of_getElem? (i := 64) rfl)))) (hw _ (List.mem_of_getElem? (i := 64) rfl)) (hw _ (List.mem_of_getElem? (i := 63) rfl)) (hw _ (List.mem_of_getElem? (i := 2) rfl)) (hw _ (List.mem_of_getElem? (i := 65) rfl)) (by decide) e30 Ek25 (as := [(.int (2 : Int32))]) (rmGET2 l Z a0 hw b1 r kr p5 p2 p6 T25.heap Fk25 V25) (W := 0) (by decide) (by decide) (by decide) (by decide) (by rw [hml]; rfl) (lenOf own_pd7 rfl) (rest := []) rfl rfl (hb hby at_122) fun v31 T31 L31 X31 q31 => ?_
      obtain ⟨rfl, e31, rfl⟩ := q31
      rw [List.append_nil] at X31
      show Go p e below _ T31 (mkF m 125 #[.val (.int p1), .val (.int p2), .val (.int p3), .val (.int p4), .val (.int p5), .val (.int p6), .val (.int (0 : Int32)), .val (.int (2 : Int32)), .val (.ref b1)] [(.int p6)])
      refine OwnGo.iconst X31 hx (z := (2 : Int32)) (hb hby at_125) (by decide) ?_
      show Go p e below _ T31 (mkF m 126 #[.val (.int p1), .val (.int p2), .val (.int p3), .val (.int p4), .val (.int p5), .val (.int p6), .val (.int (0 : Int32)), .val (.int (2 : Int32)), .val (.ref b1)] [(.int (2 : Int32)), (.int p6)])
      refine OwnGo.iload X31 hx (hb hby at_126) rfl ?_
      show Go p e below _ T31 (mkF m 128 #[.val (.int p1), .val (.int p2), .val (.int p3), .val (.int p4), .val (.int p5), .val (.int p6), .val (.int (0 : Int32)), .val (.int (2 : Int32)), .val (.ref b1)] [(.int (0 : Int32)), (.int (2 : Int32)), (.int p6)])
      refine OwnGo.iload X31 hx (hb hby at_128) rfl ?_
      show Go p e below _ T31 (mkF m 130 #[.val (.int p1), .val (.int p2), .val (.int p3), .val (.int p4), .val (.int p5), .val (.int p6), .val (.int (0 : Int32)), .val (.int (2 : Int32)), .val (.ref b1)] [(.int (2 : Int32)), (.int (0 : Int32)), (.int (2 : Int32)), (.int p6)])
      refine OwnGo.iloadN X31 hx (hb hby at_130) rfl ?_
      show Go p e below _ T31 (mkF m 131 #[.val (.int p1), .val (.int p2), .val (.int p3), .val (.int p4), .val (.int p5), .val (.int p6), .val (.int (0 : Int32)), .val (.int (2 : Int32)), .val (.ref b1)] [(.int p3), (.int (2 : Int32)), (.int (0 : Int32)), (.int (2 : Int32)), (.int p6)])
      refine OwnGo.iload X31 hx (hb hby at_131) rfl ?_
      show Go p e below _ T31 (mkF m 133 #[.val (.int p1), .val (.int p2), .val (.int p3), .val (.int p4), .val (.int p5), .val (.int p6), .val (.int (0 : Int32)), .val (.int (2 : Int32)), .val (.ref b1)] [(.int p5), (.int p3), (.int (2 : Int32)), (.int (0 : Int32)), (.int (2 : Int32)), (.int p6)])
      refine OwnGo.iload X31 hx (hb hby at_133) rfl ?_
      show Go p e below _ T31 (mkF m 135 #[.val (.int p1), .val (.int p2), .val (.int p3), .val (.int p4), .val (.int p5), .val (.int p6), .val (.int (0 : Int32)), .val (.int (2 : Int32)), .val (.ref b1)] [(.int p6), (.int p5), (.int p3), (.int (2 : Int32)), (.int (0 : Int32)), (.int (2 : Int32)), (.int p6)])
      refine OwnGo.callS X31 hx hZ hown (y := (⟨"com/example/sibling/sibling/xpath/IntColumnSetPinLaw", "expected", "(IIIIII)I"⟩ : MethodName)) (hw _ (List.mem_of_getElem? (i := 66) rfl)) (hw _ (List.mem_of_getElem? (i := 67) rfl)) (hw _ (List.mem_of_getElem? (i := 68) rfl)) (hw _ (List.mem_of_getElem? (i := 69) rfl)) (by decide) e31 (as := [(.int (2 : Int32)), (.int (0 : Int32)), (.int (2 : Int32)), (.int p3), (.int p5), (.int p6)]) (rmE l Z a0 hw (2 : Int32) (0 : Int32) (2 : Int32) p3 p5 p6 p6 T25.heap (by simp [own_exp])) (W := 1) (by decide) (by decide) (by decide) (by decide) (by rw [hml]; rfl) (lenOf own_pd8 rfl) (rest := [(.int p6)]) rfl rfl (hb hby at_135) fun v32 T32 L32 X32 q32 => ?_
      obtain ⟨rfl, e32, rfl⟩ := q32
      rw [List.append_nil] at X32
      show Go p e below _ T32 (mkF m 138 #[.val (.int p1), .val (.int p2), .val (.int p3), .val (.int p4), .val (.int p5), .val (.int p6), .val (.int (0 : Int32)), .val (.int (2 : Int32)), .val (.ref b1)] [(.int p6), (.int p6)])
      refine OwnGo.ic_ne X32 hx (pc' := 145) (hb hby at_138) (by decide) (by decide) (fun q => absurd rfl q) (fun _ => ?_)
      show Go p e below _ T32 (mkF m 141 #[.val (.int p1), .val (.int p2), .val (.int p3), .val (.int p4), .val (.int p5), .val (.int p6), .val (.int (0 : Int32)), .val (.int (2 : Int32)), .val (.ref b1)] [])
      refine OwnGo.iconst X32 hx (z := (1 : Int32)) (hb hby at_141) (by decide) ?_
      show Go p e below _ T32 (mkF m 142 #[.val (.int p1), .val (.int p2), .val (.int p3), .val (.int p4), .val (.int p5), .val (.int p6), .val (.int (0 : Int32)), .val (.int (2 : Int32)), .val (.ref b1)] [(.int (1 : Int32))])
      refine OwnGo.goto X32 hx (pc' := 146) (hb hby at_142) (by decide) (by decide) ?_
      show Go p e below _ T32 (mkF m 146 #[.val (.int p1), .val (.int p2), .val (.int p3), .val (.int p4), .val (.int p5), .val (.int p6), .val (.int (0 : Int32)), .val (.int (2 : Int32)), .val (.ref b1)] [(.int (1 : Int32))])
      exact OwnGo.retB X32 hx hlk (z' := (1 : Int32)) hret (hb hby at_146) rfl ⟨rfl, (Fr.app (Fr.app (Fr.app (Fr.app (Fr.app (Fr.app (Fr.nil n0) N2) N3) N4) N5) N24) N25)⟩ (by decide) (by decide)
  ·
    rw [hi]
    rcases own_three ((p4.toUInt32 >>> ((8 : Int32) &&& 31).toUInt32).toInt32) with hj | hj | hj
    ·
      rw [hj]
      show Go p e below _ T5 (mkF m 48 #[.val (.int p1), .val (.int p2), .val (.int p3), .val (.int p4), .val (.int p5), .val (.int p6), .val (.int (1 : Int32)), .val (.int (0 : Int32)), .val (.ref b1)] [])
      refine OwnGo.aload X5 hx (hb hby at_48) rfl rfl ?_
      show Go p e below _ T5 (mkF m 50 #[.val (.int p1), .val (.int p2), .val (.int p3), .val (.int p4), .val (.int p5), .val (.int p6), .val (.int (1 : Int32)), .val (.int (0 : Int32)), .val (.ref b1)] [(.ref b1)])
      refine OwnGo.iload X5 hx (hb hby at_50) rfl ?_
      show Go p e below _ T5 (mkF m 52 #[.val (.int p1), .val (.int p2), .val (.int p3), .val (.int p4), .val (.int p5), .val (.int p6), .val (.int (1 : Int32)), .val (.int (0 : Int32)), .val (.ref b1)] [(.int (1 : Int32)), (.ref b1)])
      refine OwnGo.iload X5 hx (hb hby at_52) rfl ?_
      show Go p e below _ T5 (mkF m 54 #[.val (.int p1), .val (.int p2), .val (.int p3), .val (.int p4), .val (.int p5), .val (.int p6), .val (.int (1 : Int32)), .val (.int (0 : Int32)), .val (.ref b1)] [(.int p5), (.int (1 : Int32)), (.ref b1)])
      refine OwnGo.callV X5 hx hZ hown (y := (⟨"com/example/sibling/sibling/xpath/IntColumn", "set", "(II)V"⟩ : MethodName)) (z := (⟨"com/example/sibling/sibling/xpath/IntColumn", "set", "(II)V"⟩ : MethodName)) (hw _ (List.mem_of_getElem? (i := 51) rfl)) (hw _ (List.mem_of_getElem? (i := 52) rfl)) (notFace_of_selects (args := #[]) (mvT hZ (hw _ (List.mem_of_getElem? (i := 54) rfl)))) (hw _ (List.mem_of_getElem? (i := 54) rfl)) (hw _ (List.mem_of_getElem? (i := 53) rfl)) (hw _ (List.mem_of_getElem? (i := 2) rfl)) (hw _ (List.mem_of_getElem? (i := 55) rfl)) (by decide) rfl E5 (as := [(.int (1 : Int32)), (.int p5)]) (rmSET1 l Z a0 hw b1 r kr p1 p2 p3 p5 T5.heap n0 Zs5 gr F5_first V5 nbr) (W := 0) (by decide) (by decide) (by decide) (by decide) (by rw [hml]; rfl) (lenOf own_pd5 rfl) (rest := []) rfl rfl (hb hby at_54) fun v33 T33 L33 X33 q33 => ?_
      obtain ⟨rfl, N33, K33, V33⟩ := q33
      have Fk33 := F5_first.keep K33 (ninS nbr nin0)
      have Fz33 := F5_size.keep K33 (ninS nbr nin0)
      have Ek33 := E5.keep K33
      have Zs33 := Nat.le_trans Zs5 K33.1
      show Go p e below _ T33 (mkF m 57 #[.val (.int p1), .val (.int p2), .val (.int p3), .val (.int p4), .val (.int p5), .val (.int p6), .val (.int (1 : Int32)), .val (.int (0 : Int32)), .val (.ref b1)] [])
      refine OwnGo.aload X33 hx (hb hby at_57) rfl rfl ?_
      show Go p e below _ T33 (mkF m 59 #[.val (.int p1), .val (.int p2), .val (.int p3), .val (.int p4), .val (.int p5), .val (.int p6), .val (.int (1 : Int32)), .val (.int (0 : Int32)), .val (.ref b1)] [(.ref b1)])
      refine OwnGo.iload X33 hx (hb hby at_59) rfl ?_
      show Go p e below _ T33 (mkF m 61 #[.val (.int p1), .val (.int p2), .val (.int p3), .val (.int p4), .val (.int p5), .val (.int p6), .val (.int (1 : Int32)), .val (.int (0 : Int32)), .val (.ref b1)] [(.int (0 : Int32)), (.ref b1)])
      refine OwnGo.iload X33 hx (hb hby at_61) rfl ?_
      show Go p e below _ T33 (mkF m 63 #[.val (.int p1), .val (.int p2), .val (.int p3), .val (.int p4), .val (.int p5), .val (.int p6), .val (.int (1 : Int32)), .val (.int (0 : Int32)), .val (.ref b1)] [(.int p6), (.int (0 : Int32)), (.ref b1)])
      refine OwnGo.callV X33 hx hZ hown (y := (⟨"com/example/sibling/sibling/xpath/IntColumn", "set", "(II)V"⟩ : MethodName)) (z := (⟨"com/example/sibling/sibling/xpath/IntColumn", "set", "(II)V"⟩ : MethodName)) (hw _ (List.mem_of_getElem? (i := 51) rfl)) (hw _ (List.mem_of_getElem? (i := 52) rfl)) (notFace_of_selects (args := #[]) (mvT hZ (hw _ (List.mem_of_getElem? (i := 54) rfl)))) (hw _ (List.mem_of_getElem? (i := 54) rfl)) (hw _ (List.mem_of_getElem? (i := 53) rfl)) (hw _ (List.mem_of_getElem? (i := 2) rfl)) (hw _ (List.mem_of_getElem? (i := 55) rfl)) (by decide) rfl Ek33 (as := [(.int (0 : Int32)), (.int p6)]) (rmSET0 l Z a0 hw b1 r kr p1 p5 p3 p6 T33.heap n0 Zs33 gr Fk33 V33 nbr) (W := 0) (by decide) (by decide) (by decide) (by decide) (by rw [hml]; rfl) (lenOf own_pd5 rfl) (rest := []) rfl rfl (hb hby at_63) fun v34 T34 L34 X34 q34 => ?_
      obtain ⟨rfl, N34, K34, V34⟩ := q34
      have Fk34 := Fk33.keep K34 (ninS nbr nin0)
      have Fz34 := Fz33.keep K34 (ninS nbr nin0)
      have Ek34 := Ek33.keep K34
      have Zs34 := Nat.le_trans Zs33 K34.1
      show Go p e below _ T34 (mkF m 66 #[.val (.int p1), .val (.int p2), .val (.int p3), .val (.int p4), .val (.int p5), .val (.int p6), .val (.int (1 : Int32)), .val (.int (0 : Int32)), .val (.ref b1)] [])
      refine OwnGo.aload X34 hx (hb hby at_66) rfl rfl ?_
      show Go p e below _ T34 (mkF m 68 #[.val (.int p1), .val (.int p2), .val (.int p3), .val (.int p4), .val (.int p5), .val (.int p6), .val (.int (1 : Int32)), .val (.int (0 : Int32)), .val (.ref b1)] [(.ref b1)])
      refine OwnGo.callV X34 hx hZ hown (y := (⟨"com/example/sibling/sibling/xpath/IntColumn", "size", "()I"⟩ : MethodName)) (z := (⟨"com/example/sibling/sibling/xpath/IntColumn", "size", "()I"⟩ : MethodName)) (hw _ (List.mem_of_getElem? (i := 56) rfl)) (hw _ (List.mem_of_getElem? (i := 57) rfl)) (notFace_of_selects (args := #[]) (mvT hZ (hw _ (List.mem_of_getElem? (i := 59) rfl)))) (hw _ (List.mem_of_getElem? (i := 59) rfl)) (hw _ (List.mem_of_getElem? (i := 58) rfl)) (hw _ (List.mem_of_getElem? (i := 2) rfl)) (hw _ (List.mem_of_getElem? (i := 60) rfl)) (by decide) rfl Ek34 (as := []) (rmSIZ l Z a0 hw b1 (3 : Int32) T34.heap Fz34) (W := 0) (by decide) (by decide) (by decide) (by decide) (by rw [hml]; rfl) (lenOf own_pd6 rfl) (rest := []) rfl rfl (hb hby at_68) fun v35 T35 L35 X35 q35 => ?_
      obtain ⟨rfl, e35, rfl⟩ := q35
      rw [List.append_nil] at X35
      show Go p e below _ T35 (mkF m 71 #[.val (.int p1), .val (.int p2), .val (.int p3), .val (.int p4), .val (.int p5), .val (.int p6), .val (.int (1 : Int32)), .val (.int (0 : Int32)), .val (.ref b1)] [(.int (3 : Int32))])
      refine OwnGo.iconst X35 hx (z := (3 : Int32)) (hb hby at_71) (by decide) ?_
      show Go p e below _ T35 (mkF m 72 #[.val (.int p1), .val (.int p2), .val (.int p3), .val (.int p4), .val (.int p5), .val (.int p6), .val (.int (1 : Int32)), .val (.int (0 : Int32)), .val (.ref b1)] [(.int (3 : Int32)), (.int (3 : Int32))])
      refine OwnGo.ic_ne X35 hx (pc' := 145) (hb hby at_72) (by decide) (by decide) (fun q => absurd q (by decide)) (fun _ => ?_)
      show Go p e below _ T35 (mkF m 75 #[.val (.int p1), .val (.int p2), .val (.int p3), .val (.int p4), .val (.int p5), .val (.int p6), .val (.int (1 : Int32)), .val (.int (0 : Int32)), .val (.ref b1)] [])
      refine OwnGo.aload X35 hx (hb hby at_75) rfl rfl ?_
      show Go p e below _ T35 (mkF m 77 #[.val (.int p1), .val (.int p2), .val (.int p3), .val (.int p4), .val (.int p5), .val (.int p6), .val (.int (1 : Int32)), .val (.int (0 : Int32)), .val (.ref b1)] [(.ref b1)])
      refine OwnGo.iconst X35 hx (z := (0 : Int32)) (hb hby at_77) (by decide) ?_
      show Go p e below _ T35 (mkF m 78 #[.val (.int p1), .val (.int p2), .val (.int p3), .val (.int p4), .val (.int p5), .val (.int p6), .val (.int (1 : Int32)), .val (.int (0 : Int32)), .val (.ref b1)] [(.int (0 : Int32)), (.ref b1)])
      refine OwnGo.callV X35 hx hZ hown (y := (⟨"com/example/sibling/sibling/xpath/IntColumn", "get", "(I)I"⟩ : MethodName)) (z := (⟨"com/example/sibling/sibling/xpath/IntColumn", "get", "(I)I"⟩ : MethodName)) (hw _ (List.mem_of_getElem? (i := 61) rfl)) (hw _ (List.mem_of_getElem? (i := 62) rfl)) (notFace_of_selects (args := #[]) (mvT hZ (hw _ (List.mem_of_getElem? (i := 64) rfl)))) (hw _ (List.mem_of_getElem? (i := 64) rfl)) (hw _ (List.mem_of_getElem? (i := 63) rfl)) (hw _ (List.mem_of_getElem? (i := 2) rfl)) (hw _ (List.mem_of_getElem? (i := 65) rfl)) (by decide) e35 Ek34 (as := [(.int (0 : Int32))]) (rmGET0 l Z a0 hw b1 r kr p6 p5 p3 T34.heap Fk34 V34) (W := 0) (by decide) (by decide) (by decide) (by decide) (by rw [hml]; rfl) (lenOf own_pd7 rfl) (rest := []) rfl rfl (hb hby at_78) fun v36 T36 L36 X36 q36 => ?_
      obtain ⟨rfl, e36, rfl⟩ := q36
      rw [List.append_nil] at X36
      show Go p e below _ T36 (mkF m 81 #[.val (.int p1), .val (.int p2), .val (.int p3), .val (.int p4), .val (.int p5), .val (.int p6), .val (.int (1 : Int32)), .val (.int (0 : Int32)), .val (.ref b1)] [(.int p6)])
      refine OwnGo.iconst X36 hx (z := (0 : Int32)) (hb hby at_81) (by decide) ?_
      show Go p e below _ T36 (mkF m 82 #[.val (.int p1), .val (.int p2), .val (.int p3), .val (.int p4), .val (.int p5), .val (.int p6), .val (.int (1 : Int32)), .val (.int (0 : Int32)), .val (.ref b1)] [(.int (0 : Int32)), (.int p6)])
      refine OwnGo.iload X36 hx (hb hby at_82) rfl ?_
      show Go p e below _ T36 (mkF m 84 #[.val (.int p1), .val (.int p2), .val (.int p3), .val (.int p4), .val (.int p5), .val (.int p6), .val (.int (1 : Int32)), .val (.int (0 : Int32)), .val (.ref b1)] [(.int (1 : Int32)), (.int (0 : Int32)), (.int p6)])
      refine OwnGo.iload X36 hx (hb hby at_84) rfl ?_
      show Go p e below _ T36 (mkF m 86 #[.val (.int p1), .val (.int p2), .val (.int p3), .val (.int p4), .val (.int p5), .val (.int p6), .val (.int (1 : Int32)), .val (.int (0 : Int32)), .val (.ref b1)] [(.int (0 : Int32)), (.int (1 : Int32)), (.int (0 : Int32)), (.int p6)])
      refine OwnGo.iloadN X36 hx (hb hby at_86) rfl ?_
      show Go p e below _ T36 (mkF m 87 #[.val (.int p1), .val (.int p2), .val (.int p3), .val (.int p4), .val (.int p5), .val (.int p6), .val (.int (1 : Int32)), .val (.int (0 : Int32)), .val (.ref b1)] [(.int p1), (.int (0 : Int32)), (.int (1 : Int32)), (.int (0 : Int32)), (.int p6)])
      refine OwnGo.iload X36 hx (hb hby at_87) rfl ?_
      show Go p e below _ T36 (mkF m 89 #[.val (.int p1), .val (.int p2), .val (.int p3), .val (.int p4), .val (.int p5), .val (.int p6), .val (.int (1 : Int32)), .val (.int (0 : Int32)), .val (.ref b1)] [(.int p5), (.int p1), (.int (0 : Int32)), (.int (1 : Int32)), (.int (0 : Int32)), (.int p6)])
      refine OwnGo.iload X36 hx (hb hby at_89) rfl ?_
      show Go p e below _ T36 (mkF m 91 #[.val (.int p1), .val (.int p2), .val (.int p3), .val (.int p4), .val (.int p5), .val (.int p6), .val (.int (1 : Int32)), .val (.int (0 : Int32)), .val (.ref b1)] [(.int p6), (.int p5), (.int p1), (.int (0 : Int32)), (.int (1 : Int32)), (.int (0 : Int32)), (.int p6)])
      refine OwnGo.callS X36 hx hZ hown (y := (⟨"com/example/sibling/sibling/xpath/IntColumnSetPinLaw", "expected", "(IIIIII)I"⟩ : MethodName)) (hw _ (List.mem_of_getElem? (i := 66) rfl)) (hw _ (List.mem_of_getElem? (i := 67) rfl)) (hw _ (List.mem_of_getElem? (i := 68) rfl)) (hw _ (List.mem_of_getElem? (i := 69) rfl)) (by decide) e36 (as := [(.int (0 : Int32)), (.int (1 : Int32)), (.int (0 : Int32)), (.int p1), (.int p5), (.int p6)]) (rmE l Z a0 hw (0 : Int32) (1 : Int32) (0 : Int32) p1 p5 p6 p6 T34.heap (by simp [own_exp])) (W := 1) (by decide) (by decide) (by decide) (by decide) (by rw [hml]; rfl) (lenOf own_pd8 rfl) (rest := [(.int p6)]) rfl rfl (hb hby at_91) fun v37 T37 L37 X37 q37 => ?_
      obtain ⟨rfl, e37, rfl⟩ := q37
      rw [List.append_nil] at X37
      show Go p e below _ T37 (mkF m 94 #[.val (.int p1), .val (.int p2), .val (.int p3), .val (.int p4), .val (.int p5), .val (.int p6), .val (.int (1 : Int32)), .val (.int (0 : Int32)), .val (.ref b1)] [(.int p6), (.int p6)])
      refine OwnGo.ic_ne X37 hx (pc' := 145) (hb hby at_94) (by decide) (by decide) (fun q => absurd rfl q) (fun _ => ?_)
      show Go p e below _ T37 (mkF m 97 #[.val (.int p1), .val (.int p2), .val (.int p3), .val (.int p4), .val (.int p5), .val (.int p6), .val (.int (1 : Int32)), .val (.int (0 : Int32)), .val (.ref b1)] [])
      refine OwnGo.aload X37 hx (hb hby at_97) rfl rfl ?_
      show Go p e below _ T37 (mkF m 99 #[.val (.int p1), .val (.int p2), .val (.int p3), .val (.int p4), .val (.int p5), .val (.int p6), .val (.int (1 : Int32)), .val (.int (0 : Int32)), .val (.ref b1)] [(.ref b1)])
      refine OwnGo.iconst X37 hx (z := (1 : Int32)) (hb hby at_99) (by decide) ?_
      show Go p e below _ T37 (mkF m 100 #[.val (.int p1), .val (.int p2), .val (.int p3), .val (.int p4), .val (.int p5), .val (.int p6), .val (.int (1 : Int32)), .val (.int (0 : Int32)), .val (.ref b1)] [(.int (1 : Int32)), (.ref b1)])
      refine OwnGo.callV X37 hx hZ hown (y := (⟨"com/example/sibling/sibling/xpath/IntColumn", "get", "(I)I"⟩ : MethodName)) (z := (⟨"com/example/sibling/sibling/xpath/IntColumn", "get", "(I)I"⟩ : MethodName)) (hw _ (List.mem_of_getElem? (i := 61) rfl)) (hw _ (List.mem_of_getElem? (i := 62) rfl)) (notFace_of_selects (args := #[]) (mvT hZ (hw _ (List.mem_of_getElem? (i := 64) rfl)))) (hw _ (List.mem_of_getElem? (i := 64) rfl)) (hw _ (List.mem_of_getElem? (i := 63) rfl)) (hw _ (List.mem_of_getElem? (i := 2) rfl)) (hw _ (List.mem_of_getElem? (i := 65) rfl)) (by decide) e37 Ek34 (as := [(.int (1 : Int32))]) (rmGET1 l Z a0 hw b1 r kr p6 p5 p3 T34.heap Fk34 V34) (W := 0) (by decide) (by decide) (by decide) (by decide) (by rw [hml]; rfl) (lenOf own_pd7 rfl) (rest := []) rfl rfl (hb hby at_100) fun v38 T38 L38 X38 q38 => ?_
      obtain ⟨rfl, e38, rfl⟩ := q38
      rw [List.append_nil] at X38
      show Go p e below _ T38 (mkF m 103 #[.val (.int p1), .val (.int p2), .val (.int p3), .val (.int p4), .val (.int p5), .val (.int p6), .val (.int (1 : Int32)), .val (.int (0 : Int32)), .val (.ref b1)] [(.int p5)])
      refine OwnGo.iconst X38 hx (z := (1 : Int32)) (hb hby at_103) (by decide) ?_
      show Go p e below _ T38 (mkF m 104 #[.val (.int p1), .val (.int p2), .val (.int p3), .val (.int p4), .val (.int p5), .val (.int p6), .val (.int (1 : Int32)), .val (.int (0 : Int32)), .val (.ref b1)] [(.int (1 : Int32)), (.int p5)])
      refine OwnGo.iload X38 hx (hb hby at_104) rfl ?_
      show Go p e below _ T38 (mkF m 106 #[.val (.int p1), .val (.int p2), .val (.int p3), .val (.int p4), .val (.int p5), .val (.int p6), .val (.int (1 : Int32)), .val (.int (0 : Int32)), .val (.ref b1)] [(.int (1 : Int32)), (.int (1 : Int32)), (.int p5)])
      refine OwnGo.iload X38 hx (hb hby at_106) rfl ?_
      show Go p e below _ T38 (mkF m 108 #[.val (.int p1), .val (.int p2), .val (.int p3), .val (.int p4), .val (.int p5), .val (.int p6), .val (.int (1 : Int32)), .val (.int (0 : Int32)), .val (.ref b1)] [(.int (0 : Int32)), (.int (1 : Int32)), (.int (1 : Int32)), (.int p5)])
      refine OwnGo.iloadN X38 hx (hb hby at_108) rfl ?_
      show Go p e below _ T38 (mkF m 109 #[.val (.int p1), .val (.int p2), .val (.int p3), .val (.int p4), .val (.int p5), .val (.int p6), .val (.int (1 : Int32)), .val (.int (0 : Int32)), .val (.ref b1)] [(.int p2), (.int (0 : Int32)), (.int (1 : Int32)), (.int (1 : Int32)), (.int p5)])
      refine OwnGo.iload X38 hx (hb hby at_109) rfl ?_
      show Go p e below _ T38 (mkF m 111 #[.val (.int p1), .val (.int p2), .val (.int p3), .val (.int p4), .val (.int p5), .val (.int p6), .val (.int (1 : Int32)), .val (.int (0 : Int32)), .val (.ref b1)] [(.int p5), (.int p2), (.int (0 : Int32)), (.int (1 : Int32)), (.int (1 : Int32)), (.int p5)])
      refine OwnGo.iload X38 hx (hb hby at_111) rfl ?_
      show Go p e below _ T38 (mkF m 113 #[.val (.int p1), .val (.int p2), .val (.int p3), .val (.int p4), .val (.int p5), .val (.int p6), .val (.int (1 : Int32)), .val (.int (0 : Int32)), .val (.ref b1)] [(.int p6), (.int p5), (.int p2), (.int (0 : Int32)), (.int (1 : Int32)), (.int (1 : Int32)), (.int p5)])
      refine OwnGo.callS X38 hx hZ hown (y := (⟨"com/example/sibling/sibling/xpath/IntColumnSetPinLaw", "expected", "(IIIIII)I"⟩ : MethodName)) (hw _ (List.mem_of_getElem? (i := 66) rfl)) (hw _ (List.mem_of_getElem? (i := 67) rfl)) (hw _ (List.mem_of_getElem? (i := 68) rfl)) (hw _ (List.mem_of_getElem? (i := 69) rfl)) (by decide) e38 (as := [(.int (1 : Int32)), (.int (1 : Int32)), (.int (0 : Int32)), (.int p2), (.int p5), (.int p6)]) (rmE l Z a0 hw (1 : Int32) (1 : Int32) (0 : Int32) p2 p5 p6 p5 T34.heap (by simp [own_exp])) (W := 1) (by decide) (by decide) (by decide) (by decide) (by rw [hml]; rfl) (lenOf own_pd8 rfl) (rest := [(.int p5)]) rfl rfl (hb hby at_113) fun v39 T39 L39 X39 q39 => ?_
      obtain ⟨rfl, e39, rfl⟩ := q39
      rw [List.append_nil] at X39
      show Go p e below _ T39 (mkF m 116 #[.val (.int p1), .val (.int p2), .val (.int p3), .val (.int p4), .val (.int p5), .val (.int p6), .val (.int (1 : Int32)), .val (.int (0 : Int32)), .val (.ref b1)] [(.int p5), (.int p5)])
      refine OwnGo.ic_ne X39 hx (pc' := 145) (hb hby at_116) (by decide) (by decide) (fun q => absurd rfl q) (fun _ => ?_)
      show Go p e below _ T39 (mkF m 119 #[.val (.int p1), .val (.int p2), .val (.int p3), .val (.int p4), .val (.int p5), .val (.int p6), .val (.int (1 : Int32)), .val (.int (0 : Int32)), .val (.ref b1)] [])
      refine OwnGo.aload X39 hx (hb hby at_119) rfl rfl ?_
      show Go p e below _ T39 (mkF m 121 #[.val (.int p1), .val (.int p2), .val (.int p3), .val (.int p4), .val (.int p5), .val (.int p6), .val (.int (1 : Int32)), .val (.int (0 : Int32)), .val (.ref b1)] [(.ref b1)])
      refine OwnGo.iconst X39 hx (z := (2 : Int32)) (hb hby at_121) (by decide) ?_
      show Go p e below _ T39 (mkF m 122 #[.val (.int p1), .val (.int p2), .val (.int p3), .val (.int p4), .val (.int p5), .val (.int p6), .val (.int (1 : Int32)), .val (.int (0 : Int32)), .val (.ref b1)] [(.int (2 : Int32)), (.ref b1)])
      refine OwnGo.callV X39 hx hZ hown (y := (⟨"com/example/sibling/sibling/xpath/IntColumn", "get", "(I)I"⟩ : MethodName)) (z := (⟨"com/example/sibling/sibling/xpath/IntColumn", "get", "(I)I"⟩ : MethodName)) (hw _ (List.mem_of_getElem? (i := 61) rfl)) (hw _ (List.mem_of_getElem? (i := 62) rfl)) (notFace_of_selects (args := #[]) (mvT hZ (hw _ (List.mem_of_getElem? (i := 64) rfl)))) (hw _ (List.mem_of_getElem? (i := 64) rfl)) (hw _ (List.mem_of_getElem? (i := 63) rfl)) (hw _ (List.mem_of_getElem? (i := 2) rfl)) (hw _ (List.mem_of_getElem? (i := 65) rfl)) (by decide) e39 Ek34 (as := [(.int (2 : Int32))]) (rmGET2 l Z a0 hw b1 r kr p6 p5 p3 T34.heap Fk34 V34) (W := 0) (by decide) (by decide) (by decide) (by decide) (by rw [hml]; rfl) (lenOf own_pd7 rfl) (rest := []) rfl rfl (hb hby at_122) fun v40 T40 L40 X40 q40 => ?_
      obtain ⟨rfl, e40, rfl⟩ := q40
      rw [List.append_nil] at X40
      show Go p e below _ T40 (mkF m 125 #[.val (.int p1), .val (.int p2), .val (.int p3), .val (.int p4), .val (.int p5), .val (.int p6), .val (.int (1 : Int32)), .val (.int (0 : Int32)), .val (.ref b1)] [(.int p3)])
      refine OwnGo.iconst X40 hx (z := (2 : Int32)) (hb hby at_125) (by decide) ?_
      show Go p e below _ T40 (mkF m 126 #[.val (.int p1), .val (.int p2), .val (.int p3), .val (.int p4), .val (.int p5), .val (.int p6), .val (.int (1 : Int32)), .val (.int (0 : Int32)), .val (.ref b1)] [(.int (2 : Int32)), (.int p3)])
      refine OwnGo.iload X40 hx (hb hby at_126) rfl ?_
      show Go p e below _ T40 (mkF m 128 #[.val (.int p1), .val (.int p2), .val (.int p3), .val (.int p4), .val (.int p5), .val (.int p6), .val (.int (1 : Int32)), .val (.int (0 : Int32)), .val (.ref b1)] [(.int (1 : Int32)), (.int (2 : Int32)), (.int p3)])
      refine OwnGo.iload X40 hx (hb hby at_128) rfl ?_
      show Go p e below _ T40 (mkF m 130 #[.val (.int p1), .val (.int p2), .val (.int p3), .val (.int p4), .val (.int p5), .val (.int p6), .val (.int (1 : Int32)), .val (.int (0 : Int32)), .val (.ref b1)] [(.int (0 : Int32)), (.int (1 : Int32)), (.int (2 : Int32)), (.int p3)])
      refine OwnGo.iloadN X40 hx (hb hby at_130) rfl ?_
      show Go p e below _ T40 (mkF m 131 #[.val (.int p1), .val (.int p2), .val (.int p3), .val (.int p4), .val (.int p5), .val (.int p6), .val (.int (1 : Int32)), .val (.int (0 : Int32)), .val (.ref b1)] [(.int p3), (.int (0 : Int32)), (.int (1 : Int32)), (.int (2 : Int32)), (.int p3)])
      refine OwnGo.iload X40 hx (hb hby at_131) rfl ?_
      show Go p e below _ T40 (mkF m 133 #[.val (.int p1), .val (.int p2), .val (.int p3), .val (.int p4), .val (.int p5), .val (.int p6), .val (.int (1 : Int32)), .val (.int (0 : Int32)), .val (.ref b1)] [(.int p5), (.int p3), (.int (0 : Int32)), (.int (1 : Int32)), (.int (2 : Int32)), (.int p3)])
      refine OwnGo.iload X40 hx (hb hby at_133) rfl ?_
      show Go p e below _ T40 (mkF m 135 #[.val (.int p1), .val (.int p2), .val (.int p3), .val (.int p4), .val (.int p5), .val (.int p6), .val (.int (1 : Int32)), .val (.int (0 : Int32)), .val (.ref b1)] [(.int p6), (.int p5), (.int p3), (.int (0 : Int32)), (.int (1 : Int32)), (.int (2 : Int32)), (.int p3)])
      refine OwnGo.callS X40 hx hZ hown (y := (⟨"com/example/sibling/sibling/xpath/IntColumnSetPinLaw", "expected", "(IIIIII)I"⟩ : MethodName)) (hw _ (List.mem_of_getElem? (i := 66) rfl)) (hw _ (List.mem_of_getElem? (i := 67) rfl)) (hw _ (List.mem_of_getElem? (i := 68) rfl)) (hw _ (List.mem_of_getElem? (i := 69) rfl)) (by decide) e40 (as := [(.int (2 : Int32)), (.int (1 : Int32)), (.int (0 : Int32)), (.int p3), (.int p5), (.int p6)]) (rmE l Z a0 hw (2 : Int32) (1 : Int32) (0 : Int32) p3 p5 p6 p3 T34.heap (by simp [own_exp])) (W := 1) (by decide) (by decide) (by decide) (by decide) (by rw [hml]; rfl) (lenOf own_pd8 rfl) (rest := [(.int p3)]) rfl rfl (hb hby at_135) fun v41 T41 L41 X41 q41 => ?_
      obtain ⟨rfl, e41, rfl⟩ := q41
      rw [List.append_nil] at X41
      show Go p e below _ T41 (mkF m 138 #[.val (.int p1), .val (.int p2), .val (.int p3), .val (.int p4), .val (.int p5), .val (.int p6), .val (.int (1 : Int32)), .val (.int (0 : Int32)), .val (.ref b1)] [(.int p3), (.int p3)])
      refine OwnGo.ic_ne X41 hx (pc' := 145) (hb hby at_138) (by decide) (by decide) (fun q => absurd rfl q) (fun _ => ?_)
      show Go p e below _ T41 (mkF m 141 #[.val (.int p1), .val (.int p2), .val (.int p3), .val (.int p4), .val (.int p5), .val (.int p6), .val (.int (1 : Int32)), .val (.int (0 : Int32)), .val (.ref b1)] [])
      refine OwnGo.iconst X41 hx (z := (1 : Int32)) (hb hby at_141) (by decide) ?_
      show Go p e below _ T41 (mkF m 142 #[.val (.int p1), .val (.int p2), .val (.int p3), .val (.int p4), .val (.int p5), .val (.int p6), .val (.int (1 : Int32)), .val (.int (0 : Int32)), .val (.ref b1)] [(.int (1 : Int32))])
      refine OwnGo.goto X41 hx (pc' := 146) (hb hby at_142) (by decide) (by decide) ?_
      show Go p e below _ T41 (mkF m 146 #[.val (.int p1), .val (.int p2), .val (.int p3), .val (.int p4), .val (.int p5), .val (.int p6), .val (.int (1 : Int32)), .val (.int (0 : Int32)), .val (.ref b1)] [(.int (1 : Int32))])
      exact OwnGo.retB X41 hx hlk (z' := (1 : Int32)) hret (hb hby at_146) rfl ⟨rfl, (Fr.app (Fr.app (Fr.app (Fr.app (Fr.app (Fr.app (Fr.nil n0) N2) N3) N4) N5) N33) N34)⟩ (by decide) (by decide)
    ·
      rw [hj]
      show Go p e below _ T5 (mkF m 48 #[.val (.int p1), .val (.int p2), .val (.int p3), .val (.int p4), .val (.int p5), .val (.int p6), .val (.int (1 : Int32)), .val (.int (1 : Int32)), .val (.ref b1)] [])
      refine OwnGo.aload X5 hx (hb hby at_48) rfl rfl ?_
      show Go p e below _ T5 (mkF m 50 #[.val (.int p1), .val (.int p2), .val (.int p3), .val (.int p4), .val (.int p5), .val (.int p6), .val (.int (1 : Int32)), .val (.int (1 : Int32)), .val (.ref b1)] [(.ref b1)])
      refine OwnGo.iload X5 hx (hb hby at_50) rfl ?_
      show Go p e below _ T5 (mkF m 52 #[.val (.int p1), .val (.int p2), .val (.int p3), .val (.int p4), .val (.int p5), .val (.int p6), .val (.int (1 : Int32)), .val (.int (1 : Int32)), .val (.ref b1)] [(.int (1 : Int32)), (.ref b1)])
      refine OwnGo.iload X5 hx (hb hby at_52) rfl ?_
      show Go p e below _ T5 (mkF m 54 #[.val (.int p1), .val (.int p2), .val (.int p3), .val (.int p4), .val (.int p5), .val (.int p6), .val (.int (1 : Int32)), .val (.int (1 : Int32)), .val (.ref b1)] [(.int p5), (.int (1 : Int32)), (.ref b1)])
      refine OwnGo.callV X5 hx hZ hown (y := (⟨"com/example/sibling/sibling/xpath/IntColumn", "set", "(II)V"⟩ : MethodName)) (z := (⟨"com/example/sibling/sibling/xpath/IntColumn", "set", "(II)V"⟩ : MethodName)) (hw _ (List.mem_of_getElem? (i := 51) rfl)) (hw _ (List.mem_of_getElem? (i := 52) rfl)) (notFace_of_selects (args := #[]) (mvT hZ (hw _ (List.mem_of_getElem? (i := 54) rfl)))) (hw _ (List.mem_of_getElem? (i := 54) rfl)) (hw _ (List.mem_of_getElem? (i := 53) rfl)) (hw _ (List.mem_of_getElem? (i := 2) rfl)) (hw _ (List.mem_of_getElem? (i := 55) rfl)) (by decide) rfl E5 (as := [(.int (1 : Int32)), (.int p5)]) (rmSET1 l Z a0 hw b1 r kr p1 p2 p3 p5 T5.heap n0 Zs5 gr F5_first V5 nbr) (W := 0) (by decide) (by decide) (by decide) (by decide) (by rw [hml]; rfl) (lenOf own_pd5 rfl) (rest := []) rfl rfl (hb hby at_54) fun v42 T42 L42 X42 q42 => ?_
      obtain ⟨rfl, N42, K42, V42⟩ := q42
      have Fk42 := F5_first.keep K42 (ninS nbr nin0)
      have Fz42 := F5_size.keep K42 (ninS nbr nin0)
      have Ek42 := E5.keep K42
      have Zs42 := Nat.le_trans Zs5 K42.1
      show Go p e below _ T42 (mkF m 57 #[.val (.int p1), .val (.int p2), .val (.int p3), .val (.int p4), .val (.int p5), .val (.int p6), .val (.int (1 : Int32)), .val (.int (1 : Int32)), .val (.ref b1)] [])
      refine OwnGo.aload X42 hx (hb hby at_57) rfl rfl ?_
      show Go p e below _ T42 (mkF m 59 #[.val (.int p1), .val (.int p2), .val (.int p3), .val (.int p4), .val (.int p5), .val (.int p6), .val (.int (1 : Int32)), .val (.int (1 : Int32)), .val (.ref b1)] [(.ref b1)])
      refine OwnGo.iload X42 hx (hb hby at_59) rfl ?_
      show Go p e below _ T42 (mkF m 61 #[.val (.int p1), .val (.int p2), .val (.int p3), .val (.int p4), .val (.int p5), .val (.int p6), .val (.int (1 : Int32)), .val (.int (1 : Int32)), .val (.ref b1)] [(.int (1 : Int32)), (.ref b1)])
      refine OwnGo.iload X42 hx (hb hby at_61) rfl ?_
      show Go p e below _ T42 (mkF m 63 #[.val (.int p1), .val (.int p2), .val (.int p3), .val (.int p4), .val (.int p5), .val (.int p6), .val (.int (1 : Int32)), .val (.int (1 : Int32)), .val (.ref b1)] [(.int p6), (.int (1 : Int32)), (.ref b1)])
      refine OwnGo.callV X42 hx hZ hown (y := (⟨"com/example/sibling/sibling/xpath/IntColumn", "set", "(II)V"⟩ : MethodName)) (z := (⟨"com/example/sibling/sibling/xpath/IntColumn", "set", "(II)V"⟩ : MethodName)) (hw _ (List.mem_of_getElem? (i := 51) rfl)) (hw _ (List.mem_of_getElem? (i := 52) rfl)) (notFace_of_selects (args := #[]) (mvT hZ (hw _ (List.mem_of_getElem? (i := 54) rfl)))) (hw _ (List.mem_of_getElem? (i := 54) rfl)) (hw _ (List.mem_of_getElem? (i := 53) rfl)) (hw _ (List.mem_of_getElem? (i := 2) rfl)) (hw _ (List.mem_of_getElem? (i := 55) rfl)) (by decide) rfl Ek42 (as := [(.int (1 : Int32)), (.int p6)]) (rmSET1 l Z a0 hw b1 r kr p1 p5 p3 p6 T42.heap n0 Zs42 gr Fk42 V42 nbr) (W := 0) (by decide) (by decide) (by decide) (by decide) (by rw [hml]; rfl) (lenOf own_pd5 rfl) (rest := []) rfl rfl (hb hby at_63) fun v43 T43 L43 X43 q43 => ?_
      obtain ⟨rfl, N43, K43, V43⟩ := q43
      have Fk43 := Fk42.keep K43 (ninS nbr nin0)
      have Fz43 := Fz42.keep K43 (ninS nbr nin0)
      have Ek43 := Ek42.keep K43
      have Zs43 := Nat.le_trans Zs42 K43.1
      show Go p e below _ T43 (mkF m 66 #[.val (.int p1), .val (.int p2), .val (.int p3), .val (.int p4), .val (.int p5), .val (.int p6), .val (.int (1 : Int32)), .val (.int (1 : Int32)), .val (.ref b1)] [])
      refine OwnGo.aload X43 hx (hb hby at_66) rfl rfl ?_
      show Go p e below _ T43 (mkF m 68 #[.val (.int p1), .val (.int p2), .val (.int p3), .val (.int p4), .val (.int p5), .val (.int p6), .val (.int (1 : Int32)), .val (.int (1 : Int32)), .val (.ref b1)] [(.ref b1)])
      refine OwnGo.callV X43 hx hZ hown (y := (⟨"com/example/sibling/sibling/xpath/IntColumn", "size", "()I"⟩ : MethodName)) (z := (⟨"com/example/sibling/sibling/xpath/IntColumn", "size", "()I"⟩ : MethodName)) (hw _ (List.mem_of_getElem? (i := 56) rfl)) (hw _ (List.mem_of_getElem? (i := 57) rfl)) (notFace_of_selects (args := #[]) (mvT hZ (hw _ (List.mem_of_getElem? (i := 59) rfl)))) (hw _ (List.mem_of_getElem? (i := 59) rfl)) (hw _ (List.mem_of_getElem? (i := 58) rfl)) (hw _ (List.mem_of_getElem? (i := 2) rfl)) (hw _ (List.mem_of_getElem? (i := 60) rfl)) (by decide) rfl Ek43 (as := []) (rmSIZ l Z a0 hw b1 (3 : Int32) T43.heap Fz43) (W := 0) (by decide) (by decide) (by decide) (by decide) (by rw [hml]; rfl) (lenOf own_pd6 rfl) (rest := []) rfl rfl (hb hby at_68) fun v44 T44 L44 X44 q44 => ?_
      obtain ⟨rfl, e44, rfl⟩ := q44
      rw [List.append_nil] at X44
      show Go p e below _ T44 (mkF m 71 #[.val (.int p1), .val (.int p2), .val (.int p3), .val (.int p4), .val (.int p5), .val (.int p6), .val (.int (1 : Int32)), .val (.int (1 : Int32)), .val (.ref b1)] [(.int (3 : Int32))])
      refine OwnGo.iconst X44 hx (z := (3 : Int32)) (hb hby at_71) (by decide) ?_
      show Go p e below _ T44 (mkF m 72 #[.val (.int p1), .val (.int p2), .val (.int p3), .val (.int p4), .val (.int p5), .val (.int p6), .val (.int (1 : Int32)), .val (.int (1 : Int32)), .val (.ref b1)] [(.int (3 : Int32)), (.int (3 : Int32))])
      refine OwnGo.ic_ne X44 hx (pc' := 145) (hb hby at_72) (by decide) (by decide) (fun q => absurd q (by decide)) (fun _ => ?_)
      show Go p e below _ T44 (mkF m 75 #[.val (.int p1), .val (.int p2), .val (.int p3), .val (.int p4), .val (.int p5), .val (.int p6), .val (.int (1 : Int32)), .val (.int (1 : Int32)), .val (.ref b1)] [])
      refine OwnGo.aload X44 hx (hb hby at_75) rfl rfl ?_
      show Go p e below _ T44 (mkF m 77 #[.val (.int p1), .val (.int p2), .val (.int p3), .val (.int p4), .val (.int p5), .val (.int p6), .val (.int (1 : Int32)), .val (.int (1 : Int32)), .val (.ref b1)] [(.ref b1)])
      refine OwnGo.iconst X44 hx (z := (0 : Int32)) (hb hby at_77) (by decide) ?_
      show Go p e below _ T44 (mkF m 78 #[.val (.int p1), .val (.int p2), .val (.int p3), .val (.int p4), .val (.int p5), .val (.int p6), .val (.int (1 : Int32)), .val (.int (1 : Int32)), .val (.ref b1)] [(.int (0 : Int32)), (.ref b1)])
      refine OwnGo.callV X44 hx hZ hown (y := (⟨"com/example/sibling/sibling/xpath/IntColumn", "get", "(I)I"⟩ : MethodName)) (z := (⟨"com/example/sibling/sibling/xpath/IntColumn", "get", "(I)I"⟩ : MethodName)) (hw _ (List.mem_of_getElem? (i := 61) rfl)) (hw _ (List.mem_of_getElem? (i := 62) rfl)) (notFace_of_selects (args := #[]) (mvT hZ (hw _ (List.mem_of_getElem? (i := 64) rfl)))) (hw _ (List.mem_of_getElem? (i := 64) rfl)) (hw _ (List.mem_of_getElem? (i := 63) rfl)) (hw _ (List.mem_of_getElem? (i := 2) rfl)) (hw _ (List.mem_of_getElem? (i := 65) rfl)) (by decide) e44 Ek43 (as := [(.int (0 : Int32))]) (rmGET0 l Z a0 hw b1 r kr p1 p6 p3 T43.heap Fk43 V43) (W := 0) (by decide) (by decide) (by decide) (by decide) (by rw [hml]; rfl) (lenOf own_pd7 rfl) (rest := []) rfl rfl (hb hby at_78) fun v45 T45 L45 X45 q45 => ?_
      obtain ⟨rfl, e45, rfl⟩ := q45
      rw [List.append_nil] at X45
      show Go p e below _ T45 (mkF m 81 #[.val (.int p1), .val (.int p2), .val (.int p3), .val (.int p4), .val (.int p5), .val (.int p6), .val (.int (1 : Int32)), .val (.int (1 : Int32)), .val (.ref b1)] [(.int p1)])
      refine OwnGo.iconst X45 hx (z := (0 : Int32)) (hb hby at_81) (by decide) ?_
      show Go p e below _ T45 (mkF m 82 #[.val (.int p1), .val (.int p2), .val (.int p3), .val (.int p4), .val (.int p5), .val (.int p6), .val (.int (1 : Int32)), .val (.int (1 : Int32)), .val (.ref b1)] [(.int (0 : Int32)), (.int p1)])
      refine OwnGo.iload X45 hx (hb hby at_82) rfl ?_
      show Go p e below _ T45 (mkF m 84 #[.val (.int p1), .val (.int p2), .val (.int p3), .val (.int p4), .val (.int p5), .val (.int p6), .val (.int (1 : Int32)), .val (.int (1 : Int32)), .val (.ref b1)] [(.int (1 : Int32)), (.int (0 : Int32)), (.int p1)])
      refine OwnGo.iload X45 hx (hb hby at_84) rfl ?_
      show Go p e below _ T45 (mkF m 86 #[.val (.int p1), .val (.int p2), .val (.int p3), .val (.int p4), .val (.int p5), .val (.int p6), .val (.int (1 : Int32)), .val (.int (1 : Int32)), .val (.ref b1)] [(.int (1 : Int32)), (.int (1 : Int32)), (.int (0 : Int32)), (.int p1)])
      refine OwnGo.iloadN X45 hx (hb hby at_86) rfl ?_
      show Go p e below _ T45 (mkF m 87 #[.val (.int p1), .val (.int p2), .val (.int p3), .val (.int p4), .val (.int p5), .val (.int p6), .val (.int (1 : Int32)), .val (.int (1 : Int32)), .val (.ref b1)] [(.int p1), (.int (1 : Int32)), (.int (1 : Int32)), (.int (0 : Int32)), (.int p1)])
      refine OwnGo.iload X45 hx (hb hby at_87) rfl ?_
      show Go p e below _ T45 (mkF m 89 #[.val (.int p1), .val (.int p2), .val (.int p3), .val (.int p4), .val (.int p5), .val (.int p6), .val (.int (1 : Int32)), .val (.int (1 : Int32)), .val (.ref b1)] [(.int p5), (.int p1), (.int (1 : Int32)), (.int (1 : Int32)), (.int (0 : Int32)), (.int p1)])
      refine OwnGo.iload X45 hx (hb hby at_89) rfl ?_
      show Go p e below _ T45 (mkF m 91 #[.val (.int p1), .val (.int p2), .val (.int p3), .val (.int p4), .val (.int p5), .val (.int p6), .val (.int (1 : Int32)), .val (.int (1 : Int32)), .val (.ref b1)] [(.int p6), (.int p5), (.int p1), (.int (1 : Int32)), (.int (1 : Int32)), (.int (0 : Int32)), (.int p1)])
      refine OwnGo.callS X45 hx hZ hown (y := (⟨"com/example/sibling/sibling/xpath/IntColumnSetPinLaw", "expected", "(IIIIII)I"⟩ : MethodName)) (hw _ (List.mem_of_getElem? (i := 66) rfl)) (hw _ (List.mem_of_getElem? (i := 67) rfl)) (hw _ (List.mem_of_getElem? (i := 68) rfl)) (hw _ (List.mem_of_getElem? (i := 69) rfl)) (by decide) e45 (as := [(.int (0 : Int32)), (.int (1 : Int32)), (.int (1 : Int32)), (.int p1), (.int p5), (.int p6)]) (rmE l Z a0 hw (0 : Int32) (1 : Int32) (1 : Int32) p1 p5 p6 p1 T43.heap (by simp [own_exp])) (W := 1) (by decide) (by decide) (by decide) (by decide) (by rw [hml]; rfl) (lenOf own_pd8 rfl) (rest := [(.int p1)]) rfl rfl (hb hby at_91) fun v46 T46 L46 X46 q46 => ?_
      obtain ⟨rfl, e46, rfl⟩ := q46
      rw [List.append_nil] at X46
      show Go p e below _ T46 (mkF m 94 #[.val (.int p1), .val (.int p2), .val (.int p3), .val (.int p4), .val (.int p5), .val (.int p6), .val (.int (1 : Int32)), .val (.int (1 : Int32)), .val (.ref b1)] [(.int p1), (.int p1)])
      refine OwnGo.ic_ne X46 hx (pc' := 145) (hb hby at_94) (by decide) (by decide) (fun q => absurd rfl q) (fun _ => ?_)
      show Go p e below _ T46 (mkF m 97 #[.val (.int p1), .val (.int p2), .val (.int p3), .val (.int p4), .val (.int p5), .val (.int p6), .val (.int (1 : Int32)), .val (.int (1 : Int32)), .val (.ref b1)] [])
      refine OwnGo.aload X46 hx (hb hby at_97) rfl rfl ?_
      show Go p e below _ T46 (mkF m 99 #[.val (.int p1), .val (.int p2), .val (.int p3), .val (.int p4), .val (.int p5), .val (.int p6), .val (.int (1 : Int32)), .val (.int (1 : Int32)), .val (.ref b1)] [(.ref b1)])
      refine OwnGo.iconst X46 hx (z := (1 : Int32)) (hb hby at_99) (by decide) ?_
      show Go p e below _ T46 (mkF m 100 #[.val (.int p1), .val (.int p2), .val (.int p3), .val (.int p4), .val (.int p5), .val (.int p6), .val (.int (1 : Int32)), .val (.int (1 : Int32)), .val (.ref b1)] [(.int (1 : Int32)), (.ref b1)])
      refine OwnGo.callV X46 hx hZ hown (y := (⟨"com/example/sibling/sibling/xpath/IntColumn", "get", "(I)I"⟩ : MethodName)) (z := (⟨"com/example/sibling/sibling/xpath/IntColumn", "get", "(I)I"⟩ : MethodName)) (hw _ (List.mem_of_getElem? (i := 61) rfl)) (hw _ (List.mem_of_getElem? (i := 62) rfl)) (notFace_of_selects (args := #[]) (mvT hZ (hw _ (List.mem_of_getElem? (i := 64) rfl)))) (hw _ (List.mem_of_getElem? (i := 64) rfl)) (hw _ (List.mem_of_getElem? (i := 63) rfl)) (hw _ (List.mem_of_getElem? (i := 2) rfl)) (hw _ (List.mem_of_getElem? (i := 65) rfl)) (by decide) e46 Ek43 (as := [(.int (1 : Int32))]) (rmGET1 l Z a0 hw b1 r kr p1 p6 p3 T43.heap Fk43 V43) (W := 0) (by decide) (by decide) (by decide) (by decide) (by rw [hml]; rfl) (lenOf own_pd7 rfl) (rest := []) rfl rfl (hb hby at_100) fun v47 T47 L47 X47 q47 => ?_
      obtain ⟨rfl, e47, rfl⟩ := q47
      rw [List.append_nil] at X47
      show Go p e below _ T47 (mkF m 103 #[.val (.int p1), .val (.int p2), .val (.int p3), .val (.int p4), .val (.int p5), .val (.int p6), .val (.int (1 : Int32)), .val (.int (1 : Int32)), .val (.ref b1)] [(.int p6)])
      refine OwnGo.iconst X47 hx (z := (1 : Int32)) (hb hby at_103) (by decide) ?_
      show Go p e below _ T47 (mkF m 104 #[.val (.int p1), .val (.int p2), .val (.int p3), .val (.int p4), .val (.int p5), .val (.int p6), .val (.int (1 : Int32)), .val (.int (1 : Int32)), .val (.ref b1)] [(.int (1 : Int32)), (.int p6)])
      refine OwnGo.iload X47 hx (hb hby at_104) rfl ?_
      show Go p e below _ T47 (mkF m 106 #[.val (.int p1), .val (.int p2), .val (.int p3), .val (.int p4), .val (.int p5), .val (.int p6), .val (.int (1 : Int32)), .val (.int (1 : Int32)), .val (.ref b1)] [(.int (1 : Int32)), (.int (1 : Int32)), (.int p6)])
      refine OwnGo.iload X47 hx (hb hby at_106) rfl ?_
      show Go p e below _ T47 (mkF m 108 #[.val (.int p1), .val (.int p2), .val (.int p3), .val (.int p4), .val (.int p5), .val (.int p6), .val (.int (1 : Int32)), .val (.int (1 : Int32)), .val (.ref b1)] [(.int (1 : Int32)), (.int (1 : Int32)), (.int (1 : Int32)), (.int p6)])
      refine OwnGo.iloadN X47 hx (hb hby at_108) rfl ?_
      show Go p e below _ T47 (mkF m 109 #[.val (.int p1), .val (.int p2), .val (.int p3), .val (.int p4), .val (.int p5), .val (.int p6), .val (.int (1 : Int32)), .val (.int (1 : Int32)), .val (.ref b1)] [(.int p2), (.int (1 : Int32)), (.int (1 : Int32)), (.int (1 : Int32)), (.int p6)])
      refine OwnGo.iload X47 hx (hb hby at_109) rfl ?_
      show Go p e below _ T47 (mkF m 111 #[.val (.int p1), .val (.int p2), .val (.int p3), .val (.int p4), .val (.int p5), .val (.int p6), .val (.int (1 : Int32)), .val (.int (1 : Int32)), .val (.ref b1)] [(.int p5), (.int p2), (.int (1 : Int32)), (.int (1 : Int32)), (.int (1 : Int32)), (.int p6)])
      refine OwnGo.iload X47 hx (hb hby at_111) rfl ?_
      show Go p e below _ T47 (mkF m 113 #[.val (.int p1), .val (.int p2), .val (.int p3), .val (.int p4), .val (.int p5), .val (.int p6), .val (.int (1 : Int32)), .val (.int (1 : Int32)), .val (.ref b1)] [(.int p6), (.int p5), (.int p2), (.int (1 : Int32)), (.int (1 : Int32)), (.int (1 : Int32)), (.int p6)])
      refine OwnGo.callS X47 hx hZ hown (y := (⟨"com/example/sibling/sibling/xpath/IntColumnSetPinLaw", "expected", "(IIIIII)I"⟩ : MethodName)) (hw _ (List.mem_of_getElem? (i := 66) rfl)) (hw _ (List.mem_of_getElem? (i := 67) rfl)) (hw _ (List.mem_of_getElem? (i := 68) rfl)) (hw _ (List.mem_of_getElem? (i := 69) rfl)) (by decide) e47 (as := [(.int (1 : Int32)), (.int (1 : Int32)), (.int (1 : Int32)), (.int p2), (.int p5), (.int p6)]) (rmE l Z a0 hw (1 : Int32) (1 : Int32) (1 : Int32) p2 p5 p6 p6 T43.heap (by simp [own_exp])) (W := 1) (by decide) (by decide) (by decide) (by decide) (by rw [hml]; rfl) (lenOf own_pd8 rfl) (rest := [(.int p6)]) rfl rfl (hb hby at_113) fun v48 T48 L48 X48 q48 => ?_
      obtain ⟨rfl, e48, rfl⟩ := q48
      rw [List.append_nil] at X48
      show Go p e below _ T48 (mkF m 116 #[.val (.int p1), .val (.int p2), .val (.int p3), .val (.int p4), .val (.int p5), .val (.int p6), .val (.int (1 : Int32)), .val (.int (1 : Int32)), .val (.ref b1)] [(.int p6), (.int p6)])
      refine OwnGo.ic_ne X48 hx (pc' := 145) (hb hby at_116) (by decide) (by decide) (fun q => absurd rfl q) (fun _ => ?_)
      show Go p e below _ T48 (mkF m 119 #[.val (.int p1), .val (.int p2), .val (.int p3), .val (.int p4), .val (.int p5), .val (.int p6), .val (.int (1 : Int32)), .val (.int (1 : Int32)), .val (.ref b1)] [])
      refine OwnGo.aload X48 hx (hb hby at_119) rfl rfl ?_
      show Go p e below _ T48 (mkF m 121 #[.val (.int p1), .val (.int p2), .val (.int p3), .val (.int p4), .val (.int p5), .val (.int p6), .val (.int (1 : Int32)), .val (.int (1 : Int32)), .val (.ref b1)] [(.ref b1)])
      refine OwnGo.iconst X48 hx (z := (2 : Int32)) (hb hby at_121) (by decide) ?_
      show Go p e below _ T48 (mkF m 122 #[.val (.int p1), .val (.int p2), .val (.int p3), .val (.int p4), .val (.int p5), .val (.int p6), .val (.int (1 : Int32)), .val (.int (1 : Int32)), .val (.ref b1)] [(.int (2 : Int32)), (.ref b1)])
      refine OwnGo.callV X48 hx hZ hown (y := (⟨"com/example/sibling/sibling/xpath/IntColumn", "get", "(I)I"⟩ : MethodName)) (z := (⟨"com/example/sibling/sibling/xpath/IntColumn", "get", "(I)I"⟩ : MethodName)) (hw _ (List.mem_of_getElem? (i := 61) rfl)) (hw _ (List.mem_of_getElem? (i := 62) rfl)) (notFace_of_selects (args := #[]) (mvT hZ (hw _ (List.mem_of_getElem? (i := 64) rfl)))) (hw _ (List.mem_of_getElem? (i := 64) rfl)) (hw _ (List.mem_of_getElem? (i := 63) rfl)) (hw _ (List.mem_of_getElem? (i := 2) rfl)) (hw _ (List.mem_of_getElem? (i := 65) rfl)) (by decide) e48 Ek43 (as := [(.int (2 : Int32))]) (rmGET2 l Z a0 hw b1 r kr p1 p6 p3 T43.heap Fk43 V43) (W := 0) (by decide) (by decide) (by decide) (by decide) (by rw [hml]; rfl) (lenOf own_pd7 rfl) (rest := []) rfl rfl (hb hby at_122) fun v49 T49 L49 X49 q49 => ?_
      obtain ⟨rfl, e49, rfl⟩ := q49
      rw [List.append_nil] at X49
      show Go p e below _ T49 (mkF m 125 #[.val (.int p1), .val (.int p2), .val (.int p3), .val (.int p4), .val (.int p5), .val (.int p6), .val (.int (1 : Int32)), .val (.int (1 : Int32)), .val (.ref b1)] [(.int p3)])
      refine OwnGo.iconst X49 hx (z := (2 : Int32)) (hb hby at_125) (by decide) ?_
      show Go p e below _ T49 (mkF m 126 #[.val (.int p1), .val (.int p2), .val (.int p3), .val (.int p4), .val (.int p5), .val (.int p6), .val (.int (1 : Int32)), .val (.int (1 : Int32)), .val (.ref b1)] [(.int (2 : Int32)), (.int p3)])
      refine OwnGo.iload X49 hx (hb hby at_126) rfl ?_
      show Go p e below _ T49 (mkF m 128 #[.val (.int p1), .val (.int p2), .val (.int p3), .val (.int p4), .val (.int p5), .val (.int p6), .val (.int (1 : Int32)), .val (.int (1 : Int32)), .val (.ref b1)] [(.int (1 : Int32)), (.int (2 : Int32)), (.int p3)])
      refine OwnGo.iload X49 hx (hb hby at_128) rfl ?_
      show Go p e below _ T49 (mkF m 130 #[.val (.int p1), .val (.int p2), .val (.int p3), .val (.int p4), .val (.int p5), .val (.int p6), .val (.int (1 : Int32)), .val (.int (1 : Int32)), .val (.ref b1)] [(.int (1 : Int32)), (.int (1 : Int32)), (.int (2 : Int32)), (.int p3)])
      refine OwnGo.iloadN X49 hx (hb hby at_130) rfl ?_
      show Go p e below _ T49 (mkF m 131 #[.val (.int p1), .val (.int p2), .val (.int p3), .val (.int p4), .val (.int p5), .val (.int p6), .val (.int (1 : Int32)), .val (.int (1 : Int32)), .val (.ref b1)] [(.int p3), (.int (1 : Int32)), (.int (1 : Int32)), (.int (2 : Int32)), (.int p3)])
      refine OwnGo.iload X49 hx (hb hby at_131) rfl ?_
      show Go p e below _ T49 (mkF m 133 #[.val (.int p1), .val (.int p2), .val (.int p3), .val (.int p4), .val (.int p5), .val (.int p6), .val (.int (1 : Int32)), .val (.int (1 : Int32)), .val (.ref b1)] [(.int p5), (.int p3), (.int (1 : Int32)), (.int (1 : Int32)), (.int (2 : Int32)), (.int p3)])
      refine OwnGo.iload X49 hx (hb hby at_133) rfl ?_
      show Go p e below _ T49 (mkF m 135 #[.val (.int p1), .val (.int p2), .val (.int p3), .val (.int p4), .val (.int p5), .val (.int p6), .val (.int (1 : Int32)), .val (.int (1 : Int32)), .val (.ref b1)] [(.int p6), (.int p5), (.int p3), (.int (1 : Int32)), (.int (1 : Int32)), (.int (2 : Int32)), (.int p3)])
      refine OwnGo.callS X49 hx hZ hown (y := (⟨"com/example/sibling/sibling/xpath/IntColumnSetPinLaw", "expected", "(IIIIII)I"⟩ : MethodName)) (hw _ (List.mem_of_getElem? (i := 66) rfl)) (hw _ (List.mem_of_getElem? (i := 67) rfl)) (hw _ (List.mem_of_getElem? (i := 68) rfl)) (hw _ (List.mem_of_getElem? (i := 69) rfl)) (by decide) e49 (as := [(.int (2 : Int32)), (.int (1 : Int32)), (.int (1 : Int32)), (.int p3), (.int p5), (.int p6)]) (rmE l Z a0 hw (2 : Int32) (1 : Int32) (1 : Int32) p3 p5 p6 p3 T43.heap (by simp [own_exp])) (W := 1) (by decide) (by decide) (by decide) (by decide) (by rw [hml]; rfl) (lenOf own_pd8 rfl) (rest := [(.int p3)]) rfl rfl (hb hby at_135) fun v50 T50 L50 X50 q50 => ?_
      obtain ⟨rfl, e50, rfl⟩ := q50
      rw [List.append_nil] at X50
      show Go p e below _ T50 (mkF m 138 #[.val (.int p1), .val (.int p2), .val (.int p3), .val (.int p4), .val (.int p5), .val (.int p6), .val (.int (1 : Int32)), .val (.int (1 : Int32)), .val (.ref b1)] [(.int p3), (.int p3)])
      refine OwnGo.ic_ne X50 hx (pc' := 145) (hb hby at_138) (by decide) (by decide) (fun q => absurd rfl q) (fun _ => ?_)
      show Go p e below _ T50 (mkF m 141 #[.val (.int p1), .val (.int p2), .val (.int p3), .val (.int p4), .val (.int p5), .val (.int p6), .val (.int (1 : Int32)), .val (.int (1 : Int32)), .val (.ref b1)] [])
      refine OwnGo.iconst X50 hx (z := (1 : Int32)) (hb hby at_141) (by decide) ?_
      show Go p e below _ T50 (mkF m 142 #[.val (.int p1), .val (.int p2), .val (.int p3), .val (.int p4), .val (.int p5), .val (.int p6), .val (.int (1 : Int32)), .val (.int (1 : Int32)), .val (.ref b1)] [(.int (1 : Int32))])
      refine OwnGo.goto X50 hx (pc' := 146) (hb hby at_142) (by decide) (by decide) ?_
      show Go p e below _ T50 (mkF m 146 #[.val (.int p1), .val (.int p2), .val (.int p3), .val (.int p4), .val (.int p5), .val (.int p6), .val (.int (1 : Int32)), .val (.int (1 : Int32)), .val (.ref b1)] [(.int (1 : Int32))])
      exact OwnGo.retB X50 hx hlk (z' := (1 : Int32)) hret (hb hby at_146) rfl ⟨rfl, (Fr.app (Fr.app (Fr.app (Fr.app (Fr.app (Fr.app (Fr.nil n0) N2) N3) N4) N5) N42) N43)⟩ (by decide) (by decide)
    ·
      rw [hj]
      show Go p e below _ T5 (mkF m 48 #[.val (.int p1), .val (.int p2), .val (.int p3), .val (.int p4), .val (.int p5), .val (.int p6), .val (.int (1 : Int32)), .val (.int (2 : Int32)), .val (.ref b1)] [])
      refine OwnGo.aload X5 hx (hb hby at_48) rfl rfl ?_
      show Go p e below _ T5 (mkF m 50 #[.val (.int p1), .val (.int p2), .val (.int p3), .val (.int p4), .val (.int p5), .val (.int p6), .val (.int (1 : Int32)), .val (.int (2 : Int32)), .val (.ref b1)] [(.ref b1)])
      refine OwnGo.iload X5 hx (hb hby at_50) rfl ?_
      show Go p e below _ T5 (mkF m 52 #[.val (.int p1), .val (.int p2), .val (.int p3), .val (.int p4), .val (.int p5), .val (.int p6), .val (.int (1 : Int32)), .val (.int (2 : Int32)), .val (.ref b1)] [(.int (1 : Int32)), (.ref b1)])
      refine OwnGo.iload X5 hx (hb hby at_52) rfl ?_
      show Go p e below _ T5 (mkF m 54 #[.val (.int p1), .val (.int p2), .val (.int p3), .val (.int p4), .val (.int p5), .val (.int p6), .val (.int (1 : Int32)), .val (.int (2 : Int32)), .val (.ref b1)] [(.int p5), (.int (1 : Int32)), (.ref b1)])
      refine OwnGo.callV X5 hx hZ hown (y := (⟨"com/example/sibling/sibling/xpath/IntColumn", "set", "(II)V"⟩ : MethodName)) (z := (⟨"com/example/sibling/sibling/xpath/IntColumn", "set", "(II)V"⟩ : MethodName)) (hw _ (List.mem_of_getElem? (i := 51) rfl)) (hw _ (List.mem_of_getElem? (i := 52) rfl)) (notFace_of_selects (args := #[]) (mvT hZ (hw _ (List.mem_of_getElem? (i := 54) rfl)))) (hw _ (List.mem_of_getElem? (i := 54) rfl)) (hw _ (List.mem_of_getElem? (i := 53) rfl)) (hw _ (List.mem_of_getElem? (i := 2) rfl)) (hw _ (List.mem_of_getElem? (i := 55) rfl)) (by decide) rfl E5 (as := [(.int (1 : Int32)), (.int p5)]) (rmSET1 l Z a0 hw b1 r kr p1 p2 p3 p5 T5.heap n0 Zs5 gr F5_first V5 nbr) (W := 0) (by decide) (by decide) (by decide) (by decide) (by rw [hml]; rfl) (lenOf own_pd5 rfl) (rest := []) rfl rfl (hb hby at_54) fun v51 T51 L51 X51 q51 => ?_
      obtain ⟨rfl, N51, K51, V51⟩ := q51
      have Fk51 := F5_first.keep K51 (ninS nbr nin0)
      have Fz51 := F5_size.keep K51 (ninS nbr nin0)
      have Ek51 := E5.keep K51
      have Zs51 := Nat.le_trans Zs5 K51.1
      show Go p e below _ T51 (mkF m 57 #[.val (.int p1), .val (.int p2), .val (.int p3), .val (.int p4), .val (.int p5), .val (.int p6), .val (.int (1 : Int32)), .val (.int (2 : Int32)), .val (.ref b1)] [])
      refine OwnGo.aload X51 hx (hb hby at_57) rfl rfl ?_
      show Go p e below _ T51 (mkF m 59 #[.val (.int p1), .val (.int p2), .val (.int p3), .val (.int p4), .val (.int p5), .val (.int p6), .val (.int (1 : Int32)), .val (.int (2 : Int32)), .val (.ref b1)] [(.ref b1)])
      refine OwnGo.iload X51 hx (hb hby at_59) rfl ?_
      show Go p e below _ T51 (mkF m 61 #[.val (.int p1), .val (.int p2), .val (.int p3), .val (.int p4), .val (.int p5), .val (.int p6), .val (.int (1 : Int32)), .val (.int (2 : Int32)), .val (.ref b1)] [(.int (2 : Int32)), (.ref b1)])
      refine OwnGo.iload X51 hx (hb hby at_61) rfl ?_
      show Go p e below _ T51 (mkF m 63 #[.val (.int p1), .val (.int p2), .val (.int p3), .val (.int p4), .val (.int p5), .val (.int p6), .val (.int (1 : Int32)), .val (.int (2 : Int32)), .val (.ref b1)] [(.int p6), (.int (2 : Int32)), (.ref b1)])
      refine OwnGo.callV X51 hx hZ hown (y := (⟨"com/example/sibling/sibling/xpath/IntColumn", "set", "(II)V"⟩ : MethodName)) (z := (⟨"com/example/sibling/sibling/xpath/IntColumn", "set", "(II)V"⟩ : MethodName)) (hw _ (List.mem_of_getElem? (i := 51) rfl)) (hw _ (List.mem_of_getElem? (i := 52) rfl)) (notFace_of_selects (args := #[]) (mvT hZ (hw _ (List.mem_of_getElem? (i := 54) rfl)))) (hw _ (List.mem_of_getElem? (i := 54) rfl)) (hw _ (List.mem_of_getElem? (i := 53) rfl)) (hw _ (List.mem_of_getElem? (i := 2) rfl)) (hw _ (List.mem_of_getElem? (i := 55) rfl)) (by decide) rfl Ek51 (as := [(.int (2 : Int32)), (.int p6)]) (rmSET2 l Z a0 hw b1 r kr p1 p5 p3 p6 T51.heap n0 Zs51 gr Fk51 V51 nbr) (W := 0) (by decide) (by decide) (by decide) (by decide) (by rw [hml]; rfl) (lenOf own_pd5 rfl) (rest := []) rfl rfl (hb hby at_63) fun v52 T52 L52 X52 q52 => ?_
      obtain ⟨rfl, N52, K52, V52⟩ := q52
      have Fk52 := Fk51.keep K52 (ninS nbr nin0)
      have Fz52 := Fz51.keep K52 (ninS nbr nin0)
      have Ek52 := Ek51.keep K52
      have Zs52 := Nat.le_trans Zs51 K52.1
      show Go p e below _ T52 (mkF m 66 #[.val (.int p1), .val (.int p2), .val (.int p3), .val (.int p4), .val (.int p5), .val (.int p6), .val (.int (1 : Int32)), .val (.int (2 : Int32)), .val (.ref b1)] [])
      refine OwnGo.aload X52 hx (hb hby at_66) rfl rfl ?_
      show Go p e below _ T52 (mkF m 68 #[.val (.int p1), .val (.int p2), .val (.int p3), .val (.int p4), .val (.int p5), .val (.int p6), .val (.int (1 : Int32)), .val (.int (2 : Int32)), .val (.ref b1)] [(.ref b1)])
      refine OwnGo.callV X52 hx hZ hown (y := (⟨"com/example/sibling/sibling/xpath/IntColumn", "size", "()I"⟩ : MethodName)) (z := (⟨"com/example/sibling/sibling/xpath/IntColumn", "size", "()I"⟩ : MethodName)) (hw _ (List.mem_of_getElem? (i := 56) rfl)) (hw _ (List.mem_of_getElem? (i := 57) rfl)) (notFace_of_selects (args := #[]) (mvT hZ (hw _ (List.mem_of_getElem? (i := 59) rfl)))) (hw _ (List.mem_of_getElem? (i := 59) rfl)) (hw _ (List.mem_of_getElem? (i := 58) rfl)) (hw _ (List.mem_of_getElem? (i := 2) rfl)) (hw _ (List.mem_of_getElem? (i := 60) rfl)) (by decide) rfl Ek52 (as := []) (rmSIZ l Z a0 hw b1 (3 : Int32) T52.heap Fz52) (W := 0) (by decide) (by decide) (by decide) (by decide) (by rw [hml]; rfl) (lenOf own_pd6 rfl) (rest := []) rfl rfl (hb hby at_68) fun v53 T53 L53 X53 q53 => ?_
      obtain ⟨rfl, e53, rfl⟩ := q53
      rw [List.append_nil] at X53
      show Go p e below _ T53 (mkF m 71 #[.val (.int p1), .val (.int p2), .val (.int p3), .val (.int p4), .val (.int p5), .val (.int p6), .val (.int (1 : Int32)), .val (.int (2 : Int32)), .val (.ref b1)] [(.int (3 : Int32))])
      refine OwnGo.iconst X53 hx (z := (3 : Int32)) (hb hby at_71) (by decide) ?_
      show Go p e below _ T53 (mkF m 72 #[.val (.int p1), .val (.int p2), .val (.int p3), .val (.int p4), .val (.int p5), .val (.int p6), .val (.int (1 : Int32)), .val (.int (2 : Int32)), .val (.ref b1)] [(.int (3 : Int32)), (.int (3 : Int32))])
      refine OwnGo.ic_ne X53 hx (pc' := 145) (hb hby at_72) (by decide) (by decide) (fun q => absurd q (by decide)) (fun _ => ?_)
      show Go p e below _ T53 (mkF m 75 #[.val (.int p1), .val (.int p2), .val (.int p3), .val (.int p4), .val (.int p5), .val (.int p6), .val (.int (1 : Int32)), .val (.int (2 : Int32)), .val (.ref b1)] [])
      refine OwnGo.aload X53 hx (hb hby at_75) rfl rfl ?_
      show Go p e below _ T53 (mkF m 77 #[.val (.int p1), .val (.int p2), .val (.int p3), .val (.int p4), .val (.int p5), .val (.int p6), .val (.int (1 : Int32)), .val (.int (2 : Int32)), .val (.ref b1)] [(.ref b1)])
      refine OwnGo.iconst X53 hx (z := (0 : Int32)) (hb hby at_77) (by decide) ?_
      show Go p e below _ T53 (mkF m 78 #[.val (.int p1), .val (.int p2), .val (.int p3), .val (.int p4), .val (.int p5), .val (.int p6), .val (.int (1 : Int32)), .val (.int (2 : Int32)), .val (.ref b1)] [(.int (0 : Int32)), (.ref b1)])
      refine OwnGo.callV X53 hx hZ hown (y := (⟨"com/example/sibling/sibling/xpath/IntColumn", "get", "(I)I"⟩ : MethodName)) (z := (⟨"com/example/sibling/sibling/xpath/IntColumn", "get", "(I)I"⟩ : MethodName)) (hw _ (List.mem_of_getElem? (i := 61) rfl)) (hw _ (List.mem_of_getElem? (i := 62) rfl)) (notFace_of_selects (args := #[]) (mvT hZ (hw _ (List.mem_of_getElem? (i := 64) rfl)))) (hw _ (List.mem_of_getElem? (i := 64) rfl)) (hw _ (List.mem_of_getElem? (i := 63) rfl)) (hw _ (List.mem_of_getElem? (i := 2) rfl)) (hw _ (List.mem_of_getElem? (i := 65) rfl)) (by decide) e53 Ek52 (as := [(.int (0 : Int32))]) (rmGET0 l Z a0 hw b1 r kr p1 p5 p6 T52.heap Fk52 V52) (W := 0) (by decide) (by decide) (by decide) (by decide) (by rw [hml]; rfl) (lenOf own_pd7 rfl) (rest := []) rfl rfl (hb hby at_78) fun v54 T54 L54 X54 q54 => ?_
      obtain ⟨rfl, e54, rfl⟩ := q54
      rw [List.append_nil] at X54
      show Go p e below _ T54 (mkF m 81 #[.val (.int p1), .val (.int p2), .val (.int p3), .val (.int p4), .val (.int p5), .val (.int p6), .val (.int (1 : Int32)), .val (.int (2 : Int32)), .val (.ref b1)] [(.int p1)])
      refine OwnGo.iconst X54 hx (z := (0 : Int32)) (hb hby at_81) (by decide) ?_
      show Go p e below _ T54 (mkF m 82 #[.val (.int p1), .val (.int p2), .val (.int p3), .val (.int p4), .val (.int p5), .val (.int p6), .val (.int (1 : Int32)), .val (.int (2 : Int32)), .val (.ref b1)] [(.int (0 : Int32)), (.int p1)])
      refine OwnGo.iload X54 hx (hb hby at_82) rfl ?_
      show Go p e below _ T54 (mkF m 84 #[.val (.int p1), .val (.int p2), .val (.int p3), .val (.int p4), .val (.int p5), .val (.int p6), .val (.int (1 : Int32)), .val (.int (2 : Int32)), .val (.ref b1)] [(.int (1 : Int32)), (.int (0 : Int32)), (.int p1)])
      refine OwnGo.iload X54 hx (hb hby at_84) rfl ?_
      show Go p e below _ T54 (mkF m 86 #[.val (.int p1), .val (.int p2), .val (.int p3), .val (.int p4), .val (.int p5), .val (.int p6), .val (.int (1 : Int32)), .val (.int (2 : Int32)), .val (.ref b1)] [(.int (2 : Int32)), (.int (1 : Int32)), (.int (0 : Int32)), (.int p1)])
      refine OwnGo.iloadN X54 hx (hb hby at_86) rfl ?_
      show Go p e below _ T54 (mkF m 87 #[.val (.int p1), .val (.int p2), .val (.int p3), .val (.int p4), .val (.int p5), .val (.int p6), .val (.int (1 : Int32)), .val (.int (2 : Int32)), .val (.ref b1)] [(.int p1), (.int (2 : Int32)), (.int (1 : Int32)), (.int (0 : Int32)), (.int p1)])
      refine OwnGo.iload X54 hx (hb hby at_87) rfl ?_
      show Go p e below _ T54 (mkF m 89 #[.val (.int p1), .val (.int p2), .val (.int p3), .val (.int p4), .val (.int p5), .val (.int p6), .val (.int (1 : Int32)), .val (.int (2 : Int32)), .val (.ref b1)] [(.int p5), (.int p1), (.int (2 : Int32)), (.int (1 : Int32)), (.int (0 : Int32)), (.int p1)])
      refine OwnGo.iload X54 hx (hb hby at_89) rfl ?_
      show Go p e below _ T54 (mkF m 91 #[.val (.int p1), .val (.int p2), .val (.int p3), .val (.int p4), .val (.int p5), .val (.int p6), .val (.int (1 : Int32)), .val (.int (2 : Int32)), .val (.ref b1)] [(.int p6), (.int p5), (.int p1), (.int (2 : Int32)), (.int (1 : Int32)), (.int (0 : Int32)), (.int p1)])
      refine OwnGo.callS X54 hx hZ hown (y := (⟨"com/example/sibling/sibling/xpath/IntColumnSetPinLaw", "expected", "(IIIIII)I"⟩ : MethodName)) (hw _ (List.mem_of_getElem? (i := 66) rfl)) (hw _ (List.mem_of_getElem? (i := 67) rfl)) (hw _ (List.mem_of_getElem? (i := 68) rfl)) (hw _ (List.mem_of_getElem? (i := 69) rfl)) (by decide) e54 (as := [(.int (0 : Int32)), (.int (1 : Int32)), (.int (2 : Int32)), (.int p1), (.int p5), (.int p6)]) (rmE l Z a0 hw (0 : Int32) (1 : Int32) (2 : Int32) p1 p5 p6 p1 T52.heap (by simp [own_exp])) (W := 1) (by decide) (by decide) (by decide) (by decide) (by rw [hml]; rfl) (lenOf own_pd8 rfl) (rest := [(.int p1)]) rfl rfl (hb hby at_91) fun v55 T55 L55 X55 q55 => ?_
      obtain ⟨rfl, e55, rfl⟩ := q55
      rw [List.append_nil] at X55
      show Go p e below _ T55 (mkF m 94 #[.val (.int p1), .val (.int p2), .val (.int p3), .val (.int p4), .val (.int p5), .val (.int p6), .val (.int (1 : Int32)), .val (.int (2 : Int32)), .val (.ref b1)] [(.int p1), (.int p1)])
      refine OwnGo.ic_ne X55 hx (pc' := 145) (hb hby at_94) (by decide) (by decide) (fun q => absurd rfl q) (fun _ => ?_)
      show Go p e below _ T55 (mkF m 97 #[.val (.int p1), .val (.int p2), .val (.int p3), .val (.int p4), .val (.int p5), .val (.int p6), .val (.int (1 : Int32)), .val (.int (2 : Int32)), .val (.ref b1)] [])
      refine OwnGo.aload X55 hx (hb hby at_97) rfl rfl ?_
      show Go p e below _ T55 (mkF m 99 #[.val (.int p1), .val (.int p2), .val (.int p3), .val (.int p4), .val (.int p5), .val (.int p6), .val (.int (1 : Int32)), .val (.int (2 : Int32)), .val (.ref b1)] [(.ref b1)])
      refine OwnGo.iconst X55 hx (z := (1 : Int32)) (hb hby at_99) (by decide) ?_
      show Go p e below _ T55 (mkF m 100 #[.val (.int p1), .val (.int p2), .val (.int p3), .val (.int p4), .val (.int p5), .val (.int p6), .val (.int (1 : Int32)), .val (.int (2 : Int32)), .val (.ref b1)] [(.int (1 : Int32)), (.ref b1)])
      refine OwnGo.callV X55 hx hZ hown (y := (⟨"com/example/sibling/sibling/xpath/IntColumn", "get", "(I)I"⟩ : MethodName)) (z := (⟨"com/example/sibling/sibling/xpath/IntColumn", "get", "(I)I"⟩ : MethodName)) (hw _ (List.mem_of_getElem? (i := 61) rfl)) (hw _ (List.mem_of_getElem? (i := 62) rfl)) (notFace_of_selects (args := #[]) (mvT hZ (hw _ (List.mem_of_getElem? (i := 64) rfl)))) (hw _ (List.mem_of_getElem? (i := 64) rfl)) (hw _ (List.mem_of_getElem? (i := 63) rfl)) (hw _ (List.mem_of_getElem? (i := 2) rfl)) (hw _ (List.mem_of_getElem? (i := 65) rfl)) (by decide) e55 Ek52 (as := [(.int (1 : Int32))]) (rmGET1 l Z a0 hw b1 r kr p1 p5 p6 T52.heap Fk52 V52) (W := 0) (by decide) (by decide) (by decide) (by decide) (by rw [hml]; rfl) (lenOf own_pd7 rfl) (rest := []) rfl rfl (hb hby at_100) fun v56 T56 L56 X56 q56 => ?_
      obtain ⟨rfl, e56, rfl⟩ := q56
      rw [List.append_nil] at X56
      show Go p e below _ T56 (mkF m 103 #[.val (.int p1), .val (.int p2), .val (.int p3), .val (.int p4), .val (.int p5), .val (.int p6), .val (.int (1 : Int32)), .val (.int (2 : Int32)), .val (.ref b1)] [(.int p5)])
      refine OwnGo.iconst X56 hx (z := (1 : Int32)) (hb hby at_103) (by decide) ?_
      show Go p e below _ T56 (mkF m 104 #[.val (.int p1), .val (.int p2), .val (.int p3), .val (.int p4), .val (.int p5), .val (.int p6), .val (.int (1 : Int32)), .val (.int (2 : Int32)), .val (.ref b1)] [(.int (1 : Int32)), (.int p5)])
      refine OwnGo.iload X56 hx (hb hby at_104) rfl ?_
      show Go p e below _ T56 (mkF m 106 #[.val (.int p1), .val (.int p2), .val (.int p3), .val (.int p4), .val (.int p5), .val (.int p6), .val (.int (1 : Int32)), .val (.int (2 : Int32)), .val (.ref b1)] [(.int (1 : Int32)), (.int (1 : Int32)), (.int p5)])
      refine OwnGo.iload X56 hx (hb hby at_106) rfl ?_
      show Go p e below _ T56 (mkF m 108 #[.val (.int p1), .val (.int p2), .val (.int p3), .val (.int p4), .val (.int p5), .val (.int p6), .val (.int (1 : Int32)), .val (.int (2 : Int32)), .val (.ref b1)] [(.int (2 : Int32)), (.int (1 : Int32)), (.int (1 : Int32)), (.int p5)])
      refine OwnGo.iloadN X56 hx (hb hby at_108) rfl ?_
      show Go p e below _ T56 (mkF m 109 #[.val (.int p1), .val (.int p2), .val (.int p3), .val (.int p4), .val (.int p5), .val (.int p6), .val (.int (1 : Int32)), .val (.int (2 : Int32)), .val (.ref b1)] [(.int p2), (.int (2 : Int32)), (.int (1 : Int32)), (.int (1 : Int32)), (.int p5)])
      refine OwnGo.iload X56 hx (hb hby at_109) rfl ?_
      show Go p e below _ T56 (mkF m 111 #[.val (.int p1), .val (.int p2), .val (.int p3), .val (.int p4), .val (.int p5), .val (.int p6), .val (.int (1 : Int32)), .val (.int (2 : Int32)), .val (.ref b1)] [(.int p5), (.int p2), (.int (2 : Int32)), (.int (1 : Int32)), (.int (1 : Int32)), (.int p5)])
      refine OwnGo.iload X56 hx (hb hby at_111) rfl ?_
      show Go p e below _ T56 (mkF m 113 #[.val (.int p1), .val (.int p2), .val (.int p3), .val (.int p4), .val (.int p5), .val (.int p6), .val (.int (1 : Int32)), .val (.int (2 : Int32)), .val (.ref b1)] [(.int p6), (.int p5), (.int p2), (.int (2 : Int32)), (.int (1 : Int32)), (.int (1 : Int32)), (.int p5)])
      refine OwnGo.callS X56 hx hZ hown (y := (⟨"com/example/sibling/sibling/xpath/IntColumnSetPinLaw", "expected", "(IIIIII)I"⟩ : MethodName)) (hw _ (List.mem_of_getElem? (i := 66) rfl)) (hw _ (List.mem_of_getElem? (i := 67) rfl)) (hw _ (List.mem_of_getElem? (i := 68) rfl)) (hw _ (List.mem_of_getElem? (i := 69) rfl)) (by decide) e56 (as := [(.int (1 : Int32)), (.int (1 : Int32)), (.int (2 : Int32)), (.int p2), (.int p5), (.int p6)]) (rmE l Z a0 hw (1 : Int32) (1 : Int32) (2 : Int32) p2 p5 p6 p5 T52.heap (by simp [own_exp])) (W := 1) (by decide) (by decide) (by decide) (by decide) (by rw [hml]; rfl) (lenOf own_pd8 rfl) (rest := [(.int p5)]) rfl rfl (hb hby at_113) fun v57 T57 L57 X57 q57 => ?_
      obtain ⟨rfl, e57, rfl⟩ := q57
      rw [List.append_nil] at X57
      show Go p e below _ T57 (mkF m 116 #[.val (.int p1), .val (.int p2), .val (.int p3), .val (.int p4), .val (.int p5), .val (.int p6), .val (.int (1 : Int32)), .val (.int (2 : Int32)), .val (.ref b1)] [(.int p5), (.int p5)])
      refine OwnGo.ic_ne X57 hx (pc' := 145) (hb hby at_116) (by decide) (by decide) (fun q => absurd rfl q) (fun _ => ?_)
      show Go p e below _ T57 (mkF m 119 #[.val (.int p1), .val (.int p2), .val (.int p3), .val (.int p4), .val (.int p5), .val (.int p6), .val (.int (1 : Int32)), .val (.int (2 : Int32)), .val (.ref b1)] [])
      refine OwnGo.aload X57 hx (hb hby at_119) rfl rfl ?_
      show Go p e below _ T57 (mkF m 121 #[.val (.int p1), .val (.int p2), .val (.int p3), .val (.int p4), .val (.int p5), .val (.int p6), .val (.int (1 : Int32)), .val (.int (2 : Int32)), .val (.ref b1)] [(.ref b1)])
      refine OwnGo.iconst X57 hx (z := (2 : Int32)) (hb hby at_121) (by decide) ?_
      show Go p e below _ T57 (mkF m 122 #[.val (.int p1), .val (.int p2), .val (.int p3), .val (.int p4), .val (.int p5), .val (.int p6), .val (.int (1 : Int32)), .val (.int (2 : Int32)), .val (.ref b1)] [(.int (2 : Int32)), (.ref b1)])
      refine OwnGo.callV X57 hx hZ hown (y := (⟨"com/example/sibling/sibling/xpath/IntColumn", "get", "(I)I"⟩ : MethodName)) (z := (⟨"com/example/sibling/sibling/xpath/IntColumn", "get", "(I)I"⟩ : MethodName)) (hw _ (List.mem_of_getElem? (i := 61) rfl)) (hw _ (List.mem_of_getElem? (i := 62) rfl)) (notFace_of_selects (args := #[]) (mvT hZ (hw _ (List.mem_of_getElem? (i := 64) rfl)))) (hw _ (List.mem_of_getElem? (i := 64) rfl)) (hw _ (List.mem_of_getElem? (i := 63) rfl)) (hw _ (List.mem_of_getElem? (i := 2) rfl)) (hw _ (List.mem_of_getElem? (i := 65) rfl)) (by decide) e57 Ek52 (as := [(.int (2 : Int32))]) (rmGET2 l Z a0 hw b1 r kr p1 p5 p6 T52.heap Fk52 V52) (W := 0) (by decide) (by decide) (by decide) (by decide) (by rw [hml]; rfl) (lenOf own_pd7 rfl) (rest := []) rfl rfl (hb hby at_122) fun v58 T58 L58 X58 q58 => ?_
      obtain ⟨rfl, e58, rfl⟩ := q58
      rw [List.append_nil] at X58
      show Go p e below _ T58 (mkF m 125 #[.val (.int p1), .val (.int p2), .val (.int p3), .val (.int p4), .val (.int p5), .val (.int p6), .val (.int (1 : Int32)), .val (.int (2 : Int32)), .val (.ref b1)] [(.int p6)])
      refine OwnGo.iconst X58 hx (z := (2 : Int32)) (hb hby at_125) (by decide) ?_
      show Go p e below _ T58 (mkF m 126 #[.val (.int p1), .val (.int p2), .val (.int p3), .val (.int p4), .val (.int p5), .val (.int p6), .val (.int (1 : Int32)), .val (.int (2 : Int32)), .val (.ref b1)] [(.int (2 : Int32)), (.int p6)])
      refine OwnGo.iload X58 hx (hb hby at_126) rfl ?_
      show Go p e below _ T58 (mkF m 128 #[.val (.int p1), .val (.int p2), .val (.int p3), .val (.int p4), .val (.int p5), .val (.int p6), .val (.int (1 : Int32)), .val (.int (2 : Int32)), .val (.ref b1)] [(.int (1 : Int32)), (.int (2 : Int32)), (.int p6)])
      refine OwnGo.iload X58 hx (hb hby at_128) rfl ?_
      show Go p e below _ T58 (mkF m 130 #[.val (.int p1), .val (.int p2), .val (.int p3), .val (.int p4), .val (.int p5), .val (.int p6), .val (.int (1 : Int32)), .val (.int (2 : Int32)), .val (.ref b1)] [(.int (2 : Int32)), (.int (1 : Int32)), (.int (2 : Int32)), (.int p6)])
      refine OwnGo.iloadN X58 hx (hb hby at_130) rfl ?_
      show Go p e below _ T58 (mkF m 131 #[.val (.int p1), .val (.int p2), .val (.int p3), .val (.int p4), .val (.int p5), .val (.int p6), .val (.int (1 : Int32)), .val (.int (2 : Int32)), .val (.ref b1)] [(.int p3), (.int (2 : Int32)), (.int (1 : Int32)), (.int (2 : Int32)), (.int p6)])
      refine OwnGo.iload X58 hx (hb hby at_131) rfl ?_
      show Go p e below _ T58 (mkF m 133 #[.val (.int p1), .val (.int p2), .val (.int p3), .val (.int p4), .val (.int p5), .val (.int p6), .val (.int (1 : Int32)), .val (.int (2 : Int32)), .val (.ref b1)] [(.int p5), (.int p3), (.int (2 : Int32)), (.int (1 : Int32)), (.int (2 : Int32)), (.int p6)])
      refine OwnGo.iload X58 hx (hb hby at_133) rfl ?_
      show Go p e below _ T58 (mkF m 135 #[.val (.int p1), .val (.int p2), .val (.int p3), .val (.int p4), .val (.int p5), .val (.int p6), .val (.int (1 : Int32)), .val (.int (2 : Int32)), .val (.ref b1)] [(.int p6), (.int p5), (.int p3), (.int (2 : Int32)), (.int (1 : Int32)), (.int (2 : Int32)), (.int p6)])
      refine OwnGo.callS X58 hx hZ hown (y := (⟨"com/example/sibling/sibling/xpath/IntColumnSetPinLaw", "expected", "(IIIIII)I"⟩ : MethodName)) (hw _ (List.mem_of_getElem? (i := 66) rfl)) (hw _ (List.mem_of_getElem? (i := 67) rfl)) (hw _ (List.mem_of_getElem? (i := 68) rfl)) (hw _ (List.mem_of_getElem? (i := 69) rfl)) (by decide) e58 (as := [(.int (2 : Int32)), (.int (1 : Int32)), (.int (2 : Int32)), (.int p3), (.int p5), (.int p6)]) (rmE l Z a0 hw (2 : Int32) (1 : Int32) (2 : Int32) p3 p5 p6 p6 T52.heap (by simp [own_exp])) (W := 1) (by decide) (by decide) (by decide) (by decide) (by rw [hml]; rfl) (lenOf own_pd8 rfl) (rest := [(.int p6)]) rfl rfl (hb hby at_135) fun v59 T59 L59 X59 q59 => ?_
      obtain ⟨rfl, e59, rfl⟩ := q59
      rw [List.append_nil] at X59
      show Go p e below _ T59 (mkF m 138 #[.val (.int p1), .val (.int p2), .val (.int p3), .val (.int p4), .val (.int p5), .val (.int p6), .val (.int (1 : Int32)), .val (.int (2 : Int32)), .val (.ref b1)] [(.int p6), (.int p6)])
      refine OwnGo.ic_ne X59 hx (pc' := 145) (hb hby at_138) (by decide) (by decide) (fun q => absurd rfl q) (fun _ => ?_)
      show Go p e below _ T59 (mkF m 141 #[.val (.int p1), .val (.int p2), .val (.int p3), .val (.int p4), .val (.int p5), .val (.int p6), .val (.int (1 : Int32)), .val (.int (2 : Int32)), .val (.ref b1)] [])
      refine OwnGo.iconst X59 hx (z := (1 : Int32)) (hb hby at_141) (by decide) ?_
      show Go p e below _ T59 (mkF m 142 #[.val (.int p1), .val (.int p2), .val (.int p3), .val (.int p4), .val (.int p5), .val (.int p6), .val (.int (1 : Int32)), .val (.int (2 : Int32)), .val (.ref b1)] [(.int (1 : Int32))])
      refine OwnGo.goto X59 hx (pc' := 146) (hb hby at_142) (by decide) (by decide) ?_
      show Go p e below _ T59 (mkF m 146 #[.val (.int p1), .val (.int p2), .val (.int p3), .val (.int p4), .val (.int p5), .val (.int p6), .val (.int (1 : Int32)), .val (.int (2 : Int32)), .val (.ref b1)] [(.int (1 : Int32))])
      exact OwnGo.retB X59 hx hlk (z' := (1 : Int32)) hret (hb hby at_146) rfl ⟨rfl, (Fr.app (Fr.app (Fr.app (Fr.app (Fr.app (Fr.app (Fr.nil n0) N2) N3) N4) N5) N51) N52)⟩ (by decide) (by decide)
  ·
    rw [hi]
    rcases own_three ((p4.toUInt32 >>> ((8 : Int32) &&& 31).toUInt32).toInt32) with hj | hj | hj
    ·
      rw [hj]
      show Go p e below _ T5 (mkF m 48 #[.val (.int p1), .val (.int p2), .val (.int p3), .val (.int p4), .val (.int p5), .val (.int p6), .val (.int (2 : Int32)), .val (.int (0 : Int32)), .val (.ref b1)] [])
      refine OwnGo.aload X5 hx (hb hby at_48) rfl rfl ?_
      show Go p e below _ T5 (mkF m 50 #[.val (.int p1), .val (.int p2), .val (.int p3), .val (.int p4), .val (.int p5), .val (.int p6), .val (.int (2 : Int32)), .val (.int (0 : Int32)), .val (.ref b1)] [(.ref b1)])
      refine OwnGo.iload X5 hx (hb hby at_50) rfl ?_
      show Go p e below _ T5 (mkF m 52 #[.val (.int p1), .val (.int p2), .val (.int p3), .val (.int p4), .val (.int p5), .val (.int p6), .val (.int (2 : Int32)), .val (.int (0 : Int32)), .val (.ref b1)] [(.int (2 : Int32)), (.ref b1)])
      refine OwnGo.iload X5 hx (hb hby at_52) rfl ?_
      show Go p e below _ T5 (mkF m 54 #[.val (.int p1), .val (.int p2), .val (.int p3), .val (.int p4), .val (.int p5), .val (.int p6), .val (.int (2 : Int32)), .val (.int (0 : Int32)), .val (.ref b1)] [(.int p5), (.int (2 : Int32)), (.ref b1)])
      refine OwnGo.callV X5 hx hZ hown (y := (⟨"com/example/sibling/sibling/xpath/IntColumn", "set", "(II)V"⟩ : MethodName)) (z := (⟨"com/example/sibling/sibling/xpath/IntColumn", "set", "(II)V"⟩ : MethodName)) (hw _ (List.mem_of_getElem? (i := 51) rfl)) (hw _ (List.mem_of_getElem? (i := 52) rfl)) (notFace_of_selects (args := #[]) (mvT hZ (hw _ (List.mem_of_getElem? (i := 54) rfl)))) (hw _ (List.mem_of_getElem? (i := 54) rfl)) (hw _ (List.mem_of_getElem? (i := 53) rfl)) (hw _ (List.mem_of_getElem? (i := 2) rfl)) (hw _ (List.mem_of_getElem? (i := 55) rfl)) (by decide) rfl E5 (as := [(.int (2 : Int32)), (.int p5)]) (rmSET2 l Z a0 hw b1 r kr p1 p2 p3 p5 T5.heap n0 Zs5 gr F5_first V5 nbr) (W := 0) (by decide) (by decide) (by decide) (by decide) (by rw [hml]; rfl) (lenOf own_pd5 rfl) (rest := []) rfl rfl (hb hby at_54) fun v60 T60 L60 X60 q60 => ?_
      obtain ⟨rfl, N60, K60, V60⟩ := q60
      have Fk60 := F5_first.keep K60 (ninS nbr nin0)
      have Fz60 := F5_size.keep K60 (ninS nbr nin0)
      have Ek60 := E5.keep K60
      have Zs60 := Nat.le_trans Zs5 K60.1
      show Go p e below _ T60 (mkF m 57 #[.val (.int p1), .val (.int p2), .val (.int p3), .val (.int p4), .val (.int p5), .val (.int p6), .val (.int (2 : Int32)), .val (.int (0 : Int32)), .val (.ref b1)] [])
      refine OwnGo.aload X60 hx (hb hby at_57) rfl rfl ?_
      show Go p e below _ T60 (mkF m 59 #[.val (.int p1), .val (.int p2), .val (.int p3), .val (.int p4), .val (.int p5), .val (.int p6), .val (.int (2 : Int32)), .val (.int (0 : Int32)), .val (.ref b1)] [(.ref b1)])
      refine OwnGo.iload X60 hx (hb hby at_59) rfl ?_
      show Go p e below _ T60 (mkF m 61 #[.val (.int p1), .val (.int p2), .val (.int p3), .val (.int p4), .val (.int p5), .val (.int p6), .val (.int (2 : Int32)), .val (.int (0 : Int32)), .val (.ref b1)] [(.int (0 : Int32)), (.ref b1)])
      refine OwnGo.iload X60 hx (hb hby at_61) rfl ?_
      show Go p e below _ T60 (mkF m 63 #[.val (.int p1), .val (.int p2), .val (.int p3), .val (.int p4), .val (.int p5), .val (.int p6), .val (.int (2 : Int32)), .val (.int (0 : Int32)), .val (.ref b1)] [(.int p6), (.int (0 : Int32)), (.ref b1)])
      refine OwnGo.callV X60 hx hZ hown (y := (⟨"com/example/sibling/sibling/xpath/IntColumn", "set", "(II)V"⟩ : MethodName)) (z := (⟨"com/example/sibling/sibling/xpath/IntColumn", "set", "(II)V"⟩ : MethodName)) (hw _ (List.mem_of_getElem? (i := 51) rfl)) (hw _ (List.mem_of_getElem? (i := 52) rfl)) (notFace_of_selects (args := #[]) (mvT hZ (hw _ (List.mem_of_getElem? (i := 54) rfl)))) (hw _ (List.mem_of_getElem? (i := 54) rfl)) (hw _ (List.mem_of_getElem? (i := 53) rfl)) (hw _ (List.mem_of_getElem? (i := 2) rfl)) (hw _ (List.mem_of_getElem? (i := 55) rfl)) (by decide) rfl Ek60 (as := [(.int (0 : Int32)), (.int p6)]) (rmSET0 l Z a0 hw b1 r kr p1 p2 p5 p6 T60.heap n0 Zs60 gr Fk60 V60 nbr) (W := 0) (by decide) (by decide) (by decide) (by decide) (by rw [hml]; rfl) (lenOf own_pd5 rfl) (rest := []) rfl rfl (hb hby at_63) fun v61 T61 L61 X61 q61 => ?_
      obtain ⟨rfl, N61, K61, V61⟩ := q61
      have Fk61 := Fk60.keep K61 (ninS nbr nin0)
      have Fz61 := Fz60.keep K61 (ninS nbr nin0)
      have Ek61 := Ek60.keep K61
      have Zs61 := Nat.le_trans Zs60 K61.1
      show Go p e below _ T61 (mkF m 66 #[.val (.int p1), .val (.int p2), .val (.int p3), .val (.int p4), .val (.int p5), .val (.int p6), .val (.int (2 : Int32)), .val (.int (0 : Int32)), .val (.ref b1)] [])
      refine OwnGo.aload X61 hx (hb hby at_66) rfl rfl ?_
      show Go p e below _ T61 (mkF m 68 #[.val (.int p1), .val (.int p2), .val (.int p3), .val (.int p4), .val (.int p5), .val (.int p6), .val (.int (2 : Int32)), .val (.int (0 : Int32)), .val (.ref b1)] [(.ref b1)])
      refine OwnGo.callV X61 hx hZ hown (y := (⟨"com/example/sibling/sibling/xpath/IntColumn", "size", "()I"⟩ : MethodName)) (z := (⟨"com/example/sibling/sibling/xpath/IntColumn", "size", "()I"⟩ : MethodName)) (hw _ (List.mem_of_getElem? (i := 56) rfl)) (hw _ (List.mem_of_getElem? (i := 57) rfl)) (notFace_of_selects (args := #[]) (mvT hZ (hw _ (List.mem_of_getElem? (i := 59) rfl)))) (hw _ (List.mem_of_getElem? (i := 59) rfl)) (hw _ (List.mem_of_getElem? (i := 58) rfl)) (hw _ (List.mem_of_getElem? (i := 2) rfl)) (hw _ (List.mem_of_getElem? (i := 60) rfl)) (by decide) rfl Ek61 (as := []) (rmSIZ l Z a0 hw b1 (3 : Int32) T61.heap Fz61) (W := 0) (by decide) (by decide) (by decide) (by decide) (by rw [hml]; rfl) (lenOf own_pd6 rfl) (rest := []) rfl rfl (hb hby at_68) fun v62 T62 L62 X62 q62 => ?_
      obtain ⟨rfl, e62, rfl⟩ := q62
      rw [List.append_nil] at X62
      show Go p e below _ T62 (mkF m 71 #[.val (.int p1), .val (.int p2), .val (.int p3), .val (.int p4), .val (.int p5), .val (.int p6), .val (.int (2 : Int32)), .val (.int (0 : Int32)), .val (.ref b1)] [(.int (3 : Int32))])
      refine OwnGo.iconst X62 hx (z := (3 : Int32)) (hb hby at_71) (by decide) ?_
      show Go p e below _ T62 (mkF m 72 #[.val (.int p1), .val (.int p2), .val (.int p3), .val (.int p4), .val (.int p5), .val (.int p6), .val (.int (2 : Int32)), .val (.int (0 : Int32)), .val (.ref b1)] [(.int (3 : Int32)), (.int (3 : Int32))])
      refine OwnGo.ic_ne X62 hx (pc' := 145) (hb hby at_72) (by decide) (by decide) (fun q => absurd q (by decide)) (fun _ => ?_)
      show Go p e below _ T62 (mkF m 75 #[.val (.int p1), .val (.int p2), .val (.int p3), .val (.int p4), .val (.int p5), .val (.int p6), .val (.int (2 : Int32)), .val (.int (0 : Int32)), .val (.ref b1)] [])
      refine OwnGo.aload X62 hx (hb hby at_75) rfl rfl ?_
      show Go p e below _ T62 (mkF m 77 #[.val (.int p1), .val (.int p2), .val (.int p3), .val (.int p4), .val (.int p5), .val (.int p6), .val (.int (2 : Int32)), .val (.int (0 : Int32)), .val (.ref b1)] [(.ref b1)])
      refine OwnGo.iconst X62 hx (z := (0 : Int32)) (hb hby at_77) (by decide) ?_
      show Go p e below _ T62 (mkF m 78 #[.val (.int p1), .val (.int p2), .val (.int p3), .val (.int p4), .val (.int p5), .val (.int p6), .val (.int (2 : Int32)), .val (.int (0 : Int32)), .val (.ref b1)] [(.int (0 : Int32)), (.ref b1)])
      refine OwnGo.callV X62 hx hZ hown (y := (⟨"com/example/sibling/sibling/xpath/IntColumn", "get", "(I)I"⟩ : MethodName)) (z := (⟨"com/example/sibling/sibling/xpath/IntColumn", "get", "(I)I"⟩ : MethodName)) (hw _ (List.mem_of_getElem? (i := 61) rfl)) (hw _ (List.mem_of_getElem? (i := 62) rfl)) (notFace_of_selects (args := #[]) (mvT hZ (hw _ (List.mem_of_getElem? (i := 64) rfl)))) (hw _ (List.mem_of_getElem? (i := 64) rfl)) (hw _ (List.mem_of_getElem? (i := 63) rfl)) (hw _ (List.mem_of_getElem? (i := 2) rfl)) (hw _ (List.mem_of_getElem? (i := 65) rfl)) (by decide) e62 Ek61 (as := [(.int (0 : Int32))]) (rmGET0 l Z a0 hw b1 r kr p6 p2 p5 T61.heap Fk61 V61) (W := 0) (by decide) (by decide) (by decide) (by decide) (by rw [hml]; rfl) (lenOf own_pd7 rfl) (rest := []) rfl rfl (hb hby at_78) fun v63 T63 L63 X63 q63 => ?_
      obtain ⟨rfl, e63, rfl⟩ := q63
      rw [List.append_nil] at X63
      show Go p e below _ T63 (mkF m 81 #[.val (.int p1), .val (.int p2), .val (.int p3), .val (.int p4), .val (.int p5), .val (.int p6), .val (.int (2 : Int32)), .val (.int (0 : Int32)), .val (.ref b1)] [(.int p6)])
      refine OwnGo.iconst X63 hx (z := (0 : Int32)) (hb hby at_81) (by decide) ?_
      show Go p e below _ T63 (mkF m 82 #[.val (.int p1), .val (.int p2), .val (.int p3), .val (.int p4), .val (.int p5), .val (.int p6), .val (.int (2 : Int32)), .val (.int (0 : Int32)), .val (.ref b1)] [(.int (0 : Int32)), (.int p6)])
      refine OwnGo.iload X63 hx (hb hby at_82) rfl ?_
      show Go p e below _ T63 (mkF m 84 #[.val (.int p1), .val (.int p2), .val (.int p3), .val (.int p4), .val (.int p5), .val (.int p6), .val (.int (2 : Int32)), .val (.int (0 : Int32)), .val (.ref b1)] [(.int (2 : Int32)), (.int (0 : Int32)), (.int p6)])
      refine OwnGo.iload X63 hx (hb hby at_84) rfl ?_
      show Go p e below _ T63 (mkF m 86 #[.val (.int p1), .val (.int p2), .val (.int p3), .val (.int p4), .val (.int p5), .val (.int p6), .val (.int (2 : Int32)), .val (.int (0 : Int32)), .val (.ref b1)] [(.int (0 : Int32)), (.int (2 : Int32)), (.int (0 : Int32)), (.int p6)])
      refine OwnGo.iloadN X63 hx (hb hby at_86) rfl ?_
      show Go p e below _ T63 (mkF m 87 #[.val (.int p1), .val (.int p2), .val (.int p3), .val (.int p4), .val (.int p5), .val (.int p6), .val (.int (2 : Int32)), .val (.int (0 : Int32)), .val (.ref b1)] [(.int p1), (.int (0 : Int32)), (.int (2 : Int32)), (.int (0 : Int32)), (.int p6)])
      refine OwnGo.iload X63 hx (hb hby at_87) rfl ?_
      show Go p e below _ T63 (mkF m 89 #[.val (.int p1), .val (.int p2), .val (.int p3), .val (.int p4), .val (.int p5), .val (.int p6), .val (.int (2 : Int32)), .val (.int (0 : Int32)), .val (.ref b1)] [(.int p5), (.int p1), (.int (0 : Int32)), (.int (2 : Int32)), (.int (0 : Int32)), (.int p6)])
      refine OwnGo.iload X63 hx (hb hby at_89) rfl ?_
      show Go p e below _ T63 (mkF m 91 #[.val (.int p1), .val (.int p2), .val (.int p3), .val (.int p4), .val (.int p5), .val (.int p6), .val (.int (2 : Int32)), .val (.int (0 : Int32)), .val (.ref b1)] [(.int p6), (.int p5), (.int p1), (.int (0 : Int32)), (.int (2 : Int32)), (.int (0 : Int32)), (.int p6)])
      refine OwnGo.callS X63 hx hZ hown (y := (⟨"com/example/sibling/sibling/xpath/IntColumnSetPinLaw", "expected", "(IIIIII)I"⟩ : MethodName)) (hw _ (List.mem_of_getElem? (i := 66) rfl)) (hw _ (List.mem_of_getElem? (i := 67) rfl)) (hw _ (List.mem_of_getElem? (i := 68) rfl)) (hw _ (List.mem_of_getElem? (i := 69) rfl)) (by decide) e63 (as := [(.int (0 : Int32)), (.int (2 : Int32)), (.int (0 : Int32)), (.int p1), (.int p5), (.int p6)]) (rmE l Z a0 hw (0 : Int32) (2 : Int32) (0 : Int32) p1 p5 p6 p6 T61.heap (by simp [own_exp])) (W := 1) (by decide) (by decide) (by decide) (by decide) (by rw [hml]; rfl) (lenOf own_pd8 rfl) (rest := [(.int p6)]) rfl rfl (hb hby at_91) fun v64 T64 L64 X64 q64 => ?_
      obtain ⟨rfl, e64, rfl⟩ := q64
      rw [List.append_nil] at X64
      show Go p e below _ T64 (mkF m 94 #[.val (.int p1), .val (.int p2), .val (.int p3), .val (.int p4), .val (.int p5), .val (.int p6), .val (.int (2 : Int32)), .val (.int (0 : Int32)), .val (.ref b1)] [(.int p6), (.int p6)])
      refine OwnGo.ic_ne X64 hx (pc' := 145) (hb hby at_94) (by decide) (by decide) (fun q => absurd rfl q) (fun _ => ?_)
      show Go p e below _ T64 (mkF m 97 #[.val (.int p1), .val (.int p2), .val (.int p3), .val (.int p4), .val (.int p5), .val (.int p6), .val (.int (2 : Int32)), .val (.int (0 : Int32)), .val (.ref b1)] [])
      refine OwnGo.aload X64 hx (hb hby at_97) rfl rfl ?_
      show Go p e below _ T64 (mkF m 99 #[.val (.int p1), .val (.int p2), .val (.int p3), .val (.int p4), .val (.int p5), .val (.int p6), .val (.int (2 : Int32)), .val (.int (0 : Int32)), .val (.ref b1)] [(.ref b1)])
      refine OwnGo.iconst X64 hx (z := (1 : Int32)) (hb hby at_99) (by decide) ?_
      show Go p e below _ T64 (mkF m 100 #[.val (.int p1), .val (.int p2), .val (.int p3), .val (.int p4), .val (.int p5), .val (.int p6), .val (.int (2 : Int32)), .val (.int (0 : Int32)), .val (.ref b1)] [(.int (1 : Int32)), (.ref b1)])
      refine OwnGo.callV X64 hx hZ hown (y := (⟨"com/example/sibling/sibling/xpath/IntColumn", "get", "(I)I"⟩ : MethodName)) (z := (⟨"com/example/sibling/sibling/xpath/IntColumn", "get", "(I)I"⟩ : MethodName)) (hw _ (List.mem_of_getElem? (i := 61) rfl)) (hw _ (List.mem_of_getElem? (i := 62) rfl)) (notFace_of_selects (args := #[]) (mvT hZ (hw _ (List.mem_of_getElem? (i := 64) rfl)))) (hw _ (List.mem_of_getElem? (i := 64) rfl)) (hw _ (List.mem_of_getElem? (i := 63) rfl)) (hw _ (List.mem_of_getElem? (i := 2) rfl)) (hw _ (List.mem_of_getElem? (i := 65) rfl)) (by decide) e64 Ek61 (as := [(.int (1 : Int32))]) (rmGET1 l Z a0 hw b1 r kr p6 p2 p5 T61.heap Fk61 V61) (W := 0) (by decide) (by decide) (by decide) (by decide) (by rw [hml]; rfl) (lenOf own_pd7 rfl) (rest := []) rfl rfl (hb hby at_100) fun v65 T65 L65 X65 q65 => ?_
      obtain ⟨rfl, e65, rfl⟩ := q65
      rw [List.append_nil] at X65
      show Go p e below _ T65 (mkF m 103 #[.val (.int p1), .val (.int p2), .val (.int p3), .val (.int p4), .val (.int p5), .val (.int p6), .val (.int (2 : Int32)), .val (.int (0 : Int32)), .val (.ref b1)] [(.int p2)])
      refine OwnGo.iconst X65 hx (z := (1 : Int32)) (hb hby at_103) (by decide) ?_
      show Go p e below _ T65 (mkF m 104 #[.val (.int p1), .val (.int p2), .val (.int p3), .val (.int p4), .val (.int p5), .val (.int p6), .val (.int (2 : Int32)), .val (.int (0 : Int32)), .val (.ref b1)] [(.int (1 : Int32)), (.int p2)])
      refine OwnGo.iload X65 hx (hb hby at_104) rfl ?_
      show Go p e below _ T65 (mkF m 106 #[.val (.int p1), .val (.int p2), .val (.int p3), .val (.int p4), .val (.int p5), .val (.int p6), .val (.int (2 : Int32)), .val (.int (0 : Int32)), .val (.ref b1)] [(.int (2 : Int32)), (.int (1 : Int32)), (.int p2)])
      refine OwnGo.iload X65 hx (hb hby at_106) rfl ?_
      show Go p e below _ T65 (mkF m 108 #[.val (.int p1), .val (.int p2), .val (.int p3), .val (.int p4), .val (.int p5), .val (.int p6), .val (.int (2 : Int32)), .val (.int (0 : Int32)), .val (.ref b1)] [(.int (0 : Int32)), (.int (2 : Int32)), (.int (1 : Int32)), (.int p2)])
      refine OwnGo.iloadN X65 hx (hb hby at_108) rfl ?_
      show Go p e below _ T65 (mkF m 109 #[.val (.int p1), .val (.int p2), .val (.int p3), .val (.int p4), .val (.int p5), .val (.int p6), .val (.int (2 : Int32)), .val (.int (0 : Int32)), .val (.ref b1)] [(.int p2), (.int (0 : Int32)), (.int (2 : Int32)), (.int (1 : Int32)), (.int p2)])
      refine OwnGo.iload X65 hx (hb hby at_109) rfl ?_
      show Go p e below _ T65 (mkF m 111 #[.val (.int p1), .val (.int p2), .val (.int p3), .val (.int p4), .val (.int p5), .val (.int p6), .val (.int (2 : Int32)), .val (.int (0 : Int32)), .val (.ref b1)] [(.int p5), (.int p2), (.int (0 : Int32)), (.int (2 : Int32)), (.int (1 : Int32)), (.int p2)])
      refine OwnGo.iload X65 hx (hb hby at_111) rfl ?_
      show Go p e below _ T65 (mkF m 113 #[.val (.int p1), .val (.int p2), .val (.int p3), .val (.int p4), .val (.int p5), .val (.int p6), .val (.int (2 : Int32)), .val (.int (0 : Int32)), .val (.ref b1)] [(.int p6), (.int p5), (.int p2), (.int (0 : Int32)), (.int (2 : Int32)), (.int (1 : Int32)), (.int p2)])
      refine OwnGo.callS X65 hx hZ hown (y := (⟨"com/example/sibling/sibling/xpath/IntColumnSetPinLaw", "expected", "(IIIIII)I"⟩ : MethodName)) (hw _ (List.mem_of_getElem? (i := 66) rfl)) (hw _ (List.mem_of_getElem? (i := 67) rfl)) (hw _ (List.mem_of_getElem? (i := 68) rfl)) (hw _ (List.mem_of_getElem? (i := 69) rfl)) (by decide) e65 (as := [(.int (1 : Int32)), (.int (2 : Int32)), (.int (0 : Int32)), (.int p2), (.int p5), (.int p6)]) (rmE l Z a0 hw (1 : Int32) (2 : Int32) (0 : Int32) p2 p5 p6 p2 T61.heap (by simp [own_exp])) (W := 1) (by decide) (by decide) (by decide) (by decide) (by rw [hml]; rfl) (lenOf own_pd8 rfl) (rest := [(.int p2)]) rfl rfl (hb hby at_113) fun v66 T66 L66 X66 q66 => ?_
      obtain ⟨rfl, e66, rfl⟩ := q66
      rw [List.append_nil] at X66
      show Go p e below _ T66 (mkF m 116 #[.val (.int p1), .val (.int p2), .val (.int p3), .val (.int p4), .val (.int p5), .val (.int p6), .val (.int (2 : Int32)), .val (.int (0 : Int32)), .val (.ref b1)] [(.int p2), (.int p2)])
      refine OwnGo.ic_ne X66 hx (pc' := 145) (hb hby at_116) (by decide) (by decide) (fun q => absurd rfl q) (fun _ => ?_)
      show Go p e below _ T66 (mkF m 119 #[.val (.int p1), .val (.int p2), .val (.int p3), .val (.int p4), .val (.int p5), .val (.int p6), .val (.int (2 : Int32)), .val (.int (0 : Int32)), .val (.ref b1)] [])
      refine OwnGo.aload X66 hx (hb hby at_119) rfl rfl ?_
      show Go p e below _ T66 (mkF m 121 #[.val (.int p1), .val (.int p2), .val (.int p3), .val (.int p4), .val (.int p5), .val (.int p6), .val (.int (2 : Int32)), .val (.int (0 : Int32)), .val (.ref b1)] [(.ref b1)])
      refine OwnGo.iconst X66 hx (z := (2 : Int32)) (hb hby at_121) (by decide) ?_
      show Go p e below _ T66 (mkF m 122 #[.val (.int p1), .val (.int p2), .val (.int p3), .val (.int p4), .val (.int p5), .val (.int p6), .val (.int (2 : Int32)), .val (.int (0 : Int32)), .val (.ref b1)] [(.int (2 : Int32)), (.ref b1)])
      refine OwnGo.callV X66 hx hZ hown (y := (⟨"com/example/sibling/sibling/xpath/IntColumn", "get", "(I)I"⟩ : MethodName)) (z := (⟨"com/example/sibling/sibling/xpath/IntColumn", "get", "(I)I"⟩ : MethodName)) (hw _ (List.mem_of_getElem? (i := 61) rfl)) (hw _ (List.mem_of_getElem? (i := 62) rfl)) (notFace_of_selects (args := #[]) (mvT hZ (hw _ (List.mem_of_getElem? (i := 64) rfl)))) (hw _ (List.mem_of_getElem? (i := 64) rfl)) (hw _ (List.mem_of_getElem? (i := 63) rfl)) (hw _ (List.mem_of_getElem? (i := 2) rfl)) (hw _ (List.mem_of_getElem? (i := 65) rfl)) (by decide) e66 Ek61 (as := [(.int (2 : Int32))]) (rmGET2 l Z a0 hw b1 r kr p6 p2 p5 T61.heap Fk61 V61) (W := 0) (by decide) (by decide) (by decide) (by decide) (by rw [hml]; rfl) (lenOf own_pd7 rfl) (rest := []) rfl rfl (hb hby at_122) fun v67 T67 L67 X67 q67 => ?_
      obtain ⟨rfl, e67, rfl⟩ := q67
      rw [List.append_nil] at X67
      show Go p e below _ T67 (mkF m 125 #[.val (.int p1), .val (.int p2), .val (.int p3), .val (.int p4), .val (.int p5), .val (.int p6), .val (.int (2 : Int32)), .val (.int (0 : Int32)), .val (.ref b1)] [(.int p5)])
      refine OwnGo.iconst X67 hx (z := (2 : Int32)) (hb hby at_125) (by decide) ?_
      show Go p e below _ T67 (mkF m 126 #[.val (.int p1), .val (.int p2), .val (.int p3), .val (.int p4), .val (.int p5), .val (.int p6), .val (.int (2 : Int32)), .val (.int (0 : Int32)), .val (.ref b1)] [(.int (2 : Int32)), (.int p5)])
      refine OwnGo.iload X67 hx (hb hby at_126) rfl ?_
      show Go p e below _ T67 (mkF m 128 #[.val (.int p1), .val (.int p2), .val (.int p3), .val (.int p4), .val (.int p5), .val (.int p6), .val (.int (2 : Int32)), .val (.int (0 : Int32)), .val (.ref b1)] [(.int (2 : Int32)), (.int (2 : Int32)), (.int p5)])
      refine OwnGo.iload X67 hx (hb hby at_128) rfl ?_
      show Go p e below _ T67 (mkF m 130 #[.val (.int p1), .val (.int p2), .val (.int p3), .val (.int p4), .val (.int p5), .val (.int p6), .val (.int (2 : Int32)), .val (.int (0 : Int32)), .val (.ref b1)] [(.int (0 : Int32)), (.int (2 : Int32)), (.int (2 : Int32)), (.int p5)])
      refine OwnGo.iloadN X67 hx (hb hby at_130) rfl ?_
      show Go p e below _ T67 (mkF m 131 #[.val (.int p1), .val (.int p2), .val (.int p3), .val (.int p4), .val (.int p5), .val (.int p6), .val (.int (2 : Int32)), .val (.int (0 : Int32)), .val (.ref b1)] [(.int p3), (.int (0 : Int32)), (.int (2 : Int32)), (.int (2 : Int32)), (.int p5)])
      refine OwnGo.iload X67 hx (hb hby at_131) rfl ?_
      show Go p e below _ T67 (mkF m 133 #[.val (.int p1), .val (.int p2), .val (.int p3), .val (.int p4), .val (.int p5), .val (.int p6), .val (.int (2 : Int32)), .val (.int (0 : Int32)), .val (.ref b1)] [(.int p5), (.int p3), (.int (0 : Int32)), (.int (2 : Int32)), (.int (2 : Int32)), (.int p5)])
      refine OwnGo.iload X67 hx (hb hby at_133) rfl ?_
      show Go p e below _ T67 (mkF m 135 #[.val (.int p1), .val (.int p2), .val (.int p3), .val (.int p4), .val (.int p5), .val (.int p6), .val (.int (2 : Int32)), .val (.int (0 : Int32)), .val (.ref b1)] [(.int p6), (.int p5), (.int p3), (.int (0 : Int32)), (.int (2 : Int32)), (.int (2 : Int32)), (.int p5)])
      refine OwnGo.callS X67 hx hZ hown (y := (⟨"com/example/sibling/sibling/xpath/IntColumnSetPinLaw", "expected", "(IIIIII)I"⟩ : MethodName)) (hw _ (List.mem_of_getElem? (i := 66) rfl)) (hw _ (List.mem_of_getElem? (i := 67) rfl)) (hw _ (List.mem_of_getElem? (i := 68) rfl)) (hw _ (List.mem_of_getElem? (i := 69) rfl)) (by decide) e67 (as := [(.int (2 : Int32)), (.int (2 : Int32)), (.int (0 : Int32)), (.int p3), (.int p5), (.int p6)]) (rmE l Z a0 hw (2 : Int32) (2 : Int32) (0 : Int32) p3 p5 p6 p5 T61.heap (by simp [own_exp])) (W := 1) (by decide) (by decide) (by decide) (by decide) (by rw [hml]; rfl) (lenOf own_pd8 rfl) (rest := [(.int p5)]) rfl rfl (hb hby at_135) fun v68 T68 L68 X68 q68 => ?_
      obtain ⟨rfl, e68, rfl⟩ := q68
      rw [List.append_nil] at X68
      show Go p e below _ T68 (mkF m 138 #[.val (.int p1), .val (.int p2), .val (.int p3), .val (.int p4), .val (.int p5), .val (.int p6), .val (.int (2 : Int32)), .val (.int (0 : Int32)), .val (.ref b1)] [(.int p5), (.int p5)])
      refine OwnGo.ic_ne X68 hx (pc' := 145) (hb hby at_138) (by decide) (by decide) (fun q => absurd rfl q) (fun _ => ?_)
      show Go p e below _ T68 (mkF m 141 #[.val (.int p1), .val (.int p2), .val (.int p3), .val (.int p4), .val (.int p5), .val (.int p6), .val (.int (2 : Int32)), .val (.int (0 : Int32)), .val (.ref b1)] [])
      refine OwnGo.iconst X68 hx (z := (1 : Int32)) (hb hby at_141) (by decide) ?_
      show Go p e below _ T68 (mkF m 142 #[.val (.int p1), .val (.int p2), .val (.int p3), .val (.int p4), .val (.int p5), .val (.int p6), .val (.int (2 : Int32)), .val (.int (0 : Int32)), .val (.ref b1)] [(.int (1 : Int32))])
      refine OwnGo.goto X68 hx (pc' := 146) (hb hby at_142) (by decide) (by decide) ?_
      show Go p e below _ T68 (mkF m 146 #[.val (.int p1), .val (.int p2), .val (.int p3), .val (.int p4), .val (.int p5), .val (.int p6), .val (.int (2 : Int32)), .val (.int (0 : Int32)), .val (.ref b1)] [(.int (1 : Int32))])
      exact OwnGo.retB X68 hx hlk (z' := (1 : Int32)) hret (hb hby at_146) rfl ⟨rfl, (Fr.app (Fr.app (Fr.app (Fr.app (Fr.app (Fr.app (Fr.nil n0) N2) N3) N4) N5) N60) N61)⟩ (by decide) (by decide)
    ·
      rw [hj]
      show Go p e below _ T5 (mkF m 48 #[.val (.int p1), .val (.int p2), .val (.int p3), .val (.int p4), .val (.int p5), .val (.int p6), .val (.int (2 : Int32)), .val (.int (1 : Int32)), .val (.ref b1)] [])
      refine OwnGo.aload X5 hx (hb hby at_48) rfl rfl ?_
      show Go p e below _ T5 (mkF m 50 #[.val (.int p1), .val (.int p2), .val (.int p3), .val (.int p4), .val (.int p5), .val (.int p6), .val (.int (2 : Int32)), .val (.int (1 : Int32)), .val (.ref b1)] [(.ref b1)])
      refine OwnGo.iload X5 hx (hb hby at_50) rfl ?_
      show Go p e below _ T5 (mkF m 52 #[.val (.int p1), .val (.int p2), .val (.int p3), .val (.int p4), .val (.int p5), .val (.int p6), .val (.int (2 : Int32)), .val (.int (1 : Int32)), .val (.ref b1)] [(.int (2 : Int32)), (.ref b1)])
      refine OwnGo.iload X5 hx (hb hby at_52) rfl ?_
      show Go p e below _ T5 (mkF m 54 #[.val (.int p1), .val (.int p2), .val (.int p3), .val (.int p4), .val (.int p5), .val (.int p6), .val (.int (2 : Int32)), .val (.int (1 : Int32)), .val (.ref b1)] [(.int p5), (.int (2 : Int32)), (.ref b1)])
      refine OwnGo.callV X5 hx hZ hown (y := (⟨"com/example/sibling/sibling/xpath/IntColumn", "set", "(II)V"⟩ : MethodName)) (z := (⟨"com/example/sibling/sibling/xpath/IntColumn", "set", "(II)V"⟩ : MethodName)) (hw _ (List.mem_of_getElem? (i := 51) rfl)) (hw _ (List.mem_of_getElem? (i := 52) rfl)) (notFace_of_selects (args := #[]) (mvT hZ (hw _ (List.mem_of_getElem? (i := 54) rfl)))) (hw _ (List.mem_of_getElem? (i := 54) rfl)) (hw _ (List.mem_of_getElem? (i := 53) rfl)) (hw _ (List.mem_of_getElem? (i := 2) rfl)) (hw _ (List.mem_of_getElem? (i := 55) rfl)) (by decide) rfl E5 (as := [(.int (2 : Int32)), (.int p5)]) (rmSET2 l Z a0 hw b1 r kr p1 p2 p3 p5 T5.heap n0 Zs5 gr F5_first V5 nbr) (W := 0) (by decide) (by decide) (by decide) (by decide) (by rw [hml]; rfl) (lenOf own_pd5 rfl) (rest := []) rfl rfl (hb hby at_54) fun v69 T69 L69 X69 q69 => ?_
      obtain ⟨rfl, N69, K69, V69⟩ := q69
      have Fk69 := F5_first.keep K69 (ninS nbr nin0)
      have Fz69 := F5_size.keep K69 (ninS nbr nin0)
      have Ek69 := E5.keep K69
      have Zs69 := Nat.le_trans Zs5 K69.1
      show Go p e below _ T69 (mkF m 57 #[.val (.int p1), .val (.int p2), .val (.int p3), .val (.int p4), .val (.int p5), .val (.int p6), .val (.int (2 : Int32)), .val (.int (1 : Int32)), .val (.ref b1)] [])
      refine OwnGo.aload X69 hx (hb hby at_57) rfl rfl ?_
      show Go p e below _ T69 (mkF m 59 #[.val (.int p1), .val (.int p2), .val (.int p3), .val (.int p4), .val (.int p5), .val (.int p6), .val (.int (2 : Int32)), .val (.int (1 : Int32)), .val (.ref b1)] [(.ref b1)])
      refine OwnGo.iload X69 hx (hb hby at_59) rfl ?_
      show Go p e below _ T69 (mkF m 61 #[.val (.int p1), .val (.int p2), .val (.int p3), .val (.int p4), .val (.int p5), .val (.int p6), .val (.int (2 : Int32)), .val (.int (1 : Int32)), .val (.ref b1)] [(.int (1 : Int32)), (.ref b1)])
      refine OwnGo.iload X69 hx (hb hby at_61) rfl ?_
      show Go p e below _ T69 (mkF m 63 #[.val (.int p1), .val (.int p2), .val (.int p3), .val (.int p4), .val (.int p5), .val (.int p6), .val (.int (2 : Int32)), .val (.int (1 : Int32)), .val (.ref b1)] [(.int p6), (.int (1 : Int32)), (.ref b1)])
      refine OwnGo.callV X69 hx hZ hown (y := (⟨"com/example/sibling/sibling/xpath/IntColumn", "set", "(II)V"⟩ : MethodName)) (z := (⟨"com/example/sibling/sibling/xpath/IntColumn", "set", "(II)V"⟩ : MethodName)) (hw _ (List.mem_of_getElem? (i := 51) rfl)) (hw _ (List.mem_of_getElem? (i := 52) rfl)) (notFace_of_selects (args := #[]) (mvT hZ (hw _ (List.mem_of_getElem? (i := 54) rfl)))) (hw _ (List.mem_of_getElem? (i := 54) rfl)) (hw _ (List.mem_of_getElem? (i := 53) rfl)) (hw _ (List.mem_of_getElem? (i := 2) rfl)) (hw _ (List.mem_of_getElem? (i := 55) rfl)) (by decide) rfl Ek69 (as := [(.int (1 : Int32)), (.int p6)]) (rmSET1 l Z a0 hw b1 r kr p1 p2 p5 p6 T69.heap n0 Zs69 gr Fk69 V69 nbr) (W := 0) (by decide) (by decide) (by decide) (by decide) (by rw [hml]; rfl) (lenOf own_pd5 rfl) (rest := []) rfl rfl (hb hby at_63) fun v70 T70 L70 X70 q70 => ?_
      obtain ⟨rfl, N70, K70, V70⟩ := q70
      have Fk70 := Fk69.keep K70 (ninS nbr nin0)
      have Fz70 := Fz69.keep K70 (ninS nbr nin0)
      have Ek70 := Ek69.keep K70
      have Zs70 := Nat.le_trans Zs69 K70.1
      show Go p e below _ T70 (mkF m 66 #[.val (.int p1), .val (.int p2), .val (.int p3), .val (.int p4), .val (.int p5), .val (.int p6), .val (.int (2 : Int32)), .val (.int (1 : Int32)), .val (.ref b1)] [])
      refine OwnGo.aload X70 hx (hb hby at_66) rfl rfl ?_
      show Go p e below _ T70 (mkF m 68 #[.val (.int p1), .val (.int p2), .val (.int p3), .val (.int p4), .val (.int p5), .val (.int p6), .val (.int (2 : Int32)), .val (.int (1 : Int32)), .val (.ref b1)] [(.ref b1)])
      refine OwnGo.callV X70 hx hZ hown (y := (⟨"com/example/sibling/sibling/xpath/IntColumn", "size", "()I"⟩ : MethodName)) (z := (⟨"com/example/sibling/sibling/xpath/IntColumn", "size", "()I"⟩ : MethodName)) (hw _ (List.mem_of_getElem? (i := 56) rfl)) (hw _ (List.mem_of_getElem? (i := 57) rfl)) (notFace_of_selects (args := #[]) (mvT hZ (hw _ (List.mem_of_getElem? (i := 59) rfl)))) (hw _ (List.mem_of_getElem? (i := 59) rfl)) (hw _ (List.mem_of_getElem? (i := 58) rfl)) (hw _ (List.mem_of_getElem? (i := 2) rfl)) (hw _ (List.mem_of_getElem? (i := 60) rfl)) (by decide) rfl Ek70 (as := []) (rmSIZ l Z a0 hw b1 (3 : Int32) T70.heap Fz70) (W := 0) (by decide) (by decide) (by decide) (by decide) (by rw [hml]; rfl) (lenOf own_pd6 rfl) (rest := []) rfl rfl (hb hby at_68) fun v71 T71 L71 X71 q71 => ?_
      obtain ⟨rfl, e71, rfl⟩ := q71
      rw [List.append_nil] at X71
      show Go p e below _ T71 (mkF m 71 #[.val (.int p1), .val (.int p2), .val (.int p3), .val (.int p4), .val (.int p5), .val (.int p6), .val (.int (2 : Int32)), .val (.int (1 : Int32)), .val (.ref b1)] [(.int (3 : Int32))])
      refine OwnGo.iconst X71 hx (z := (3 : Int32)) (hb hby at_71) (by decide) ?_
      show Go p e below _ T71 (mkF m 72 #[.val (.int p1), .val (.int p2), .val (.int p3), .val (.int p4), .val (.int p5), .val (.int p6), .val (.int (2 : Int32)), .val (.int (1 : Int32)), .val (.ref b1)] [(.int (3 : Int32)), (.int (3 : Int32))])
      refine OwnGo.ic_ne X71 hx (pc' := 145) (hb hby at_72) (by decide) (by decide) (fun q => absurd q (by decide)) (fun _ => ?_)
      show Go p e below _ T71 (mkF m 75 #[.val (.int p1), .val (.int p2), .val (.int p3), .val (.int p4), .val (.int p5), .val (.int p6), .val (.int (2 : Int32)), .val (.int (1 : Int32)), .val (.ref b1)] [])
      refine OwnGo.aload X71 hx (hb hby at_75) rfl rfl ?_
      show Go p e below _ T71 (mkF m 77 #[.val (.int p1), .val (.int p2), .val (.int p3), .val (.int p4), .val (.int p5), .val (.int p6), .val (.int (2 : Int32)), .val (.int (1 : Int32)), .val (.ref b1)] [(.ref b1)])
      refine OwnGo.iconst X71 hx (z := (0 : Int32)) (hb hby at_77) (by decide) ?_
      show Go p e below _ T71 (mkF m 78 #[.val (.int p1), .val (.int p2), .val (.int p3), .val (.int p4), .val (.int p5), .val (.int p6), .val (.int (2 : Int32)), .val (.int (1 : Int32)), .val (.ref b1)] [(.int (0 : Int32)), (.ref b1)])
      refine OwnGo.callV X71 hx hZ hown (y := (⟨"com/example/sibling/sibling/xpath/IntColumn", "get", "(I)I"⟩ : MethodName)) (z := (⟨"com/example/sibling/sibling/xpath/IntColumn", "get", "(I)I"⟩ : MethodName)) (hw _ (List.mem_of_getElem? (i := 61) rfl)) (hw _ (List.mem_of_getElem? (i := 62) rfl)) (notFace_of_selects (args := #[]) (mvT hZ (hw _ (List.mem_of_getElem? (i := 64) rfl)))) (hw _ (List.mem_of_getElem? (i := 64) rfl)) (hw _ (List.mem_of_getElem? (i := 63) rfl)) (hw _ (List.mem_of_getElem? (i := 2) rfl)) (hw _ (List.mem_of_getElem? (i := 65) rfl)) (by decide) e71 Ek70 (as := [(.int (0 : Int32))]) (rmGET0 l Z a0 hw b1 r kr p1 p6 p5 T70.heap Fk70 V70) (W := 0) (by decide) (by decide) (by decide) (by decide) (by rw [hml]; rfl) (lenOf own_pd7 rfl) (rest := []) rfl rfl (hb hby at_78) fun v72 T72 L72 X72 q72 => ?_
      obtain ⟨rfl, e72, rfl⟩ := q72
      rw [List.append_nil] at X72
      show Go p e below _ T72 (mkF m 81 #[.val (.int p1), .val (.int p2), .val (.int p3), .val (.int p4), .val (.int p5), .val (.int p6), .val (.int (2 : Int32)), .val (.int (1 : Int32)), .val (.ref b1)] [(.int p1)])
      refine OwnGo.iconst X72 hx (z := (0 : Int32)) (hb hby at_81) (by decide) ?_
      show Go p e below _ T72 (mkF m 82 #[.val (.int p1), .val (.int p2), .val (.int p3), .val (.int p4), .val (.int p5), .val (.int p6), .val (.int (2 : Int32)), .val (.int (1 : Int32)), .val (.ref b1)] [(.int (0 : Int32)), (.int p1)])
      refine OwnGo.iload X72 hx (hb hby at_82) rfl ?_
      show Go p e below _ T72 (mkF m 84 #[.val (.int p1), .val (.int p2), .val (.int p3), .val (.int p4), .val (.int p5), .val (.int p6), .val (.int (2 : Int32)), .val (.int (1 : Int32)), .val (.ref b1)] [(.int (2 : Int32)), (.int (0 : Int32)), (.int p1)])
      refine OwnGo.iload X72 hx (hb hby at_84) rfl ?_
      show Go p e below _ T72 (mkF m 86 #[.val (.int p1), .val (.int p2), .val (.int p3), .val (.int p4), .val (.int p5), .val (.int p6), .val (.int (2 : Int32)), .val (.int (1 : Int32)), .val (.ref b1)] [(.int (1 : Int32)), (.int (2 : Int32)), (.int (0 : Int32)), (.int p1)])
      refine OwnGo.iloadN X72 hx (hb hby at_86) rfl ?_
      show Go p e below _ T72 (mkF m 87 #[.val (.int p1), .val (.int p2), .val (.int p3), .val (.int p4), .val (.int p5), .val (.int p6), .val (.int (2 : Int32)), .val (.int (1 : Int32)), .val (.ref b1)] [(.int p1), (.int (1 : Int32)), (.int (2 : Int32)), (.int (0 : Int32)), (.int p1)])
      refine OwnGo.iload X72 hx (hb hby at_87) rfl ?_
      show Go p e below _ T72 (mkF m 89 #[.val (.int p1), .val (.int p2), .val (.int p3), .val (.int p4), .val (.int p5), .val (.int p6), .val (.int (2 : Int32)), .val (.int (1 : Int32)), .val (.ref b1)] [(.int p5), (.int p1), (.int (1 : Int32)), (.int (2 : Int32)), (.int (0 : Int32)), (.int p1)])
      refine OwnGo.iload X72 hx (hb hby at_89) rfl ?_
      show Go p e below _ T72 (mkF m 91 #[.val (.int p1), .val (.int p2), .val (.int p3), .val (.int p4), .val (.int p5), .val (.int p6), .val (.int (2 : Int32)), .val (.int (1 : Int32)), .val (.ref b1)] [(.int p6), (.int p5), (.int p1), (.int (1 : Int32)), (.int (2 : Int32)), (.int (0 : Int32)), (.int p1)])
      refine OwnGo.callS X72 hx hZ hown (y := (⟨"com/example/sibling/sibling/xpath/IntColumnSetPinLaw", "expected", "(IIIIII)I"⟩ : MethodName)) (hw _ (List.mem_of_getElem? (i := 66) rfl)) (hw _ (List.mem_of_getElem? (i := 67) rfl)) (hw _ (List.mem_of_getElem? (i := 68) rfl)) (hw _ (List.mem_of_getElem? (i := 69) rfl)) (by decide) e72 (as := [(.int (0 : Int32)), (.int (2 : Int32)), (.int (1 : Int32)), (.int p1), (.int p5), (.int p6)]) (rmE l Z a0 hw (0 : Int32) (2 : Int32) (1 : Int32) p1 p5 p6 p1 T70.heap (by simp [own_exp])) (W := 1) (by decide) (by decide) (by decide) (by decide) (by rw [hml]; rfl) (lenOf own_pd8 rfl) (rest := [(.int p1)]) rfl rfl (hb hby at_91) fun v73 T73 L73 X73 q73 => ?_
      obtain ⟨rfl, e73, rfl⟩ := q73
      rw [List.append_nil] at X73
      show Go p e below _ T73 (mkF m 94 #[.val (.int p1), .val (.int p2), .val (.int p3), .val (.int p4), .val (.int p5), .val (.int p6), .val (.int (2 : Int32)), .val (.int (1 : Int32)), .val (.ref b1)] [(.int p1), (.int p1)])
      refine OwnGo.ic_ne X73 hx (pc' := 145) (hb hby at_94) (by decide) (by decide) (fun q => absurd rfl q) (fun _ => ?_)
      show Go p e below _ T73 (mkF m 97 #[.val (.int p1), .val (.int p2), .val (.int p3), .val (.int p4), .val (.int p5), .val (.int p6), .val (.int (2 : Int32)), .val (.int (1 : Int32)), .val (.ref b1)] [])
      refine OwnGo.aload X73 hx (hb hby at_97) rfl rfl ?_
      show Go p e below _ T73 (mkF m 99 #[.val (.int p1), .val (.int p2), .val (.int p3), .val (.int p4), .val (.int p5), .val (.int p6), .val (.int (2 : Int32)), .val (.int (1 : Int32)), .val (.ref b1)] [(.ref b1)])
      refine OwnGo.iconst X73 hx (z := (1 : Int32)) (hb hby at_99) (by decide) ?_
      show Go p e below _ T73 (mkF m 100 #[.val (.int p1), .val (.int p2), .val (.int p3), .val (.int p4), .val (.int p5), .val (.int p6), .val (.int (2 : Int32)), .val (.int (1 : Int32)), .val (.ref b1)] [(.int (1 : Int32)), (.ref b1)])
      refine OwnGo.callV X73 hx hZ hown (y := (⟨"com/example/sibling/sibling/xpath/IntColumn", "get", "(I)I"⟩ : MethodName)) (z := (⟨"com/example/sibling/sibling/xpath/IntColumn", "get", "(I)I"⟩ : MethodName)) (hw _ (List.mem_of_getElem? (i := 61) rfl)) (hw _ (List.mem_of_getElem? (i := 62) rfl)) (notFace_of_selects (args := #[]) (mvT hZ (hw _ (List.mem_of_getElem? (i := 64) rfl)))) (hw _ (List.mem_of_getElem? (i := 64) rfl)) (hw _ (List.mem_of_getElem? (i := 63) rfl)) (hw _ (List.mem_of_getElem? (i := 2) rfl)) (hw _ (List.mem_of_getElem? (i := 65) rfl)) (by decide) e73 Ek70 (as := [(.int (1 : Int32))]) (rmGET1 l Z a0 hw b1 r kr p1 p6 p5 T70.heap Fk70 V70) (W := 0) (by decide) (by decide) (by decide) (by decide) (by rw [hml]; rfl) (lenOf own_pd7 rfl) (rest := []) rfl rfl (hb hby at_100) fun v74 T74 L74 X74 q74 => ?_
      obtain ⟨rfl, e74, rfl⟩ := q74
      rw [List.append_nil] at X74
      show Go p e below _ T74 (mkF m 103 #[.val (.int p1), .val (.int p2), .val (.int p3), .val (.int p4), .val (.int p5), .val (.int p6), .val (.int (2 : Int32)), .val (.int (1 : Int32)), .val (.ref b1)] [(.int p6)])
      refine OwnGo.iconst X74 hx (z := (1 : Int32)) (hb hby at_103) (by decide) ?_
      show Go p e below _ T74 (mkF m 104 #[.val (.int p1), .val (.int p2), .val (.int p3), .val (.int p4), .val (.int p5), .val (.int p6), .val (.int (2 : Int32)), .val (.int (1 : Int32)), .val (.ref b1)] [(.int (1 : Int32)), (.int p6)])
      refine OwnGo.iload X74 hx (hb hby at_104) rfl ?_
      show Go p e below _ T74 (mkF m 106 #[.val (.int p1), .val (.int p2), .val (.int p3), .val (.int p4), .val (.int p5), .val (.int p6), .val (.int (2 : Int32)), .val (.int (1 : Int32)), .val (.ref b1)] [(.int (2 : Int32)), (.int (1 : Int32)), (.int p6)])
      refine OwnGo.iload X74 hx (hb hby at_106) rfl ?_
      show Go p e below _ T74 (mkF m 108 #[.val (.int p1), .val (.int p2), .val (.int p3), .val (.int p4), .val (.int p5), .val (.int p6), .val (.int (2 : Int32)), .val (.int (1 : Int32)), .val (.ref b1)] [(.int (1 : Int32)), (.int (2 : Int32)), (.int (1 : Int32)), (.int p6)])
      refine OwnGo.iloadN X74 hx (hb hby at_108) rfl ?_
      show Go p e below _ T74 (mkF m 109 #[.val (.int p1), .val (.int p2), .val (.int p3), .val (.int p4), .val (.int p5), .val (.int p6), .val (.int (2 : Int32)), .val (.int (1 : Int32)), .val (.ref b1)] [(.int p2), (.int (1 : Int32)), (.int (2 : Int32)), (.int (1 : Int32)), (.int p6)])
      refine OwnGo.iload X74 hx (hb hby at_109) rfl ?_
      show Go p e below _ T74 (mkF m 111 #[.val (.int p1), .val (.int p2), .val (.int p3), .val (.int p4), .val (.int p5), .val (.int p6), .val (.int (2 : Int32)), .val (.int (1 : Int32)), .val (.ref b1)] [(.int p5), (.int p2), (.int (1 : Int32)), (.int (2 : Int32)), (.int (1 : Int32)), (.int p6)])
      refine OwnGo.iload X74 hx (hb hby at_111) rfl ?_
      show Go p e below _ T74 (mkF m 113 #[.val (.int p1), .val (.int p2), .val (.int p3), .val (.int p4), .val (.int p5), .val (.int p6), .val (.int (2 : Int32)), .val (.int (1 : Int32)), .val (.ref b1)] [(.int p6), (.int p5), (.int p2), (.int (1 : Int32)), (.int (2 : Int32)), (.int (1 : Int32)), (.int p6)])
      refine OwnGo.callS X74 hx hZ hown (y := (⟨"com/example/sibling/sibling/xpath/IntColumnSetPinLaw", "expected", "(IIIIII)I"⟩ : MethodName)) (hw _ (List.mem_of_getElem? (i := 66) rfl)) (hw _ (List.mem_of_getElem? (i := 67) rfl)) (hw _ (List.mem_of_getElem? (i := 68) rfl)) (hw _ (List.mem_of_getElem? (i := 69) rfl)) (by decide) e74 (as := [(.int (1 : Int32)), (.int (2 : Int32)), (.int (1 : Int32)), (.int p2), (.int p5), (.int p6)]) (rmE l Z a0 hw (1 : Int32) (2 : Int32) (1 : Int32) p2 p5 p6 p6 T70.heap (by simp [own_exp])) (W := 1) (by decide) (by decide) (by decide) (by decide) (by rw [hml]; rfl) (lenOf own_pd8 rfl) (rest := [(.int p6)]) rfl rfl (hb hby at_113) fun v75 T75 L75 X75 q75 => ?_
      obtain ⟨rfl, e75, rfl⟩ := q75
      rw [List.append_nil] at X75
      show Go p e below _ T75 (mkF m 116 #[.val (.int p1), .val (.int p2), .val (.int p3), .val (.int p4), .val (.int p5), .val (.int p6), .val (.int (2 : Int32)), .val (.int (1 : Int32)), .val (.ref b1)] [(.int p6), (.int p6)])
      refine OwnGo.ic_ne X75 hx (pc' := 145) (hb hby at_116) (by decide) (by decide) (fun q => absurd rfl q) (fun _ => ?_)
      show Go p e below _ T75 (mkF m 119 #[.val (.int p1), .val (.int p2), .val (.int p3), .val (.int p4), .val (.int p5), .val (.int p6), .val (.int (2 : Int32)), .val (.int (1 : Int32)), .val (.ref b1)] [])
      refine OwnGo.aload X75 hx (hb hby at_119) rfl rfl ?_
      show Go p e below _ T75 (mkF m 121 #[.val (.int p1), .val (.int p2), .val (.int p3), .val (.int p4), .val (.int p5), .val (.int p6), .val (.int (2 : Int32)), .val (.int (1 : Int32)), .val (.ref b1)] [(.ref b1)])
      refine OwnGo.iconst X75 hx (z := (2 : Int32)) (hb hby at_121) (by decide) ?_
      show Go p e below _ T75 (mkF m 122 #[.val (.int p1), .val (.int p2), .val (.int p3), .val (.int p4), .val (.int p5), .val (.int p6), .val (.int (2 : Int32)), .val (.int (1 : Int32)), .val (.ref b1)] [(.int (2 : Int32)), (.ref b1)])
      refine OwnGo.callV X75 hx hZ hown (y := (⟨"com/example/sibling/sibling/xpath/IntColumn", "get", "(I)I"⟩ : MethodName)) (z := (⟨"com/example/sibling/sibling/xpath/IntColumn", "get", "(I)I"⟩ : MethodName)) (hw _ (List.mem_of_getElem? (i := 61) rfl)) (hw _ (List.mem_of_getElem? (i := 62) rfl)) (notFace_of_selects (args := #[]) (mvT hZ (hw _ (List.mem_of_getElem? (i := 64) rfl)))) (hw _ (List.mem_of_getElem? (i := 64) rfl)) (hw _ (List.mem_of_getElem? (i := 63) rfl)) (hw _ (List.mem_of_getElem? (i := 2) rfl)) (hw _ (List.mem_of_getElem? (i := 65) rfl)) (by decide) e75 Ek70 (as := [(.int (2 : Int32))]) (rmGET2 l Z a0 hw b1 r kr p1 p6 p5 T70.heap Fk70 V70) (W := 0) (by decide) (by decide) (by decide) (by decide) (by rw [hml]; rfl) (lenOf own_pd7 rfl) (rest := []) rfl rfl (hb hby at_122) fun v76 T76 L76 X76 q76 => ?_
      obtain ⟨rfl, e76, rfl⟩ := q76
      rw [List.append_nil] at X76
      show Go p e below _ T76 (mkF m 125 #[.val (.int p1), .val (.int p2), .val (.int p3), .val (.int p4), .val (.int p5), .val (.int p6), .val (.int (2 : Int32)), .val (.int (1 : Int32)), .val (.ref b1)] [(.int p5)])
      refine OwnGo.iconst X76 hx (z := (2 : Int32)) (hb hby at_125) (by decide) ?_
      show Go p e below _ T76 (mkF m 126 #[.val (.int p1), .val (.int p2), .val (.int p3), .val (.int p4), .val (.int p5), .val (.int p6), .val (.int (2 : Int32)), .val (.int (1 : Int32)), .val (.ref b1)] [(.int (2 : Int32)), (.int p5)])
      refine OwnGo.iload X76 hx (hb hby at_126) rfl ?_
      show Go p e below _ T76 (mkF m 128 #[.val (.int p1), .val (.int p2), .val (.int p3), .val (.int p4), .val (.int p5), .val (.int p6), .val (.int (2 : Int32)), .val (.int (1 : Int32)), .val (.ref b1)] [(.int (2 : Int32)), (.int (2 : Int32)), (.int p5)])
      refine OwnGo.iload X76 hx (hb hby at_128) rfl ?_
      show Go p e below _ T76 (mkF m 130 #[.val (.int p1), .val (.int p2), .val (.int p3), .val (.int p4), .val (.int p5), .val (.int p6), .val (.int (2 : Int32)), .val (.int (1 : Int32)), .val (.ref b1)] [(.int (1 : Int32)), (.int (2 : Int32)), (.int (2 : Int32)), (.int p5)])
      refine OwnGo.iloadN X76 hx (hb hby at_130) rfl ?_
      show Go p e below _ T76 (mkF m 131 #[.val (.int p1), .val (.int p2), .val (.int p3), .val (.int p4), .val (.int p5), .val (.int p6), .val (.int (2 : Int32)), .val (.int (1 : Int32)), .val (.ref b1)] [(.int p3), (.int (1 : Int32)), (.int (2 : Int32)), (.int (2 : Int32)), (.int p5)])
      refine OwnGo.iload X76 hx (hb hby at_131) rfl ?_
      show Go p e below _ T76 (mkF m 133 #[.val (.int p1), .val (.int p2), .val (.int p3), .val (.int p4), .val (.int p5), .val (.int p6), .val (.int (2 : Int32)), .val (.int (1 : Int32)), .val (.ref b1)] [(.int p5), (.int p3), (.int (1 : Int32)), (.int (2 : Int32)), (.int (2 : Int32)), (.int p5)])
      refine OwnGo.iload X76 hx (hb hby at_133) rfl ?_
      show Go p e below _ T76 (mkF m 135 #[.val (.int p1), .val (.int p2), .val (.int p3), .val (.int p4), .val (.int p5), .val (.int p6), .val (.int (2 : Int32)), .val (.int (1 : Int32)), .val (.ref b1)] [(.int p6), (.int p5), (.int p3), (.int (1 : Int32)), (.int (2 : Int32)), (.int (2 : Int32)), (.int p5)])
      refine OwnGo.callS X76 hx hZ hown (y := (⟨"com/example/sibling/sibling/xpath/IntColumnSetPinLaw", "expected", "(IIIIII)I"⟩ : MethodName)) (hw _ (List.mem_of_getElem? (i := 66) rfl)) (hw _ (List.mem_of_getElem? (i := 67) rfl)) (hw _ (List.mem_of_getElem? (i := 68) rfl)) (hw _ (List.mem_of_getElem? (i := 69) rfl)) (by decide) e76 (as := [(.int (2 : Int32)), (.int (2 : Int32)), (.int (1 : Int32)), (.int p3), (.int p5), (.int p6)]) (rmE l Z a0 hw (2 : Int32) (2 : Int32) (1 : Int32) p3 p5 p6 p5 T70.heap (by simp [own_exp])) (W := 1) (by decide) (by decide) (by decide) (by decide) (by rw [hml]; rfl) (lenOf own_pd8 rfl) (rest := [(.int p5)]) rfl rfl (hb hby at_135) fun v77 T77 L77 X77 q77 => ?_
      obtain ⟨rfl, e77, rfl⟩ := q77
      rw [List.append_nil] at X77
      show Go p e below _ T77 (mkF m 138 #[.val (.int p1), .val (.int p2), .val (.int p3), .val (.int p4), .val (.int p5), .val (.int p6), .val (.int (2 : Int32)), .val (.int (1 : Int32)), .val (.ref b1)] [(.int p5), (.int p5)])
      refine OwnGo.ic_ne X77 hx (pc' := 145) (hb hby at_138) (by decide) (by decide) (fun q => absurd rfl q) (fun _ => ?_)
      show Go p e below _ T77 (mkF m 141 #[.val (.int p1), .val (.int p2), .val (.int p3), .val (.int p4), .val (.int p5), .val (.int p6), .val (.int (2 : Int32)), .val (.int (1 : Int32)), .val (.ref b1)] [])
      refine OwnGo.iconst X77 hx (z := (1 : Int32)) (hb hby at_141) (by decide) ?_
      show Go p e below _ T77 (mkF m 142 #[.val (.int p1), .val (.int p2), .val (.int p3), .val (.int p4), .val (.int p5), .val (.int p6), .val (.int (2 : Int32)), .val (.int (1 : Int32)), .val (.ref b1)] [(.int (1 : Int32))])
      refine OwnGo.goto X77 hx (pc' := 146) (hb hby at_142) (by decide) (by decide) ?_
      show Go p e below _ T77 (mkF m 146 #[.val (.int p1), .val (.int p2), .val (.int p3), .val (.int p4), .val (.int p5), .val (.int p6), .val (.int (2 : Int32)), .val (.int (1 : Int32)), .val (.ref b1)] [(.int (1 : Int32))])
      exact OwnGo.retB X77 hx hlk (z' := (1 : Int32)) hret (hb hby at_146) rfl ⟨rfl, (Fr.app (Fr.app (Fr.app (Fr.app (Fr.app (Fr.app (Fr.nil n0) N2) N3) N4) N5) N69) N70)⟩ (by decide) (by decide)
    ·
      rw [hj]
      show Go p e below _ T5 (mkF m 48 #[.val (.int p1), .val (.int p2), .val (.int p3), .val (.int p4), .val (.int p5), .val (.int p6), .val (.int (2 : Int32)), .val (.int (2 : Int32)), .val (.ref b1)] [])
      refine OwnGo.aload X5 hx (hb hby at_48) rfl rfl ?_
      show Go p e below _ T5 (mkF m 50 #[.val (.int p1), .val (.int p2), .val (.int p3), .val (.int p4), .val (.int p5), .val (.int p6), .val (.int (2 : Int32)), .val (.int (2 : Int32)), .val (.ref b1)] [(.ref b1)])
      refine OwnGo.iload X5 hx (hb hby at_50) rfl ?_
      show Go p e below _ T5 (mkF m 52 #[.val (.int p1), .val (.int p2), .val (.int p3), .val (.int p4), .val (.int p5), .val (.int p6), .val (.int (2 : Int32)), .val (.int (2 : Int32)), .val (.ref b1)] [(.int (2 : Int32)), (.ref b1)])
      refine OwnGo.iload X5 hx (hb hby at_52) rfl ?_
      show Go p e below _ T5 (mkF m 54 #[.val (.int p1), .val (.int p2), .val (.int p3), .val (.int p4), .val (.int p5), .val (.int p6), .val (.int (2 : Int32)), .val (.int (2 : Int32)), .val (.ref b1)] [(.int p5), (.int (2 : Int32)), (.ref b1)])
      refine OwnGo.callV X5 hx hZ hown (y := (⟨"com/example/sibling/sibling/xpath/IntColumn", "set", "(II)V"⟩ : MethodName)) (z := (⟨"com/example/sibling/sibling/xpath/IntColumn", "set", "(II)V"⟩ : MethodName)) (hw _ (List.mem_of_getElem? (i := 51) rfl)) (hw _ (List.mem_of_getElem? (i := 52) rfl)) (notFace_of_selects (args := #[]) (mvT hZ (hw _ (List.mem_of_getElem? (i := 54) rfl)))) (hw _ (List.mem_of_getElem? (i := 54) rfl)) (hw _ (List.mem_of_getElem? (i := 53) rfl)) (hw _ (List.mem_of_getElem? (i := 2) rfl)) (hw _ (List.mem_of_getElem? (i := 55) rfl)) (by decide) rfl E5 (as := [(.int (2 : Int32)), (.int p5)]) (rmSET2 l Z a0 hw b1 r kr p1 p2 p3 p5 T5.heap n0 Zs5 gr F5_first V5 nbr) (W := 0) (by decide) (by decide) (by decide) (by decide) (by rw [hml]; rfl) (lenOf own_pd5 rfl) (rest := []) rfl rfl (hb hby at_54) fun v78 T78 L78 X78 q78 => ?_
      obtain ⟨rfl, N78, K78, V78⟩ := q78
      have Fk78 := F5_first.keep K78 (ninS nbr nin0)
      have Fz78 := F5_size.keep K78 (ninS nbr nin0)
      have Ek78 := E5.keep K78
      have Zs78 := Nat.le_trans Zs5 K78.1
      show Go p e below _ T78 (mkF m 57 #[.val (.int p1), .val (.int p2), .val (.int p3), .val (.int p4), .val (.int p5), .val (.int p6), .val (.int (2 : Int32)), .val (.int (2 : Int32)), .val (.ref b1)] [])
      refine OwnGo.aload X78 hx (hb hby at_57) rfl rfl ?_
      show Go p e below _ T78 (mkF m 59 #[.val (.int p1), .val (.int p2), .val (.int p3), .val (.int p4), .val (.int p5), .val (.int p6), .val (.int (2 : Int32)), .val (.int (2 : Int32)), .val (.ref b1)] [(.ref b1)])
      refine OwnGo.iload X78 hx (hb hby at_59) rfl ?_
      show Go p e below _ T78 (mkF m 61 #[.val (.int p1), .val (.int p2), .val (.int p3), .val (.int p4), .val (.int p5), .val (.int p6), .val (.int (2 : Int32)), .val (.int (2 : Int32)), .val (.ref b1)] [(.int (2 : Int32)), (.ref b1)])
      refine OwnGo.iload X78 hx (hb hby at_61) rfl ?_
      show Go p e below _ T78 (mkF m 63 #[.val (.int p1), .val (.int p2), .val (.int p3), .val (.int p4), .val (.int p5), .val (.int p6), .val (.int (2 : Int32)), .val (.int (2 : Int32)), .val (.ref b1)] [(.int p6), (.int (2 : Int32)), (.ref b1)])
      refine OwnGo.callV X78 hx hZ hown (y := (⟨"com/example/sibling/sibling/xpath/IntColumn", "set", "(II)V"⟩ : MethodName)) (z := (⟨"com/example/sibling/sibling/xpath/IntColumn", "set", "(II)V"⟩ : MethodName)) (hw _ (List.mem_of_getElem? (i := 51) rfl)) (hw _ (List.mem_of_getElem? (i := 52) rfl)) (notFace_of_selects (args := #[]) (mvT hZ (hw _ (List.mem_of_getElem? (i := 54) rfl)))) (hw _ (List.mem_of_getElem? (i := 54) rfl)) (hw _ (List.mem_of_getElem? (i := 53) rfl)) (hw _ (List.mem_of_getElem? (i := 2) rfl)) (hw _ (List.mem_of_getElem? (i := 55) rfl)) (by decide) rfl Ek78 (as := [(.int (2 : Int32)), (.int p6)]) (rmSET2 l Z a0 hw b1 r kr p1 p2 p5 p6 T78.heap n0 Zs78 gr Fk78 V78 nbr) (W := 0) (by decide) (by decide) (by decide) (by decide) (by rw [hml]; rfl) (lenOf own_pd5 rfl) (rest := []) rfl rfl (hb hby at_63) fun v79 T79 L79 X79 q79 => ?_
      obtain ⟨rfl, N79, K79, V79⟩ := q79
      have Fk79 := Fk78.keep K79 (ninS nbr nin0)
      have Fz79 := Fz78.keep K79 (ninS nbr nin0)
      have Ek79 := Ek78.keep K79
      have Zs79 := Nat.le_trans Zs78 K79.1
      show Go p e below _ T79 (mkF m 66 #[.val (.int p1), .val (.int p2), .val (.int p3), .val (.int p4), .val (.int p5), .val (.int p6), .val (.int (2 : Int32)), .val (.int (2 : Int32)), .val (.ref b1)] [])
      refine OwnGo.aload X79 hx (hb hby at_66) rfl rfl ?_
      show Go p e below _ T79 (mkF m 68 #[.val (.int p1), .val (.int p2), .val (.int p3), .val (.int p4), .val (.int p5), .val (.int p6), .val (.int (2 : Int32)), .val (.int (2 : Int32)), .val (.ref b1)] [(.ref b1)])
      refine OwnGo.callV X79 hx hZ hown (y := (⟨"com/example/sibling/sibling/xpath/IntColumn", "size", "()I"⟩ : MethodName)) (z := (⟨"com/example/sibling/sibling/xpath/IntColumn", "size", "()I"⟩ : MethodName)) (hw _ (List.mem_of_getElem? (i := 56) rfl)) (hw _ (List.mem_of_getElem? (i := 57) rfl)) (notFace_of_selects (args := #[]) (mvT hZ (hw _ (List.mem_of_getElem? (i := 59) rfl)))) (hw _ (List.mem_of_getElem? (i := 59) rfl)) (hw _ (List.mem_of_getElem? (i := 58) rfl)) (hw _ (List.mem_of_getElem? (i := 2) rfl)) (hw _ (List.mem_of_getElem? (i := 60) rfl)) (by decide) rfl Ek79 (as := []) (rmSIZ l Z a0 hw b1 (3 : Int32) T79.heap Fz79) (W := 0) (by decide) (by decide) (by decide) (by decide) (by rw [hml]; rfl) (lenOf own_pd6 rfl) (rest := []) rfl rfl (hb hby at_68) fun v80 T80 L80 X80 q80 => ?_
      obtain ⟨rfl, e80, rfl⟩ := q80
      rw [List.append_nil] at X80
      show Go p e below _ T80 (mkF m 71 #[.val (.int p1), .val (.int p2), .val (.int p3), .val (.int p4), .val (.int p5), .val (.int p6), .val (.int (2 : Int32)), .val (.int (2 : Int32)), .val (.ref b1)] [(.int (3 : Int32))])
      refine OwnGo.iconst X80 hx (z := (3 : Int32)) (hb hby at_71) (by decide) ?_
      show Go p e below _ T80 (mkF m 72 #[.val (.int p1), .val (.int p2), .val (.int p3), .val (.int p4), .val (.int p5), .val (.int p6), .val (.int (2 : Int32)), .val (.int (2 : Int32)), .val (.ref b1)] [(.int (3 : Int32)), (.int (3 : Int32))])
      refine OwnGo.ic_ne X80 hx (pc' := 145) (hb hby at_72) (by decide) (by decide) (fun q => absurd q (by decide)) (fun _ => ?_)
      show Go p e below _ T80 (mkF m 75 #[.val (.int p1), .val (.int p2), .val (.int p3), .val (.int p4), .val (.int p5), .val (.int p6), .val (.int (2 : Int32)), .val (.int (2 : Int32)), .val (.ref b1)] [])
      refine OwnGo.aload X80 hx (hb hby at_75) rfl rfl ?_
      show Go p e below _ T80 (mkF m 77 #[.val (.int p1), .val (.int p2), .val (.int p3), .val (.int p4), .val (.int p5), .val (.int p6), .val (.int (2 : Int32)), .val (.int (2 : Int32)), .val (.ref b1)] [(.ref b1)])
      refine OwnGo.iconst X80 hx (z := (0 : Int32)) (hb hby at_77) (by decide) ?_
      show Go p e below _ T80 (mkF m 78 #[.val (.int p1), .val (.int p2), .val (.int p3), .val (.int p4), .val (.int p5), .val (.int p6), .val (.int (2 : Int32)), .val (.int (2 : Int32)), .val (.ref b1)] [(.int (0 : Int32)), (.ref b1)])
      refine OwnGo.callV X80 hx hZ hown (y := (⟨"com/example/sibling/sibling/xpath/IntColumn", "get", "(I)I"⟩ : MethodName)) (z := (⟨"com/example/sibling/sibling/xpath/IntColumn", "get", "(I)I"⟩ : MethodName)) (hw _ (List.mem_of_getElem? (i := 61) rfl)) (hw _ (List.mem_of_getElem? (i := 62) rfl)) (notFace_of_selects (args := #[]) (mvT hZ (hw _ (List.mem_of_getElem? (i := 64) rfl)))) (hw _ (List.mem_of_getElem? (i := 64) rfl)) (hw _ (List.mem_of_getElem? (i := 63) rfl)) (hw _ (List.mem_of_getElem? (i := 2) rfl)) (hw _ (List.mem_of_getElem? (i := 65) rfl)) (by decide) e80 Ek79 (as := [(.int (0 : Int32))]) (rmGET0 l Z a0 hw b1 r kr p1 p2 p6 T79.heap Fk79 V79) (W := 0) (by decide) (by decide) (by decide) (by decide) (by rw [hml]; rfl) (lenOf own_pd7 rfl) (rest := []) rfl rfl (hb hby at_78) fun v81 T81 L81 X81 q81 => ?_
      obtain ⟨rfl, e81, rfl⟩ := q81
      rw [List.append_nil] at X81
      show Go p e below _ T81 (mkF m 81 #[.val (.int p1), .val (.int p2), .val (.int p3), .val (.int p4), .val (.int p5), .val (.int p6), .val (.int (2 : Int32)), .val (.int (2 : Int32)), .val (.ref b1)] [(.int p1)])
      refine OwnGo.iconst X81 hx (z := (0 : Int32)) (hb hby at_81) (by decide) ?_
      show Go p e below _ T81 (mkF m 82 #[.val (.int p1), .val (.int p2), .val (.int p3), .val (.int p4), .val (.int p5), .val (.int p6), .val (.int (2 : Int32)), .val (.int (2 : Int32)), .val (.ref b1)] [(.int (0 : Int32)), (.int p1)])
      refine OwnGo.iload X81 hx (hb hby at_82) rfl ?_
      show Go p e below _ T81 (mkF m 84 #[.val (.int p1), .val (.int p2), .val (.int p3), .val (.int p4), .val (.int p5), .val (.int p6), .val (.int (2 : Int32)), .val (.int (2 : Int32)), .val (.ref b1)] [(.int (2 : Int32)), (.int (0 : Int32)), (.int p1)])
      refine OwnGo.iload X81 hx (hb hby at_84) rfl ?_
      show Go p e below _ T81 (mkF m 86 #[.val (.int p1), .val (.int p2), .val (.int p3), .val (.int p4), .val (.int p5), .val (.int p6), .val (.int (2 : Int32)), .val (.int (2 : Int32)), .val (.ref b1)] [(.int (2 : Int32)), (.int (2 : Int32)), (.int (0 : Int32)), (.int p1)])
      refine OwnGo.iloadN X81 hx (hb hby at_86) rfl ?_
      show Go p e below _ T81 (mkF m 87 #[.val (.int p1), .val (.int p2), .val (.int p3), .val (.int p4), .val (.int p5), .val (.int p6), .val (.int (2 : Int32)), .val (.int (2 : Int32)), .val (.ref b1)] [(.int p1), (.int (2 : Int32)), (.int (2 : Int32)), (.int (0 : Int32)), (.int p1)])
      refine OwnGo.iload X81 hx (hb hby at_87) rfl ?_
      show Go p e below _ T81 (mkF m 89 #[.val (.int p1), .val (.int p2), .val (.int p3), .val (.int p4), .val (.int p5), .val (.int p6), .val (.int (2 : Int32)), .val (.int (2 : Int32)), .val (.ref b1)] [(.int p5), (.int p1), (.int (2 : Int32)), (.int (2 : Int32)), (.int (0 : Int32)), (.int p1)])
      refine OwnGo.iload X81 hx (hb hby at_89) rfl ?_
      show Go p e below _ T81 (mkF m 91 #[.val (.int p1), .val (.int p2), .val (.int p3), .val (.int p4), .val (.int p5), .val (.int p6), .val (.int (2 : Int32)), .val (.int (2 : Int32)), .val (.ref b1)] [(.int p6), (.int p5), (.int p1), (.int (2 : Int32)), (.int (2 : Int32)), (.int (0 : Int32)), (.int p1)])
      refine OwnGo.callS X81 hx hZ hown (y := (⟨"com/example/sibling/sibling/xpath/IntColumnSetPinLaw", "expected", "(IIIIII)I"⟩ : MethodName)) (hw _ (List.mem_of_getElem? (i := 66) rfl)) (hw _ (List.mem_of_getElem? (i := 67) rfl)) (hw _ (List.mem_of_getElem? (i := 68) rfl)) (hw _ (List.mem_of_getElem? (i := 69) rfl)) (by decide) e81 (as := [(.int (0 : Int32)), (.int (2 : Int32)), (.int (2 : Int32)), (.int p1), (.int p5), (.int p6)]) (rmE l Z a0 hw (0 : Int32) (2 : Int32) (2 : Int32) p1 p5 p6 p1 T79.heap (by simp [own_exp])) (W := 1) (by decide) (by decide) (by decide) (by decide) (by rw [hml]; rfl) (lenOf own_pd8 rfl) (rest := [(.int p1)]) rfl rfl (hb hby at_91) fun v82 T82 L82 X82 q82 => ?_
      obtain ⟨rfl, e82, rfl⟩ := q82
      rw [List.append_nil] at X82
      show Go p e below _ T82 (mkF m 94 #[.val (.int p1), .val (.int p2), .val (.int p3), .val (.int p4), .val (.int p5), .val (.int p6), .val (.int (2 : Int32)), .val (.int (2 : Int32)), .val (.ref b1)] [(.int p1), (.int p1)])
      refine OwnGo.ic_ne X82 hx (pc' := 145) (hb hby at_94) (by decide) (by decide) (fun q => absurd rfl q) (fun _ => ?_)
      show Go p e below _ T82 (mkF m 97 #[.val (.int p1), .val (.int p2), .val (.int p3), .val (.int p4), .val (.int p5), .val (.int p6), .val (.int (2 : Int32)), .val (.int (2 : Int32)), .val (.ref b1)] [])
      refine OwnGo.aload X82 hx (hb hby at_97) rfl rfl ?_
      show Go p e below _ T82 (mkF m 99 #[.val (.int p1), .val (.int p2), .val (.int p3), .val (.int p4), .val (.int p5), .val (.int p6), .val (.int (2 : Int32)), .val (.int (2 : Int32)), .val (.ref b1)] [(.ref b1)])
      refine OwnGo.iconst X82 hx (z := (1 : Int32)) (hb hby at_99) (by decide) ?_
      show Go p e below _ T82 (mkF m 100 #[.val (.int p1), .val (.int p2), .val (.int p3), .val (.int p4), .val (.int p5), .val (.int p6), .val (.int (2 : Int32)), .val (.int (2 : Int32)), .val (.ref b1)] [(.int (1 : Int32)), (.ref b1)])
      refine OwnGo.callV X82 hx hZ hown (y := (⟨"com/example/sibling/sibling/xpath/IntColumn", "get", "(I)I"⟩ : MethodName)) (z := (⟨"com/example/sibling/sibling/xpath/IntColumn", "get", "(I)I"⟩ : MethodName)) (hw _ (List.mem_of_getElem? (i := 61) rfl)) (hw _ (List.mem_of_getElem? (i := 62) rfl)) (notFace_of_selects (args := #[]) (mvT hZ (hw _ (List.mem_of_getElem? (i := 64) rfl)))) (hw _ (List.mem_of_getElem? (i := 64) rfl)) (hw _ (List.mem_of_getElem? (i := 63) rfl)) (hw _ (List.mem_of_getElem? (i := 2) rfl)) (hw _ (List.mem_of_getElem? (i := 65) rfl)) (by decide) e82 Ek79 (as := [(.int (1 : Int32))]) (rmGET1 l Z a0 hw b1 r kr p1 p2 p6 T79.heap Fk79 V79) (W := 0) (by decide) (by decide) (by decide) (by decide) (by rw [hml]; rfl) (lenOf own_pd7 rfl) (rest := []) rfl rfl (hb hby at_100) fun v83 T83 L83 X83 q83 => ?_
      obtain ⟨rfl, e83, rfl⟩ := q83
      rw [List.append_nil] at X83
      show Go p e below _ T83 (mkF m 103 #[.val (.int p1), .val (.int p2), .val (.int p3), .val (.int p4), .val (.int p5), .val (.int p6), .val (.int (2 : Int32)), .val (.int (2 : Int32)), .val (.ref b1)] [(.int p2)])
      refine OwnGo.iconst X83 hx (z := (1 : Int32)) (hb hby at_103) (by decide) ?_
      show Go p e below _ T83 (mkF m 104 #[.val (.int p1), .val (.int p2), .val (.int p3), .val (.int p4), .val (.int p5), .val (.int p6), .val (.int (2 : Int32)), .val (.int (2 : Int32)), .val (.ref b1)] [(.int (1 : Int32)), (.int p2)])
      refine OwnGo.iload X83 hx (hb hby at_104) rfl ?_
      show Go p e below _ T83 (mkF m 106 #[.val (.int p1), .val (.int p2), .val (.int p3), .val (.int p4), .val (.int p5), .val (.int p6), .val (.int (2 : Int32)), .val (.int (2 : Int32)), .val (.ref b1)] [(.int (2 : Int32)), (.int (1 : Int32)), (.int p2)])
      refine OwnGo.iload X83 hx (hb hby at_106) rfl ?_
      show Go p e below _ T83 (mkF m 108 #[.val (.int p1), .val (.int p2), .val (.int p3), .val (.int p4), .val (.int p5), .val (.int p6), .val (.int (2 : Int32)), .val (.int (2 : Int32)), .val (.ref b1)] [(.int (2 : Int32)), (.int (2 : Int32)), (.int (1 : Int32)), (.int p2)])
      refine OwnGo.iloadN X83 hx (hb hby at_108) rfl ?_
      show Go p e below _ T83 (mkF m 109 #[.val (.int p1), .val (.int p2), .val (.int p3), .val (.int p4), .val (.int p5), .val (.int p6), .val (.int (2 : Int32)), .val (.int (2 : Int32)), .val (.ref b1)] [(.int p2), (.int (2 : Int32)), (.int (2 : Int32)), (.int (1 : Int32)), (.int p2)])
      refine OwnGo.iload X83 hx (hb hby at_109) rfl ?_
      show Go p e below _ T83 (mkF m 111 #[.val (.int p1), .val (.int p2), .val (.int p3), .val (.int p4), .val (.int p5), .val (.int p6), .val (.int (2 : Int32)), .val (.int (2 : Int32)), .val (.ref b1)] [(.int p5), (.int p2), (.int (2 : Int32)), (.int (2 : Int32)), (.int (1 : Int32)), (.int p2)])
      refine OwnGo.iload X83 hx (hb hby at_111) rfl ?_
      show Go p e below _ T83 (mkF m 113 #[.val (.int p1), .val (.int p2), .val (.int p3), .val (.int p4), .val (.int p5), .val (.int p6), .val (.int (2 : Int32)), .val (.int (2 : Int32)), .val (.ref b1)] [(.int p6), (.int p5), (.int p2), (.int (2 : Int32)), (.int (2 : Int32)), (.int (1 : Int32)), (.int p2)])
      refine OwnGo.callS X83 hx hZ hown (y := (⟨"com/example/sibling/sibling/xpath/IntColumnSetPinLaw", "expected", "(IIIIII)I"⟩ : MethodName)) (hw _ (List.mem_of_getElem? (i := 66) rfl)) (hw _ (List.mem_of_getElem? (i := 67) rfl)) (hw _ (List.mem_of_getElem? (i := 68) rfl)) (hw _ (List.mem_of_getElem? (i := 69) rfl)) (by decide) e83 (as := [(.int (1 : Int32)), (.int (2 : Int32)), (.int (2 : Int32)), (.int p2), (.int p5), (.int p6)]) (rmE l Z a0 hw (1 : Int32) (2 : Int32) (2 : Int32) p2 p5 p6 p2 T79.heap (by simp [own_exp])) (W := 1) (by decide) (by decide) (by decide) (by decide) (by rw [hml]; rfl) (lenOf own_pd8 rfl) (rest := [(.int p2)]) rfl rfl (hb hby at_113) fun v84 T84 L84 X84 q84 => ?_
      obtain ⟨rfl, e84, rfl⟩ := q84
      rw [List.append_nil] at X84
      show Go p e below _ T84 (mkF m 116 #[.val (.int p1), .val (.int p2), .val (.int p3), .val (.int p4), .val (.int p5), .val (.int p6), .val (.int (2 : Int32)), .val (.int (2 : Int32)), .val (.ref b1)] [(.int p2), (.int p2)])
      refine OwnGo.ic_ne X84 hx (pc' := 145) (hb hby at_116) (by decide) (by decide) (fun q => absurd rfl q) (fun _ => ?_)
      show Go p e below _ T84 (mkF m 119 #[.val (.int p1), .val (.int p2), .val (.int p3), .val (.int p4), .val (.int p5), .val (.int p6), .val (.int (2 : Int32)), .val (.int (2 : Int32)), .val (.ref b1)] [])
      refine OwnGo.aload X84 hx (hb hby at_119) rfl rfl ?_
      show Go p e below _ T84 (mkF m 121 #[.val (.int p1), .val (.int p2), .val (.int p3), .val (.int p4), .val (.int p5), .val (.int p6), .val (.int (2 : Int32)), .val (.int (2 : Int32)), .val (.ref b1)] [(.ref b1)])
      refine OwnGo.iconst X84 hx (z := (2 : Int32)) (hb hby at_121) (by decide) ?_
      show Go p e below _ T84 (mkF m 122 #[.val (.int p1), .val (.int p2), .val (.int p3), .val (.int p4), .val (.int p5), .val (.int p6), .val (.int (2 : Int32)), .val (.int (2 : Int32)), .val (.ref b1)] [(.int (2 : Int32)), (.ref b1)])
      refine OwnGo.callV X84 hx hZ hown (y := (⟨"com/example/sibling/sibling/xpath/IntColumn", "get", "(I)I"⟩ : MethodName)) (z := (⟨"com/example/sibling/sibling/xpath/IntColumn", "get", "(I)I"⟩ : MethodName)) (hw _ (List.mem_of_getElem? (i := 61) rfl)) (hw _ (List.mem_of_getElem? (i := 62) rfl)) (notFace_of_selects (args := #[]) (mvT hZ (hw _ (List.mem_of_getElem? (i := 64) rfl)))) (hw _ (List.mem_of_getElem? (i := 64) rfl)) (hw _ (List.mem_of_getElem? (i := 63) rfl)) (hw _ (List.mem_of_getElem? (i := 2) rfl)) (hw _ (List.mem_of_getElem? (i := 65) rfl)) (by decide) e84 Ek79 (as := [(.int (2 : Int32))]) (rmGET2 l Z a0 hw b1 r kr p1 p2 p6 T79.heap Fk79 V79) (W := 0) (by decide) (by decide) (by decide) (by decide) (by rw [hml]; rfl) (lenOf own_pd7 rfl) (rest := []) rfl rfl (hb hby at_122) fun v85 T85 L85 X85 q85 => ?_
      obtain ⟨rfl, e85, rfl⟩ := q85
      rw [List.append_nil] at X85
      show Go p e below _ T85 (mkF m 125 #[.val (.int p1), .val (.int p2), .val (.int p3), .val (.int p4), .val (.int p5), .val (.int p6), .val (.int (2 : Int32)), .val (.int (2 : Int32)), .val (.ref b1)] [(.int p6)])
      refine OwnGo.iconst X85 hx (z := (2 : Int32)) (hb hby at_125) (by decide) ?_
      show Go p e below _ T85 (mkF m 126 #[.val (.int p1), .val (.int p2), .val (.int p3), .val (.int p4), .val (.int p5), .val (.int p6), .val (.int (2 : Int32)), .val (.int (2 : Int32)), .val (.ref b1)] [(.int (2 : Int32)), (.int p6)])
      refine OwnGo.iload X85 hx (hb hby at_126) rfl ?_
      show Go p e below _ T85 (mkF m 128 #[.val (.int p1), .val (.int p2), .val (.int p3), .val (.int p4), .val (.int p5), .val (.int p6), .val (.int (2 : Int32)), .val (.int (2 : Int32)), .val (.ref b1)] [(.int (2 : Int32)), (.int (2 : Int32)), (.int p6)])
      refine OwnGo.iload X85 hx (hb hby at_128) rfl ?_
      show Go p e below _ T85 (mkF m 130 #[.val (.int p1), .val (.int p2), .val (.int p3), .val (.int p4), .val (.int p5), .val (.int p6), .val (.int (2 : Int32)), .val (.int (2 : Int32)), .val (.ref b1)] [(.int (2 : Int32)), (.int (2 : Int32)), (.int (2 : Int32)), (.int p6)])
      refine OwnGo.iloadN X85 hx (hb hby at_130) rfl ?_
      show Go p e below _ T85 (mkF m 131 #[.val (.int p1), .val (.int p2), .val (.int p3), .val (.int p4), .val (.int p5), .val (.int p6), .val (.int (2 : Int32)), .val (.int (2 : Int32)), .val (.ref b1)] [(.int p3), (.int (2 : Int32)), (.int (2 : Int32)), (.int (2 : Int32)), (.int p6)])
      refine OwnGo.iload X85 hx (hb hby at_131) rfl ?_
      show Go p e below _ T85 (mkF m 133 #[.val (.int p1), .val (.int p2), .val (.int p3), .val (.int p4), .val (.int p5), .val (.int p6), .val (.int (2 : Int32)), .val (.int (2 : Int32)), .val (.ref b1)] [(.int p5), (.int p3), (.int (2 : Int32)), (.int (2 : Int32)), (.int (2 : Int32)), (.int p6)])
      refine OwnGo.iload X85 hx (hb hby at_133) rfl ?_
      show Go p e below _ T85 (mkF m 135 #[.val (.int p1), .val (.int p2), .val (.int p3), .val (.int p4), .val (.int p5), .val (.int p6), .val (.int (2 : Int32)), .val (.int (2 : Int32)), .val (.ref b1)] [(.int p6), (.int p5), (.int p3), (.int (2 : Int32)), (.int (2 : Int32)), (.int (2 : Int32)), (.int p6)])
      refine OwnGo.callS X85 hx hZ hown (y := (⟨"com/example/sibling/sibling/xpath/IntColumnSetPinLaw", "expected", "(IIIIII)I"⟩ : MethodName)) (hw _ (List.mem_of_getElem? (i := 66) rfl)) (hw _ (List.mem_of_getElem? (i := 67) rfl)) (hw _ (List.mem_of_getElem? (i := 68) rfl)) (hw _ (List.mem_of_getElem? (i := 69) rfl)) (by decide) e85 (as := [(.int (2 : Int32)), (.int (2 : Int32)), (.int (2 : Int32)), (.int p3), (.int p5), (.int p6)]) (rmE l Z a0 hw (2 : Int32) (2 : Int32) (2 : Int32) p3 p5 p6 p6 T79.heap (by simp [own_exp])) (W := 1) (by decide) (by decide) (by decide) (by decide) (by rw [hml]; rfl) (lenOf own_pd8 rfl) (rest := [(.int p6)]) rfl rfl (hb hby at_135) fun v86 T86 L86 X86 q86 => ?_
      obtain ⟨rfl, e86, rfl⟩ := q86
      rw [List.append_nil] at X86
      show Go p e below _ T86 (mkF m 138 #[.val (.int p1), .val (.int p2), .val (.int p3), .val (.int p4), .val (.int p5), .val (.int p6), .val (.int (2 : Int32)), .val (.int (2 : Int32)), .val (.ref b1)] [(.int p6), (.int p6)])
      refine OwnGo.ic_ne X86 hx (pc' := 145) (hb hby at_138) (by decide) (by decide) (fun q => absurd rfl q) (fun _ => ?_)
      show Go p e below _ T86 (mkF m 141 #[.val (.int p1), .val (.int p2), .val (.int p3), .val (.int p4), .val (.int p5), .val (.int p6), .val (.int (2 : Int32)), .val (.int (2 : Int32)), .val (.ref b1)] [])
      refine OwnGo.iconst X86 hx (z := (1 : Int32)) (hb hby at_141) (by decide) ?_
      show Go p e below _ T86 (mkF m 142 #[.val (.int p1), .val (.int p2), .val (.int p3), .val (.int p4), .val (.int p5), .val (.int p6), .val (.int (2 : Int32)), .val (.int (2 : Int32)), .val (.ref b1)] [(.int (1 : Int32))])
      refine OwnGo.goto X86 hx (pc' := 146) (hb hby at_142) (by decide) (by decide) ?_
      show Go p e below _ T86 (mkF m 146 #[.val (.int p1), .val (.int p2), .val (.int p3), .val (.int p4), .val (.int p5), .val (.int p6), .val (.int (2 : Int32)), .val (.int (2 : Int32)), .val (.ref b1)] [(.int (1 : Int32))])
      exact OwnGo.retB X86 hx hlk (z' := (1 : Int32)) hret (hb hby at_146) rfl ⟨rfl, (Fr.app (Fr.app (Fr.app (Fr.app (Fr.app (Fr.app (Fr.nil n0) N2) N3) N4) N5) N78) N79)⟩ (by decide) (by decide)
set_option maxRecDepth 65536 in
set_option maxHeartbeats 40000000 in
theorem comes_1 {Post : Tables → Env → Array Value → State → Outcome → State → Prop} (hpost : ∀ tb e args s v u, (limb_1_1.after args s (.returned v) u = true ∧ limb_1_2.after args s (.returned v) u = true ∧ True) → FrameEnd s (.returned v) u (Jvm.fieldLocs frame_1_writes args s ++ Jvm.arrayLocs frame_1_arrays args s ++ Jvm.staticLocs frame_1_statics s) 16 128 → Post tb e args s (.returned v) u) :
    ArmFor flags0 classFile x code maxLocals ret World_1 tables_1 room_1 Calls_1 rest_1 Pre_1 Post := by
  intro l hfl _ _ p e ha hc hk s m args below hf hA hF happ hP
  obtain ⟨hcalls, hrest, hpre⟩ := hP
  obtain ⟨-, -, -, hnamed, -, -, -, hat⟩ := (Spec.applies_iff hf).mp happ
  obtain ⟨hg, hn⟩ := and_e (Cond.before_iff.mp (show (Jvm.Cond.and given_1 narrow_1).before args s = true from hpre))
  obtain ⟨gc0, gr0⟩ := and_e hg
  obtain ⟨gc1, gr1⟩ := and_e gr0
  obtain ⟨gc2, gr2⟩ := and_e gr1
  obtain ⟨gc3, gr3⟩ := and_e gr2
  obtain ⟨gc4, gr4⟩ := and_e gr3
  obtain ⟨gc5, gr5⟩ := and_e gr4
  obtain ⟨w0, w1, w2, w3, w4, w5, rfl⟩ : ∃ w0 w1 w2 w3 w4 w5 : Value, args = #[w0, w1, w2, w3, w4, w5] := by
    have hs : args.size = 6 := by simpa [Cond.value, given_1] using gc0
    obtain ⟨L⟩ := args
    match L, hs with
    | [w0, w1, w2, w3, w4, w5], _ => exact ⟨w0, w1, w2, w3, w4, w5, rfl⟩
  have hw := fun d (hd : d ∈ tables_1) => atoms_spec (ws := Jvm.Cond.code x code maxLocals ret :: tables_1) hat d (List.mem_cons_of_mem _ hd)
  obtain ⟨i0, ei0⟩ := is_v gc1
  obtain rfl : w0 = (.int i0) := Option.some.inj ei0
  obtain ⟨i1, ei1⟩ := is_v gc2
  obtain rfl : w1 = (.int i1) := Option.some.inj ei1
  obtain ⟨i2, ei2⟩ := is_v gc3
  obtain rfl : w2 = (.int i2) := Option.some.inj ei2
  obtain ⟨i3, ei3⟩ := is_v gc4
  obtain rfl : w3 = (.int i3) := Option.some.inj ei3
  obtain ⟨i4, ei4⟩ := is_v gc5
  obtain rfl : w4 = (.int i4) := Option.some.inj ei4
  obtain ⟨i5, ei5⟩ := is_v gr5
  obtain rfl : w5 = (.int i5) := Option.some.inj ei5
  have hfit : Fit s := fun {y c} hc i hi => by
    obtain ⟨ha, rfl⟩ := Array.getElem?_eq_some_iff.mp hc
    have q := List.all_eq_true.mp ((Array.all_eq_true_iff_forall_mem.mp hF) _ (Array.getElem_mem ha)) i (List.mem_range.mpr hi)
    simpa [Array.getElem?_eq_getElem hi] using q
  obtain ⟨n0a, n0b⟩ := and_e hn
  obtain ⟨n1a, n1b⟩ := and_e n0b
  obtain ⟨av, kv, Sn, Vn⟩ := own_empty hfit n0a n1b (hw _ (List.mem_of_getElem? (i := 2) rfl)) (hw _ (List.mem_of_getElem? (i := 10) rfl))
  obtain ⟨n, o, h1, h2, h3, _, L, rfl, ⟨rfl, N⟩, hq⟩ := rm0 l s _ hw i0 i1 i2 i3 i4 i5 av kv s.heap s.heap.size (Nat.le_refl _) Sn Vn tables_1 p e ha hc hk s m _ below hf ((Spec.applies_iff_loose hf).mp happ).1 ⟨rfl, State.Warmed39.refl s, rfl⟩ trivial
  refine ⟨n, _, h1, h2, h3, hpost _ _ _ _ _ _ ⟨Cond.after_iff.mpr rfl, Cond.after_iff.mpr (eq_i res_at (Term.int_eval (1)) rfl), trivial⟩ ⟨hq.1, hq.2.1, (hq.2.2.sift fun y hy => Or.inr (N y hy)).mono (by decide) (by decide)⟩⟩
theorem main_1_1 : Claimed_1_1 := comes_1 fun _ _ _ _ _ _ h hF => ⟨h.1, hF⟩
theorem main_1_2 : Claimed_1_2 := comes_1 fun _ _ _ _ _ _ h hF => ⟨h.2.1, hF⟩
end Jvm.Pilot.@@N@@
namespace Jvm.Pilot.@@N@@
open Jvm Jvm.ClassFile Sem Op Lib Jvm.Free Jvm.Stand Jvm.Pilot.@@N@@.Jvm.D
/-! MADE BY PROGRAM (witnessworld.py) out of the Statement's table words and the real class files: 12 classes; the members and pool entries that the words name. The judged class is class 1, her method 1. -/
namespace start1
open Jvm.ClassFile
def u (s : String) : CpInfo := .utf8 (stringToUtf16 s)
/-- a pool by its gaps: so many unusable entries, then the entry; so many at the end -/
def gap : Nat → List CpInfo → List CpInfo
  | 0, r => r
  | n + 1, r => .unusable :: gap n r
def poolList (es : List (Nat × CpInfo)) (last : Nat) : List CpInfo := es.foldr (fun e r => gap e.1 (e.2 :: r)) (gap last [])
def pool (es : List (Nat × CpInfo)) (last : Nat) : Array CpInfo := ⟨poolList es last⟩
def fileOf (pool : Array CpInfo) (this : Nat) (attrs : Array Attribute := #[]) (ms : Array MethodInfo := #[]) (fl : Nat := 33) (sup : Nat := 0) (ifs : Array Nat := #[]) (fds : Array FieldInfo := #[]) : ClassFile where
  minorVersion := 0
  majorVersion := 65
  constantPool := pool
  accessFlags := fl
  thisClass := this
  superClass := sup
  interfaces := ifs
  fields := fds
  methods := ms
  attributes := attrs
def plain (name : String) (sup : Option ClassId) : Class where
  name := name
  kind := .ordinary
  loader := none
  accessFlags := 33
  super := sup
  interfaces := #[]
  cf := none
  fields := #[]
  methods := #[]
  instanceTypes := #[]
  staticTypes := #[]
  resolved := #[]
  callSites := []
  init := .initialized
  statics := none
  mirror := none

def pool0 : Array CpInfo := pool [(5, u "<init>"), (0, u "()V"), (1, .class_ 10), (1, u "java/lang/Object")] 113

def k0c0 : Code := { maxStack := 0, maxLocals := 1, code := object_method_1_code, exceptionTable := #[], attributes := #[] }
def k0m0 : Method := { name := "<init>", desc := "()V", sig := { parameters := [], returnType := none }, accessFlags := 1, code := some k0c0 }
/-- java/lang/Object -/
def k0 : Class := { plain "java/lang/Object" none with
  accessFlags := 33
  interfaces := #[]
  cf := some (fileOf pool0 8 #[] #[{ accessFlags := 1, nameIndex := 5, descriptorIndex := 6, attributes := #[] }] 33 0 #[] #[])
  fields := #[]
  methods := #[k0m0]
  instanceTypes := #[]
  staticTypes := #[]
  resolved := Array.replicate 124 none
  statics := none }

def pool1 : Array CpInfo := pool [(2, .class_ 4), (0, .nameAndType 5 6), (0, u "java/lang/Object"), (0, u "<init>"), (0, u "()V"), (0, .class_ 8), (0, u "com/example/sibling/sibling/xpath/IntColumn"), (0, .methodref 7 3), (0, .methodref 7 11), (0, .nameAndType 12 13), (0, u "add"), (0, u "(I)V"), (0, .methodref 7 15), (0, .nameAndType 16 17), (0, u "set"), (0, u "(II)V"), (0, .methodref 7 19), (0, .nameAndType 20 21), (0, u "size"), (0, u "()I"), (0, .methodref 7 23), (0, .nameAndType 24 25), (0, u "get"), (0, u "(I)I"), (0, .methodref 27 28), (0, .class_ 29), (0, .nameAndType 30 31), (0, u "com/example/sibling/sibling/xpath/IntColumnSetPinLaw"), (0, u "expected"), (0, u "(IIIIII)I"), (2, u "law"), (0, u "(IIIIII)Z")] 3

def k1m0 : Method := { name := "<init>", desc := "()V", sig := { parameters := [], returnType := none }, accessFlags := 1, code := none }
def k1c1 : Code := { maxStack := 7, maxLocals := 9, code := code, exceptionTable := #[], attributes := #[] }
def k1m1 : Method := { name := "law", desc := "(IIIIII)Z", sig := { parameters := [.int, .int, .int, .int, .int, .int], returnType := some .boolean }, accessFlags := 9, code := some k1c1 }
def k1c2 : Code := { maxStack := 2, maxLocals := 6, code := method_3_code, exceptionTable := #[], attributes := #[] }
def k1m2 : Method := { name := "expected", desc := "(IIIIII)I", sig := { parameters := [.int, .int, .int, .int, .int, .int], returnType := some .int }, accessFlags := 10, code := some k1c2 }
/-- com/example/sibling/sibling/xpath/IntColumnSetPinLaw -/
def k1 : Class := { plain "com/example/sibling/sibling/xpath/IntColumnSetPinLaw" (some 0) with
  accessFlags := 49
  interfaces := #[]
  cf := some (fileOf pool1 27 #[] #[{ accessFlags := 1, nameIndex := 5, descriptorIndex := 6, attributes := #[] }, { accessFlags := 9, nameIndex := 34, descriptorIndex := 35, attributes := #[] }, { accessFlags := 10, nameIndex := 30, descriptorIndex := 31, attributes := #[] }] 49 2 #[] #[])
  fields := #[]
  methods := #[k1m0, k1m1, k1m2]
  instanceTypes := #[]
  staticTypes := #[]
  resolved := Array.replicate 39 none
  statics := none }

def pool2 : Array CpInfo := pool [(1, .class_ 2), (0, u "com/example/sibling/sibling/xpath/IntColumn"), (0, .methodref 4 5), (0, .class_ 6), (0, .nameAndType 7 8), (0, u "java/lang/Object"), (0, u "<init>"), (0, u "()V"), (0, .fieldref 1 10), (0, .nameAndType 11 12), (0, u "NO_VALUES"), (0, u "[I"), (0, .fieldref 1 14), (0, .nameAndType 15 12), (0, u "first"), (0, .fieldref 1 17), (0, .nameAndType 18 12), (0, u "tail"), (0, .fieldref 1 20), (0, .nameAndType 21 22), (0, u "size"), (0, u "I"), (0, .fieldref 1 24), (0, .nameAndType 25 26), (0, u "later"), (0, u "[[I"), (0, .fieldref 1 28), (0, .nameAndType 29 22), (0, u "limit"), (0, .methodref 1 31), (0, .nameAndType 32 8), (0, u "makeRoom"), (2, .integer 2147483647), (7, .methodref 44 45), (0, .class_ 46), (0, .nameAndType 47 48), (0, u "java/lang/Math"), (0, u "max"), (0, u "(II)I"), (0, .methodref 50 51), (0, .class_ 52), (0, .nameAndType 53 54), (0, u "java/util/Arrays"), (0, u "copyOf"), (0, u "([II)[I"), (5, .fieldref 1 61), (0, .nameAndType 62 22), (0, u "tailStart"), (0, .long 2147483647), (1, .methodref 44 66), (0, .nameAndType 67 68), (0, u "min"), (0, u "(JJ)J"), (8, u "CHUNK_BITS"), (2, u "CHUNK"), (1, u "OFFSET"), (1, u "FIRST"), (3, u "()I"), (0, u "get"), (0, u "(I)I"), (1, u "set"), (0, u "(II)V"), (0, u "add"), (0, u "(I)V")] 6

def k2c0 : Code := { maxStack := 2, maxLocals := 1, code := prog_55_method_1_code, exceptionTable := #[], attributes := #[] }
def k2m0 : Method := { name := "<init>", desc := "()V", sig := { parameters := [], returnType := none }, accessFlags := 0, code := some k2c0 }
def k2c1 : Code := { maxStack := 1, maxLocals := 1, code := prog_55_method_2_code, exceptionTable := #[], attributes := #[] }
def k2m1 : Method := { name := "size", desc := "()I", sig := { parameters := [], returnType := some .int }, accessFlags := 0, code := some k2c1 }
def k2c2 : Code := { maxStack := 3, maxLocals := 2, code := prog_55_method_3_code, exceptionTable := #[], attributes := #[] }
def k2m2 : Method := { name := "get", desc := "(I)I", sig := { parameters := [.int], returnType := some .int }, accessFlags := 0, code := some k2c2 }
def k2c3 : Code := { maxStack := 3, maxLocals := 3, code := prog_55_method_4_code, exceptionTable := #[], attributes := #[] }
def k2m3 : Method := { name := "set", desc := "(II)V", sig := { parameters := [.int, .int], returnType := none }, accessFlags := 0, code := some k2c3 }
def k2c4 : Code := { maxStack := 3, maxLocals := 2, code := prog_55_method_5_code, exceptionTable := #[], attributes := #[] }
def k2m4 : Method := { name := "add", desc := "(I)V", sig := { parameters := [.int], returnType := none }, accessFlags := 0, code := some k2c4 }
def k2c5 : Code := { maxStack := 7, maxLocals := 3, code := prog_55_method_6_code, exceptionTable := #[], attributes := #[] }
def k2m5 : Method := { name := "makeRoom", desc := "()V", sig := { parameters := [], returnType := none }, accessFlags := 2, code := some k2c5 }
/-- com/example/sibling/sibling/xpath/IntColumn -/
def k2 : Class := { plain "com/example/sibling/sibling/xpath/IntColumn" (some 0) with
  accessFlags := 48
  interfaces := #[]
  cf := some (fileOf pool2 1 #[] #[{ accessFlags := 0, nameIndex := 7, descriptorIndex := 8, attributes := #[] }, { accessFlags := 0, nameIndex := 21, descriptorIndex := 88, attributes := #[] }, { accessFlags := 0, nameIndex := 89, descriptorIndex := 90, attributes := #[] }, { accessFlags := 0, nameIndex := 92, descriptorIndex := 93, attributes := #[] }, { accessFlags := 0, nameIndex := 94, descriptorIndex := 95, attributes := #[] }, { accessFlags := 2, nameIndex := 32, descriptorIndex := 8, attributes := #[] }] 48 4 #[] #[{ accessFlags := 26, nameIndex := 77, descriptorIndex := 22, attributes := #[] }, { accessFlags := 26, nameIndex := 80, descriptorIndex := 22, attributes := #[] }, { accessFlags := 26, nameIndex := 82, descriptorIndex := 22, attributes := #[] }, { accessFlags := 26, nameIndex := 84, descriptorIndex := 22, attributes := #[] }, { accessFlags := 26, nameIndex := 11, descriptorIndex := 12, attributes := #[] }, { accessFlags := 2, nameIndex := 15, descriptorIndex := 12, attributes := #[] }, { accessFlags := 2, nameIndex := 25, descriptorIndex := 26, attributes := #[] }, { accessFlags := 2, nameIndex := 21, descriptorIndex := 22, attributes := #[] }, { accessFlags := 2, nameIndex := 18, descriptorIndex := 12, attributes := #[] }, { accessFlags := 2, nameIndex := 29, descriptorIndex := 22, attributes := #[] }, { accessFlags := 2, nameIndex := 62, descriptorIndex := 22, attributes := #[] }])
  fields := #[{ name := "CHUNK_BITS", type := .int, accessFlags := 26, slot := 0, constantValue := 0 }, { name := "CHUNK", type := .int, accessFlags := 26, slot := 1, constantValue := 0 }, { name := "OFFSET", type := .int, accessFlags := 26, slot := 2, constantValue := 0 }, { name := "FIRST", type := .int, accessFlags := 26, slot := 3, constantValue := 0 }, { name := "NO_VALUES", type := (.array .int), accessFlags := 26, slot := 4, constantValue := 0 }, { name := "first", type := (.array .int), accessFlags := 2, slot := 0, constantValue := 0 }, { name := "later", type := (.array (.array .int)), accessFlags := 2, slot := 1, constantValue := 0 }, { name := "size", type := .int, accessFlags := 2, slot := 2, constantValue := 0 }, { name := "tail", type := (.array .int), accessFlags := 2, slot := 3, constantValue := 0 }, { name := "limit", type := .int, accessFlags := 2, slot := 4, constantValue := 0 }, { name := "tailStart", type := .int, accessFlags := 2, slot := 5, constantValue := 0 }]
  methods := #[k2m0, k2m1, k2m2, k2m3, k2m4, k2m5]
  instanceTypes := #[(.array .int), (.array (.array .int)), .int, (.array .int), .int, .int]
  staticTypes := #[.int, .int, .int, .int, (.array .int)]
  resolved := Array.replicate 102 none
  statics := some 0 }

def pool3 : Array CpInfo := pool [(1, .class_ 2), (0, u "java/lang/Math"), (1, .class_ 6), (1, u "java/lang/Object"), (0, u "<init>"), (0, u "()V"), (89, .class_ 100), (1, u "java/lang/Math$RandomNumberGeneratorHolder"), (20, u "(JJ)J"), (50, u "negativeZeroFloatBits"), (0, u "J"), (2, u "negativeZeroDoubleBits"), (21, u "max"), (2, u "min"), (43, u "$assertionsDisabled"), (0, u "Z"), (88, u "(II)I"), (2, u "twoToTheDoubleScaleDown"), (0, u "D"), (4, u "twoToTheDoubleScaleUp"), (9, u "E"), (3, u "PI"), (2, u "TAU"), (2, u "DEGREES_TO_RADIANS"), (0, u "RADIANS_TO_DEGREES")] 94

def k3m0 : Method := { name := "<init>", desc := "()V", sig := { parameters := [], returnType := none }, accessFlags := 2, code := none }
def k3c1 : Code := { maxStack := 2, maxLocals := 2, code := jdk_29_method_65_code, exceptionTable := #[], attributes := #[] }
def k3m1 : Method := { name := "max", desc := "(II)I", sig := { parameters := [.int, .int], returnType := some .int }, accessFlags := 9, code := some k3c1 }
def k3c2 : Code := { maxStack := 2, maxLocals := 2, code := jdk_29_method_69_code, exceptionTable := #[], attributes := #[] }
def k3m2 : Method := { name := "min", desc := "(II)I", sig := { parameters := [.int, .int], returnType := some .int }, accessFlags := 9, code := some k3c2 }
def k3c3 : Code := { maxStack := 4, maxLocals := 4, code := jdk_29_method_70_code, exceptionTable := #[], attributes := #[] }
def k3m3 : Method := { name := "min", desc := "(JJ)J", sig := { parameters := [.long, .long], returnType := some .long }, accessFlags := 9, code := some k3c3 }
/-- java/lang/Math -/
def k3 : Class := { plain "java/lang/Math" (some 0) with
  accessFlags := 49
  interfaces := #[]
  cf := some (fileOf pool3 1 #[.nestMembers #[98]] #[{ accessFlags := 2, nameIndex := 7, descriptorIndex := 8, attributes := #[] }, { accessFlags := 9, nameIndex := 198, descriptorIndex := 335, attributes := #[] }, { accessFlags := 9, nameIndex := 201, descriptorIndex := 335, attributes := #[] }, { accessFlags := 9, nameIndex := 201, descriptorIndex := 121, attributes := #[] }] 49 4 #[] #[{ accessFlags := 25, nameIndex := 354, descriptorIndex := 339, attributes := #[] }, { accessFlags := 25, nameIndex := 358, descriptorIndex := 339, attributes := #[] }, { accessFlags := 25, nameIndex := 361, descriptorIndex := 339, attributes := #[] }, { accessFlags := 26, nameIndex := 364, descriptorIndex := 339, attributes := #[] }, { accessFlags := 26, nameIndex := 365, descriptorIndex := 339, attributes := #[] }, { accessFlags := 26, nameIndex := 172, descriptorIndex := 173, attributes := #[] }, { accessFlags := 26, nameIndex := 176, descriptorIndex := 173, attributes := #[] }, { accessFlags := 8, nameIndex := 344, descriptorIndex := 339, attributes := #[] }, { accessFlags := 8, nameIndex := 338, descriptorIndex := 339, attributes := #[] }, { accessFlags := 4120, nameIndex := 245, descriptorIndex := 246, attributes := #[] }])
  fields := #[{ name := "E", type := .double, accessFlags := 25, slot := 0, constantValue := 0 }, { name := "PI", type := .double, accessFlags := 25, slot := 1, constantValue := 0 }, { name := "TAU", type := .double, accessFlags := 25, slot := 2, constantValue := 0 }, { name := "DEGREES_TO_RADIANS", type := .double, accessFlags := 26, slot := 3, constantValue := 0 }, { name := "RADIANS_TO_DEGREES", type := .double, accessFlags := 26, slot := 4, constantValue := 0 }, { name := "negativeZeroFloatBits", type := .long, accessFlags := 26, slot := 5, constantValue := 0 }, { name := "negativeZeroDoubleBits", type := .long, accessFlags := 26, slot := 6, constantValue := 0 }, { name := "twoToTheDoubleScaleUp", type := .double, accessFlags := 8, slot := 7, constantValue := 0 }, { name := "twoToTheDoubleScaleDown", type := .double, accessFlags := 8, slot := 8, constantValue := 0 }, { name := "$assertionsDisabled", type := .boolean, accessFlags := 4120, slot := 9, constantValue := 0 }]
  methods := #[k3m0, k3m1, k3m2, k3m3]
  instanceTypes := #[]
  staticTypes := #[.double, .double, .double, .double, .double, .long, .long, .double, .double, .boolean]
  resolved := Array.replicate 460 none
  statics := none }

def pool4 : Array CpInfo := pool [(2, .class_ 4), (1, u "java/lang/Object"), (0, u "<init>"), (0, u "()V"), (7, .class_ 16), (1, u "java/util/Arrays"), (57, .class_ 76), (1, u "java/util/Arrays$NaturalOrder"), (36, .class_ 115), (1, u "java/util/Arrays$LegacyMergeSort"), (1, u "Z"), (32, .methodref 151 152), (0, .class_ 153), (0, .nameAndType 154 155), (0, u "java/lang/System"), (0, u "arraycopy"), (0, u "(Ljava/lang/Object;ILjava/lang/Object;II)V"), (146, u "copyOf"), (1, .methodref 305 306), (0, .class_ 307), (0, .nameAndType 308 309), (0, u "java/lang/Math"), (0, u "min"), (0, u "(II)I"), (65, .class_ 376), (0, u "java/util/Arrays$ArrayList"), (68, u "$assertionsDisabled"), (269, u "MIN_ARRAY_SORT_GRAN"), (0, u "I"), (2, u "INSERTIONSORT_THRESHOLD"), (151, u "([II)[I"), (103, .class_ 976), (0, u "java/util/Arrays$ArrayItr")] 52

def k4m0 : Method := { name := "<init>", desc := "()V", sig := { parameters := [], returnType := none }, accessFlags := 2, code := none }
def k4c1 : Code := { maxStack := 6, maxLocals := 3, code := jdk_65_method_123_code, exceptionTable := #[], attributes := #[] }
def k4m1 : Method := { name := "copyOf", desc := "([II)[I", sig := { parameters := [(.array .int), .int], returnType := some (.array .int) }, accessFlags := 9, code := some k4c1 }
/-- java/util/Arrays -/
def k4 : Class := { plain "java/util/Arrays" (some 0) with
  accessFlags := 49
  interfaces := #[]
  cf := some (fileOf pool4 14 #[.nestMembers #[975, 375, 113, 74]] #[{ accessFlags := 2, nameIndex := 5, descriptorIndex := 6, attributes := #[] }, { accessFlags := 9, nameIndex := 302, descriptorIndex := 871, attributes := #[] }] 49 2 #[] #[{ accessFlags := 26, nameIndex := 715, descriptorIndex := 716, attributes := #[] }, { accessFlags := 26, nameIndex := 719, descriptorIndex := 716, attributes := #[] }, { accessFlags := 4120, nameIndex := 445, descriptorIndex := 117, attributes := #[] }])
  fields := #[{ name := "MIN_ARRAY_SORT_GRAN", type := .int, accessFlags := 26, slot := 0, constantValue := 0 }, { name := "INSERTIONSORT_THRESHOLD", type := .int, accessFlags := 26, slot := 1, constantValue := 0 }, { name := "$assertionsDisabled", type := .boolean, accessFlags := 4120, slot := 2, constantValue := 0 }]
  methods := #[k4m0, k4m1]
  instanceTypes := #[]
  staticTypes := #[.int, .int, .boolean]
  resolved := Array.replicate 1029 none
  statics := none }

def pool5 : Array CpInfo := pool [(2, .class_ 4), (1, u "java/lang/Object"), (0, u "<init>"), (0, u "()V"), (1, .class_ 10), (1, u "java/lang/System"), (0, u "allowSecurityManager"), (0, u "I"), (16, u "cons"), (0, u "Ljava/io/Console;"), (77, .class_ 110), (1, u "java/lang/System$CallersHolder"), (43, u "initialErrStream"), (0, u "Ljava/io/PrintStream;"), (19, u "security"), (0, u "Ljava/lang/SecurityManager;"), (31, .class_ 209), (0, u "java/lang/System$1"), (7, u "props"), (0, u "Ljava/util/Properties;"), (2, u "lineSeparator"), (0, u "Ljava/lang/String;"), (96, .class_ 321), (1, u "java/lang/System$LoggerFinder"), (5, .class_ 328), (0, u "java/lang/System$Logger"), (67, u "err"), (2, u "out"), (91, u "notSupportedJnuEncoding"), (15, u "in"), (17, u "initialIn"), (0, u "Ljava/io/InputStream;"), (35, u "bootLayer"), (0, u "Ljava/lang/ModuleLayer;"), (99, .class_ 664), (0, u "java/lang/System$2"), (9, u "NEVER"), (2, u "MAYBE"), (49, u "arraycopy"), (0, u "(Ljava/lang/Object;ILjava/lang/Object;II)V"), (72, .class_ 802), (0, u "java/lang/System$Logger$Level")] 31

def k5m0 : Method := { name := "<init>", desc := "()V", sig := { parameters := [], returnType := none }, accessFlags := 2, code := none }
def k5m1 : Method := { name := "arraycopy", desc := "(Ljava/lang/Object;ILjava/lang/Object;II)V", sig := { parameters := [(.object "java/lang/Object"), .int, (.object "java/lang/Object"), .int, .int], returnType := none }, accessFlags := 265, code := none }
/-- java/lang/System -/
def k5 : Class := { plain "java/lang/System" (some 0) with
  accessFlags := 49
  interfaces := #[]
  cf := some (fileOf pool5 8 #[.nestMembers #[319, 327, 801, 108, 663, 208]] #[{ accessFlags := 2, nameIndex := 5, descriptorIndex := 6, attributes := #[] }, { accessFlags := 265, nameIndex := 727, descriptorIndex := 728, attributes := #[] }] 49 2 #[] #[{ accessFlags := 25, nameIndex := 507, descriptorIndex := 526, attributes := #[] }, { accessFlags := 25, nameIndex := 399, descriptorIndex := 155, attributes := #[] }, { accessFlags := 25, nameIndex := 396, descriptorIndex := 155, attributes := #[] }, { accessFlags := 10, nameIndex := 525, descriptorIndex := 526, attributes := #[] }, { accessFlags := 26, nameIndex := 674, descriptorIndex := 12, attributes := #[] }, { accessFlags := 26, nameIndex := 677, descriptorIndex := 12, attributes := #[] }, { accessFlags := 10, nameIndex := 11, descriptorIndex := 12, attributes := #[] }, { accessFlags := 74, nameIndex := 175, descriptorIndex := 176, attributes := #[] }, { accessFlags := 10, nameIndex := 491, descriptorIndex := 222, attributes := #[] }, { accessFlags := 74, nameIndex := 29, descriptorIndex := 30, attributes := #[] }, { accessFlags := 74, nameIndex := 154, descriptorIndex := 155, attributes := #[] }, { accessFlags := 10, nameIndex := 217, descriptorIndex := 218, attributes := #[] }, { accessFlags := 10, nameIndex := 221, descriptorIndex := 222, attributes := #[] }, { accessFlags := 8, nameIndex := 562, descriptorIndex := 563, attributes := #[] }])
  fields := #[{ name := "in", type := (.object "java/io/InputStream"), accessFlags := 25, slot := 0, constantValue := 0 }, { name := "out", type := (.object "java/io/PrintStream"), accessFlags := 25, slot := 1, constantValue := 0 }, { name := "err", type := (.object "java/io/PrintStream"), accessFlags := 25, slot := 2, constantValue := 0 }, { name := "initialIn", type := (.object "java/io/InputStream"), accessFlags := 10, slot := 3, constantValue := 0 }, { name := "NEVER", type := .int, accessFlags := 26, slot := 4, constantValue := 0 }, { name := "MAYBE", type := .int, accessFlags := 26, slot := 5, constantValue := 0 }, { name := "allowSecurityManager", type := .int, accessFlags := 10, slot := 6, constantValue := 0 }, { name := "security", type := (.object "java/lang/SecurityManager"), accessFlags := 74, slot := 7, constantValue := 0 }, { name := "notSupportedJnuEncoding", type := (.object "java/lang/String"), accessFlags := 10, slot := 8, constantValue := 0 }, { name := "cons", type := (.object "java/io/Console"), accessFlags := 74, slot := 9, constantValue := 0 }, { name := "initialErrStream", type := (.object "java/io/PrintStream"), accessFlags := 74, slot := 10, constantValue := 0 }, { name := "props", type := (.object "java/util/Properties"), accessFlags := 10, slot := 11, constantValue := 0 }, { name := "lineSeparator", type := (.object "java/lang/String"), accessFlags := 10, slot := 12, constantValue := 0 }, { name := "bootLayer", type := (.object "java/lang/ModuleLayer"), accessFlags := 8, slot := 13, constantValue := 0 }]
  methods := #[k5m0, k5m1]
  instanceTypes := #[]
  staticTypes := #[(.object "java/io/InputStream"), (.object "java/io/PrintStream"), (.object "java/io/PrintStream"), (.object "java/io/InputStream"), .int, .int, .int, (.object "java/lang/SecurityManager"), (.object "java/lang/String"), (.object "java/io/Console"), (.object "java/io/PrintStream"), (.object "java/util/Properties"), (.object "java/lang/String"), (.object "java/lang/ModuleLayer")]
  resolved := Array.replicate 834 none
  statics := none }

def pool6 : Array CpInfo := pool [(1, u "java/lang/Cloneable"), (0, .class_ 1), (0, u "java/lang/Object"), (0, .class_ 3)] 3

/-- java/lang/Cloneable -/
def k6 : Class := { plain "java/lang/Cloneable" (some 0) with
  accessFlags := 1537
  interfaces := #[]
  cf := some (fileOf pool6 2 #[] #[] 1537 4 #[] #[])
  fields := #[]
  methods := #[]
  instanceTypes := #[]
  staticTypes := #[]
  resolved := Array.replicate 8 none
  statics := none }

def pool7 : Array CpInfo := pool [(1, u "java/io/Serializable"), (0, .class_ 1), (0, u "java/lang/Object"), (0, .class_ 3)] 3

/-- java/io/Serializable -/
def k7 : Class := { plain "java/io/Serializable" (some 0) with
  accessFlags := 1537
  interfaces := #[]
  cf := some (fileOf pool7 2 #[] #[] 1537 4 #[] #[])
  fields := #[]
  methods := #[]
  instanceTypes := #[]
  staticTypes := #[]
  resolved := Array.replicate 8 none
  statics := none }

/-- the primitive byte -/
def k8 : Class := { plain "byte" none with kind := .primitive 'B', accessFlags := 0x411 }
/-- [B -/
def k9 : Class := { plain "[B" (some 0) with kind := .array 8 .byte, interfaces := #[6, 7], accessFlags := 1041 }

/-- the primitive int -/
def k10 : Class := { plain "int" none with kind := .primitive 'I', accessFlags := 0x411 }
/-- [I -/
def k11 : Class := { plain "[I" (some 0) with kind := .array 10 .int, interfaces := #[6, 7], accessFlags := 1041 }

def heap : Heap := #[{ cls := 2, slots := #[.int 0, .int 0, .int 0, .int 0, .ref 1], vm := .statics 2 },
  { cls := 11, slots := #[], vm := .none }]
def classes : Array Class := #[k0, k1, k2, k3, k4, k5, k6, k7, k8, k9, k10, k11]
def interned : List (Array UInt16 × Addr) := []
def slotsUsed : Nat := 5
def theMethod : MethodId := ⟨1, 1⟩
def args0 : Array Value := #[.int 5, .int 7, .int 6, .int 5, .int 5, .int 9]
def aboutOver (below : List Frame) : State where
  vm := { classes := classes, interned := interned.toArray }
  heap := heap
  slotsUsed := slotsUsed
  threads := #[{ frames := .invoking theMethod args0 :: below }]
def below0 : List Frame := [.native { method := ⟨0, 0⟩, args := #[] }]
def about1 : State := aboutOver below0
def p0 : Program := .bare "" "" ""
def e0 : Env := launch0.env 0 0 0
theorem w_frames : about1.frames = Frame.invoking theMethod args0 :: below0 := rfl
set_option maxRecDepth 65536 in
theorem w_args : argsFit about1.vm theMethod args0 = true := by decide +kernel
set_option maxRecDepth 65536 in
theorem w_heap : heapFits about1 = true := by decide +kernel
set_option maxRecDepth 65536 in
theorem w_runnable : about1.curStatus? = some .runnable := by decide +kernel
set_option maxRecDepth 65536 in
theorem w_alone : about1.alone = true := by decide +kernel
set_option maxRecDepth 65536 in
theorem w_named : about1.methodNamed? x = some theMethod := by decide +kernel
set_option maxRecDepth 65536 in
theorem w_hears : about1.hears theMethod below0 = true := by decide +kernel
set_option maxRecDepth 65536 in
theorem w_ripe : about1.ripe theMethod args0 below0 = true := by decide +kernel
theorem w_running : about1.status = .running := rfl
set_option maxRecDepth 65536 in
theorem w_room : about1.hasRoom e0.platform room_1 = true :=
  launch0.hasRoom_least _ room_1 (by decide +kernel) (by decide +kernel) (by decide +kernel) (by decide +kernel) (by decide +kernel) (by decide +kernel)
theorem allAtoms_all (ts : List Jvm.Cond) (a : Array Jvm.Value) (st : Jvm.State) : (allAtoms ts).before a st = ts.all (fun c => c.before a st) := by
  induction ts with
  | nil => rfl
  | cons c t ih =>
    show (Jvm.Cond.and c (allAtoms t)).before a st = _
    rw [Jvm.Cond.before_and, ih, List.all_cons]
def words1 : List Jvm.Cond := Jvm.Cond.code x code maxLocals ret :: tables_1
/-- a 'code' word, met by the world's own term for the bytes: nothing is compared byte by byte -/
theorem code_word {y : MethodName} {bytes : ByteArray} {mx : Nat} {rt : Option FieldType} {a : Array Value} {s : State} {m : MethodId} {meth : Method} {c : Code} (h1 : s.methodNamed? y = some m) (h2 : s.vm.method? m = some meth) (h3 : meth.code = some c) (h4 : c.code = bytes)
    (h5 : (c.maxLocals == mx && c.exceptionTable.isEmpty && decide (c.maxStack ≤ mostOperands) && decide (meth.sig.returnType = rt) && !meth.locks && decide (parseMethodDescriptor y.desc = some meth.sig)) = true) : (Jvm.Cond.code y bytes mx rt).before a s = true := by
  simp only [Bool.and_eq_true, beq_iff_eq, Bool.not_eq_true', decide_eq_true_eq] at h5
  obtain ⟨⟨⟨⟨⟨g1, g2⟩, g3⟩, g4⟩, g5⟩, g6⟩ := h5
  simp [Cond.before, Cond.holds, Cond.value, h1, h2, h3, h4, g1, g2, g3, g4, g5, g6]
def isCode : Jvm.Cond → Bool
  | .code _ _ _ _ => true
  | _ => false
theorem all_split {L : List Jvm.Cond} {P : Jvm.Cond → Bool} (h1 : L.all (fun c => isCode c || P c) = true) (h2 : ∀ c ∈ L.filter isCode, P c = true) : L.all P = true := by
  refine List.all_eq_true.mpr fun c hc => ?_
  have h := List.all_eq_true.mp h1 c hc
  rcases Bool.eq_false_or_eq_true (isCode c) with hi | hi
  · exact h2 c (List.mem_filter.mpr ⟨hc, hi⟩)
  · simpa [hi] using h
set_option maxRecDepth 65536 in
theorem w_c0 : (Jvm.Cond.code x code maxLocals ret).before args0 about1 = true := code_word (m := ⟨1, 1⟩) (meth := k1m1) (c := k1c1) (by decide +kernel) rfl rfl rfl (by decide +kernel)
set_option maxRecDepth 65536 in
theorem w_c1 : (Jvm.Cond.code ({ cls := "com/example/sibling/sibling/xpath/IntColumn", name := "<init>", desc := "()V" } : Jvm.MethodName) prog_55_method_1_code (1 : Nat) (Option.none : Option Jvm.ClassFile.FieldType)).before args0 about1 = true := code_word (m := ⟨2, 0⟩) (meth := k2m0) (c := k2c0) (by decide +kernel) rfl rfl rfl (by decide +kernel)
set_option maxRecDepth 65536 in
theorem w_c2 : (Jvm.Cond.code ({ cls := "java/lang/Object", name := "<init>", desc := "()V" } : Jvm.MethodName) object_method_1_code (1 : Nat) (Option.none : Option Jvm.ClassFile.FieldType)).before args0 about1 = true := code_word (m := ⟨0, 0⟩) (meth := k0m0) (c := k0c0) (by decide +kernel) rfl rfl rfl (by decide +kernel)
set_option maxRecDepth 65536 in
theorem w_c3 : (Jvm.Cond.code ({ cls := "com/example/sibling/sibling/xpath/IntColumn", name := "add", desc := "(I)V" } : Jvm.MethodName) prog_55_method_5_code (2 : Nat) (Option.none : Option Jvm.ClassFile.FieldType)).before args0 about1 = true := code_word (m := ⟨2, 4⟩) (meth := k2m4) (c := k2c4) (by decide +kernel) rfl rfl rfl (by decide +kernel)
set_option maxRecDepth 65536 in
theorem w_c4 : (Jvm.Cond.code ({ cls := "com/example/sibling/sibling/xpath/IntColumn", name := "makeRoom", desc := "()V" } : Jvm.MethodName) prog_55_method_6_code (3 : Nat) (Option.none : Option Jvm.ClassFile.FieldType)).before args0 about1 = true := code_word (m := ⟨2, 5⟩) (meth := k2m5) (c := k2c5) (by decide +kernel) rfl rfl rfl (by decide +kernel)
set_option maxRecDepth 65536 in
theorem w_c5 : (Jvm.Cond.code ({ cls := "java/lang/Math", name := "max", desc := "(II)I" } : Jvm.MethodName) jdk_29_method_65_code (2 : Nat) (Option.some Jvm.ClassFile.FieldType.int)).before args0 about1 = true := code_word (m := ⟨3, 1⟩) (meth := k3m1) (c := k3c1) (by decide +kernel) rfl rfl rfl (by decide +kernel)
set_option maxRecDepth 65536 in
theorem w_c6 : (Jvm.Cond.code ({ cls := "java/util/Arrays", name := "copyOf", desc := "([II)[I" } : Jvm.MethodName) jdk_65_method_123_code (3 : Nat) (Option.some (Jvm.ClassFile.FieldType.array Jvm.ClassFile.FieldType.int))).before args0 about1 = true := code_word (m := ⟨4, 1⟩) (meth := k4m1) (c := k4c1) (by decide +kernel) rfl rfl rfl (by decide +kernel)
set_option maxRecDepth 65536 in
theorem w_c7 : (Jvm.Cond.code ({ cls := "java/lang/Math", name := "min", desc := "(II)I" } : Jvm.MethodName) jdk_29_method_69_code (2 : Nat) (Option.some Jvm.ClassFile.FieldType.int)).before args0 about1 = true := code_word (m := ⟨3, 2⟩) (meth := k3m2) (c := k3c2) (by decide +kernel) rfl rfl rfl (by decide +kernel)
set_option maxRecDepth 65536 in
theorem w_c8 : (Jvm.Cond.code ({ cls := "java/lang/Math", name := "min", desc := "(JJ)J" } : Jvm.MethodName) jdk_29_method_70_code (4 : Nat) (Option.some Jvm.ClassFile.FieldType.long)).before args0 about1 = true := code_word (m := ⟨3, 3⟩) (meth := k3m3) (c := k3c3) (by decide +kernel) rfl rfl rfl (by decide +kernel)
set_option maxRecDepth 65536 in
theorem w_c9 : (Jvm.Cond.code ({ cls := "com/example/sibling/sibling/xpath/IntColumn", name := "set", desc := "(II)V" } : Jvm.MethodName) prog_55_method_4_code (3 : Nat) (Option.none : Option Jvm.ClassFile.FieldType)).before args0 about1 = true := code_word (m := ⟨2, 3⟩) (meth := k2m3) (c := k2c3) (by decide +kernel) rfl rfl rfl (by decide +kernel)
set_option maxRecDepth 65536 in
theorem w_c10 : (Jvm.Cond.code ({ cls := "com/example/sibling/sibling/xpath/IntColumn", name := "size", desc := "()I" } : Jvm.MethodName) prog_55_method_2_code (1 : Nat) (Option.some Jvm.ClassFile.FieldType.int)).before args0 about1 = true := code_word (m := ⟨2, 1⟩) (meth := k2m1) (c := k2c1) (by decide +kernel) rfl rfl rfl (by decide +kernel)
set_option maxRecDepth 65536 in
theorem w_c11 : (Jvm.Cond.code ({ cls := "com/example/sibling/sibling/xpath/IntColumn", name := "get", desc := "(I)I" } : Jvm.MethodName) prog_55_method_3_code (2 : Nat) (Option.some Jvm.ClassFile.FieldType.int)).before args0 about1 = true := code_word (m := ⟨2, 2⟩) (meth := k2m2) (c := k2c2) (by decide +kernel) rfl rfl rfl (by decide +kernel)
set_option maxRecDepth 65536 in
theorem w_c12 : (Jvm.Cond.code ({ cls := "com/example/sibling/sibling/xpath/IntColumnSetPinLaw", name := "expected", desc := "(IIIIII)I" } : Jvm.MethodName) method_3_code (6 : Nat) (Option.some Jvm.ClassFile.FieldType.int)).before args0 about1 = true := code_word (m := ⟨1, 2⟩) (meth := k1m2) (c := k1c2) (by decide +kernel) rfl rfl rfl (by decide +kernel)
def codes1 : List Jvm.Cond := [Jvm.Cond.code x code maxLocals ret, Jvm.Cond.code ({ cls := "com/example/sibling/sibling/xpath/IntColumn", name := "<init>", desc := "()V" } : Jvm.MethodName) prog_55_method_1_code (1 : Nat) (Option.none : Option Jvm.ClassFile.FieldType), Jvm.Cond.code ({ cls := "java/lang/Object", name := "<init>", desc := "()V" } : Jvm.MethodName) object_method_1_code (1 : Nat) (Option.none : Option Jvm.ClassFile.FieldType), Jvm.Cond.code ({ cls := "com/example/sibling/sibling/xpath/IntColumn", name := "add", desc := "(I)V" } : Jvm.MethodName) prog_55_method_5_code (2 : Nat) (Option.none : Option Jvm.ClassFile.FieldType), Jvm.Cond.code ({ cls := "com/example/sibling/sibling/xpath/IntColumn", name := "makeRoom", desc := "()V" } : Jvm.MethodName) prog_55_method_6_code (3 : Nat) (Option.none : Option Jvm.ClassFile.FieldType), Jvm.Cond.code ({ cls := "java/lang/Math", name := "max", desc := "(II)I" } : Jvm.MethodName) jdk_29_method_65_code (2 : Nat) (Option.some Jvm.ClassFile.FieldType.int), Jvm.Cond.code ({ cls := "java/util/Arrays", name := "copyOf", desc := "([II)[I" } : Jvm.MethodName) jdk_65_method_123_code (3 : Nat) (Option.some (Jvm.ClassFile.FieldType.array Jvm.ClassFile.FieldType.int)), Jvm.Cond.code ({ cls := "java/lang/Math", name := "min", desc := "(II)I" } : Jvm.MethodName) jdk_29_method_69_code (2 : Nat) (Option.some Jvm.ClassFile.FieldType.int), Jvm.Cond.code ({ cls := "java/lang/Math", name := "min", desc := "(JJ)J" } : Jvm.MethodName) jdk_29_method_70_code (4 : Nat) (Option.some Jvm.ClassFile.FieldType.long), Jvm.Cond.code ({ cls := "com/example/sibling/sibling/xpath/IntColumn", name := "set", desc := "(II)V" } : Jvm.MethodName) prog_55_method_4_code (3 : Nat) (Option.none : Option Jvm.ClassFile.FieldType), Jvm.Cond.code ({ cls := "com/example/sibling/sibling/xpath/IntColumn", name := "size", desc := "()I" } : Jvm.MethodName) prog_55_method_2_code (1 : Nat) (Option.some Jvm.ClassFile.FieldType.int), Jvm.Cond.code ({ cls := "com/example/sibling/sibling/xpath/IntColumn", name := "get", desc := "(I)I" } : Jvm.MethodName) prog_55_method_3_code (2 : Nat) (Option.some Jvm.ClassFile.FieldType.int), Jvm.Cond.code ({ cls := "com/example/sibling/sibling/xpath/IntColumnSetPinLaw", name := "expected", desc := "(IIIIII)I" } : Jvm.MethodName) method_3_code (6 : Nat) (Option.some Jvm.ClassFile.FieldType.int)]
set_option maxRecDepth 65536 in
theorem codes_eq : words1.filter isCode = codes1 := rfl
theorem w_codes : ∀ c ∈ words1.filter isCode, c.before args0 about1 = true := by
  rw [codes_eq]
  intro c hc
  simp only [codes1, List.mem_cons, List.not_mem_nil, or_false] at hc
  rcases hc with rfl | rfl | rfl | rfl | rfl | rfl | rfl | rfl | rfl | rfl | rfl | rfl | rfl
  · exact w_c0
  · exact w_c1
  · exact w_c2
  · exact w_c3
  · exact w_c4
  · exact w_c5
  · exact w_c6
  · exact w_c7
  · exact w_c8
  · exact w_c9
  · exact w_c10
  · exact w_c11
  · exact w_c12
set_option maxRecDepth 65536 in
theorem w_t1 : (words1.take 24).all (fun c => isCode c || c.before args0 about1) = true := by decide +kernel
set_option maxRecDepth 65536 in
theorem w_t2 : ((words1.drop 24).take 24).all (fun c => isCode c || c.before args0 about1) = true := by decide +kernel
set_option maxRecDepth 65536 in
theorem w_t3 : (((words1.drop 24).drop 24).take 24).all (fun c => isCode c || c.before args0 about1) = true := by decide +kernel
set_option maxRecDepth 65536 in
theorem w_t4 : (((words1.drop 24).drop 24).drop 24).all (fun c => isCode c || c.before args0 about1) = true := by decide +kernel
theorem w_tables : (allAtoms (Jvm.Cond.code x code maxLocals ret :: tables_1)).before args0 about1 = true := by
  rw [allAtoms_all]
  show words1.all (fun c => c.before args0 about1) = true
  refine all_split ?_ w_codes
  rw [← List.take_append_drop 24 words1, List.all_append, w_t1, ← List.take_append_drop 24 (words1.drop 24), List.all_append, w_t2, ← List.take_append_drop 24 ((words1.drop 24).drop 24), List.all_append, w_t3, w_t4]
  rfl
set_option maxRecDepth 65536 in
theorem w_case : (Jvm.Cond.and given_1 narrow_1).before args0 about1 = true := by decide +kernel
theorem w_applies : (headSpec (Jvm.Cond.code x code maxLocals ret :: tables_1) room_1).applies x e0.platform about1 = true :=
  (Spec.applies_iff w_frames).mpr ⟨w_running, w_runnable, w_alone, w_named, w_hears, w_ripe, w_room, w_tables⟩
theorem atStart : AtStart classFile x code maxLocals ret World_1 tables_1 room_1 Calls_1 rest_1 Pre_1 launch0 p0 e0 about1 theMethod args0 below0 :=
  ⟨lists_1, trivial, launch0.admits_env _ _ _, launch0.least_env, fairChoices_fair.cas, fairChoices_fair.clock, w_frames, w_args, w_heap, w_applies, trivial, trivial, w_case⟩
end start1
theorem witness_1 : WitnessClaimed_1 := ⟨start1.p0, start1.e0, start1.about1, start1.theMethod, start1.args0, start1.below0, start1.atStart⟩
end Jvm.Pilot.@@N@@
