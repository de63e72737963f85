import JvmDerived
import JvmDerived.Pilot.@@N@@Statement
import JvmDerived.Pilot.@@N@@Code
set_option linter.unusedVariables false
set_option linter.unusedSimpArgs false
@@BLOCK:NumsL.lean.txt@@
namespace Jvm.OwnGo
open Jvm Jvm.ClassFile Sem Op Lib Jvm.Free Jvm.Stand Jvm.LawKit Jvm.RoadKit
/-- from T with the frame g on top the run comes to an end of which En holds -/
def Go (p : Program) (e : Env) (below : List Frame) (En : State → Outcome → Prop) (T : State) (g : JFrame) : Prop :=
  ∃ t o, Steps p.tables e below (T.setTop g) t ∧ t.status = .running ∧ Ended t below o ∧ En t o
/-- it has returned; the value, the heap and the written places meet Q; at most C cells and S slots were made since s -/
def EndN (s : State) (Q : Option Value → Heap → List Loc → Prop) (C S : Nat) : State → Outcome → Prop := fun t o => ∃ v L, o = .returned v ∧ Q v t.heap L ∧ FrameEnd s o t L C S
/-- what a callee's own walk promises -/
def Con (l : Launch) (Z : State) (y : MethodName) (bytes : ByteArray) (maxL : Nat) (ret : Option FieldType) (rm : Room) (as : List Value) (h : Heap) (Q : Option Value → Heap → List Loc → Prop) : Prop :=
  ∀ ws : List Jvm.Cond, MetFree l y (head1 (Jvm.Cond.code y bytes maxL ret :: ws) rm) (fun a U => a = as.toArray ∧ Z.Warmed39 U.vm ∧ U.heap = h) (fun _ _ _ _ _ => True) (fun _ U o U' => ∃ v L, o = .returned v ∧ Q v U'.heap L ∧ FrameEnd U o U' L rm.cells rm.slots)
/-- it returns r and leaves the heap as it was -/
def Ret (r : Option Value) (h : Heap) : Option Value → Heap → List Loc → Prop := fun v h' L => v = r ∧ h' = h ∧ L = []
section Own
variable {p : Program} {l : Launch} {e : Env} {R : Room} {s : State} {m : MethodId} {args : Array Value} {below : List Frame} {meth : Method} {c : Code} {T : State} {locs : List Loc} {cells slots : Nat} {Z : State} {a0 : Array Value} {h : Heap} {Q : Option Value → Heap → List Loc → Prop} {C S : Nat} {En : State → Outcome → Prop} {pc : Nat} {Ls : Array Slot} {st : List Value}
theorem Go.of {T' : State} {g g' : JFrame} (k : ∀ t, Steps p.tables e below (T'.setTop g') t → Steps p.tables e below (T.setTop g) t) (r : Go p e below En T' g') : Go p e below En T g := by
  obtain ⟨t, o, h1, r⟩ := r
  exact ⟨t, o, k t h1, r⟩
theorem Con.of {y : MethodName} {bytes : ByteArray} {maxL : Nat} {ret : Option FieldType} {rm : Room} {as : List Value} {Ls0 : Array Slot} (hp : plainFor y = true) (ef : ∀ m, entryFrame m as.toArray maxL = mkF m 0 Ls0 [])
    (body : ∀ (p : Program) (e : Env) (s : State) (m : MethodId) (below : List Frame) (meth : Method) (c : Code) (T : State), Stand p l e rm s m as.toArray below meth c T [] 0 0 → p.tables.exec = Jvm.exec → Z.Warmed39 s.vm → c.code = bytes → c.maxLocals = maxL → s.vm.findClass y.cls = some m.cls → meth.name = y.name → meth.sig.returnType = ret → meth.locks = false → T.heap = h → Go p e below (EndN s Q rm.cells rm.slots) T (mkF m 0 Ls0 [])) :
    Con l Z y bytes maxL ret rm as h Q := by
  intro ws
  refine MetFree.of_bodySF hp hisR ?_
  intro p e s m args below meth c s₁ Bd hml0 hP hK
  obtain ⟨rfl, hZ, hh⟩ := hP
  have X0 : Stand p l e rm s m as.toArray below meth c s₁ [] 0 0 := Stand.of_body Bd
  have e0 : s₁.heap = h := by rw [← hh, Bd.state]; rfl
  obtain ⟨t, o, h1, r⟩ := body p e s m below meth c s₁ X0 Bd.exec hZ Bd.bytes hml0 (findClass_of_methodNamed Bd.named) (name_of_methodNamed Bd.named Bd.method).1 Bd.returns Bd.notSynchronized e0
  exact ⟨t, o, castTop (ef m) h1, r⟩
theorem iloadN (X : Stand p l e R s m args below meth c T locs cells slots) (hx : p.tables.exec = Jvm.exec) {k : Fin 4} {v : Int32} (hd : decode c.code pc = .ok (.iload_n k, 1)) (hl : Ls[k.val]? = some (.val (.int v))) (r : Go p e below En T (mkF m (pc + 1) Ls (.int v :: st))) : Go p e below En T (mkF m pc Ls st) :=
  Go.of (fun t k => XS.iloadN (g := mkF m pc Ls st) X.here hx rfl hd hl k) r
theorem lloadN (X : Stand p l e R s m args below meth c T locs cells slots) (hx : p.tables.exec = Jvm.exec) {k : Fin 4} {v : Int64} (hd : decode c.code pc = .ok (.lload_n k, 1)) (hl : Ls[k.val]? = some (.val (.long v))) (r : Go p e below En T (mkF m (pc + 1) Ls (.long v :: st))) : Go p e below En T (mkF m pc Ls st) :=
  Go.of (fun t k => XS.lloadN (g := mkF m pc Ls st) X.here hx rfl hd hl k) r
theorem aloadN (X : Stand p l e R s m args below meth c T locs cells slots) (hx : p.tables.exec = Jvm.exec) {k : Fin 4} {v : Value} (hd : decode c.code pc = .ok (.aload_n k, 1)) (hl : Ls[k.val]? = some (.val v)) (hv : v.isRef = true) (r : Go p e below En T (mkF m (pc + 1) Ls (v :: st))) : Go p e below En T (mkF m pc Ls st) :=
  Go.of (fun t k => XS.aloadN (g := mkF m pc Ls st) X.here hx rfl hd hl hv k) r
theorem istoreN (X : Stand p l e R s m args below meth c T locs cells slots) (hx : p.tables.exec = Jvm.exec) {k : Fin 4} {v : Int32} {Ls' : Array Slot} (hd : decode c.code pc = .ok (.istore_n k, 1)) (hl : storeLocals Ls k.val (.int v) = some Ls') (r : Go p e below En T (mkF m (pc + 1) Ls' st)) : Go p e below En T (mkF m pc Ls (.int v :: st)) :=
  Go.of (fun t k => XS.istoreN (g := mkF m pc Ls (.int v :: st)) X.here hx rfl hd rfl hl k) r
theorem lstoreN (X : Stand p l e R s m args below meth c T locs cells slots) (hx : p.tables.exec = Jvm.exec) {k : Fin 4} {v : Int64} {Ls' : Array Slot} (hd : decode c.code pc = .ok (.lstore_n k, 1)) (hl : storeLocals Ls k.val (.long v) = some Ls') (r : Go p e below En T (mkF m (pc + 1) Ls' st)) : Go p e below En T (mkF m pc Ls (.long v :: st)) :=
  Go.of (fun t k => XS.lstoreN (g := mkF m pc Ls (.long v :: st)) X.here hx rfl hd rfl hl k) r
theorem astoreN (X : Stand p l e R s m args below meth c T locs cells slots) (hx : p.tables.exec = Jvm.exec) {k : Fin 4} {v : Value} {Ls' : Array Slot} (hd : decode c.code pc = .ok (.astore_n k, 1)) (hv : v.isRef = true) (hl : storeLocals Ls k.val v = some Ls') (r : Go p e below En T (mkF m (pc + 1) Ls' st)) : Go p e below En T (mkF m pc Ls (v :: st)) :=
  Go.of (fun t k => XS.astoreN (g := mkF m pc Ls (v :: st)) X.here hx rfl hd rfl hv hl k) r
theorem iload (X : Stand p l e R s m args below meth c T locs cells slots) (hx : p.tables.exec = Jvm.exec) {k : Nat} {v : Int32} (hd : decode c.code pc = .ok (.iload k, 2)) (hl : Ls[k]? = some (.val (.int v))) (r : Go p e below En T (mkF m (pc + 2) Ls (.int v :: st))) : Go p e below En T (mkF m pc Ls st) :=
  Go.of (fun t k => XS.iload (g := mkF m pc Ls st) X.here hx rfl hd hl k) r
theorem lload (X : Stand p l e R s m args below meth c T locs cells slots) (hx : p.tables.exec = Jvm.exec) {k : Nat} {v : Int64} (hd : decode c.code pc = .ok (.lload k, 2)) (hl : Ls[k]? = some (.val (.long v))) (r : Go p e below En T (mkF m (pc + 2) Ls (.long v :: st))) : Go p e below En T (mkF m pc Ls st) :=
  Go.of (fun t k => XS.lload (g := mkF m pc Ls st) X.here hx rfl hd hl k) r
theorem aload (X : Stand p l e R s m args below meth c T locs cells slots) (hx : p.tables.exec = Jvm.exec) {k : Nat} {v : Value} (hd : decode c.code pc = .ok (.aload k, 2)) (hl : Ls[k]? = some (.val v)) (hv : v.isRef = true) (r : Go p e below En T (mkF m (pc + 2) Ls (v :: st))) : Go p e below En T (mkF m pc Ls st) :=
  Go.of (fun t k => XS.aload (g := mkF m pc Ls st) X.here hx rfl hd hl hv k) r
theorem istore (X : Stand p l e R s m args below meth c T locs cells slots) (hx : p.tables.exec = Jvm.exec) {k : Nat} {v : Int32} {Ls' : Array Slot} (hd : decode c.code pc = .ok (.istore k, 2)) (hl : storeLocals Ls k (.int v) = some Ls') (r : Go p e below En T (mkF m (pc + 2) Ls' st)) : Go p e below En T (mkF m pc Ls (.int v :: st)) :=
  Go.of (fun t k => XS.istore (g := mkF m pc Ls (.int v :: st)) X.here hx rfl hd rfl hl k) r
theorem lstore (X : Stand p l e R s m args below meth c T locs cells slots) (hx : p.tables.exec = Jvm.exec) {k : Nat} {v : Int64} {Ls' : Array Slot} (hd : decode c.code pc = .ok (.lstore k, 2)) (hl : storeLocals Ls k (.long v) = some Ls') (r : Go p e below En T (mkF m (pc + 2) Ls' st)) : Go p e below En T (mkF m pc Ls (.long v :: st)) :=
  Go.of (fun t k => XS.lstore (g := mkF m pc Ls (.long v :: st)) X.here hx rfl hd rfl hl k) r
theorem astore (X : Stand p l e R s m args below meth c T locs cells slots) (hx : p.tables.exec = Jvm.exec) {k : Nat} {v : Value} {Ls' : Array Slot} (hd : decode c.code pc = .ok (.astore k, 2)) (hv : v.isRef = true) (hl : storeLocals Ls k v = some Ls') (r : Go p e below En T (mkF m (pc + 2) Ls' st)) : Go p e below En T (mkF m pc Ls (v :: st)) :=
  Go.of (fun t k => XS.astore (g := mkF m pc Ls (v :: st)) X.here hx rfl hd rfl hv hl k) r
theorem iconst (X : Stand p l e R s m args below meth c T locs cells slots) (hx : p.tables.exec = Jvm.exec) {i : Int} {z : Int32} (hd : decode c.code pc = .ok (.iconst i, 1)) (hz : Int32.ofInt i = z) (r : Go p e below En T (mkF m (pc + 1) Ls (.int z :: st))) : Go p e below En T (mkF m pc Ls st) :=
  Go.of (fun t k => XS.iconst (g := mkF m pc Ls st) X.here hx rfl hd (by rw [hz]; exact k)) r
theorem bipush (X : Stand p l e R s m args below meth c T locs cells slots) (hx : p.tables.exec = Jvm.exec) {i : Int} {z : Int32} (hd : decode c.code pc = .ok (.bipush i, 2)) (hz : (Int8.ofInt i).toInt32 = z) (r : Go p e below En T (mkF m (pc + 2) Ls (.int z :: st))) : Go p e below En T (mkF m pc Ls st) :=
  Go.of (fun t k => XS.bipush (g := mkF m pc Ls st) X.here hx rfl hd (by rw [hz]; exact k)) r
theorem sipush (X : Stand p l e R s m args below meth c T locs cells slots) (hx : p.tables.exec = Jvm.exec) {i : Int} {z : Int32} (hd : decode c.code pc = .ok (.sipush i, 3)) (hz : (Int16.ofInt i).toInt32 = z) (r : Go p e below En T (mkF m (pc + 3) Ls (.int z :: st))) : Go p e below En T (mkF m pc Ls st) :=
  Go.of (fun t k => XS.sipush (g := mkF m pc Ls st) X.here hx rfl hd (by rw [hz]; exact k)) r
theorem lconst (X : Stand p l e R s m args below meth c T locs cells slots) (hx : p.tables.exec = Jvm.exec) {i : Fin 2} {v : Int64} (hd : decode c.code pc = .ok (.lconst i, 1)) (hv : Int64.ofNat i.val = v) (r : Go p e below En T (mkF m (pc + 1) Ls (.long v :: st))) : Go p e below En T (mkF m pc Ls st) :=
  Go.of (fun t k => XS.lconst (g := mkF m pc Ls st) X.here hx rfl hd (by rw [hv]; exact k)) r
theorem aconstNull (X : Stand p l e R s m args below meth c T locs cells slots) (hx : p.tables.exec = Jvm.exec)  (hd : decode c.code pc = .ok (.aconst_null, 1))  (r : Go p e below En T (mkF m (pc + 1) Ls (.null :: st))) : Go p e below En T (mkF m pc Ls st) :=
  Go.of (fun t k => XS.aconstNull (g := mkF m pc Ls st) X.here hx rfl hd k) r
theorem iadd (X : Stand p l e R s m args below meth c T locs cells slots) (hx : p.tables.exec = Jvm.exec) {x y z : Int32} (hd : decode c.code pc = .ok (.iadd, 1)) (hz : x + y = z) (r : Go p e below En T (mkF m (pc + 1) Ls (.int z :: st))) : Go p e below En T (mkF m pc Ls (.int y :: .int x :: st)) :=
  Go.of (fun t k => XS.iadd (g := mkF m pc Ls (.int y :: .int x :: st)) X.here hx rfl hd rfl (by rw [hz]; exact k)) r
theorem isub (X : Stand p l e R s m args below meth c T locs cells slots) (hx : p.tables.exec = Jvm.exec) {x y z : Int32} (hd : decode c.code pc = .ok (.isub, 1)) (hz : x - y = z) (r : Go p e below En T (mkF m (pc + 1) Ls (.int z :: st))) : Go p e below En T (mkF m pc Ls (.int y :: .int x :: st)) :=
  Go.of (fun t k => XS.isub (g := mkF m pc Ls (.int y :: .int x :: st)) X.here hx rfl hd rfl (by rw [hz]; exact k)) r
theorem imul (X : Stand p l e R s m args below meth c T locs cells slots) (hx : p.tables.exec = Jvm.exec) {x y z : Int32} (hd : decode c.code pc = .ok (.imul, 1)) (hz : x * y = z) (r : Go p e below En T (mkF m (pc + 1) Ls (.int z :: st))) : Go p e below En T (mkF m pc Ls (.int y :: .int x :: st)) :=
  Go.of (fun t k => XS.imul (g := mkF m pc Ls (.int y :: .int x :: st)) X.here hx rfl hd rfl (by rw [hz]; exact k)) r
theorem iand (X : Stand p l e R s m args below meth c T locs cells slots) (hx : p.tables.exec = Jvm.exec) {x y z : Int32} (hd : decode c.code pc = .ok (.iand, 1)) (hz : x &&& y = z) (r : Go p e below En T (mkF m (pc + 1) Ls (.int z :: st))) : Go p e below En T (mkF m pc Ls (.int y :: .int x :: st)) :=
  Go.of (fun t k => XS.iand (g := mkF m pc Ls (.int y :: .int x :: st)) X.here hx rfl hd rfl (by rw [hz]; exact k)) r
theorem ior (X : Stand p l e R s m args below meth c T locs cells slots) (hx : p.tables.exec = Jvm.exec) {x y z : Int32} (hd : decode c.code pc = .ok (.ior, 1)) (hz : x ||| y = z) (r : Go p e below En T (mkF m (pc + 1) Ls (.int z :: st))) : Go p e below En T (mkF m pc Ls (.int y :: .int x :: st)) :=
  Go.of (fun t k => XS.ior (g := mkF m pc Ls (.int y :: .int x :: st)) X.here hx rfl hd rfl (by rw [hz]; exact k)) r
theorem ixor (X : Stand p l e R s m args below meth c T locs cells slots) (hx : p.tables.exec = Jvm.exec) {x y z : Int32} (hd : decode c.code pc = .ok (.ixor, 1)) (hz : x ^^^ y = z) (r : Go p e below En T (mkF m (pc + 1) Ls (.int z :: st))) : Go p e below En T (mkF m pc Ls (.int y :: .int x :: st)) :=
  Go.of (fun t k => XS.ixor (g := mkF m pc Ls (.int y :: .int x :: st)) X.here hx rfl hd rfl (by rw [hz]; exact k)) r
theorem ladd (X : Stand p l e R s m args below meth c T locs cells slots) (hx : p.tables.exec = Jvm.exec) {x y z : Int64} (hd : decode c.code pc = .ok (.ladd, 1)) (hz : x + y = z) (r : Go p e below En T (mkF m (pc + 1) Ls (.long z :: st))) : Go p e below En T (mkF m pc Ls (.long y :: .long x :: st)) :=
  Go.of (fun t k => XS.ladd (g := mkF m pc Ls (.long y :: .long x :: st)) X.here hx rfl hd rfl (by rw [hz]; exact k)) r
theorem lsub (X : Stand p l e R s m args below meth c T locs cells slots) (hx : p.tables.exec = Jvm.exec) {x y z : Int64} (hd : decode c.code pc = .ok (.lsub, 1)) (hz : x - y = z) (r : Go p e below En T (mkF m (pc + 1) Ls (.long z :: st))) : Go p e below En T (mkF m pc Ls (.long y :: .long x :: st)) :=
  Go.of (fun t k => XS.lsub (g := mkF m pc Ls (.long y :: .long x :: st)) X.here hx rfl hd rfl (by rw [hz]; exact k)) r
theorem lmul (X : Stand p l e R s m args below meth c T locs cells slots) (hx : p.tables.exec = Jvm.exec) {x y z : Int64} (hd : decode c.code pc = .ok (.lmul, 1)) (hz : x * y = z) (r : Go p e below En T (mkF m (pc + 1) Ls (.long z :: st))) : Go p e below En T (mkF m pc Ls (.long y :: .long x :: st)) :=
  Go.of (fun t k => XS.lmul (g := mkF m pc Ls (.long y :: .long x :: st)) X.here hx rfl hd rfl (by rw [hz]; exact k)) r
theorem land (X : Stand p l e R s m args below meth c T locs cells slots) (hx : p.tables.exec = Jvm.exec) {x y z : Int64} (hd : decode c.code pc = .ok (.land, 1)) (hz : x &&& y = z) (r : Go p e below En T (mkF m (pc + 1) Ls (.long z :: st))) : Go p e below En T (mkF m pc Ls (.long y :: .long x :: st)) :=
  Go.of (fun t k => XS.land (g := mkF m pc Ls (.long y :: .long x :: st)) X.here hx rfl hd rfl (by rw [hz]; exact k)) r
theorem lor (X : Stand p l e R s m args below meth c T locs cells slots) (hx : p.tables.exec = Jvm.exec) {x y z : Int64} (hd : decode c.code pc = .ok (.lor, 1)) (hz : x ||| y = z) (r : Go p e below En T (mkF m (pc + 1) Ls (.long z :: st))) : Go p e below En T (mkF m pc Ls (.long y :: .long x :: st)) :=
  Go.of (fun t k => XS.lor (g := mkF m pc Ls (.long y :: .long x :: st)) X.here hx rfl hd rfl (by rw [hz]; exact k)) r
theorem lxor (X : Stand p l e R s m args below meth c T locs cells slots) (hx : p.tables.exec = Jvm.exec) {x y z : Int64} (hd : decode c.code pc = .ok (.lxor, 1)) (hz : x ^^^ y = z) (r : Go p e below En T (mkF m (pc + 1) Ls (.long z :: st))) : Go p e below En T (mkF m pc Ls (.long y :: .long x :: st)) :=
  Go.of (fun t k => XS.lxor (g := mkF m pc Ls (.long y :: .long x :: st)) X.here hx rfl hd rfl (by rw [hz]; exact k)) r
theorem iushr (X : Stand p l e R s m args below meth c T locs cells slots) (hx : p.tables.exec = Jvm.exec) {x y z : Int32} (hd : decode c.code pc = .ok (.iushr, 1)) (hz : ((x.toUInt32 >>> (y &&& 31).toUInt32).toInt32) = z) (r : Go p e below En T (mkF m (pc + 1) Ls (.int z :: st))) : Go p e below En T (mkF m pc Ls (.int y :: .int x :: st)) :=
  Go.of (fun t k => XS.iushr (g := mkF m pc Ls (.int y :: .int x :: st)) X.here hx rfl hd rfl (by rw [hz]; exact k)) r
theorem ishr (X : Stand p l e R s m args below meth c T locs cells slots) (hx : p.tables.exec = Jvm.exec) {x y z : Int32} (hd : decode c.code pc = .ok (.ishr, 1)) (hz : (x >>> (y &&& 31)) = z) (r : Go p e below En T (mkF m (pc + 1) Ls (.int z :: st))) : Go p e below En T (mkF m pc Ls (.int y :: .int x :: st)) :=
  Go.of (fun t k => XS.ishr (g := mkF m pc Ls (.int y :: .int x :: st)) X.here hx rfl hd rfl (by rw [hz]; exact k)) r
theorem ishl (X : Stand p l e R s m args below meth c T locs cells slots) (hx : p.tables.exec = Jvm.exec) {x y z : Int32} (hd : decode c.code pc = .ok (.ishl, 1)) (hz : (x <<< (y &&& 31)) = z) (r : Go p e below En T (mkF m (pc + 1) Ls (.int z :: st))) : Go p e below En T (mkF m pc Ls (.int y :: .int x :: st)) :=
  Go.of (fun t k => XS.ishl (g := mkF m pc Ls (.int y :: .int x :: st)) X.here hx rfl hd rfl (by rw [hz]; exact k)) r
theorem irem (X : Stand p l e R s m args below meth c T locs cells slots) (hx : p.tables.exec = Jvm.exec) {x y z : Int32} (hd : decode c.code pc = .ok (.irem, 1)) (hy : y ≠ 0) (hz : x % y = z) (r : Go p e below En T (mkF m (pc + 1) Ls (.int z :: st))) : Go p e below En T (mkF m pc Ls (.int y :: .int x :: st)) :=
  Go.of (fun t k => iremM (g := mkF m pc Ls (.int y :: .int x :: st)) X hx rfl hd rfl hy (by rw [hz]; exact k)) r
theorem i2l (X : Stand p l e R s m args below meth c T locs cells slots) (hx : p.tables.exec = Jvm.exec) {x : Int32} {z : Int64} (hd : decode c.code pc = .ok (.i2l, 1)) (hz : x.toInt64 = z) (r : Go p e below En T (mkF m (pc + 1) Ls (.long z :: st))) : Go p e below En T (mkF m pc Ls (.int x :: st)) :=
  Go.of (fun t k => XS.i2l (g := mkF m pc Ls (.int x :: st)) X.here hx rfl hd rfl (by rw [hz]; exact k)) r
theorem l2i (X : Stand p l e R s m args below meth c T locs cells slots) (hx : p.tables.exec = Jvm.exec) {x : Int64} {z : Int32} (hd : decode c.code pc = .ok (.l2i, 1)) (hz : x.toInt32 = z) (r : Go p e below En T (mkF m (pc + 1) Ls (.int z :: st))) : Go p e below En T (mkF m pc Ls (.long x :: st)) :=
  Go.of (fun t k => XS.l2i (g := mkF m pc Ls (.long x :: st)) X.here hx rfl hd rfl (by rw [hz]; exact k)) r
theorem i2c (X : Stand p l e R s m args below meth c T locs cells slots) (hx : p.tables.exec = Jvm.exec) {x : Int32} {z : Int32} (hd : decode c.code pc = .ok (.i2c, 1)) (hz : (x.toUInt32.toUInt16.toUInt32.toInt32) = z) (r : Go p e below En T (mkF m (pc + 1) Ls (.int z :: st))) : Go p e below En T (mkF m pc Ls (.int x :: st)) :=
  Go.of (fun t k => XS.i2c (g := mkF m pc Ls (.int x :: st)) X.here hx rfl hd rfl (by rw [hz]; exact k)) r
theorem i2b (X : Stand p l e R s m args below meth c T locs cells slots) (hx : p.tables.exec = Jvm.exec) {x : Int32} {z : Int32} (hd : decode c.code pc = .ok (.i2b, 1)) (hz : (x.toInt8.toInt32) = z) (r : Go p e below En T (mkF m (pc + 1) Ls (.int z :: st))) : Go p e below En T (mkF m pc Ls (.int x :: st)) :=
  Go.of (fun t k => XS.i2b (g := mkF m pc Ls (.int x :: st)) X.here hx rfl hd rfl (by rw [hz]; exact k)) r
theorem dup (X : Stand p l e R s m args below meth c T locs cells slots) (hx : p.tables.exec = Jvm.exec) {v : Value} (hd : decode c.code pc = .ok (.dup, 1)) (hc : v.category = 1) (r : Go p e below En T (mkF m (pc + 1) Ls (v :: v :: st))) : Go p e below En T (mkF m pc Ls (v :: st)) :=
  Go.of (fun t k => XS.dup (g := mkF m pc Ls (v :: st)) X.here hx rfl hd rfl hc k) r
theorem pop (X : Stand p l e R s m args below meth c T locs cells slots) (hx : p.tables.exec = Jvm.exec) {v : Value} (hd : decode c.code pc = .ok (.pop, 1)) (hc : v.category = 1) (r : Go p e below En T (mkF m (pc + 1) Ls st)) : Go p e below En T (mkF m pc Ls (v :: st)) :=
  Go.of (fun t k => XS.pop (g := mkF m pc Ls (v :: st)) X.here hx rfl hd rfl hc k) r
theorem iinc (X : Stand p l e R s m args below meth c T locs cells slots) (hx : p.tables.exec = Jvm.exec) {k : Nat} {i : Int} {v z : Int32} {Ls' : Array Slot} (hd : decode c.code pc = .ok (.iinc k i, 3)) (hl : Ls[k]? = some (.val (.int v))) (hz : v + Int32.ofInt i = z) (hl' : storeLocals Ls k (.int z) = some Ls') (r : Go p e below En T (mkF m (pc + 3) Ls' st)) : Go p e below En T (mkF m pc Ls st) :=
  Go.of (fun t k => XS.iinc (g := mkF m pc Ls st) X.here hx rfl hd hl (by rw [hz]; exact hl') k) r
theorem goto (X : Stand p l e R s m args below meth c T locs cells slots) (hx : p.tables.exec = Jvm.exec) {o : Int} {pc' : Nat} (hd : decode c.code pc = .ok (.goto o, 3)) (ho : 0 ≤ (pc : Int) + o) (hp : ((pc : Int) + o).toNat = pc') (r : Go p e below En T (mkF m pc' Ls st)) : Go p e below En T (mkF m pc Ls st) :=
  Go.of (fun t k => XS.goto (g := mkF m pc Ls st) X.here hx rfl rfl hd ho hp k) r
theorem ic_eq (X : Stand p l e R s m args below meth c T locs cells slots) (hx : p.tables.exec = Jvm.exec) {o : Int} {pc' : Nat} {x y : Int32} (hd : decode c.code pc = .ok (.if_icmp .eq o, 3)) (ho : 0 ≤ (pc : Int) + o) (hp : ((pc : Int) + o).toNat = pc') (yes : x = y → Go p e below En T (mkF m pc' Ls st)) (no : ¬ (x = y) → Go p e below En T (mkF m (pc + 3) Ls st)) : Go p e below En T (mkF m pc Ls (.int y :: .int x :: st)) := by
  by_cases q : x = y
  · exact Go.of (fun t k => XS.icmpYes (g := mkF m pc Ls (.int y :: .int x :: st)) X.here hx rfl rfl hd rfl (teq q).1 ho hp k) (yes q)
  · exact Go.of (fun t k => XS.icmpNo (g := mkF m pc Ls (.int y :: .int x :: st)) X.here hx rfl hd rfl (feq q).1 k) (no q)
theorem if_eq (X : Stand p l e R s m args below meth c T locs cells slots) (hx : p.tables.exec = Jvm.exec) {o : Int} {pc' : Nat} {x : Int32} (hd : decode c.code pc = .ok (.ifCond .eq o, 3)) (ho : 0 ≤ (pc : Int) + o) (hp : ((pc : Int) + o).toNat = pc') (yes : x = 0 → Go p e below En T (mkF m pc' Ls st)) (no : ¬ (x = 0) → Go p e below En T (mkF m (pc + 3) Ls st)) : Go p e below En T (mkF m pc Ls (.int x :: st)) := by
  by_cases q : x = 0
  · exact Go.of (fun t k => XS.ifYes (g := mkF m pc Ls (.int x :: st)) X.here hx rfl rfl hd rfl ((if0 _ _).trans (teq q).1) ho hp k) (yes q)
  · exact Go.of (fun t k => XS.ifNo (g := mkF m pc Ls (.int x :: st)) X.here hx rfl hd rfl ((if0 _ _).trans (feq q).1) k) (no q)
theorem ic_ne (X : Stand p l e R s m args below meth c T locs cells slots) (hx : p.tables.exec = Jvm.exec) {o : Int} {pc' : Nat} {x y : Int32} (hd : decode c.code pc = .ok (.if_icmp .ne o, 3)) (ho : 0 ≤ (pc : Int) + o) (hp : ((pc : Int) + o).toNat = pc') (yes : ¬ (x = y) → Go p e below En T (mkF m pc' Ls st)) (no : x = y → Go p e below En T (mkF m (pc + 3) Ls st)) : Go p e below En T (mkF m pc Ls (.int y :: .int x :: st)) := by
  by_cases q : x = y
  · exact Go.of (fun t k => XS.icmpNo (g := mkF m pc Ls (.int y :: .int x :: st)) X.here hx rfl hd rfl (teq q).2 k) (no q)
  · exact Go.of (fun t k => XS.icmpYes (g := mkF m pc Ls (.int y :: .int x :: st)) X.here hx rfl rfl hd rfl (feq q).2 ho hp k) (yes q)
theorem if_ne (X : Stand p l e R s m args below meth c T locs cells slots) (hx : p.tables.exec = Jvm.exec) {o : Int} {pc' : Nat} {x : Int32} (hd : decode c.code pc = .ok (.ifCond .ne o, 3)) (ho : 0 ≤ (pc : Int) + o) (hp : ((pc : Int) + o).toNat = pc') (yes : ¬ (x = 0) → Go p e below En T (mkF m pc' Ls st)) (no : x = 0 → Go p e below En T (mkF m (pc + 3) Ls st)) : Go p e below En T (mkF m pc Ls (.int x :: st)) := by
  by_cases q : x = 0
  · exact Go.of (fun t k => XS.ifNo (g := mkF m pc Ls (.int x :: st)) X.here hx rfl hd rfl ((if0 _ _).trans (teq q).2) k) (no q)
  · exact Go.of (fun t k => XS.ifYes (g := mkF m pc Ls (.int x :: st)) X.here hx rfl rfl hd rfl ((if0 _ _).trans (feq q).2) ho hp k) (yes q)
theorem ic_lt (X : Stand p l e R s m args below meth c T locs cells slots) (hx : p.tables.exec = Jvm.exec) {o : Int} {pc' : Nat} {x y : Int32} (hd : decode c.code pc = .ok (.if_icmp .lt o, 3)) (ho : 0 ≤ (pc : Int) + o) (hp : ((pc : Int) + o).toNat = pc') (yes : x < y → Go p e below En T (mkF m pc' Ls st)) (no : ¬ (x < y) → Go p e below En T (mkF m (pc + 3) Ls st)) : Go p e below En T (mkF m pc Ls (.int y :: .int x :: st)) := by
  by_cases q : x < y
  · exact Go.of (fun t k => XS.icmpYes (g := mkF m pc Ls (.int y :: .int x :: st)) X.here hx rfl rfl hd rfl (tlt q).1 ho hp k) (yes q)
  · exact Go.of (fun t k => XS.icmpNo (g := mkF m pc Ls (.int y :: .int x :: st)) X.here hx rfl hd rfl (flt q).1 k) (no q)
theorem if_lt (X : Stand p l e R s m args below meth c T locs cells slots) (hx : p.tables.exec = Jvm.exec) {o : Int} {pc' : Nat} {x : Int32} (hd : decode c.code pc = .ok (.ifCond .lt o, 3)) (ho : 0 ≤ (pc : Int) + o) (hp : ((pc : Int) + o).toNat = pc') (yes : x < 0 → Go p e below En T (mkF m pc' Ls st)) (no : ¬ (x < 0) → Go p e below En T (mkF m (pc + 3) Ls st)) : Go p e below En T (mkF m pc Ls (.int x :: st)) := by
  by_cases q : x < 0
  · exact Go.of (fun t k => XS.ifYes (g := mkF m pc Ls (.int x :: st)) X.here hx rfl rfl hd rfl ((if0 _ _).trans (tlt q).1) ho hp k) (yes q)
  · exact Go.of (fun t k => XS.ifNo (g := mkF m pc Ls (.int x :: st)) X.here hx rfl hd rfl ((if0 _ _).trans (flt q).1) k) (no q)
theorem ic_ge (X : Stand p l e R s m args below meth c T locs cells slots) (hx : p.tables.exec = Jvm.exec) {o : Int} {pc' : Nat} {x y : Int32} (hd : decode c.code pc = .ok (.if_icmp .ge o, 3)) (ho : 0 ≤ (pc : Int) + o) (hp : ((pc : Int) + o).toNat = pc') (yes : ¬ (x < y) → Go p e below En T (mkF m pc' Ls st)) (no : x < y → Go p e below En T (mkF m (pc + 3) Ls st)) : Go p e below En T (mkF m pc Ls (.int y :: .int x :: st)) := by
  by_cases q : x < y
  · exact Go.of (fun t k => XS.icmpNo (g := mkF m pc Ls (.int y :: .int x :: st)) X.here hx rfl hd rfl (tlt q).2.1 k) (no q)
  · exact Go.of (fun t k => XS.icmpYes (g := mkF m pc Ls (.int y :: .int x :: st)) X.here hx rfl rfl hd rfl (flt q).2.1 ho hp k) (yes q)
theorem if_ge (X : Stand p l e R s m args below meth c T locs cells slots) (hx : p.tables.exec = Jvm.exec) {o : Int} {pc' : Nat} {x : Int32} (hd : decode c.code pc = .ok (.ifCond .ge o, 3)) (ho : 0 ≤ (pc : Int) + o) (hp : ((pc : Int) + o).toNat = pc') (yes : ¬ (x < 0) → Go p e below En T (mkF m pc' Ls st)) (no : x < 0 → Go p e below En T (mkF m (pc + 3) Ls st)) : Go p e below En T (mkF m pc Ls (.int x :: st)) := by
  by_cases q : x < 0
  · exact Go.of (fun t k => XS.ifNo (g := mkF m pc Ls (.int x :: st)) X.here hx rfl hd rfl ((if0 _ _).trans (tlt q).2.1) k) (no q)
  · exact Go.of (fun t k => XS.ifYes (g := mkF m pc Ls (.int x :: st)) X.here hx rfl rfl hd rfl ((if0 _ _).trans (flt q).2.1) ho hp k) (yes q)
theorem ic_gt (X : Stand p l e R s m args below meth c T locs cells slots) (hx : p.tables.exec = Jvm.exec) {o : Int} {pc' : Nat} {x y : Int32} (hd : decode c.code pc = .ok (.if_icmp .gt o, 3)) (ho : 0 ≤ (pc : Int) + o) (hp : ((pc : Int) + o).toNat = pc') (yes : y < x → Go p e below En T (mkF m pc' Ls st)) (no : ¬ (y < x) → Go p e below En T (mkF m (pc + 3) Ls st)) : Go p e below En T (mkF m pc Ls (.int y :: .int x :: st)) := by
  by_cases q : y < x
  · exact Go.of (fun t k => XS.icmpYes (g := mkF m pc Ls (.int y :: .int x :: st)) X.here hx rfl rfl hd rfl (tlt q).2.2.1 ho hp k) (yes q)
  · exact Go.of (fun t k => XS.icmpNo (g := mkF m pc Ls (.int y :: .int x :: st)) X.here hx rfl hd rfl (flt q).2.2.1 k) (no q)
theorem if_gt (X : Stand p l e R s m args below meth c T locs cells slots) (hx : p.tables.exec = Jvm.exec) {o : Int} {pc' : Nat} {x : Int32} (hd : decode c.code pc = .ok (.ifCond .gt o, 3)) (ho : 0 ≤ (pc : Int) + o) (hp : ((pc : Int) + o).toNat = pc') (yes : 0 < x → Go p e below En T (mkF m pc' Ls st)) (no : ¬ (0 < x) → Go p e below En T (mkF m (pc + 3) Ls st)) : Go p e below En T (mkF m pc Ls (.int x :: st)) := by
  by_cases q : 0 < x
  · exact Go.of (fun t k => XS.ifYes (g := mkF m pc Ls (.int x :: st)) X.here hx rfl rfl hd rfl ((if0 _ _).trans (tlt q).2.2.1) ho hp k) (yes q)
  · exact Go.of (fun t k => XS.ifNo (g := mkF m pc Ls (.int x :: st)) X.here hx rfl hd rfl ((if0 _ _).trans (flt q).2.2.1) k) (no q)
theorem ic_le (X : Stand p l e R s m args below meth c T locs cells slots) (hx : p.tables.exec = Jvm.exec) {o : Int} {pc' : Nat} {x y : Int32} (hd : decode c.code pc = .ok (.if_icmp .le o, 3)) (ho : 0 ≤ (pc : Int) + o) (hp : ((pc : Int) + o).toNat = pc') (yes : ¬ (y < x) → Go p e below En T (mkF m pc' Ls st)) (no : y < x → Go p e below En T (mkF m (pc + 3) Ls st)) : Go p e below En T (mkF m pc Ls (.int y :: .int x :: st)) := by
  by_cases q : y < x
  · exact Go.of (fun t k => XS.icmpNo (g := mkF m pc Ls (.int y :: .int x :: st)) X.here hx rfl hd rfl (tlt q).2.2.2 k) (no q)
  · exact Go.of (fun t k => XS.icmpYes (g := mkF m pc Ls (.int y :: .int x :: st)) X.here hx rfl rfl hd rfl (flt q).2.2.2 ho hp k) (yes q)
theorem if_le (X : Stand p l e R s m args below meth c T locs cells slots) (hx : p.tables.exec = Jvm.exec) {o : Int} {pc' : Nat} {x : Int32} (hd : decode c.code pc = .ok (.ifCond .le o, 3)) (ho : 0 ≤ (pc : Int) + o) (hp : ((pc : Int) + o).toNat = pc') (yes : ¬ (0 < x) → Go p e below En T (mkF m pc' Ls st)) (no : 0 < x → Go p e below En T (mkF m (pc + 3) Ls st)) : Go p e below En T (mkF m pc Ls (.int x :: st)) := by
  by_cases q : 0 < x
  · exact Go.of (fun t k => XS.ifNo (g := mkF m pc Ls (.int x :: st)) X.here hx rfl hd rfl ((if0 _ _).trans (tlt q).2.2.2) k) (no q)
  · exact Go.of (fun t k => XS.ifYes (g := mkF m pc Ls (.int x :: st)) X.here hx rfl rfl hd rfl ((if0 _ _).trans (flt q).2.2.2) ho hp k) (yes q)
theorem own_lc_eq (x y : Int64) : (lcmpW x y = 0) = (x = y) := by rw [lcW]; exact propext (Jvm.RoadKit.lc_eq x y)
theorem own_lc_lt (x y : Int64) : (lcmpW x y < 0) = (x < y) := by rw [lcW]; exact propext (Jvm.RoadKit.lc_lt x y)
theorem own_lc_gt (x y : Int64) : (0 < lcmpW x y) = (y < x) := by rw [lcW]; exact propext (Jvm.RoadKit.lc_gt x y)
theorem lcmp (X : Stand p l e R s m args below meth c T locs cells slots) (hx : p.tables.exec = Jvm.exec) {x y : Int64} (hd : decode c.code pc = .ok (.lcmp, 1))  (r : Go p e below En T (mkF m (pc + 1) Ls (.int (lcmpW x y) :: st))) : Go p e below En T (mkF m pc Ls (.long y :: .long x :: st)) :=
  Go.of (fun t k => XS.lcmp (g := mkF m pc Ls (.long y :: .long x :: st)) X.here hx rfl hd rfl k) r
theorem lc_eq_ (X : Stand p l e R s m args below meth c T locs cells slots) (hx : p.tables.exec = Jvm.exec) {o : Int} {pc' : Nat} {x y : Int64} (hd : decode c.code pc = .ok (.lcmp, 1)) (hd' : decode c.code (pc + 1) = .ok (.ifCond .eq o, 3)) (ho : 0 ≤ ((pc + 1 : Nat) : Int) + o) (hp : (((pc + 1 : Nat) : Int) + o).toNat = pc') (yes : x = y → Go p e below En T (mkF m pc' Ls st)) (no : ¬ (x = y) → Go p e below En T (mkF m (pc + 4) Ls st)) : Go p e below En T (mkF m pc Ls (.long y :: .long x :: st)) :=
  lcmp X hx hd (if_eq X hx hd' ho hp (fun q => yes (by rw [own_lc_eq] at q; exact q)) (fun q => no (by rw [own_lc_eq] at q; exact q)))
theorem lc_ne_ (X : Stand p l e R s m args below meth c T locs cells slots) (hx : p.tables.exec = Jvm.exec) {o : Int} {pc' : Nat} {x y : Int64} (hd : decode c.code pc = .ok (.lcmp, 1)) (hd' : decode c.code (pc + 1) = .ok (.ifCond .ne o, 3)) (ho : 0 ≤ ((pc + 1 : Nat) : Int) + o) (hp : (((pc + 1 : Nat) : Int) + o).toNat = pc') (yes : ¬ (x = y) → Go p e below En T (mkF m pc' Ls st)) (no : x = y → Go p e below En T (mkF m (pc + 4) Ls st)) : Go p e below En T (mkF m pc Ls (.long y :: .long x :: st)) :=
  lcmp X hx hd (if_ne X hx hd' ho hp (fun q => yes (by rw [own_lc_eq] at q; exact q)) (fun q => no (by rw [own_lc_eq] at q; exact q)))
theorem lc_lt_ (X : Stand p l e R s m args below meth c T locs cells slots) (hx : p.tables.exec = Jvm.exec) {o : Int} {pc' : Nat} {x y : Int64} (hd : decode c.code pc = .ok (.lcmp, 1)) (hd' : decode c.code (pc + 1) = .ok (.ifCond .lt o, 3)) (ho : 0 ≤ ((pc + 1 : Nat) : Int) + o) (hp : (((pc + 1 : Nat) : Int) + o).toNat = pc') (yes : x < y → Go p e below En T (mkF m pc' Ls st)) (no : ¬ (x < y) → Go p e below En T (mkF m (pc + 4) Ls st)) : Go p e below En T (mkF m pc Ls (.long y :: .long x :: st)) :=
  lcmp X hx hd (if_lt X hx hd' ho hp (fun q => yes (by rw [own_lc_lt] at q; exact q)) (fun q => no (by rw [own_lc_lt] at q; exact q)))
theorem lc_ge_ (X : Stand p l e R s m args below meth c T locs cells slots) (hx : p.tables.exec = Jvm.exec) {o : Int} {pc' : Nat} {x y : Int64} (hd : decode c.code pc = .ok (.lcmp, 1)) (hd' : decode c.code (pc + 1) = .ok (.ifCond .ge o, 3)) (ho : 0 ≤ ((pc + 1 : Nat) : Int) + o) (hp : (((pc + 1 : Nat) : Int) + o).toNat = pc') (yes : ¬ (x < y) → Go p e below En T (mkF m pc' Ls st)) (no : x < y → Go p e below En T (mkF m (pc + 4) Ls st)) : Go p e below En T (mkF m pc Ls (.long y :: .long x :: st)) :=
  lcmp X hx hd (if_ge X hx hd' ho hp (fun q => yes (by rw [own_lc_lt] at q; exact q)) (fun q => no (by rw [own_lc_lt] at q; exact q)))
theorem lc_gt_ (X : Stand p l e R s m args below meth c T locs cells slots) (hx : p.tables.exec = Jvm.exec) {o : Int} {pc' : Nat} {x y : Int64} (hd : decode c.code pc = .ok (.lcmp, 1)) (hd' : decode c.code (pc + 1) = .ok (.ifCond .gt o, 3)) (ho : 0 ≤ ((pc + 1 : Nat) : Int) + o) (hp : (((pc + 1 : Nat) : Int) + o).toNat = pc') (yes : y < x → Go p e below En T (mkF m pc' Ls st)) (no : ¬ (y < x) → Go p e below En T (mkF m (pc + 4) Ls st)) : Go p e below En T (mkF m pc Ls (.long y :: .long x :: st)) :=
  lcmp X hx hd (if_gt X hx hd' ho hp (fun q => yes (by rw [own_lc_gt] at q; exact q)) (fun q => no (by rw [own_lc_gt] at q; exact q)))
theorem lc_le_ (X : Stand p l e R s m args below meth c T locs cells slots) (hx : p.tables.exec = Jvm.exec) {o : Int} {pc' : Nat} {x y : Int64} (hd : decode c.code pc = .ok (.lcmp, 1)) (hd' : decode c.code (pc + 1) = .ok (.ifCond .le o, 3)) (ho : 0 ≤ ((pc + 1 : Nat) : Int) + o) (hp : (((pc + 1 : Nat) : Int) + o).toNat = pc') (yes : ¬ (y < x) → Go p e below En T (mkF m pc' Ls st)) (no : y < x → Go p e below En T (mkF m (pc + 4) Ls st)) : Go p e below En T (mkF m pc Ls (.long y :: .long x :: st)) :=
  lcmp X hx hd (if_le X hx hd' ho hp (fun q => yes (by rw [own_lc_gt] at q; exact q)) (fun q => no (by rw [own_lc_gt] at q; exact q)))
theorem ac_eq (X : Stand p l e R s m args below meth c T locs cells slots) (hx : p.tables.exec = Jvm.exec) {o : Int} {pc' : Nat} {x y : Value} (hx1 : x.isRef = true) (hy1 : y.isRef = true) (hd : decode c.code pc = .ok (.if_acmp .eq o, 3)) (ho : 0 ≤ (pc : Int) + o) (hp : ((pc : Int) + o).toNat = pc') (yes : x = y → Go p e below En T (mkF m pc' Ls st)) (no : ¬ (x = y) → Go p e below En T (mkF m (pc + 3) Ls st)) : Go p e below En T (mkF m pc Ls (y :: x :: st)) := by
  by_cases q : x = y
  · exact Go.of (fun t k => Jvm.RoadKit.acmp (g := mkF m pc Ls (y :: x :: st)) X hx rfl hx1 hy1 (pc0 := pc) (pc' := pc') (same := true) rfl hd rfl (decide_eq_true q) ho (hp.symm) k) (yes q)
  · exact Go.of (fun t k => Jvm.RoadKit.acmp (g := mkF m pc Ls (y :: x :: st)) X hx rfl hx1 hy1 (pc0 := pc) (pc' := pc + 3) (same := false) rfl hd rfl (decide_eq_false q) ho (rfl) k) (no q)
theorem ac_ne (X : Stand p l e R s m args below meth c T locs cells slots) (hx : p.tables.exec = Jvm.exec) {o : Int} {pc' : Nat} {x y : Value} (hx1 : x.isRef = true) (hy1 : y.isRef = true) (hd : decode c.code pc = .ok (.if_acmp .ne o, 3)) (ho : 0 ≤ (pc : Int) + o) (hp : ((pc : Int) + o).toNat = pc') (yes : ¬ (x = y) → Go p e below En T (mkF m pc' Ls st)) (no : x = y → Go p e below En T (mkF m (pc + 3) Ls st)) : Go p e below En T (mkF m pc Ls (y :: x :: st)) := by
  by_cases q : x = y
  · exact Go.of (fun t k => Jvm.RoadKit.acmp (g := mkF m pc Ls (y :: x :: st)) X hx rfl hx1 hy1 (pc0 := pc) (pc' := pc + 3) (same := true) rfl hd rfl (decide_eq_true q) ho (rfl) k) (no q)
  · exact Go.of (fun t k => Jvm.RoadKit.acmp (g := mkF m pc Ls (y :: x :: st)) X hx rfl hx1 hy1 (pc0 := pc) (pc' := pc') (same := false) rfl hd rfl (decide_eq_false q) ho (hp.symm) k) (yes q)
theorem ifnull_y (X : Stand p l e R s m args below meth c T locs cells slots) (hx : p.tables.exec = Jvm.exec) {o : Int} {pc' : Nat} (hd : decode c.code pc = .ok (.ifnull o, 3)) (ho : 0 ≤ (pc : Int) + o) (hp : ((pc : Int) + o).toNat = pc') (r : Go p e below En T (mkF m pc' Ls st)) : Go p e below En T (mkF m pc Ls (.null :: st)) :=
  Go.of (fun t k => XS.ifnullYes (g := mkF m pc Ls (.null :: st)) X.here hx rfl rfl hd rfl ho hp k) r
theorem ifnull_n (X : Stand p l e R s m args below meth c T locs cells slots) (hx : p.tables.exec = Jvm.exec) {o : Int} {b : Addr} (hd : decode c.code pc = .ok (.ifnull o, 3))  (r : Go p e below En T (mkF m (pc + 3) Ls st)) : Go p e below En T (mkF m pc Ls (.ref b :: st)) :=
  Go.of (fun t k => XS.ifnullNo (g := mkF m pc Ls (.ref b :: st)) X.here hx rfl hd rfl k) r
theorem ifnonnull_y (X : Stand p l e R s m args below meth c T locs cells slots) (hx : p.tables.exec = Jvm.exec) {o : Int} {pc' : Nat} {b : Addr} (hd : decode c.code pc = .ok (.ifnonnull o, 3)) (ho : 0 ≤ (pc : Int) + o) (hp : ((pc : Int) + o).toNat = pc') (r : Go p e below En T (mkF m pc' Ls st)) : Go p e below En T (mkF m pc Ls (.ref b :: st)) :=
  Go.of (fun t k => XS.ifnonnullYes (g := mkF m pc Ls (.ref b :: st)) X.here hx rfl rfl hd rfl ho hp k) r
theorem ifnonnull_n (X : Stand p l e R s m args below meth c T locs cells slots) (hx : p.tables.exec = Jvm.exec) {o : Int} (hd : decode c.code pc = .ok (.ifnonnull o, 3))  (r : Go p e below En T (mkF m (pc + 3) Ls st)) : Go p e below En T (mkF m pc Ls (.null :: st)) :=
  Go.of (fun t k => XS.ifnonnullNo (g := mkF m pc Ls (.null :: st)) X.here hx rfl hd rfl k) r
theorem ldcInt (X : Stand p l e R s m args below meth c T locs cells slots) (hx : p.tables.exec = Jvm.exec) (hZ : Z.Warmed39 s.vm) {own : String} {index : Nat} (hown : s.vm.findClass own = some m.cls) {v : Int32} (w : (Cond.constant own index v).before a0 Z = true) (hd : decode c.code pc = .ok (.ldc index, 2)) (r : Go p e below En T (mkF m (pc + 2) Ls (.int v :: st))) : Go p e below En T (mkF m pc Ls st) :=
  Go.of (fun t k => X.ldcInt hx hown (mvT hZ w) (g := mkF m pc Ls st) rfl hd _ k) r
theorem ldc2Long (X : Stand p l e R s m args below meth c T locs cells slots) (hx : p.tables.exec = Jvm.exec) (hZ : Z.Warmed39 s.vm) {own : String} {index : Nat} (hown : s.vm.findClass own = some m.cls) {v : Int64} (w : (Cond.constantLong own index v).before a0 Z = true) (hd : decode c.code pc = .ok (.ldc2_w index, 3)) (r : Go p e below En T (mkF m (pc + 3) Ls (.long v :: st))) : Go p e below En T (mkF m pc Ls st) :=
  Go.of (fun t k => X.ldc2Long hx hown (mvT hZ w) (g := mkF m pc Ls st) rfl hd _ k) r
theorem getS (X : Stand p l e R s m args below meth c T locs cells slots) (hx : p.tables.exec = Jvm.exec) (hZ : Z.Warmed39 s.vm) {own : String} {index : Nat} (hown : s.vm.findClass own = some m.cls) {R0 O n d host : String} (w : (Cond.fieldLink own index R0 n d).before a0 Z = true ∨ (Cond.fieldLinkNest own index R0 n d host).before a0 Z = true) (via : Via Z R0 O n d) (eT : T.heap = h) {v : Value} (F : Sta Z h O n d v) (hd : decode c.code pc = .ok (.getstatic index, 3)) (r : ∀ T', Stand p l e R s m args below meth c T' locs cells slots → T'.heap = h → Go p e below En T' (mkF m (pc + 3) Ls (v :: st))) : Go p e below En T (mkF m pc Ls st) := by
  obtain ⟨T', X', e', k⟩ := getS2 X hx hZ hown w via eT F (g := mkF m pc Ls st) rfl hd
  exact Go.of k (r T' X' e')
theorem getF (X : Stand p l e R s m args below meth c T locs cells slots) (hx : p.tables.exec = Jvm.exec) (hZ : Z.Warmed39 s.vm) {own : String} {index : Nat} (hown : s.vm.findClass own = some m.cls) {R0 O n d host : String} (w : (Cond.fieldLink own index R0 n d).before a0 Z = true ∨ (Cond.fieldLinkNest own index R0 n d host).before a0 Z = true) (via : Via Z R0 O n d) (eT : T.heap = h) {a : Addr} {v : Value} (F : Fld Z h a O n d v) (hd : decode c.code pc = .ok (.getfield index, 3)) (r : ∀ T', Stand p l e R s m args below meth c T' locs cells slots → T'.heap = h → Go p e below En T' (mkF m (pc + 3) Ls (v :: st))) : Go p e below En T (mkF m pc Ls (.ref a :: st)) := by
  obtain ⟨T', X', e', k⟩ := Jvm.RoadKit.getF X hx hZ hown w via eT F (g := mkF m pc Ls (.ref a :: st)) rfl rfl hd
  exact Go.of k (r T' X' e')
theorem newO (X : Stand p l e R s m args below meth c T locs cells slots) (hx : p.tables.exec = Jvm.exec) (hZ : Z.Warmed39 s.vm) {own : String} {index : Nat} (hown : s.vm.findClass own = some m.cls) {C0 : String} {n : Nat} (w : (Cond.classLink own index C0).before a0 Z = true) (wi : (Cond.instantiable C0 n).before a0 Z = true) (wz : (Cond.initialized C0).before a0 Z = true) (eT : T.heap = h) (hd : decode c.code pc = .ok (.new index, 3)) (hc : cells + 1 ≤ R.cells) (hl : slots + n ≤ R.slots) (r : ∀ T' h' a, a = h.size → Stand p l e R s m args below meth c T' locs (cells + 1) (slots + n) → T'.heap = h' → Ext h h' → Exa Z h' a C0 → (∀ {O nm d : String} {ty : FieldType}, Laid Z a0 C0 O nm d → parseFieldDescriptor d = some ty → Fld Z h' a O nm d (defaultValue ty)) → Go p e below En T' (mkF m (pc + 3) Ls (.ref a :: st))) : Go p e below En T (mkF m pc Ls st) := by
  obtain ⟨T', h', X', e', E', A', D', -, k⟩ := Jvm.RoadKit.newO X hx hZ hown w wi wz eT (g := mkF m pc Ls st) rfl hd hc hl
  exact Go.of k (r T' h' h.size rfl X' e' E' A' D')
theorem initO (X : Stand p l e R s m args below meth c T locs cells slots) (hx : p.tables.exec = Jvm.exec) (hZ : Z.Warmed39 s.vm) {own : String} {index : Nat} (hown : s.vm.findClass own = some m.cls) (w1 : (Cond.methodLink own index Lib.objectInit).before a0 Z = true) (w2 : (Cond.instanceMethod Lib.objectInit).before a0 Z = true) (w3 : (Cond.code Lib.objectInit ⟨#[0xb1]⟩ 1 none).before a0 Z = true) (eT : T.heap = h) (hsize : Ls.size = c.maxLocals) {a : Addr} (hd : decode c.code pc = .ok (.invokespecial index, 3)) (hf : 1 ≤ R.frames) (W : Nat) (hW : (st.map fun v => v.category).sum = W) (hl : W + 12 ≤ R.locals) (r : ∀ T', Stand p l e R s m args below meth c T' locs cells slots → T'.heap = h → Go p e below En T' (mkF m (pc + 3) Ls st)) : Go p e below En T (mkF m pc Ls (.ref a :: st)) := by
  obtain ⟨T', X', e', k⟩ := Jvm.RoadKit.initO X hx hZ hown w1 w2 w3 eT (g := mkF m pc Ls (.ref a :: st)) rfl hsize rfl hd hf (W := W) (by show 2 * 0 + _ ≤ _; rw [hW]; omega) hl
  exact Go.of k (r T' X' e')
theorem putF (X : Stand p l e R s m args below meth c T locs cells slots) (hx : p.tables.exec = Jvm.exec) (hZ : Z.Warmed39 s.vm) {own : String} {index : Nat} (hown : s.vm.findClass own = some m.cls) {R0 O n d host C0 : String} {kk : Nat} {ty : FieldType} (w : (Cond.fieldLink own index R0 n d).before a0 Z = true ∨ (Cond.fieldLinkNest own index R0 n d host).before a0 Z = true) (via : Via Z R0 O n d) (eT : T.heap = h) {a : Addr} {v old : Value} (F : Fld Z h a O n d old) (E : Exa Z h a C0) (L : (Cond.lays C0 O n d).before a0 Z = true ∨ ((Cond.laysFinal C0 O n d).before a0 Z = true ∧ own = O ∧ meth.name = "<init>")) (wi : (Cond.instantiable C0 kk).before a0 Z = true) (hty : parseFieldDescriptor d = some ty) (hn : narrow ty v = v) (hf : fits ty v = true) (hd : decode c.code pc = .ok (.putfield index, 3)) (r : ∀ T' h', Stand p l e R s m args below meth c T' (locs ++ [⟨a, Jvm.RoadKit.slotOf Z O n d⟩]) cells slots → T'.heap = h' → Wr h h' a (Jvm.RoadKit.slotOf Z O n d) v → Go p e below En T' (mkF m (pc + 3) Ls st)) : Go p e below En T (mkF m pc Ls (v :: .ref a :: st)) := by
  obtain ⟨T', h', X', e', W', k⟩ := Jvm.RoadKit.putF X hx hZ hown w via eT F E L wi hty hn hf (g := mkF m pc Ls (v :: .ref a :: st)) rfl rfl hd
  exact Go.of k (r T' h' X' e' W')
theorem putFN (X : Stand p l e R s m args below meth c T locs cells slots) (hx : p.tables.exec = Jvm.exec) (hZ : Z.Warmed39 s.vm) {own : String} {index : Nat} (hown : s.vm.findClass own = some m.cls) {R0 O n d C0 : String} {kk : Nat} {ty : FieldType} (w : (Cond.fieldLink own index R0 n d).before a0 Z = true) (via : Via Z R0 O n d) (eT : T.heap = h) {a : Addr} {v v' old : Value} (F : Fld Z h a O n d old) (E : Exa Z h a C0) (L : (Cond.lays C0 O n d).before a0 Z = true ∨ ((Cond.laysFinal C0 O n d).before a0 Z = true ∧ own = O ∧ meth.name = "<init>")) (wi : (Cond.instantiable C0 kk).before a0 Z = true) (hty : parseFieldDescriptor d = some ty) (hn : narrow ty v = v') (hf : fits ty v' = true) (hd : decode c.code pc = .ok (.putfield index, 3)) (r : ∀ T' h', Stand p l e R s m args below meth c T' (locs ++ [⟨a, Jvm.RoadKit.slotOf Z O n d⟩]) cells slots → T'.heap = h' → Wr h h' a (Jvm.RoadKit.slotOf Z O n d) v' → Go p e below En T' (mkF m (pc + 3) Ls st)) : Go p e below En T (mkF m pc Ls (v :: .ref a :: st)) := by
  obtain ⟨T', h', X', e', W', k⟩ := Jvm.RoadKit.putFN X hx hZ hown w via eT F E L wi hty hn hf (g := mkF m pc Ls (v :: .ref a :: st)) rfl rfl hd
  exact Go.of k (r T' h' X' e' W')
theorem newP (X : Stand p l e R s m args below meth c T locs cells slots) (hx : p.tables.exec = Jvm.exec) (hZ : Z.Warmed39 s.vm) {aty : ArrayType} (w : (Cond.arrayClass (newarray.typeOf aty)).before a0 Z = true) (eT : T.heap = h) (hd : decode c.code pc = .ok (.newarray aty, 2)) {n : Int32} (hn : ¬ n < 0) (cap : Nat) (hcap : n.toNatClampNeg ≤ cap) (hb : cap * 8 ≤ 536870912) (hc : cells + 1 ≤ R.cells) (hl : slots + cap ≤ R.slots) (r : ∀ T' h' k a, a = h.size → Stand p l e R s m args below meth c T' locs (cells + 1) (slots + cap) → T'.heap = h' → Ext h h' → Arr Z h' a (newA k (newarray.typeOf aty) n) (newarray.typeOf aty) → Go p e below En T' (mkF m (pc + 2) Ls (.ref a :: st))) : Go p e below En T (mkF m pc Ls (.int n :: st)) := by
  obtain ⟨T', h', k', X', e', E', A', k⟩ := Jvm.RoadKit.newP X hx hZ w eT (g := mkF m pc Ls (.int n :: st)) rfl hd rfl hn hcap hb hc hl
  exact Go.of k (r T' h' k' h.size rfl X' e' E' A')
theorem newR (X : Stand p l e R s m args below meth c T locs cells slots) (hx : p.tables.exec = Jvm.exec) (hZ : Z.Warmed39 s.vm) {own : String} {index : Nat} (hown : s.vm.findClass own = some m.cls) {C0 : String} (w1 : (Cond.classLink own index C0).before a0 Z = true) (w2 : (Cond.arrayOver (.object C0)).before a0 Z = true) (eT : T.heap = h) (hd : decode c.code pc = .ok (.anewarray index, 3)) {n : Int32} (hn : ¬ n < 0) (cap : Nat) (hcap : n.toNatClampNeg ≤ cap) (hb : cap * 8 ≤ 536870912) (hc : cells + 1 ≤ R.cells) (hl : slots + cap ≤ R.slots) (r : ∀ T' h' k a, a = h.size → Stand p l e R s m args below meth c T' locs (cells + 1) (slots + cap) → T'.heap = h' → Ext h h' → Arr Z h' a (newA k (.object C0) n) (.object C0) → Ovr Z k C0 → Go p e below En T' (mkF m (pc + 3) Ls (.ref a :: st))) : Go p e below En T (mkF m pc Ls (.int n :: st)) := by
  obtain ⟨T', h', k', X', e', E', A', O', k⟩ := Jvm.RoadKit.newR X hx hZ hown w1 w2 eT (g := mkF m pc Ls (.int n :: st)) rfl hd rfl hn hcap hb hc hl
  exact Go.of k (r T' h' k' h.size rfl X' e' E' A' O')
theorem stI (X : Stand p l e R s m args below meth c T locs cells slots) (hx : p.tables.exec = Jvm.exec) (hZ : Z.Warmed39 s.vm) (eT : T.heap = h) {a : Addr} {cl : Cell} (A : Arr Z h a cl .int) {j x : Int32} (hj : ¬ (j < 0 ∨ cl.slots.size ≤ j.toNatClampNeg)) (hd : decode c.code pc = .ok (.iastore, 1)) (r : ∀ T' h', Stand p l e R s m args below meth c T' (locs ++ [⟨a, j.toNatClampNeg⟩]) cells slots → T'.heap = h' → Wr h h' a j.toNatClampNeg (.int x) → Go p e below En T' (mkF m (pc + 1) Ls st)) : Go p e below En T (mkF m pc Ls ((.int x) :: .int j :: .ref a :: st)) := by
  obtain ⟨T', h', X', e', W', k⟩ := Jvm.RoadKit.stI X hx hZ eT A hj (g := mkF m pc Ls ((.int x) :: .int j :: .ref a :: st)) rfl rfl hd
  exact Go.of k (r T' h' X' e' W')
theorem stC (X : Stand p l e R s m args below meth c T locs cells slots) (hx : p.tables.exec = Jvm.exec) (hZ : Z.Warmed39 s.vm) (eT : T.heap = h) {a : Addr} {cl : Cell} (A : Arr Z h a cl .char) {j x : Int32} (hj : ¬ (j < 0 ∨ cl.slots.size ≤ j.toNatClampNeg)) (hd : decode c.code pc = .ok (.castore, 1)) (r : ∀ T' h', Stand p l e R s m args below meth c T' (locs ++ [⟨a, j.toNatClampNeg⟩]) cells slots → T'.heap = h' → Wr h h' a j.toNatClampNeg (.int (nar .char x)) → Go p e below En T' (mkF m (pc + 1) Ls st)) : Go p e below En T (mkF m pc Ls ((.int x) :: .int j :: .ref a :: st)) := by
  obtain ⟨T', h', X', e', W', k⟩ := Jvm.RoadKit.stC X hx hZ eT A hj (g := mkF m pc Ls ((.int x) :: .int j :: .ref a :: st)) rfl rfl hd
  exact Go.of k (r T' h' X' e' W')
theorem stB (X : Stand p l e R s m args below meth c T locs cells slots) (hx : p.tables.exec = Jvm.exec) (hZ : Z.Warmed39 s.vm) (eT : T.heap = h) {a : Addr} {cl : Cell} (A : Arr Z h a cl .byte) {j x : Int32} (hj : ¬ (j < 0 ∨ cl.slots.size ≤ j.toNatClampNeg)) (hd : decode c.code pc = .ok (.bastore, 1)) (r : ∀ T' h', Stand p l e R s m args below meth c T' (locs ++ [⟨a, j.toNatClampNeg⟩]) cells slots → T'.heap = h' → Wr h h' a j.toNatClampNeg (.int (nar .byte x)) → Go p e below En T' (mkF m (pc + 1) Ls st)) : Go p e below En T (mkF m pc Ls ((.int x) :: .int j :: .ref a :: st)) := by
  obtain ⟨T', h', X', e', W', k⟩ := Jvm.RoadKit.stB X hx hZ eT A hj (g := mkF m pc Ls ((.int x) :: .int j :: .ref a :: st)) rfl rfl hd
  exact Go.of k (r T' h' X' e' W')
theorem stR (X : Stand p l e R s m args below meth c T locs cells slots) (hx : p.tables.exec = Jvm.exec) (hZ : Z.Warmed39 s.vm) (eT : T.heap = h) {a : Addr} {cl : Cell} {ty : FieldType} (A : Arr Z h a cl ty) {j : Int32} {v : Value} (hj : ¬ (j < 0 ∨ cl.slots.size ≤ j.toNatClampNeg)) (hty : ty.isReference = true) (F : Sto Z h a v) (hd : decode c.code pc = .ok (.aastore, 1)) (r : ∀ T' h', Stand p l e R s m args below meth c T' (locs ++ [⟨a, j.toNatClampNeg⟩]) cells slots → T'.heap = h' → Wr h h' a j.toNatClampNeg v → Go p e below En T' (mkF m (pc + 1) Ls st)) : Go p e below En T (mkF m pc Ls (v :: .int j :: .ref a :: st)) := by
  obtain ⟨T', h', X', e', W', k⟩ := Jvm.RoadKit.stR X hx hZ eT A hj hty F (g := mkF m pc Ls (v :: .int j :: .ref a :: st)) rfl rfl hd
  exact Go.of k (r T' h' X' e' W')
theorem iaload (X : Stand p l e R s m args below meth c T locs cells slots) (hx : p.tables.exec = Jvm.exec) (hZ : Z.Warmed39 s.vm) (eT : T.heap = h) {a : Addr} {cl : Cell} (A : Arr Z h a cl .int) {j : Int32} {v : Value} (hj : ¬ (j < 0 ∨ cl.slots.size ≤ j.toNatClampNeg)) (hv : cl.slots[j.toNatClampNeg]? = some v) (hd : decode c.code pc = .ok (.iaload, 1)) (r : Go p e below En T (mkF m (pc + 1) Ls (v :: st))) : Go p e below En T (mkF m pc Ls (.int j :: .ref a :: st)) :=
  Go.of (fun t k => X.iaload hx (by rw [eT]; exact A.1) (State.isArrayOf_alike hZ.alike A.2.1) A.2.2 hj hv (g := mkF m pc Ls (.int j :: .ref a :: st)) rfl rfl hd t k) r
theorem caload (X : Stand p l e R s m args below meth c T locs cells slots) (hx : p.tables.exec = Jvm.exec) (hZ : Z.Warmed39 s.vm) (eT : T.heap = h) {a : Addr} {cl : Cell} (A : Arr Z h a cl .char) {j : Int32} {v : Value} (hj : ¬ (j < 0 ∨ cl.slots.size ≤ j.toNatClampNeg)) (hv : cl.slots[j.toNatClampNeg]? = some v) (hd : decode c.code pc = .ok (.caload, 1)) (r : Go p e below En T (mkF m (pc + 1) Ls (v :: st))) : Go p e below En T (mkF m pc Ls (.int j :: .ref a :: st)) :=
  Go.of (fun t k => X.caload hx (by rw [eT]; exact A.1) (State.isArrayOf_alike hZ.alike A.2.1) A.2.2 hj hv (g := mkF m pc Ls (.int j :: .ref a :: st)) rfl rfl hd t k) r
theorem aaload (X : Stand p l e R s m args below meth c T locs cells slots) (hx : p.tables.exec = Jvm.exec) (hZ : Z.Warmed39 s.vm) (eT : T.heap = h) {a : Addr} {cl : Cell} {ty : FieldType} (A : Arr Z h a cl ty) (hty : ty.isReference = true) {j : Int32} {v : Value} (hj : ¬ (j < 0 ∨ cl.slots.size ≤ j.toNatClampNeg)) (hv : cl.slots[j.toNatClampNeg]? = some v) (hd : decode c.code pc = .ok (.aaload, 1)) (r : Go p e below En T (mkF m (pc + 1) Ls (v :: st))) : Go p e below En T (mkF m pc Ls (.int j :: .ref a :: st)) :=
  Go.of (fun t k => X.aaload hx (by rw [eT]; exact A.1) (State.isArrayOf_alike hZ.alike A.2.1) hty A.2.2 hj hv (g := mkF m pc Ls (.int j :: .ref a :: st)) rfl rfl hd t k) r
theorem arraylength (X : Stand p l e R s m args below meth c T locs cells slots) (hx : p.tables.exec = Jvm.exec) (hZ : Z.Warmed39 s.vm) (eT : T.heap = h) {a : Addr} {cl : Cell} {ty : FieldType} (A : Arr Z h a cl ty) {n : Int32} (hn : cl.slots.size.toInt32 = n) (hd : decode c.code pc = .ok (.arraylength, 1)) (r : Go p e below En T (mkF m (pc + 1) Ls (.int n :: st))) : Go p e below En T (mkF m pc Ls (.ref a :: st)) := by
  subst hn
  exact Go.of (fun t k => X.arraylength hx (by rw [eT]; exact A.1) (State.isArrayOf_alike hZ.alike A.2.1) (g := mkF m pc Ls (.ref a :: st)) rfl rfl hd t k) r
theorem retB (X : Stand p l e R s m args below meth c T locs cells slots) (hx : p.tables.exec = Jvm.exec) (hlk : meth.locks = false) {z z' : Int32} (hret : meth.sig.returnType = some .boolean) (hd : decode c.code pc = .ok (.ireturn, 1)) (hz : nar .boolean z = z') (hq : Q (some (.int z')) T.heap locs) (hC : cells ≤ C) (hS : slots ≤ S) : Go p e below (EndN s Q C S) T (mkF m pc Ls (.int z :: st)) := by
  obtain ⟨fs, hr, hrun, hended, hW, hsame⟩ := X.leave (v := (some (.int z'))) (fun h => by rw [hret] at h; cases h) hlk
  exact ⟨_, _, (by subst hz; exact retN X hx (t := .boolean) hret (by simp) hd hr), hrun, hended, _, _, rfl, hq, ⟨_, rfl⟩, hW, hsame.mono hC hS⟩
theorem retY (X : Stand p l e R s m args below meth c T locs cells slots) (hx : p.tables.exec = Jvm.exec) (hlk : meth.locks = false) {z z' : Int32} (hret : meth.sig.returnType = some .byte) (hd : decode c.code pc = .ok (.ireturn, 1)) (hz : nar .byte z = z') (hq : Q (some (.int z')) T.heap locs) (hC : cells ≤ C) (hS : slots ≤ S) : Go p e below (EndN s Q C S) T (mkF m pc Ls (.int z :: st)) := by
  obtain ⟨fs, hr, hrun, hended, hW, hsame⟩ := X.leave (v := (some (.int z'))) (fun h => by rw [hret] at h; cases h) hlk
  exact ⟨_, _, (by subst hz; exact retN X hx (t := .byte) hret (by simp) hd hr), hrun, hended, _, _, rfl, hq, ⟨_, rfl⟩, hW, hsame.mono hC hS⟩
theorem retC (X : Stand p l e R s m args below meth c T locs cells slots) (hx : p.tables.exec = Jvm.exec) (hlk : meth.locks = false) {z z' : Int32} (hret : meth.sig.returnType = some .char) (hd : decode c.code pc = .ok (.ireturn, 1)) (hz : nar .char z = z') (hq : Q (some (.int z')) T.heap locs) (hC : cells ≤ C) (hS : slots ≤ S) : Go p e below (EndN s Q C S) T (mkF m pc Ls (.int z :: st)) := by
  obtain ⟨fs, hr, hrun, hended, hW, hsame⟩ := X.leave (v := (some (.int z'))) (fun h => by rw [hret] at h; cases h) hlk
  exact ⟨_, _, (by subst hz; exact retN X hx (t := .char) hret (by simp) hd hr), hrun, hended, _, _, rfl, hq, ⟨_, rfl⟩, hW, hsame.mono hC hS⟩
theorem own_retI (X : Stand p l e R s m args below meth c T locs cells slots) (hx : p.tables.exec = Jvm.exec) {z : Int32} {rest : List Value} (hret : meth.sig.returnType = some .int) (hd : decode c.code pc = .ok (.ireturn, 1)) {fs : List Frame}
    (hl : ∀ (f : JFrame) (acts : List Action), f.method = m → f.locked = none → f.entered = [] → (doReturn e (T.setTop f) acts (some (.int z))).1 = T.setFrames fs) : Steps p.tables e below (T.setTop (mkF m pc Ls (.int z :: rest))) (T.setFrames fs) := by
  have hm' : T.vm.method? m = some meth := X.method'
  have hn : narrow .int (.int z) = .int z := rfl
  show Steps p.tables e below (T.setTop { method := m, pc := pc, locals := Ls, stack := _ :: rest, locked := none }) _
  jvm_step X.here [X.here.top, hx, hd, hm', hret, hn]
  first | (intro acts; rw [hl _ acts rfl rfl rfl]) | rw [hl _ _ rfl rfl rfl]
  exact Steps.refl _
theorem own_retJ (X : Stand p l e R s m args below meth c T locs cells slots) (hx : p.tables.exec = Jvm.exec) {z : Int64} {rest : List Value} (hret : meth.sig.returnType = some .long) (hd : decode c.code pc = .ok (.lreturn, 1)) {fs : List Frame}
    (hl : ∀ (f : JFrame) (acts : List Action), f.method = m → f.locked = none → f.entered = [] → (doReturn e (T.setTop f) acts (some (.long z))).1 = T.setFrames fs) : Steps p.tables e below (T.setTop (mkF m pc Ls (.long z :: rest))) (T.setFrames fs) := by
  have hm' : T.vm.method? m = some meth := X.method'
  show Steps p.tables e below (T.setTop { method := m, pc := pc, locals := Ls, stack := _ :: rest, locked := none }) _
  jvm_step X.here [X.here.top, hx, hd, hm', hret, narrow]
  first | (intro acts; rw [hl _ acts rfl rfl rfl]) | rw [hl _ _ rfl rfl rfl]
  exact Steps.refl _
theorem own_retA (X : Stand p l e R s m args below meth c T locs cells slots) (hx : p.tables.exec = Jvm.exec) {z : Value} (hz : z.isRef = true) {t : FieldType} (ht : t.isReference = true) {rest : List Value} (hret : meth.sig.returnType = some t) (hd : decode c.code pc = .ok (.areturn, 1)) {fs : List Frame}
    (hl : ∀ (f : JFrame) (acts : List Action), f.method = m → f.locked = none → f.entered = [] → (doReturn e (T.setTop f) acts (some z)).1 = T.setFrames fs) : Steps p.tables e below (T.setTop (mkF m pc Ls (z :: rest))) (T.setFrames fs) := by
  have hm' : T.vm.method? m = some meth := X.method'
  show Steps p.tables e below (T.setTop { method := m, pc := pc, locals := Ls, stack := _ :: rest, locked := none }) _
  rcases ref_cases hz with rfl | ⟨b, rfl⟩
  all_goals
    jvm_step X.here [X.here.top, hx, hd, hm', hret, ht, Value.isRef]
    first | (intro acts; rw [hl _ acts rfl rfl rfl]) | rw [hl _ _ rfl rfl rfl]
    exact Steps.refl _
theorem retI (X : Stand p l e R s m args below meth c T locs cells slots) (hx : p.tables.exec = Jvm.exec) (hlk : meth.locks = false) {z : Int32} (hret : meth.sig.returnType = some .int) (hd : decode c.code pc = .ok (.ireturn, 1)) (hq : Q (some (.int z)) T.heap locs) (hC : cells ≤ C) (hS : slots ≤ S) : Go p e below (EndN s Q C S) T (mkF m pc Ls (.int z :: st)) := by
  obtain ⟨fs, hr, hrun, hended, hW, hsame⟩ := X.leave (v := (some (.int z))) (fun h => by rw [hret] at h; cases h) hlk
  exact ⟨_, _, own_retI X hx hret hd hr, hrun, hended, _, _, rfl, hq, ⟨_, rfl⟩, hW, hsame.mono hC hS⟩
theorem retJ (X : Stand p l e R s m args below meth c T locs cells slots) (hx : p.tables.exec = Jvm.exec) (hlk : meth.locks = false) {z : Int64} (hret : meth.sig.returnType = some .long) (hd : decode c.code pc = .ok (.lreturn, 1)) (hq : Q (some (.long z)) T.heap locs) (hC : cells ≤ C) (hS : slots ≤ S) : Go p e below (EndN s Q C S) T (mkF m pc Ls (.long z :: st)) := by
  obtain ⟨fs, hr, hrun, hended, hW, hsame⟩ := X.leave (v := (some (.long z))) (fun h => by rw [hret] at h; cases h) hlk
  exact ⟨_, _, own_retJ X hx hret hd hr, hrun, hended, _, _, rfl, hq, ⟨_, rfl⟩, hW, hsame.mono hC hS⟩
theorem retA (X : Stand p l e R s m args below meth c T locs cells slots) (hx : p.tables.exec = Jvm.exec) (hlk : meth.locks = false) {z : Value} {t : FieldType} (hz : z.isRef = true) (ht : t.isReference = true) (hret : meth.sig.returnType = some t) (hd : decode c.code pc = .ok (.areturn, 1)) (hq : Q (some z) T.heap locs) (hC : cells ≤ C) (hS : slots ≤ S) : Go p e below (EndN s Q C S) T (mkF m pc Ls (z :: st)) := by
  obtain ⟨fs, hr, hrun, hended, hW, hsame⟩ := X.leave (v := (some z)) (fun h => by rw [hret] at h; cases h) hlk
  exact ⟨_, _, own_retA X hx hz ht hret hd hr, hrun, hended, _, _, rfl, hq, ⟨_, rfl⟩, hW, hsame.mono hC hS⟩
theorem retV (X : Stand p l e R s m args below meth c T locs cells slots) (hx : p.tables.exec = Jvm.exec) (hlk : meth.locks = false)  (hret : meth.sig.returnType = none) (hd : decode c.code pc = .ok (.return_, 1)) (hq : Q none T.heap locs) (hC : cells ≤ C) (hS : slots ≤ S) : Go p e below (EndN s Q C S) T (mkF m pc Ls []) := by
  obtain ⟨fs, hr, hrun, hended, hW, hsame⟩ := X.leave (v := none) (fun _ => rfl) hlk
  exact ⟨_, _, X.returnOut hx hret hd hr, hrun, hended, _, _, rfl, hq, ⟨_, rfl⟩, hW, hsame.mono hC hS⟩
theorem callS (X : Stand p l e R s m args below meth c T locs cells slots) (hx : p.tables.exec = Jvm.exec) (hZ : Z.Warmed39 s.vm) {own : String} {index : Nat} (hown : s.vm.findClass own = some m.cls) {y : MethodName} {bytes : ByteArray} {maxL : Nat} {ret : Option FieldType} {rm : Room} {as : List Value} {Qc : Option Value → Heap → List Loc → Prop} (w1 : (Cond.methodLink own index y).before a0 Z = true) (w2 : (Cond.static y).before a0 Z = true) (w3 : (Cond.initialized y.cls).before a0 Z = true) (w4 : (Cond.code y bytes maxL ret).before a0 Z = true) (hy : y.cls ≠ "java/lang/invoke/MethodHandle" ∧ y.cls ≠ "java/lang/invoke/VarHandle") (eT : T.heap = h) (hM : Con l Z y bytes maxL ret rm as h Qc) {rest : List Value} (W : Nat) (hf : rm.frames + 1 ≤ R.frames) (hlo : W + (maxL + 11) + rm.locals ≤ R.locals) (hc : cells + rm.cells ≤ R.cells) (hs : slots + rm.slots ≤ R.slots) (hsize : Ls.size = c.maxLocals) (hlen : ∀ sig, parseMethodDescriptor y.desc = some sig → as.length = sig.parameters.length) (hst : st = as.reverse ++ rest) (hW : (rest.map fun v => v.category).sum = W) (hd : decode c.code pc = .ok (.invokestatic index, 3)) (r : ∀ v T' L, Stand p l e R s m args below meth c T' (locs ++ L) (cells + rm.cells) (slots + rm.slots) → Qc v T'.heap L → Go p e below En T' (mkF m (pc + 3) Ls (v.toList ++ rest))) : Go p e below En T (mkF m pc Ls st) := by
  obtain ⟨v, _, ⟨T', L', k', n'⟩, -, X', ⟨Lc, hq, e1, e2, e3⟩, k⟩ := Jvm.LawKit.callS X hx hown (mvT hZ w1) (mvT hZ w2) (mvT hZ w3) (mvT hZ w4) hy (backOf (W := W) (len := 3) (hM []) hZ w4 w3 hf hlo) (g := mkF m pc Ls st) rfl hsize (argsL := as) (rest := rest) hlen hst (by show 2 * 0 + _ ≤ _; rw [hW]; omega) hd (fun _ _ => ⟨rfl, eT, hc, hs⟩)
  dsimp only [Pt.U, Pt.locs, Pt.cells, Pt.slots] at X' e1 e2 e3 k hq
  subst e1 e2 e3
  exact Go.of k (r v T' Lc X' hq)
theorem callV (X : Stand p l e R s m args below meth c T locs cells slots) (hx : p.tables.exec = Jvm.exec) (hZ : Z.Warmed39 s.vm) {own : String} {index : Nat} (hown : s.vm.findClass own = some m.cls) {y : MethodName} {bytes : ByteArray} {maxL : Nat} {ret : Option FieldType} {rm : Room} {as : List Value} {Qc : Option Value → Heap → List Loc → Prop} {z : MethodName} {C0 : String} (w1 : (Cond.methodLink own index y).before a0 Z = true) (wd : (Cond.declares y).before a0 Z = true) (nf : NotFace s y) (ws : (Cond.selects C0 y z).before a0 Z = true) (wi : (Cond.instanceMethod z).before a0 Z = true) (w3 : (Cond.initialized z.cls).before a0 Z = true) (w4 : (Cond.code z bytes maxL ret).before a0 Z = true) (hy : y.cls ≠ "java/lang/invoke/MethodHandle" ∧ y.cls ≠ "java/lang/invoke/VarHandle") (eT : T.heap = h) {b : Addr} (E : Exa Z h b C0) (hM : Con l Z z bytes maxL ret rm (.ref b :: as) h Qc) {rest : List Value} (W : Nat) (hf : rm.frames + 1 ≤ R.frames) (hlo : W + (maxL + 11) + rm.locals ≤ R.locals) (hc : cells + rm.cells ≤ R.cells) (hs : slots + rm.slots ≤ R.slots) (hsize : Ls.size = c.maxLocals) (hlen : ∀ sig, parseMethodDescriptor y.desc = some sig → as.length = sig.parameters.length) (hst : st = as.reverse ++ .ref b :: rest) (hW : (rest.map fun v => v.category).sum = W) (hd : decode c.code pc = .ok (.invokevirtual index, 3)) (r : ∀ v T' L, Stand p l e R s m args below meth c T' (locs ++ L) (cells + rm.cells) (slots + rm.slots) → Qc v T'.heap L → Go p e below En T' (mkF m (pc + 3) Ls (v.toList ++ rest))) : Go p e below En T (mkF m pc Ls st) := by
  obtain ⟨cB, kB, q1, -, q3⟩ := isOf hZ eT E
  obtain ⟨v, _, ⟨T', L', k', n'⟩, -, X', ⟨Lc, hq, e1, e2, e3⟩, k⟩ := X.virtualBack hx hown (mvT hZ w1) (mvT hZ wd) nf (mvT hZ ws) (mvT hZ wi) hy (backOf (W := W) (len := 3) (hM []) hZ w4 w3 hf hlo) q1 q3 (g := mkF m pc Ls st) rfl hsize (Steps.refl _) (argsL := as) (rest := rest) hlen hst (by show 2 * 0 + _ ≤ _; rw [hW]; omega) hd (fun _ _ => ⟨rfl, eT, hc, hs⟩)
  dsimp only [Pt.U, Pt.locs, Pt.cells, Pt.slots] at X' e1 e2 e3 k hq
  subst e1 e2 e3
  exact Go.of (fun t q => k.trans q) (r v T' Lc X' hq)
theorem callI (X : Stand p l e R s m args below meth c T locs cells slots) (hx : p.tables.exec = Jvm.exec) (hZ : Z.Warmed39 s.vm) {own : String} {index : Nat} (hown : s.vm.findClass own = some m.cls) {y : MethodName} {bytes : ByteArray} {maxL : Nat} {rm : Room} {as : List Value} {Qc : Option Value → Heap → List Loc → Prop} (hn : y.name = "<init>") (w1 : (Cond.methodLink own index y).before a0 Z = true) (wi : (Cond.instanceMethod y).before a0 Z = true) (w3 : (Cond.initialized y.cls).before a0 Z = true) (w4 : (Cond.code y bytes maxL none).before a0 Z = true) (hy : y.cls ≠ "java/lang/invoke/MethodHandle" ∧ y.cls ≠ "java/lang/invoke/VarHandle") (eT : T.heap = h) {b : Addr} (hM : Con l Z y bytes maxL none rm (.ref b :: as) h Qc) {rest : List Value} (W : Nat) (hf : rm.frames + 1 ≤ R.frames) (hlo : W + (maxL + 11) + rm.locals ≤ R.locals) (hc : cells + rm.cells ≤ R.cells) (hs : slots + rm.slots ≤ R.slots) (hsize : Ls.size = c.maxLocals) (hlen : ∀ sig, parseMethodDescriptor y.desc = some sig → as.length = sig.parameters.length) (hst : st = as.reverse ++ .ref b :: rest) (hW : (rest.map fun v => v.category).sum = W) (hd : decode c.code pc = .ok (.invokespecial index, 3)) (r : ∀ v T' L, Stand p l e R s m args below meth c T' (locs ++ L) (cells + rm.cells) (slots + rm.slots) → Qc v T'.heap L → Go p e below En T' (mkF m (pc + 3) Ls (v.toList ++ rest))) : Go p e below En T (mkF m pc Ls st) := by
  obtain ⟨v, _, ⟨T', L', k', n'⟩, -, X', ⟨Lc, hq, e1, e2, e3⟩, k⟩ := X.specialBack hx hn hown (mvT hZ w1) (mvT hZ wi) (mvT hZ w4) hy (backOf (W := W) (len := 3) (hM []) hZ w4 w3 hf hlo) (g := mkF m pc Ls st) rfl hsize (Steps.refl _) (a := b) (argsL := as) (rest := rest) hlen hst (by show 2 * 0 + _ ≤ _; rw [hW]; omega) hd (fun _ _ => ⟨rfl, eT, hc, hs⟩)
  dsimp only [Pt.U, Pt.locs, Pt.cells, Pt.slots] at X' e1 e2 e3 k hq
  subst e1 e2 e3
  exact Go.of (fun t q => k.trans q) (r v T' Lc X' hq)
/-- it has returned, and may have interned String constants on the way -/
def EndW (s : State) (Q : Option Value → Heap → List Loc → Prop) (C S : Nat) : State → Outcome → Prop := fun t o => ∃ v L, o = .returned v ∧ Q v t.heap L ∧ ReturnedEndW s o t L C S
/-- a law's own walk from the state Z itself, its end wide -/
def ConL (l : Launch) (Z : State) (y : MethodName) (bytes : ByteArray) (maxL : Nat) (ret : Option FieldType) (rm : Room) (as : List Value) (Q : Option Value → Heap → List Loc → Prop) : Prop :=
  ∀ ws : List Jvm.Cond, MetFree l y (head1 (Jvm.Cond.code y bytes maxL ret :: ws) rm) (fun a U => a = as.toArray ∧ U = Z) (fun _ _ _ _ _ => True) (fun _ U o U' => ∃ v L, o = .returned v ∧ Q v U'.heap L ∧ ReturnedEndW U o U' L rm.cells rm.slots)
theorem ConL.of {y : MethodName} {bytes : ByteArray} {maxL : Nat} {ret : Option FieldType} {rm : Room} {as : List Value} {Ls0 : Array Slot} (hp : plainFor y = true) (ef : ∀ m, entryFrame m as.toArray maxL = mkF m 0 Ls0 [])
    (body : ∀ (p : Program) (e : Env) (m : MethodId) (below : List Frame) (meth : Method) (c : Code) (T : State), Stand p l e rm Z m as.toArray below meth c T [] 0 0 → p.tables.exec = Jvm.exec → Z.Warmed39 Z.vm → c.code = bytes → c.maxLocals = maxL → Z.vm.findClass y.cls = some m.cls → meth.name = y.name → meth.sig.returnType = ret → meth.locks = false → T.heap = Z.heap → Go p e below (EndW Z Q rm.cells rm.slots) T (mkF m 0 Ls0 [])) :
    ConL l Z y bytes maxL ret rm as Q := by
  intro ws
  refine MetFree.of_bodySF hp hisR ?_
  intro p e s m args below meth c s₁ Bd hml0 hP hK
  obtain ⟨rfl, hh⟩ := hP
  subst hh
  have X0 : Stand p l e rm s m as.toArray below meth c s₁ [] 0 0 := Stand.of_body Bd
  have e0 : s₁.heap = s.heap := by rw [Bd.state]; rfl
  obtain ⟨t, o, h1, r⟩ := body p e m below meth c s₁ X0 Bd.exec (State.Warmed39.refl s) Bd.bytes hml0 (findClass_of_methodNamed Bd.named) (name_of_methodNamed Bd.named Bd.method).1 Bd.returns Bd.notSynchronized e0
  exact ⟨t, o, castTop (ef m) h1, r⟩
theorem retBW {vm1 : Vm} (X : Stand p l e R (s.setVm vm1) m args below meth c T locs cells slots) (hx : p.tables.exec = Jvm.exec) {k1 : Nat} (hS : s.Since vm1 k1) (hk : k1 ≤ T.heap.size) (hlk : meth.locks = false) {z z' : Int32} (hret : meth.sig.returnType = some .boolean) (hd : decode c.code pc = .ok (.ireturn, 1)) (hz : nar .boolean z = z') (hq : Q (some (.int z')) T.heap locs) (hC : cells ≤ C) (hS' : slots ≤ S) : Go p e below (EndW s Q C S) T (mkF m pc Ls (.int z :: st)) := by
  obtain ⟨fs, hr, hrun, hended, h1, h2, h3, h4⟩ := X.leaveW hS hk (v := some (.int z')) (fun h => by rw [hret] at h; cases h) hlk
  exact ⟨_, _, (by subst hz; exact retN X hx (t := .boolean) hret (by simp) hd hr), hrun, hended, _, _, rfl, hq, h1, h2, h3, h4.mono hC hS'⟩
theorem ldcSV {vm0 : Vm} {own text : String} {index : Nat} {Ts : List String} (X : Stand p l e R (s.setVm vm0) m args below meth c T locs cells slots) (hx : p.tables.exec = Jvm.exec) (hZ : Z.Warmed39 vm0) (hown : vm0.findClass own = some m.cls) (w : (Cond.stringLink own index text).before a0 Z = true) (wS : ∀ a ∈ Bundle.stringAtoms, a.before a0 Z = true)
    (eT : T.heap = h) {k0 : Nat} (hS : s.Since vm0 k0) (hk : k0 ≤ h.size) (N : Fr s.heap.size locs) (hkeep : ∀ (b : Addr) (cl : Cell), Z.heap[b]? = some cl → s.heap[b]? = some cl) (I : IB Z vm0 Ts) (hnot : text ∉ Ts) (hh : Jvm.Lit.constHeld Z own index) (hcw : Jvm.Lit.compactW.before a0 Z = true)
    {vs : List Value} {z : Int32} (ht : (∀ c ∈ text.toList, c.toNat < 256) ∧ text.toList.map (fun c => Value.int (Jvm.Lit.byteI c.toNat.toUInt16)) = vs) (hz : ¬ z < 0) (hl : z.toNatClampNeg = vs.length)
    (hd : decode c.code pc = .ok (.ldc index, 2)) (n : Nat) (hn : 4 * text.toList.length ≤ n) (hbig : n ≤ 536870912) (hc : cells + 2 ≤ R.cells) (hl' : slots + (n + 4) ≤ R.slots)
    (r : ∀ (a : Addr) (T' : State) (h' : Heap) (k1 : Nat) (b : Addr) (k : ClassId), Stand p l e R (s.setVm T'.vm) m args below meth c T' locs (cells + 2) (slots + (n + 4)) → T'.heap = h' → Ext h h' → s.Since T'.vm k1 → k1 ≤ h'.size → Z.Warmed39 (s.setVm T'.vm).vm → (s.setVm T'.vm).vm.findClass own = some m.cls →
      Exa Z h' a "java/lang/String" → Fld Z h' a "java/lang/String" "coder" "B" (.int 0) → Fld Z h' a "java/lang/String" "value" "[B" (.ref b) → Arv Z h' b k .byte z vs (.int 0) → Go p e below En T' (mkF m (pc + 2) Ls (.ref a :: st))) : Go p e below En T (mkF m pc Ls st) := by
  obtain ⟨a, T', h', k1, b, k, r1, r2, r3, r4, r5, r6, r7, r8, r9, r10, r11, -, -, -, q⟩ := Jvm.RoadKit.ldcSV X hx hZ hown w wS eT hS hk N hkeep I hnot hh hcw ht hz hl (g := mkF m pc Ls st) rfl hd hn hbig hc hl'
  exact Go.of q (r a T' h' k1 b k r1 r2 r3 r4 r5 r6 r7 r8 r9 r10 r11)
theorem baload (X : Stand p l e R s m args below meth c T locs cells slots) (hx : p.tables.exec = Jvm.exec) (hZ : Z.Warmed39 s.vm) (eT : T.heap = h) {a : Addr} {cl : Cell} (A : Arr Z h a cl .byte) {j : Int32} {v : Value} (hj : ¬ (j < 0 ∨ cl.slots.size ≤ j.toNatClampNeg)) (hv : cl.slots[j.toNatClampNeg]? = some v) (hd : decode c.code pc = .ok (.baload, 1)) (r : Go p e below En T (mkF m (pc + 1) Ls (v :: st))) : Go p e below En T (mkF m pc Ls (.int j :: .ref a :: st)) :=
  Go.of (fun t k => X.baloadBytes hx (by rw [eT]; exact A.1) (State.isArrayOf_alike hZ.alike A.2.1) A.2.2 hj hv (g := mkF m pc Ls (.int j :: .ref a :: st)) rfl rfl hd t k) r
theorem castY (X : Stand p l e R s m args below meth c T locs cells slots) (hx : p.tables.exec = Jvm.exec) (hZ : Z.Warmed39 s.vm) {own : String} {index : Nat} (hown : s.vm.findClass own = some m.cls) {K : String} (w : (Cond.classLink own index K).before a0 Z = true) (eT : T.heap = h) {a : Addr} (F : Ins Z h a K true) (hd : decode c.code pc = .ok (.checkcast index, 3)) (r : ∀ T', Stand p l e R s m args below meth c T' locs cells slots → T'.heap = h → Go p e below En T' (mkF m (pc + 3) Ls (.ref a :: st))) : Go p e below En T (mkF m pc Ls (.ref a :: st)) := by
  obtain ⟨T', X', e', k⟩ := Jvm.RoadKit.castY X hx hZ hown w eT F (g := mkF m pc Ls (.ref a :: st)) rfl rfl hd
  exact Go.of k (r T' X' e')
theorem instY (X : Stand p l e R s m args below meth c T locs cells slots) (hx : p.tables.exec = Jvm.exec) (hZ : Z.Warmed39 s.vm) {own : String} {index : Nat} (hown : s.vm.findClass own = some m.cls) {K : String} (w : (Cond.classLink own index K).before a0 Z = true) (eT : T.heap = h) {a : Addr} (F : Ins Z h a K true) (hd : decode c.code pc = .ok (.instanceof index, 3)) (r : ∀ T', Stand p l e R s m args below meth c T' locs cells slots → T'.heap = h → Go p e below En T' (mkF m (pc + 3) Ls (.int 1 :: st))) : Go p e below En T (mkF m pc Ls (.ref a :: st)) := by
  obtain ⟨T', X', e', k⟩ := Jvm.RoadKit.instY X hx hZ hown w eT F (g := mkF m pc Ls (.ref a :: st)) rfl rfl hd
  exact Go.of k (r T' X' e')
end Own
end Jvm.OwnGo
namespace Jvm.Pilot.@@N@@
open Jvm Jvm.ClassFile Sem Op Lib Jvm.Free Jvm.Stand Jvm.LawKit Jvm.RoadKit Bundle Jvm.Pilot.@@N@@.Jvm.D
open Jvm.OwnGo (Go Con Ret)
theorem own_pd0 : parseMethodDescriptor "(C)Z" = some ⟨[.char], some .boolean⟩ := by decide +kernel
theorem own_pd1 : parseMethodDescriptor "(I)I" = some ⟨[.int], some .int⟩ := by decide +kernel
theorem own_pd2 : parseMethodDescriptor "(I)[B" = some ⟨[.int], some (.array .byte)⟩ := by decide +kernel
theorem own_pd3 : parseMethodDescriptor "([BII)V" = some ⟨[(.array .byte), .int, .int], none⟩ := by decide +kernel
theorem own_pd4 : parseMethodDescriptor "([CI[BII)I" = some ⟨[(.array .char), .int, (.array .byte), .int, .int], some .int⟩ := by decide +kernel
theorem own_pd5 : parseMethodDescriptor "([CII)[B" = some ⟨[(.array .char), .int, .int], some (.array .byte)⟩ := by decide +kernel
theorem own_pd6 : parseMethodDescriptor "([BI)C" = some ⟨[(.array .byte), .int], some .char⟩ := by decide +kernel
theorem own_pd7 : parseMethodDescriptor "([BI)B" = some ⟨[(.array .byte), .int], some .byte⟩ := by decide +kernel
theorem own_pd8 : parseMethodDescriptor "([CIILjava/lang/Void;)V" = some ⟨[(.array .char), .int, .int, (.object "java/lang/Void")], none⟩ := by decide +kernel
theorem own_pd9 : parseMethodDescriptor "(IILjava/util/function/BiFunction;)I" = some ⟨[.int, .int, (.object "java/util/function/BiFunction")], some .int⟩ := by decide +kernel
theorem own_pd10 : parseMethodDescriptor "(II)V" = some ⟨[.int, .int], none⟩ := by decide +kernel
theorem own_pd11 : parseMethodDescriptor "([B)I" = some ⟨[(.array .byte)], some .int⟩ := by decide +kernel
theorem own_pd12 : parseMethodDescriptor "(I[B)V" = some ⟨[.int, (.array .byte)], none⟩ := by decide +kernel
theorem own_pd13 : parseMethodDescriptor "()Z" = some ⟨[], some .boolean⟩ := by decide +kernel
theorem own_pd14 : parseMethodDescriptor "(I)C" = some ⟨[.int], some .char⟩ := by decide +kernel
theorem own_pd15 : parseMethodDescriptor "([C)V" = some ⟨[(.array .char)], none⟩ := by decide +kernel
theorem own_pd16 : parseMethodDescriptor "(Ljava/lang/String;II)Z" = some ⟨[(.object "java/lang/String"), .int, .int], some .boolean⟩ := by decide +kernel
theorem own_pd17 : parseMethodDescriptor "(IIIC)Z" = some ⟨[.int, .int, .int, .char], some .boolean⟩ := by decide +kernel
theorem own_pn0 : plainName "com/example/crossbook/crossbook/cli/IntegerTextIsDigitsPinLaw" = true := by first | (simp [plainName, overriddenIn]; done) | decide +kernel
theorem own_pn1 : plainName "java/lang/StringUTF16" = true := by first | (simp [plainName, overriddenIn]; done) | decide +kernel
theorem own_pn2 : plainName "java/lang/String" = true := by first | (simp [plainName, overriddenIn]; done) | decide +kernel
theorem own_pn3 : plainName "jdk/internal/util/Preconditions" = true := by first | (simp [plainName, overriddenIn]; done) | decide +kernel
theorem own_pn4 : plainName "java/lang/StringLatin1" = true := by first | (simp [plainName, overriddenIn]; done) | decide +kernel
theorem own_pn5 : plainName "com/example/crossbook/crossbook/cli/IntegerText" = true := by first | (simp [plainName, overriddenIn]; done) | decide +kernel
theorem own_nb (x : Int32) : nar .byte (x.toInt8.toInt32) = x.toInt8.toInt32 := by
  show (x.toInt8.toInt32).toInt8.toInt32 = x.toInt8.toInt32
  simp
theorem own_i2c (x : Int32) : (x.toUInt32.toUInt16.toUInt32.toInt32).toInt = x.toInt % 65536 := by
  have e : x.toInt = (x.toBitVec.toNat : Int).bmod (2 ^ 32) := by
    show x.toBitVec.toInt = _
    rw [BitVec.toInt_eq_toNat_bmod]
  have e2 : (x.toUInt32.toUInt16.toUInt32.toInt32).toInt = ((x.toBitVec.toNat % 65536 : Nat) : Int) := by
    show ((x.toUInt32.toUInt16.toUInt32).toBitVec).toInt = _
    have e3 : (x.toUInt32.toUInt16.toUInt32).toBitVec.toNat = x.toBitVec.toNat % 65536 := by
      show (x.toUInt32.toUInt16.toUInt32).toNat = _
      simp; rfl
    rw [BitVec.toInt_eq_toNat_bmod, e3]
    apply Int.bmod_eq_of_le <;> omega
  rw [e2, e]
  have := x.toBitVec.isLt
  rw [Int.bmod_def]
  split <;> omega
theorem own_nc (x : Int32) : nar .char (x.toUInt32.toUInt16.toUInt32.toInt32) = x.toUInt32.toUInt16.toUInt32.toInt32 := by
  apply Int32.toInt_inj.mp
  show ((x.toUInt32.toUInt16.toUInt32.toInt32).toUInt32.toUInt16.toUInt32.toInt32).toInt = _
  rw [own_i2c, own_i2c]; omega
theorem own_rng {q : Int32} (nc : nar .char q = q) : 0 ≤ q.toInt ∧ q.toInt < 65536 := by
  have e : (q.toUInt32.toUInt16.toUInt32.toInt32).toInt = q.toInt := congrArg Int32.toInt nc
  rw [own_i2c] at e; omega
theorem own_low (y : Int32) : (y.toInt8.toInt32 &&& 255).toInt = y.toInt % 256 := by
  have e1 : (y.toInt8.toInt32 &&& 255).toInt = (y.toInt8.toInt32).toInt % 2 ^ 8 := Jvm.Kit.i32_mask _ 255 (k := 8) (by decide) (by decide)
  have e2 : (y.toInt8.toInt32).toInt = y.toInt.bmod 256 := by
    rw [Int8.toInt_toInt32, Int32.toInt_toInt8]
  rw [e1, e2, Int.bmod_def]
  split <;> omega
theorem own_lc {q : Int32} (nc : nar .char q = q) (h : ¬ 255 < q) : nar .char ((q.toInt8.toInt32 &&& 255).toUInt32.toUInt16.toUInt32.toInt32) = q := by
  rw [own_nc]
  apply Int32.toInt_inj.mp
  rw [own_i2c, own_low]
  have := own_rng nc
  rw [Int32.lt_iff_toInt_lt] at h
  have e : (255 : Int32).toInt = 255 := by decide
  omega
theorem own_or {a b : Int32} (ha : 0 ≤ a.toInt) (ha2 : a.toInt < 256) (hb : 0 ≤ b.toInt) (hb2 : b.toInt % 256 = 0) : (a ||| b).toInt = a.toInt + b.toInt := by
  have na : a.toInt = (a.toBitVec.toNat : Int) := by
    have h : a.toInt = if 2 * a.toBitVec.toNat < 2 ^ 32 then (a.toBitVec.toNat : Int) else (a.toBitVec.toNat : Int) - ((2 ^ 32 : Nat) : Int) := BitVec.toInt_eq_toNat_cond a.toBitVec
    have l := a.toBitVec.isLt
    by_cases g : 2 * a.toBitVec.toNat < 2 ^ 32
    · rw [if_pos g] at h; exact h
    · rw [if_neg g] at h; omega
  have nb : b.toInt = (b.toBitVec.toNat : Int) := by
    have h : b.toInt = if 2 * b.toBitVec.toNat < 2 ^ 32 then (b.toBitVec.toNat : Int) else (b.toBitVec.toNat : Int) - ((2 ^ 32 : Nat) : Int) := BitVec.toInt_eq_toNat_cond b.toBitVec
    have l := b.toBitVec.isLt
    by_cases g : 2 * b.toBitVec.toNat < 2 ^ 32
    · rw [if_pos g] at h; exact h
    · rw [if_neg g] at h; omega
  have lb := Int32.toInt_lt b
  have q : a.toBitVec.toNat ||| b.toBitVec.toNat = a.toBitVec.toNat + b.toBitVec.toNat := by
    obtain ⟨k, hk⟩ : ∃ k, b.toBitVec.toNat = 256 * k := ⟨b.toBitVec.toNat / 256, by omega⟩
    have h1 : a.toBitVec.toNat < 2 ^ 8 := by omega
    have h2 := Nat.two_pow_add_eq_or_of_lt h1 k
    rw [hk, Nat.or_comm, Nat.add_comm]
    exact h2.symm
  have e : (a ||| b).toInt = (a ||| b).toBitVec.toInt := rfl
  have e2 : (a ||| b).toBitVec.toNat = a.toBitVec.toNat + b.toBitVec.toNat := by
    show (a.toBitVec ||| b.toBitVec).toNat = _
    rw [BitVec.toNat_or, q]
  rw [e, BitVec.toInt_eq_toNat_bmod, e2, na, nb]
  have : ((a.toBitVec.toNat + b.toBitVec.toNat : Nat) : Int) < 2 ^ 31 := by
    have : b.toBitVec.toNat % 256 = 0 := by omega
    have : (b.toBitVec.toNat : Int) < 2 ^ 31 := by omega
    omega
  rw [Int.bmod_eq_of_le] <;> omega
theorem own_gc {q : Int32} (nc : nar .char q = q) : nar .char ((((((q >>> ((0 : Int32) &&& 31)).toInt8.toInt32) &&& 255) <<< ((0 : Int32) &&& 31)) ||| ((((q >>> ((8 : Int32) &&& 31)).toInt8.toInt32) &&& 255) <<< ((8 : Int32) &&& 31))).toUInt32.toUInt16.toUInt32.toInt32) = q := by
  rw [own_nc]
  apply Int32.toInt_inj.mp
  rw [own_i2c]
  have hr := own_rng nc
  have s0 : (q >>> ((0 : Int32) &&& 31)).toInt = q.toInt / 2 ^ 0 := Jvm.Kit.i32_shr q _ (k := 0) (by decide)
  have s8 : (q >>> ((8 : Int32) &&& 31)).toInt = q.toInt / 2 ^ 8 := Jvm.Kit.i32_shr q _ (k := 8) (by decide)
  have a0 := own_low (q >>> ((0 : Int32) &&& 31))
  have a8 := own_low (q >>> ((8 : Int32) &&& 31))
  rw [s0] at a0
  rw [s8] at a8
  have l0 : ((((q >>> ((0 : Int32) &&& 31)).toInt8.toInt32) &&& 255) <<< ((0 : Int32) &&& 31)).toInt = (((q >>> ((0 : Int32) &&& 31)).toInt8.toInt32) &&& 255).toInt * 2 ^ 0 := Jvm.Kit.i32_shl _ _ (k := 0) (by decide) (by omega) (by omega)
  have l8 : ((((q >>> ((8 : Int32) &&& 31)).toInt8.toInt32) &&& 255) <<< ((8 : Int32) &&& 31)).toInt = (((q >>> ((8 : Int32) &&& 31)).toInt8.toInt32) &&& 255).toInt * 2 ^ 8 := Jvm.Kit.i32_shl _ _ (k := 8) (by decide) (by omega) (by omega)
  rw [a0] at l0
  rw [a8] at l8
  rw [own_or (by omega) (by omega) (by omega) (by omega), l0, l8]
  omega

def own_ch (p : Int32) : Int32 := if p &&& 1 = 0 then ((44 : Int32) + (((p.toUInt32 >>> ((1 : Int32) &&& 31).toUInt32).toInt32) &&& (15 : Int32))).toUInt32.toUInt16.toUInt32.toInt32 else ((((p.toUInt32 >>> ((1 : Int32) &&& 31).toUInt32).toInt32) &&& (65535 : Int32))).toUInt32.toUInt16.toUInt32.toInt32
theorem own_nch (p : Int32) : nar .char (own_ch p) = own_ch p := by unfold own_ch; split <;> exact own_nc _
def own_dig (q : Int32) : Int32 := if ¬ q < 48 ∧ ¬ 57 < q then 1 else 0
theorem own_nd (q : Int32) : nar .boolean (own_dig q) = own_dig q := by unfold own_dig; split <;> rfl
def own_ok (i f t q : Int32) : Int32 := if ¬ i < f ∧ i < t then own_dig q else 1
theorem own_nok (i f t q : Int32) : nar .boolean (own_ok i f t q) = own_ok i f t q := by unfold own_ok; split; exact own_nd q; rfl
def own_ex (f t y0 y1 y2 y3 : Int32) : Int32 := if own_ok 0 f t y0 = 0 then 0 else if own_ok 1 f t y1 = 0 then 0 else if own_ok 2 f t y2 = 0 then 0 else if own_ok 3 f t y3 = 0 then 0 else 1
def own_D4 : Int32 := 1
def own_D3 (t y3 : Int32) : Int32 := if 3 < t then (if own_dig y3 = 0 then 0 else own_D4) else 1
def own_D2 (t y2 y3 : Int32) : Int32 := if 2 < t then (if own_dig y2 = 0 then 0 else own_D3 t y3) else 1
def own_D1 (t y1 y2 y3 : Int32) : Int32 := if 1 < t then (if own_dig y1 = 0 then 0 else own_D2 t y2 y3) else 1
def own_D0 (t y0 y1 y2 y3 : Int32) : Int32 := if 0 < t then (if own_dig y0 = 0 then 0 else own_D1 t y1 y2 y3) else 1
def own_in5 (z : Int32) : Prop := z = 0 ∨ z = 1 ∨ z = 2 ∨ z = 3 ∨ z = 4
theorem own_eq (f t y0 y1 y2 y3 : Int32) (hf : own_in5 f) (ht : own_in5 t) : own_ex f t y0 y1 y2 y3 = if f = 0 then own_D0 t y0 y1 y2 y3 else if f = 1 then own_D1 t y1 y2 y3 else if f = 2 then own_D2 t y2 y3 else if f = 3 then own_D3 t y3 else own_D4 := by
  rcases hf with rfl | rfl | rfl | rfl | rfl <;> rcases ht with rfl | rfl | rfl | rfl | rfl <;> simp +decide [own_ex, own_ok, own_D0, own_D1, own_D2, own_D3, own_D4]
theorem own_five (k : Int32) : own_in5 ((k &&& 255) % 5) := by
  have e1 : (k &&& 255).toInt = k.toInt % 2 ^ 8 := Jvm.Kit.i32_mask k 255 (k := 8) (by decide) (by decide)
  have e2 : ((k &&& 255) % 5).toInt = (k &&& 255).toInt % (5 : Int32).toInt := Jvm.Kit.i32_rem_nonneg (by omega)
  have e3 : (5 : Int32).toInt = 5 := by decide
  rw [e3] at e2
  have h : ((k &&& 255) % 5).toInt = 0 ∨ ((k &&& 255) % 5).toInt = 1 ∨ ((k &&& 255) % 5).toInt = 2 ∨ ((k &&& 255) % 5).toInt = 3 ∨ ((k &&& 255) % 5).toInt = 4 := by omega
  rcases h with h | h | h | h | h
  · exact Or.inl (Int32.toInt_inj.mp (h.trans (by decide)))
  · exact Or.inr (Or.inl (Int32.toInt_inj.mp (h.trans (by decide))))
  · exact Or.inr (Or.inr (Or.inl (Int32.toInt_inj.mp (h.trans (by decide)))))
  · exact Or.inr (Or.inr (Or.inr (Or.inl (Int32.toInt_inj.mp (h.trans (by decide))))))
  · exact Or.inr (Or.inr (Or.inr (Or.inr (Int32.toInt_inj.mp (h.trans (by decide))))))
theorem own_dig_y {q : Int32} (h1 : ¬ q < 48) (h2 : ¬ 57 < q) : ¬ own_dig q = 0 := by unfold own_dig; rw [if_pos ⟨h1, h2⟩]; decide
theorem own_dig_a {q : Int32} (h1 : q < 48) : own_dig q = 0 := by unfold own_dig; rw [if_neg (fun h => h.1 h1)]
theorem own_dig_b {q : Int32} (h2 : 57 < q) : own_dig q = 0 := by unfold own_dig; rw [if_neg (fun h => h.2 h2)]
theorem d1_0 : decode method_2_code 0 = .ok (.iload_n 0, 1) := by decide +kernel
theorem d1_1 : decode method_2_code 1 = .ok (.iconst 1, 1) := by decide +kernel
theorem d1_2 : decode method_2_code 2 = .ok (.iand, 1) := by decide +kernel
theorem d1_3 : decode method_2_code 3 = .ok (.ifCond .ne 14, 3) := by decide +kernel
theorem d1_6 : decode method_2_code 6 = .ok (.bipush 44, 2) := by decide +kernel
theorem d1_8 : decode method_2_code 8 = .ok (.iload_n 0, 1) := by decide +kernel
theorem d1_9 : decode method_2_code 9 = .ok (.iconst 1, 1) := by decide +kernel
theorem d1_10 : decode method_2_code 10 = .ok (.iushr, 1) := by decide +kernel
theorem d1_11 : decode method_2_code 11 = .ok (.bipush 15, 2) := by decide +kernel
theorem d1_13 : decode method_2_code 13 = .ok (.iand, 1) := by decide +kernel
theorem d1_14 : decode method_2_code 14 = .ok (.iadd, 1) := by decide +kernel
theorem d1_15 : decode method_2_code 15 = .ok (.i2c, 1) := by decide +kernel
theorem d1_16 : decode method_2_code 16 = .ok (.ireturn, 1) := by decide +kernel
theorem d1_17 : decode method_2_code 17 = .ok (.iload_n 0, 1) := by decide +kernel
theorem d1_18 : decode method_2_code 18 = .ok (.iconst 1, 1) := by decide +kernel
theorem d1_19 : decode method_2_code 19 = .ok (.iushr, 1) := by decide +kernel
theorem d1_20 : decode method_2_code 20 = .ok (.ldc 7, 2) := by decide +kernel
theorem d1_22 : decode method_2_code 22 = .ok (.iand, 1) := by decide +kernel
theorem d1_23 : decode method_2_code 23 = .ok (.i2c, 1) := by decide +kernel
theorem d1_24 : decode method_2_code 24 = .ok (.ireturn, 1) := by decide +kernel
theorem own_ef_rmCH (m : MethodId) (x0 : Int32) : entryFrame m [(.int x0)].toArray 1 = mkF m 0 #[.val (.int x0)] [] := by first | (simp [entryFrame, mkF, argsToLocals, Value.category]; done) | rfl
set_option maxRecDepth 65536 in
set_option maxHeartbeats 40000000 in
theorem rmCH (l : Launch) (Z : State) (a0 : Array Value) (hw : ∀ d ∈ tables_1, d.before a0 Z = true) (p1 : Int32) (h0 : Heap)  :
    Con l Z (⟨"com/example/crossbook/crossbook/cli/IntegerTextIsDigitsPinLaw", "ch", "(I)C"⟩ : MethodName) method_2_code 1 (some .char) ({ frames := 0, cells := 0, slots := 0, locals := 0 } : Room) [(.int p1)] h0 (Ret (some (.int (own_ch p1))) h0) := by
  refine OwnGo.Con.of (plainFor_of_name own_pn0) (Ls0 := #[.val (.int p1)]) (fun m => own_ef_rmCH m p1) ?_
  intro p e s m below meth c T0 X0 hx hZ hby hml hown hnm hret hlk e0
  show Go p e below _ T0 (mkF m 0 #[.val (.int p1)] [])
  refine OwnGo.iloadN X0 hx (hb hby d1_0) rfl ?_
  show Go p e below _ T0 (mkF m 1 #[.val (.int p1)] [(.int p1)])
  refine OwnGo.iconst X0 hx (z := (1 : Int32)) (hb hby d1_1) (by decide) ?_
  show Go p e below _ T0 (mkF m 2 #[.val (.int p1)] [(.int (1 : Int32)), (.int p1)])
  refine OwnGo.iand X0 hx (hb hby d1_2) rfl ?_
  show Go p e below _ T0 (mkF m 3 #[.val (.int p1)] [(.int (p1 &&& (1 : Int32)))])
  refine OwnGo.if_ne X0 hx (pc' := 17) (hb hby d1_3) (by decide) (by decide) (fun h3 => ?_) (fun h3 => ?_)
  ·
    show Go p e below _ T0 (mkF m 17 #[.val (.int p1)] [])
    refine OwnGo.iloadN X0 hx (hb hby d1_17) rfl ?_
    show Go p e below _ T0 (mkF m 18 #[.val (.int p1)] [(.int p1)])
    refine OwnGo.iconst X0 hx (z := (1 : Int32)) (hb hby d1_18) (by decide) ?_
    show Go p e below _ T0 (mkF m 19 #[.val (.int p1)] [(.int (1 : Int32)), (.int p1)])
    refine OwnGo.iushr X0 hx (hb hby d1_19) rfl ?_
    show Go p e below _ T0 (mkF m 20 #[.val (.int p1)] [(.int ((p1.toUInt32 >>> ((1 : Int32) &&& 31).toUInt32).toInt32))])
    refine OwnGo.ldcInt X0 hx hZ hown (v := (65535 : Int32)) (hw _ (List.mem_of_getElem? (i := 4) rfl)) (hb hby d1_20) ?_
    show Go p e below _ T0 (mkF m 22 #[.val (.int p1)] [(.int (65535 : Int32)), (.int ((p1.toUInt32 >>> ((1 : Int32) &&& 31).toUInt32).toInt32))])
    refine OwnGo.iand X0 hx (hb hby d1_22) rfl ?_
    show Go p e below _ T0 (mkF m 23 #[.val (.int p1)] [(.int (((p1.toUInt32 >>> ((1 : Int32) &&& 31).toUInt32).toInt32) &&& (65535 : Int32)))])
    refine OwnGo.i2c X0 hx (hb hby d1_23) rfl ?_
    show Go p e below _ T0 (mkF m 24 #[.val (.int p1)] [(.int ((((p1.toUInt32 >>> ((1 : Int32) &&& 31).toUInt32).toInt32) &&& (65535 : Int32)).toUInt32.toUInt16.toUInt32.toInt32))])
    exact OwnGo.retC X0 hx hlk (z' := ((((p1.toUInt32 >>> ((1 : Int32) &&& 31).toUInt32).toInt32) &&& (65535 : Int32)).toUInt32.toUInt16.toUInt32.toInt32)) hret (hb hby d1_24) (own_nc _) ⟨by unfold own_ch; (try first | rw [if_pos h3] | rw [if_neg h3]); try rfl, e0, rfl⟩ (by decide) (by decide)
  ·
    show Go p e below _ T0 (mkF m 6 #[.val (.int p1)] [])
    refine OwnGo.bipush X0 hx (z := (44 : Int32)) (hb hby d1_6) (by decide) ?_
    show Go p e below _ T0 (mkF m 8 #[.val (.int p1)] [(.int (44 : Int32))])
    refine OwnGo.iloadN X0 hx (hb hby d1_8) rfl ?_
    show Go p e below _ T0 (mkF m 9 #[.val (.int p1)] [(.int p1), (.int (44 : Int32))])
    refine OwnGo.iconst X0 hx (z := (1 : Int32)) (hb hby d1_9) (by decide) ?_
    show Go p e below _ T0 (mkF m 10 #[.val (.int p1)] [(.int (1 : Int32)), (.int p1), (.int (44 : Int32))])
    refine OwnGo.iushr X0 hx (hb hby d1_10) rfl ?_
    show Go p e below _ T0 (mkF m 11 #[.val (.int p1)] [(.int ((p1.toUInt32 >>> ((1 : Int32) &&& 31).toUInt32).toInt32)), (.int (44 : Int32))])
    refine OwnGo.bipush X0 hx (z := (15 : Int32)) (hb hby d1_11) (by decide) ?_
    show Go p e below _ T0 (mkF m 13 #[.val (.int p1)] [(.int (15 : Int32)), (.int ((p1.toUInt32 >>> ((1 : Int32) &&& 31).toUInt32).toInt32)), (.int (44 : Int32))])
    refine OwnGo.iand X0 hx (hb hby d1_13) rfl ?_
    show Go p e below _ T0 (mkF m 14 #[.val (.int p1)] [(.int (((p1.toUInt32 >>> ((1 : Int32) &&& 31).toUInt32).toInt32) &&& (15 : Int32))), (.int (44 : Int32))])
    refine OwnGo.iadd X0 hx (hb hby d1_14) rfl ?_
    show Go p e below _ T0 (mkF m 15 #[.val (.int p1)] [(.int ((44 : Int32) + (((p1.toUInt32 >>> ((1 : Int32) &&& 31).toUInt32).toInt32) &&& (15 : Int32))))])
    refine OwnGo.i2c X0 hx (hb hby d1_15) rfl ?_
    show Go p e below _ T0 (mkF m 16 #[.val (.int p1)] [(.int (((44 : Int32) + (((p1.toUInt32 >>> ((1 : Int32) &&& 31).toUInt32).toInt32) &&& (15 : Int32))).toUInt32.toUInt16.toUInt32.toInt32))])
    exact OwnGo.retC X0 hx hlk (z' := (((44 : Int32) + (((p1.toUInt32 >>> ((1 : Int32) &&& 31).toUInt32).toInt32) &&& (15 : Int32))).toUInt32.toUInt16.toUInt32.toInt32)) hret (hb hby d1_16) (own_nc _) ⟨by unfold own_ch; (try first | rw [if_pos h3] | rw [if_neg h3]); try rfl, e0, rfl⟩ (by decide) (by decide)
theorem d15_0 : decode method_3_code 0 = .ok (.iload_n 0, 1) := by decide +kernel
theorem d15_1 : decode method_3_code 1 = .ok (.bipush 48, 2) := by decide +kernel
theorem d15_3 : decode method_3_code 3 = .ok (.if_icmp .lt 13, 3) := by decide +kernel
theorem d15_6 : decode method_3_code 6 = .ok (.iload_n 0, 1) := by decide +kernel
theorem d15_7 : decode method_3_code 7 = .ok (.bipush 57, 2) := by decide +kernel
theorem d15_9 : decode method_3_code 9 = .ok (.if_icmp .gt 7, 3) := by decide +kernel
theorem d15_12 : decode method_3_code 12 = .ok (.iconst 1, 1) := by decide +kernel
theorem d15_13 : decode method_3_code 13 = .ok (.goto 4, 3) := by decide +kernel
theorem d15_16 : decode method_3_code 16 = .ok (.iconst 0, 1) := by decide +kernel
theorem d15_17 : decode method_3_code 17 = .ok (.ireturn, 1) := by decide +kernel
theorem own_ef_rmDIG (m : MethodId) (x0 : Int32) : entryFrame m [(.int x0)].toArray 1 = mkF m 0 #[.val (.int x0)] [] := by first | (simp [entryFrame, mkF, argsToLocals, Value.category]; done) | rfl
set_option maxRecDepth 65536 in
set_option maxHeartbeats 40000000 in
theorem rmDIG (l : Launch) (Z : State) (a0 : Array Value) (hw : ∀ d ∈ tables_1, d.before a0 Z = true) (y0 : Int32) (h0 : Heap)  :
    Con l Z (⟨"com/example/crossbook/crossbook/cli/IntegerTextIsDigitsPinLaw", "dig", "(C)Z"⟩ : MethodName) method_3_code 1 (some .boolean) ({ frames := 0, cells := 0, slots := 0, locals := 0 } : Room) [(.int y0)] h0 (Ret (some (.int (own_dig y0))) h0) := by
  refine OwnGo.Con.of (plainFor_of_name own_pn0) (Ls0 := #[.val (.int y0)]) (fun m => own_ef_rmDIG m y0) ?_
  intro p e s m below meth c T0 X0 hx hZ hby hml hown hnm hret hlk e0
  show Go p e below _ T0 (mkF m 0 #[.val (.int y0)] [])
  refine OwnGo.iloadN X0 hx (hb hby d15_0) rfl ?_
  show Go p e below _ T0 (mkF m 1 #[.val (.int y0)] [(.int y0)])
  refine OwnGo.bipush X0 hx (z := (48 : Int32)) (hb hby d15_1) (by decide) ?_
  show Go p e below _ T0 (mkF m 3 #[.val (.int y0)] [(.int (48 : Int32)), (.int y0)])
  refine OwnGo.ic_lt X0 hx (pc' := 16) (hb hby d15_3) (by decide) (by decide) (fun h3 => ?_) (fun h3 => ?_)
  ·
    show Go p e below _ T0 (mkF m 16 #[.val (.int y0)] [])
    refine OwnGo.iconst X0 hx (z := (0 : Int32)) (hb hby d15_16) (by decide) ?_
    show Go p e below _ T0 (mkF m 17 #[.val (.int y0)] [(.int (0 : Int32))])
    exact OwnGo.retB X0 hx hlk (z' := (0 : Int32)) hret (hb hby d15_17) rfl ⟨by simp only [own_dig, h3, not_true_eq_false, not_false_eq_true, false_and, and_false, and_true, true_and, true_or, or_true, false_or, or_false, if_true, if_false], e0, rfl⟩ (by decide) (by decide)
  ·
    show Go p e below _ T0 (mkF m 6 #[.val (.int y0)] [])
    refine OwnGo.iloadN X0 hx (hb hby d15_6) rfl ?_
    show Go p e below _ T0 (mkF m 7 #[.val (.int y0)] [(.int y0)])
    refine OwnGo.bipush X0 hx (z := (57 : Int32)) (hb hby d15_7) (by decide) ?_
    show Go p e below _ T0 (mkF m 9 #[.val (.int y0)] [(.int (57 : Int32)), (.int y0)])
    refine OwnGo.ic_gt X0 hx (pc' := 16) (hb hby d15_9) (by decide) (by decide) (fun h9 => ?_) (fun h9 => ?_)
    ·
      show Go p e below _ T0 (mkF m 16 #[.val (.int y0)] [])
      refine OwnGo.iconst X0 hx (z := (0 : Int32)) (hb hby d15_16) (by decide) ?_
      show Go p e below _ T0 (mkF m 17 #[.val (.int y0)] [(.int (0 : Int32))])
      exact OwnGo.retB X0 hx hlk (z' := (0 : Int32)) hret (hb hby d15_17) rfl ⟨by simp only [own_dig, h3, h9, not_true_eq_false, not_false_eq_true, false_and, and_false, and_true, true_and, true_or, or_true, false_or, or_false, if_true, if_false], e0, rfl⟩ (by decide) (by decide)
    ·
      show Go p e below _ T0 (mkF m 12 #[.val (.int y0)] [])
      refine OwnGo.iconst X0 hx (z := (1 : Int32)) (hb hby d15_12) (by decide) ?_
      show Go p e below _ T0 (mkF m 13 #[.val (.int y0)] [(.int (1 : Int32))])
      refine OwnGo.goto X0 hx (pc' := 17) (hb hby d15_13) (by decide) (by decide) ?_
      show Go p e below _ T0 (mkF m 17 #[.val (.int y0)] [(.int (1 : Int32))])
      exact OwnGo.retB X0 hx hlk (z' := (1 : Int32)) hret (hb hby d15_17) rfl ⟨by simp only [own_dig, h3, h9, not_true_eq_false, not_false_eq_true, false_and, and_false, and_true, true_and, true_or, or_true, false_or, or_false, if_true, if_false], e0, rfl⟩ (by decide) (by decide)
theorem d8_0 : decode method_4_code 0 = .ok (.iload_n 1, 1) := by decide +kernel
theorem d8_1 : decode method_4_code 1 = .ok (.iload_n 0, 1) := by decide +kernel
theorem d8_2 : decode method_4_code 2 = .ok (.if_icmp .gt 13, 3) := by decide +kernel
theorem d8_5 : decode method_4_code 5 = .ok (.iload_n 0, 1) := by decide +kernel
theorem d8_6 : decode method_4_code 6 = .ok (.iload_n 2, 1) := by decide +kernel
theorem d8_7 : decode method_4_code 7 = .ok (.if_icmp .ge 8, 3) := by decide +kernel
theorem d8_10 : decode method_4_code 10 = .ok (.iload_n 3, 1) := by decide +kernel
theorem d8_11 : decode method_4_code 11 = .ok (.invokestatic 8, 3) := by decide +kernel
theorem d8_14 : decode method_4_code 14 = .ok (.ireturn, 1) := by decide +kernel
theorem d8_15 : decode method_4_code 15 = .ok (.iconst 1, 1) := by decide +kernel
theorem d8_16 : decode method_4_code 16 = .ok (.ireturn, 1) := by decide +kernel
theorem own_ef_rmOK (m : MethodId) (x0 : Int32) (x1 : Int32) (x2 : Int32) (x3 : Int32) : entryFrame m [(.int x0), (.int x1), (.int x2), (.int x3)].toArray 4 = mkF m 0 #[.val (.int x0), .val (.int x1), .val (.int x2), .val (.int x3)] [] := by first | (simp [entryFrame, mkF, argsToLocals, Value.category]; done) | rfl
set_option maxRecDepth 65536 in
set_option maxHeartbeats 40000000 in
theorem rmOK (l : Launch) (Z : State) (a0 : Array Value) (hw : ∀ d ∈ tables_1, d.before a0 Z = true) (i1 f1 t1 y0 : Int32) (h0 : Heap)  :
    Con l Z (⟨"com/example/crossbook/crossbook/cli/IntegerTextIsDigitsPinLaw", "ok", "(IIIC)Z"⟩ : MethodName) method_4_code 4 (some .boolean) ({ frames := 1, cells := 0, slots := 0, locals := 12 } : Room) [(.int i1), (.int f1), (.int t1), (.int y0)] h0 (Ret (some (.int (own_ok i1 f1 t1 y0))) h0) := by
  refine OwnGo.Con.of (plainFor_of_name own_pn0) (Ls0 := #[.val (.int i1), .val (.int f1), .val (.int t1), .val (.int y0)]) (fun m => own_ef_rmOK m i1 f1 t1 y0) ?_
  intro p e s m below meth c T0 X0 hx hZ hby hml hown hnm hret hlk e0
  show Go p e below _ T0 (mkF m 0 #[.val (.int i1), .val (.int f1), .val (.int t1), .val (.int y0)] [])
  refine OwnGo.iloadN X0 hx (hb hby d8_0) rfl ?_
  show Go p e below _ T0 (mkF m 1 #[.val (.int i1), .val (.int f1), .val (.int t1), .val (.int y0)] [(.int f1)])
  refine OwnGo.iloadN X0 hx (hb hby d8_1) rfl ?_
  show Go p e below _ T0 (mkF m 2 #[.val (.int i1), .val (.int f1), .val (.int t1), .val (.int y0)] [(.int i1), (.int f1)])
  refine OwnGo.ic_gt X0 hx (pc' := 15) (hb hby d8_2) (by decide) (by decide) (fun h2 => ?_) (fun h2 => ?_)
  ·
    show Go p e below _ T0 (mkF m 15 #[.val (.int i1), .val (.int f1), .val (.int t1), .val (.int y0)] [])
    refine OwnGo.iconst X0 hx (z := (1 : Int32)) (hb hby d8_15) (by decide) ?_
    show Go p e below _ T0 (mkF m 16 #[.val (.int i1), .val (.int f1), .val (.int t1), .val (.int y0)] [(.int (1 : Int32))])
    exact OwnGo.retB X0 hx hlk (z' := (1 : Int32)) hret (hb hby d8_16) rfl ⟨by simp only [own_ok, h2, not_true_eq_false, not_false_eq_true, false_and, and_false, and_true, true_and, true_or, or_true, false_or, or_false, if_true, if_false], e0, rfl⟩ (by decide) (by decide)
  ·
    show Go p e below _ T0 (mkF m 5 #[.val (.int i1), .val (.int f1), .val (.int t1), .val (.int y0)] [])
    refine OwnGo.iloadN X0 hx (hb hby d8_5) rfl ?_
    show Go p e below _ T0 (mkF m 6 #[.val (.int i1), .val (.int f1), .val (.int t1), .val (.int y0)] [(.int i1)])
    refine OwnGo.iloadN X0 hx (hb hby d8_6) rfl ?_
    show Go p e below _ T0 (mkF m 7 #[.val (.int i1), .val (.int f1), .val (.int t1), .val (.int y0)] [(.int t1), (.int i1)])
    refine OwnGo.ic_ge X0 hx (pc' := 15) (hb hby d8_7) (by decide) (by decide) (fun h7 => ?_) (fun h7 => ?_)
    ·
      show Go p e below _ T0 (mkF m 15 #[.val (.int i1), .val (.int f1), .val (.int t1), .val (.int y0)] [])
      refine OwnGo.iconst X0 hx (z := (1 : Int32)) (hb hby d8_15) (by decide) ?_
      show Go p e below _ T0 (mkF m 16 #[.val (.int i1), .val (.int f1), .val (.int t1), .val (.int y0)] [(.int (1 : Int32))])
      exact OwnGo.retB X0 hx hlk (z' := (1 : Int32)) hret (hb hby d8_16) rfl ⟨by simp only [own_ok, h2, h7, not_true_eq_false, not_false_eq_true, false_and, and_false, and_true, true_and, true_or, or_true, false_or, or_false, if_true, if_false], e0, rfl⟩ (by decide) (by decide)
    ·
      show Go p e below _ T0 (mkF m 10 #[.val (.int i1), .val (.int f1), .val (.int t1), .val (.int y0)] [])
      refine OwnGo.iloadN X0 hx (hb hby d8_10) rfl ?_
      show Go p e below _ T0 (mkF m 11 #[.val (.int i1), .val (.int f1), .val (.int t1), .val (.int y0)] [(.int y0)])
      refine OwnGo.callS X0 hx hZ hown (y := (⟨"com/example/crossbook/crossbook/cli/IntegerTextIsDigitsPinLaw", "dig", "(C)Z"⟩ : MethodName)) (hw _ (List.mem_of_getElem? (i := 61) rfl)) (hw _ (List.mem_of_getElem? (i := 62) rfl)) (hw _ (List.mem_of_getElem? (i := 2) rfl)) (hw _ (List.mem_of_getElem? (i := 63) rfl)) (by decide) e0 (as := [(.int y0)]) (rmDIG l Z a0 hw y0 h0) (W := 0) (by decide) (by decide) (by decide) (by decide) (by rw [hml]; rfl) (lenOf own_pd0 rfl) (rest := []) rfl rfl (hb hby d8_11) fun v1 T1 L1 X1 q1 => ?_
      obtain ⟨rfl, e1, rfl⟩ := q1
      rw [List.append_nil] at X1
      show Go p e below _ T1 (mkF m 14 #[.val (.int i1), .val (.int f1), .val (.int t1), .val (.int y0)] [(.int (own_dig y0))])
      exact OwnGo.retB X1 hx hlk (z' := (own_dig y0)) hret (hb hby d8_14) (own_nd _) ⟨by simp only [own_ok, h2, h7, not_true_eq_false, not_false_eq_true, false_and, and_false, and_true, true_and, true_or, or_true, false_or, or_false, if_true, if_false], e1, rfl⟩ (by decide) (by decide)
theorem d12_0 : decode jdk_52_method_3_code 0 = .ok (.iload_n 0, 1) := by decide +kernel
theorem d12_1 : decode jdk_52_method_3_code 1 = .ok (.ifCond .ge 11, 3) := by decide +kernel
theorem d12_12 : decode jdk_52_method_3_code 12 = .ok (.iload_n 0, 1) := by decide +kernel
theorem d12_13 : decode jdk_52_method_3_code 13 = .ok (.ldc 20, 2) := by decide +kernel
theorem d12_15 : decode jdk_52_method_3_code 15 = .ok (.if_icmp .lt 40, 3) := by decide +kernel
theorem d12_55 : decode jdk_52_method_3_code 55 = .ok (.iload_n 0, 1) := by decide +kernel
theorem d12_56 : decode jdk_52_method_3_code 56 = .ok (.iconst 1, 1) := by decide +kernel
theorem d12_57 : decode jdk_52_method_3_code 57 = .ok (.ishl, 1) := by decide +kernel
theorem d12_58 : decode jdk_52_method_3_code 58 = .ok (.ireturn, 1) := by decide +kernel
theorem own_ef_rmNBL (m : MethodId) (x0 : Int32) : entryFrame m [(.int x0)].toArray 1 = mkF m 0 #[.val (.int x0)] [] := by first | (simp [entryFrame, mkF, argsToLocals, Value.category]; done) | rfl
set_option maxRecDepth 65536 in
set_option maxHeartbeats 40000000 in
theorem rmNBL (l : Launch) (Z : State) (a0 : Array Value) (hw : ∀ d ∈ tables_1, d.before a0 Z = true)  (h0 : Heap)  :
    Con l Z (⟨"java/lang/StringUTF16", "newBytesLength", "(I)I"⟩ : MethodName) jdk_52_method_3_code 1 (some .int) ({ frames := 0, cells := 0, slots := 0, locals := 0 } : Room) [(.int (4 : Int32))] h0 (Ret (some (.int 8)) h0) := by
  refine OwnGo.Con.of (plainFor_of_name own_pn1) (Ls0 := #[.val (.int (4 : Int32))]) (fun m => own_ef_rmNBL m (4 : Int32)) ?_
  intro p e s m below meth c T0 X0 hx hZ hby hml hown hnm hret hlk e0
  show Go p e below _ T0 (mkF m 0 #[.val (.int (4 : Int32))] [])
  refine OwnGo.iloadN X0 hx (hb hby d12_0) rfl ?_
  show Go p e below _ T0 (mkF m 1 #[.val (.int (4 : Int32))] [(.int (4 : Int32))])
  refine OwnGo.if_ge X0 hx (pc' := 12) (hb hby d12_1) (by decide) (by decide) (fun _ => ?_) (fun q => absurd q (by decide))
  show Go p e below _ T0 (mkF m 12 #[.val (.int (4 : Int32))] [])
  refine OwnGo.iloadN X0 hx (hb hby d12_12) rfl ?_
  show Go p e below _ T0 (mkF m 13 #[.val (.int (4 : Int32))] [(.int (4 : Int32))])
  refine OwnGo.ldcInt X0 hx hZ hown (v := (1073741823 : Int32)) (hw _ (List.mem_of_getElem? (i := 51) rfl)) (hb hby d12_13) ?_
  show Go p e below _ T0 (mkF m 15 #[.val (.int (4 : Int32))] [(.int (1073741823 : Int32)), (.int (4 : Int32))])
  refine OwnGo.ic_lt X0 hx (pc' := 55) (hb hby d12_15) (by decide) (by decide) (fun _ => ?_) (fun q => absurd q (by decide))
  show Go p e below _ T0 (mkF m 55 #[.val (.int (4 : Int32))] [])
  refine OwnGo.iloadN X0 hx (hb hby d12_55) rfl ?_
  show Go p e below _ T0 (mkF m 56 #[.val (.int (4 : Int32))] [(.int (4 : Int32))])
  refine OwnGo.iconst X0 hx (z := (1 : Int32)) (hb hby d12_56) (by decide) ?_
  show Go p e below _ T0 (mkF m 57 #[.val (.int (4 : Int32))] [(.int (1 : Int32)), (.int (4 : Int32))])
  refine OwnGo.ishl X0 hx (z := (8 : Int32)) (hb hby d12_57) (by decide) ?_
  show Go p e below _ T0 (mkF m 58 #[.val (.int (4 : Int32))] [(.int (8 : Int32))])
  exact OwnGo.retI X0 hx hlk hret (hb hby d12_58) ⟨rfl, e0, rfl⟩ (by decide) (by decide)
theorem d11_0 : decode jdk_52_method_2_code 0 = .ok (.iload_n 0, 1) := by decide +kernel
theorem d11_1 : decode jdk_52_method_2_code 1 = .ok (.invokestatic 11, 3) := by decide +kernel
theorem d11_4 : decode jdk_52_method_2_code 4 = .ok (.newarray .byte, 2) := by decide +kernel
theorem d11_6 : decode jdk_52_method_2_code 6 = .ok (.areturn, 1) := by decide +kernel
theorem own_ef_rmNBF (m : MethodId) (x0 : Int32) : entryFrame m [(.int x0)].toArray 1 = mkF m 0 #[.val (.int x0)] [] := by first | (simp [entryFrame, mkF, argsToLocals, Value.category]; done) | rfl
set_option maxRecDepth 65536 in
set_option maxHeartbeats 40000000 in
theorem rmNBF (l : Launch) (Z : State) (a0 : Array Value) (hw : ∀ d ∈ tables_1, d.before a0 Z = true)  (h0 : Heap) (n0 : Nat) (Z0 : n0 ≤ h0.size) :
    Con l Z (⟨"java/lang/StringUTF16", "newBytesFor", "(I)[B"⟩ : MethodName) jdk_52_method_2_code 1 (some (.array .byte)) ({ frames := 1, cells := 1, slots := 8, locals := 12 } : Room) [(.int (4 : Int32))] h0 (fun v h L => ∃ r kr, v = some (.ref r) ∧ Fr n0 L ∧ h0.size ≤ r ∧ n0 ≤ r ∧ Keep h0 h [] ∧ Arv Z h r kr .byte (8 : Int32) [(.int (0 : Int32)), (.int (0 : Int32)), (.int (0 : Int32)), (.int (0 : Int32)), (.int (0 : Int32)), (.int (0 : Int32)), (.int (0 : Int32)), (.int (0 : Int32))] (.int (0 : Int32))) := by
  refine OwnGo.Con.of (plainFor_of_name own_pn1) (Ls0 := #[.val (.int (4 : Int32))]) (fun m => own_ef_rmNBF m (4 : Int32)) ?_
  intro p e s m below meth c T0 X0 hx hZ hby hml hown hnm hret hlk e0
  show Go p e below _ T0 (mkF m 0 #[.val (.int (4 : Int32))] [])
  refine OwnGo.iloadN X0 hx (hb hby d11_0) rfl ?_
  show Go p e below _ T0 (mkF m 1 #[.val (.int (4 : Int32))] [(.int (4 : Int32))])
  refine OwnGo.callS X0 hx hZ hown (y := (⟨"java/lang/StringUTF16", "newBytesLength", "(I)I"⟩ : MethodName)) (hw _ (List.mem_of_getElem? (i := 48) rfl)) (hw _ (List.mem_of_getElem? (i := 49) rfl)) (hw _ (List.mem_of_getElem? (i := 22) rfl)) (hw _ (List.mem_of_getElem? (i := 50) rfl)) (by decide) e0 (as := [(.int (4 : Int32))]) (rmNBL l Z a0 hw h0) (W := 0) (by decide) (by decide) (by decide) (by decide) (by rw [hml]; rfl) (lenOf own_pd1 rfl) (rest := []) rfl rfl (hb hby d11_1) fun v1 T1 L1 X1 q1 => ?_
  obtain ⟨rfl, e1, rfl⟩ := q1
  rw [List.append_nil] at X1
  show Go p e below _ T1 (mkF m 4 #[.val (.int (4 : Int32))] [(.int (8 : Int32))])
  refine OwnGo.newP X1 hx hZ (aty := .byte) (hw _ (List.mem_of_getElem? (i := 24) rfl)) e1 (hb hby d11_4) (n := (8 : Int32)) (by decide) (cap := 8) (by decide) (by decide) (by decide) (by decide) fun T2 h2 k2 b2 g2 X2 e2 E2 A2 => ?_
  have gb2 : n0 ≤ b2 := Nat.le_trans Z0 (Nat.le_of_eq g2.symm)
  have gz2 : h0.size ≤ b2 := Nat.le_trans (Keep.refl h0 []).1 (Nat.le_of_eq g2.symm)
  have Z2 := Nat.le_trans Z0 E2.1
  have K2_ := (Keep.refl h0 []).ext E2
  have V2 : Arv Z h2 b2 k2 .byte (8 : Int32) [(.int (0 : Int32)), (.int (0 : Int32)), (.int (0 : Int32)), (.int (0 : Int32)), (.int (0 : Int32)), (.int (0 : Int32)), (.int (0 : Int32)), (.int (0 : Int32))] (.int (0 : Int32)) := (Arv.new A2 (by decide)).pad (pad_rep [] _ 8)
  show Go p e below _ T2 (mkF m 6 #[.val (.int (4 : Int32))] [(.ref b2)])
  refine OwnGo.retA X2 hx hlk rfl rfl hret (hb hby d11_6) ?_ (by decide) (by decide)
  rw [e2]
  exact ⟨b2, k2, rfl, Fr.nil n0, gz2, gb2, K2_, V2⟩
theorem d13_0 : decode jdk_52_method_4_code 0 = .ok (.getstatic 44, 3) := by decide +kernel
theorem d13_3 : decode jdk_52_method_4_code 3 = .ok (.ifCond .ne 25, 3) := by decide +kernel
theorem d13_28 : decode jdk_52_method_4_code 28 = .ok (.iload_n 1, 1) := by decide +kernel
theorem d13_29 : decode jdk_52_method_4_code 29 = .ok (.iconst 1, 1) := by decide +kernel
theorem d13_30 : decode jdk_52_method_4_code 30 = .ok (.ishl, 1) := by decide +kernel
theorem d13_31 : decode jdk_52_method_4_code 31 = .ok (.istore_n 1, 1) := by decide +kernel
theorem d13_32 : decode jdk_52_method_4_code 32 = .ok (.aload_n 0, 1) := by decide +kernel
theorem d13_33 : decode jdk_52_method_4_code 33 = .ok (.iload_n 1, 1) := by decide +kernel
theorem d13_34 : decode jdk_52_method_4_code 34 = .ok (.iinc 1 1, 3) := by decide +kernel
theorem d13_37 : decode jdk_52_method_4_code 37 = .ok (.iload_n 2, 1) := by decide +kernel
theorem d13_38 : decode jdk_52_method_4_code 38 = .ok (.getstatic 59, 3) := by decide +kernel
theorem d13_41 : decode jdk_52_method_4_code 41 = .ok (.ishr, 1) := by decide +kernel
theorem d13_42 : decode jdk_52_method_4_code 42 = .ok (.i2b, 1) := by decide +kernel
theorem d13_43 : decode jdk_52_method_4_code 43 = .ok (.bastore, 1) := by decide +kernel
theorem d13_44 : decode jdk_52_method_4_code 44 = .ok (.aload_n 0, 1) := by decide +kernel
theorem d13_45 : decode jdk_52_method_4_code 45 = .ok (.iload_n 1, 1) := by decide +kernel
theorem d13_46 : decode jdk_52_method_4_code 46 = .ok (.iload_n 2, 1) := by decide +kernel
theorem d13_47 : decode jdk_52_method_4_code 47 = .ok (.getstatic 63, 3) := by decide +kernel
theorem d13_50 : decode jdk_52_method_4_code 50 = .ok (.ishr, 1) := by decide +kernel
theorem d13_51 : decode jdk_52_method_4_code 51 = .ok (.i2b, 1) := by decide +kernel
theorem d13_52 : decode jdk_52_method_4_code 52 = .ok (.bastore, 1) := by decide +kernel
theorem d13_53 : decode jdk_52_method_4_code 53 = .ok (.return_, 1) := by decide +kernel
theorem own_ef_rmPUT0 (m : MethodId) (x0 : Addr) (x1 : Int32) (x2 : Int32) : entryFrame m [(.ref x0), (.int x1), (.int x2)].toArray 3 = mkF m 0 #[.val (.ref x0), .val (.int x1), .val (.int x2)] [] := by first | (simp [entryFrame, mkF, argsToLocals, Value.category]; done) | rfl
set_option maxRecDepth 65536 in
set_option maxHeartbeats 40000000 in
theorem rmPUT0 (l : Launch) (Z : State) (a0 : Array Value) (hw : ∀ d ∈ tables_1, d.before a0 Z = true) (r : Addr) (kr : ClassId) (w0 w1 w2 w3 w4 w5 w6 w7 y0 : Int32) (h0 : Heap) (n0 : Nat) (Z0 : n0 ≤ h0.size) (O1 : Old Z n0 h0) (gr : n0 ≤ r) (V1 : Arv Z h0 r kr .byte (8 : Int32) [(.int w0), (.int w1), (.int w2), (.int w3), (.int w4), (.int w5), (.int w6), (.int w7)] (.int (0 : Int32))) (SA : Sta Z Z.heap "java/lang/StringUTF16" "$assertionsDisabled" "Z" (.int (1 : Int32))) (SH : Sta Z Z.heap "java/lang/StringUTF16" "HI_BYTE_SHIFT" "I" (.int (0 : Int32))) (SLo : Sta Z Z.heap "java/lang/StringUTF16" "LO_BYTE_SHIFT" "I" (.int (8 : Int32))) :
    Con l Z (⟨"java/lang/StringUTF16", "putChar", "([BII)V"⟩ : MethodName) jdk_52_method_4_code 3 none ({ frames := 0, cells := 0, slots := 0, locals := 0 } : Room) [(.ref r), (.int (0 : Int32)), (.int y0)] h0 (fun v h L => v = none ∧ Fr n0 L ∧ Keep h0 h [r] ∧ Arv Z h r kr .byte (8 : Int32) [(.int ((y0 >>> ((0 : Int32) &&& 31)).toInt8.toInt32)), (.int ((y0 >>> ((8 : Int32) &&& 31)).toInt8.toInt32)), (.int w2), (.int w3), (.int w4), (.int w5), (.int w6), (.int w7)] (.int (0 : Int32))) := by
  refine OwnGo.Con.of (plainFor_of_name own_pn1) (Ls0 := #[.val (.ref r), .val (.int (0 : Int32)), .val (.int y0)]) (fun m => own_ef_rmPUT0 m r (0 : Int32) y0) ?_
  intro p e s m below meth c T0 X0 hx hZ hby hml hown hnm hret hlk e0
  show Go p e below _ T0 (mkF m 0 #[.val (.ref r), .val (.int (0 : Int32)), .val (.int y0)] [])
  refine OwnGo.getS X0 hx hZ hown (host := "") (Or.inl (hw _ (List.mem_of_getElem? (i := 55) rfl))) Via.refl e0 (SA.ext O1.2) (hb hby d13_0) fun T1 X1 e1 => ?_
  show Go p e below _ T1 (mkF m 3 #[.val (.ref r), .val (.int (0 : Int32)), .val (.int y0)] [(.int (1 : Int32))])
  refine OwnGo.if_ne X1 hx (pc' := 28) (hb hby d13_3) (by decide) (by decide) (fun _ => ?_) (fun q => absurd q (by decide))
  show Go p e below _ T1 (mkF m 28 #[.val (.ref r), .val (.int (0 : Int32)), .val (.int y0)] [])
  refine OwnGo.iloadN X1 hx (hb hby d13_28) rfl ?_
  show Go p e below _ T1 (mkF m 29 #[.val (.ref r), .val (.int (0 : Int32)), .val (.int y0)] [(.int (0 : Int32))])
  refine OwnGo.iconst X1 hx (z := (1 : Int32)) (hb hby d13_29) (by decide) ?_
  show Go p e below _ T1 (mkF m 30 #[.val (.ref r), .val (.int (0 : Int32)), .val (.int y0)] [(.int (1 : Int32)), (.int (0 : Int32))])
  refine OwnGo.ishl X1 hx (z := (0 : Int32)) (hb hby d13_30) (by decide) ?_
  show Go p e below _ T1 (mkF m 31 #[.val (.ref r), .val (.int (0 : Int32)), .val (.int y0)] [(.int (0 : Int32))])
  refine OwnGo.istoreN X1 hx (hb hby d13_31) (Ls' := #[.val (.ref r), .val (.int (0 : Int32)), .val (.int y0)]) rfl ?_
  show Go p e below _ T1 (mkF m 32 #[.val (.ref r), .val (.int (0 : Int32)), .val (.int y0)] [])
  refine OwnGo.aloadN X1 hx (hb hby d13_32) rfl rfl ?_
  show Go p e below _ T1 (mkF m 33 #[.val (.ref r), .val (.int (0 : Int32)), .val (.int y0)] [(.ref r)])
  refine OwnGo.iloadN X1 hx (hb hby d13_33) rfl ?_
  show Go p e below _ T1 (mkF m 34 #[.val (.ref r), .val (.int (0 : Int32)), .val (.int y0)] [(.int (0 : Int32)), (.ref r)])
  refine OwnGo.iinc X1 hx (hb hby d13_34) rfl (z := (1 : Int32)) (by decide) (Ls' := #[.val (.ref r), .val (.int (1 : Int32)), .val (.int y0)]) rfl ?_
  show Go p e below _ T1 (mkF m 37 #[.val (.ref r), .val (.int (1 : Int32)), .val (.int y0)] [(.int (0 : Int32)), (.ref r)])
  refine OwnGo.iloadN X1 hx (hb hby d13_37) rfl ?_
  show Go p e below _ T1 (mkF m 38 #[.val (.ref r), .val (.int (1 : Int32)), .val (.int y0)] [(.int y0), (.int (0 : Int32)), (.ref r)])
  refine OwnGo.getS X1 hx hZ hown (host := "") (Or.inl (hw _ (List.mem_of_getElem? (i := 56) rfl))) Via.refl e1 (SH.ext O1.2) (hb hby d13_38) fun T2 X2 e2 => ?_
  show Go p e below _ T2 (mkF m 41 #[.val (.ref r), .val (.int (1 : Int32)), .val (.int y0)] [(.int (0 : Int32)), (.int y0), (.int (0 : Int32)), (.ref r)])
  refine OwnGo.ishr X2 hx (hb hby d13_41) rfl ?_
  show Go p e below _ T2 (mkF m 42 #[.val (.ref r), .val (.int (1 : Int32)), .val (.int y0)] [(.int (y0 >>> ((0 : Int32) &&& 31))), (.int (0 : Int32)), (.ref r)])
  refine OwnGo.i2b X2 hx (hb hby d13_42) rfl ?_
  show Go p e below _ T2 (mkF m 43 #[.val (.ref r), .val (.int (1 : Int32)), .val (.int y0)] [(.int ((y0 >>> ((0 : Int32) &&& 31)).toInt8.toInt32)), (.int (0 : Int32)), (.ref r)])
  obtain ⟨cl3, Ar3, Kq3, Sz3, Nn3, Hh3, Gg3⟩ := (id V1)
  have hin3 : ¬ ((0 : Int32) < 0 ∨ cl3.slots.size ≤ ((0 : Int32)).toNatClampNeg) := inb_of Sz3 ⟨by decide, by decide⟩
  refine OwnGo.stB X2 hx hZ e2 Ar3 hin3 (hb hby d13_43) fun T3 h3 X3 e3 W3 => ?_
  have O1_c3 := O1.wr W3 gr
  have Z3 := Nat.le_trans Z0 (Keep.of_wr W3).1
  have K3_ := (Keep.refl h0 [r]).wr W3 (Or.inl (List.mem_of_getElem? (i := 0) rfl))
  have N3_ := Fr.snoc X3 (Fr.nil n0) gr
  have V3 : Arv Z h3 r kr .byte (8 : Int32) [(.int (nar .byte ((y0 >>> ((0 : Int32) &&& 31)).toInt8.toInt32))), (.int w1), (.int w2), (.int w3), (.int w4), (.int w5), (.int w6), (.int w7)] (.int (0 : Int32)) := Arv.set Ar3 Kq3 Sz3 Nn3 Hh3 Gg3 (fits_nar_byte _) W3 0 rfl (Nat.le_of_ble_eq_true rfl)
  rw [own_nb] at V3
  show Go p e below _ T3 (mkF m 44 #[.val (.ref r), .val (.int (1 : Int32)), .val (.int y0)] [])
  refine OwnGo.aloadN X3 hx (hb hby d13_44) rfl rfl ?_
  show Go p e below _ T3 (mkF m 45 #[.val (.ref r), .val (.int (1 : Int32)), .val (.int y0)] [(.ref r)])
  refine OwnGo.iloadN X3 hx (hb hby d13_45) rfl ?_
  show Go p e below _ T3 (mkF m 46 #[.val (.ref r), .val (.int (1 : Int32)), .val (.int y0)] [(.int (1 : Int32)), (.ref r)])
  refine OwnGo.iloadN X3 hx (hb hby d13_46) rfl ?_
  show Go p e below _ T3 (mkF m 47 #[.val (.ref r), .val (.int (1 : Int32)), .val (.int y0)] [(.int y0), (.int (1 : Int32)), (.ref r)])
  refine OwnGo.getS X3 hx hZ hown (host := "") (Or.inl (hw _ (List.mem_of_getElem? (i := 57) rfl))) Via.refl e3 (SLo.ext O1_c3.2) (hb hby d13_47) fun T4 X4 e4 => ?_
  show Go p e below _ T4 (mkF m 50 #[.val (.ref r), .val (.int (1 : Int32)), .val (.int y0)] [(.int (8 : Int32)), (.int y0), (.int (1 : Int32)), (.ref r)])
  refine OwnGo.ishr X4 hx (hb hby d13_50) rfl ?_
  show Go p e below _ T4 (mkF m 51 #[.val (.ref r), .val (.int (1 : Int32)), .val (.int y0)] [(.int (y0 >>> ((8 : Int32) &&& 31))), (.int (1 : Int32)), (.ref r)])
  refine OwnGo.i2b X4 hx (hb hby d13_51) rfl ?_
  show Go p e below _ T4 (mkF m 52 #[.val (.ref r), .val (.int (1 : Int32)), .val (.int y0)] [(.int ((y0 >>> ((8 : Int32) &&& 31)).toInt8.toInt32)), (.int (1 : Int32)), (.ref r)])
  obtain ⟨cl5, Ar5, Kq5, Sz5, Nn5, Hh5, Gg5⟩ := (id V3)
  have hin5 : ¬ ((1 : Int32) < 0 ∨ cl5.slots.size ≤ ((1 : Int32)).toNatClampNeg) := inb_of Sz5 ⟨by decide, by decide⟩
  refine OwnGo.stB X4 hx hZ e4 Ar5 hin5 (hb hby d13_52) fun T5 h5 X5 e5 W5 => ?_
  have O1_c5 := O1_c3.wr W5 gr
  have Z5 := Nat.le_trans Z3 (Keep.of_wr W5).1
  have K5_ := K3_.wr W5 (Or.inl (List.mem_of_getElem? (i := 0) rfl))
  have N5_ := Fr.snoc X5 N3_ gr
  have V5 : Arv Z h5 r kr .byte (8 : Int32) [(.int ((y0 >>> ((0 : Int32) &&& 31)).toInt8.toInt32)), (.int (nar .byte ((y0 >>> ((8 : Int32) &&& 31)).toInt8.toInt32))), (.int w2), (.int w3), (.int w4), (.int w5), (.int w6), (.int w7)] (.int (0 : Int32)) := Arv.set Ar5 Kq5 Sz5 Nn5 Hh5 Gg5 (fits_nar_byte _) W5 1 rfl (Nat.le_of_ble_eq_true rfl)
  rw [own_nb] at V5
  show Go p e below _ T5 (mkF m 53 #[.val (.ref r), .val (.int (1 : Int32)), .val (.int y0)] [])
  refine OwnGo.retV X5 hx hlk hret (hb hby d13_53) ?_ (by decide) (by decide)
  rw [e5]
  exact ⟨rfl, N5_, K5_, V5⟩
theorem own_ef_rmPUT1 (m : MethodId) (x0 : Addr) (x1 : Int32) (x2 : Int32) : entryFrame m [(.ref x0), (.int x1), (.int x2)].toArray 3 = mkF m 0 #[.val (.ref x0), .val (.int x1), .val (.int x2)] [] := by first | (simp [entryFrame, mkF, argsToLocals, Value.category]; done) | rfl
set_option maxRecDepth 65536 in
set_option maxHeartbeats 40000000 in
theorem rmPUT1 (l : Launch) (Z : State) (a0 : Array Value) (hw : ∀ d ∈ tables_1, d.before a0 Z = true) (r : Addr) (kr : ClassId) (w0 w1 w2 w3 w4 w5 w6 w7 y0 : Int32) (h0 : Heap) (n0 : Nat) (Z0 : n0 ≤ h0.size) (O1 : Old Z n0 h0) (gr : n0 ≤ r) (V1 : Arv Z h0 r kr .byte (8 : Int32) [(.int w0), (.int w1), (.int w2), (.int w3), (.int w4), (.int w5), (.int w6), (.int w7)] (.int (0 : Int32))) (SA : Sta Z Z.heap "java/lang/StringUTF16" "$assertionsDisabled" "Z" (.int (1 : Int32))) (SH : Sta Z Z.heap "java/lang/StringUTF16" "HI_BYTE_SHIFT" "I" (.int (0 : Int32))) (SLo : Sta Z Z.heap "java/lang/StringUTF16" "LO_BYTE_SHIFT" "I" (.int (8 : Int32))) :
    Con l Z (⟨"java/lang/StringUTF16", "putChar", "([BII)V"⟩ : MethodName) jdk_52_method_4_code 3 none ({ frames := 0, cells := 0, slots := 0, locals := 0 } : Room) [(.ref r), (.int (1 : Int32)), (.int y0)] h0 (fun v h L => v = none ∧ Fr n0 L ∧ Keep h0 h [r] ∧ Arv Z h r kr .byte (8 : Int32) [(.int w0), (.int w1), (.int ((y0 >>> ((0 : Int32) &&& 31)).toInt8.toInt32)), (.int ((y0 >>> ((8 : Int32) &&& 31)).toInt8.toInt32)), (.int w4), (.int w5), (.int w6), (.int w7)] (.int (0 : Int32))) := by
  refine OwnGo.Con.of (plainFor_of_name own_pn1) (Ls0 := #[.val (.ref r), .val (.int (1 : Int32)), .val (.int y0)]) (fun m => own_ef_rmPUT1 m r (1 : Int32) y0) ?_
  intro p e s m below meth c T0 X0 hx hZ hby hml hown hnm hret hlk e0
  show Go p e below _ T0 (mkF m 0 #[.val (.ref r), .val (.int (1 : Int32)), .val (.int y0)] [])
  refine OwnGo.getS X0 hx hZ hown (host := "") (Or.inl (hw _ (List.mem_of_getElem? (i := 55) rfl))) Via.refl e0 (SA.ext O1.2) (hb hby d13_0) fun T1 X1 e1 => ?_
  show Go p e below _ T1 (mkF m 3 #[.val (.ref r), .val (.int (1 : Int32)), .val (.int y0)] [(.int (1 : Int32))])
  refine OwnGo.if_ne X1 hx (pc' := 28) (hb hby d13_3) (by decide) (by decide) (fun _ => ?_) (fun q => absurd q (by decide))
  show Go p e below _ T1 (mkF m 28 #[.val (.ref r), .val (.int (1 : Int32)), .val (.int y0)] [])
  refine OwnGo.iloadN X1 hx (hb hby d13_28) rfl ?_
  show Go p e below _ T1 (mkF m 29 #[.val (.ref r), .val (.int (1 : Int32)), .val (.int y0)] [(.int (1 : Int32))])
  refine OwnGo.iconst X1 hx (z := (1 : Int32)) (hb hby d13_29) (by decide) ?_
  show Go p e below _ T1 (mkF m 30 #[.val (.ref r), .val (.int (1 : Int32)), .val (.int y0)] [(.int (1 : Int32)), (.int (1 : Int32))])
  refine OwnGo.ishl X1 hx (z := (2 : Int32)) (hb hby d13_30) (by decide) ?_
  show Go p e below _ T1 (mkF m 31 #[.val (.ref r), .val (.int (1 : Int32)), .val (.int y0)] [(.int (2 : Int32))])
  refine OwnGo.istoreN X1 hx (hb hby d13_31) (Ls' := #[.val (.ref r), .val (.int (2 : Int32)), .val (.int y0)]) rfl ?_
  show Go p e below _ T1 (mkF m 32 #[.val (.ref r), .val (.int (2 : Int32)), .val (.int y0)] [])
  refine OwnGo.aloadN X1 hx (hb hby d13_32) rfl rfl ?_
  show Go p e below _ T1 (mkF m 33 #[.val (.ref r), .val (.int (2 : Int32)), .val (.int y0)] [(.ref r)])
  refine OwnGo.iloadN X1 hx (hb hby d13_33) rfl ?_
  show Go p e below _ T1 (mkF m 34 #[.val (.ref r), .val (.int (2 : Int32)), .val (.int y0)] [(.int (2 : Int32)), (.ref r)])
  refine OwnGo.iinc X1 hx (hb hby d13_34) rfl (z := (3 : Int32)) (by decide) (Ls' := #[.val (.ref r), .val (.int (3 : Int32)), .val (.int y0)]) rfl ?_
  show Go p e below _ T1 (mkF m 37 #[.val (.ref r), .val (.int (3 : Int32)), .val (.int y0)] [(.int (2 : Int32)), (.ref r)])
  refine OwnGo.iloadN X1 hx (hb hby d13_37) rfl ?_
  show Go p e below _ T1 (mkF m 38 #[.val (.ref r), .val (.int (3 : Int32)), .val (.int y0)] [(.int y0), (.int (2 : Int32)), (.ref r)])
  refine OwnGo.getS X1 hx hZ hown (host := "") (Or.inl (hw _ (List.mem_of_getElem? (i := 56) rfl))) Via.refl e1 (SH.ext O1.2) (hb hby d13_38) fun T2 X2 e2 => ?_
  show Go p e below _ T2 (mkF m 41 #[.val (.ref r), .val (.int (3 : Int32)), .val (.int y0)] [(.int (0 : Int32)), (.int y0), (.int (2 : Int32)), (.ref r)])
  refine OwnGo.ishr X2 hx (hb hby d13_41) rfl ?_
  show Go p e below _ T2 (mkF m 42 #[.val (.ref r), .val (.int (3 : Int32)), .val (.int y0)] [(.int (y0 >>> ((0 : Int32) &&& 31))), (.int (2 : Int32)), (.ref r)])
  refine OwnGo.i2b X2 hx (hb hby d13_42) rfl ?_
  show Go p e below _ T2 (mkF m 43 #[.val (.ref r), .val (.int (3 : Int32)), .val (.int y0)] [(.int ((y0 >>> ((0 : Int32) &&& 31)).toInt8.toInt32)), (.int (2 : Int32)), (.ref r)])
  obtain ⟨cl3, Ar3, Kq3, Sz3, Nn3, Hh3, Gg3⟩ := (id V1)
  have hin3 : ¬ ((2 : Int32) < 0 ∨ cl3.slots.size ≤ ((2 : Int32)).toNatClampNeg) := inb_of Sz3 ⟨by decide, by decide⟩
  refine OwnGo.stB X2 hx hZ e2 Ar3 hin3 (hb hby d13_43) fun T3 h3 X3 e3 W3 => ?_
  have O1_c3 := O1.wr W3 gr
  have Z3 := Nat.le_trans Z0 (Keep.of_wr W3).1
  have K3_ := (Keep.refl h0 [r]).wr W3 (Or.inl (List.mem_of_getElem? (i := 0) rfl))
  have N3_ := Fr.snoc X3 (Fr.nil n0) gr
  have V3 : Arv Z h3 r kr .byte (8 : Int32) [(.int w0), (.int w1), (.int (nar .byte ((y0 >>> ((0 : Int32) &&& 31)).toInt8.toInt32))), (.int w3), (.int w4), (.int w5), (.int w6), (.int w7)] (.int (0 : Int32)) := Arv.set Ar3 Kq3 Sz3 Nn3 Hh3 Gg3 (fits_nar_byte _) W3 2 rfl (Nat.le_of_ble_eq_true rfl)
  rw [own_nb] at V3
  show Go p e below _ T3 (mkF m 44 #[.val (.ref r), .val (.int (3 : Int32)), .val (.int y0)] [])
  refine OwnGo.aloadN X3 hx (hb hby d13_44) rfl rfl ?_
  show Go p e below _ T3 (mkF m 45 #[.val (.ref r), .val (.int (3 : Int32)), .val (.int y0)] [(.ref r)])
  refine OwnGo.iloadN X3 hx (hb hby d13_45) rfl ?_
  show Go p e below _ T3 (mkF m 46 #[.val (.ref r), .val (.int (3 : Int32)), .val (.int y0)] [(.int (3 : Int32)), (.ref r)])
  refine OwnGo.iloadN X3 hx (hb hby d13_46) rfl ?_
  show Go p e below _ T3 (mkF m 47 #[.val (.ref r), .val (.int (3 : Int32)), .val (.int y0)] [(.int y0), (.int (3 : Int32)), (.ref r)])
  refine OwnGo.getS X3 hx hZ hown (host := "") (Or.inl (hw _ (List.mem_of_getElem? (i := 57) rfl))) Via.refl e3 (SLo.ext O1_c3.2) (hb hby d13_47) fun T4 X4 e4 => ?_
  show Go p e below _ T4 (mkF m 50 #[.val (.ref r), .val (.int (3 : Int32)), .val (.int y0)] [(.int (8 : Int32)), (.int y0), (.int (3 : Int32)), (.ref r)])
  refine OwnGo.ishr X4 hx (hb hby d13_50) rfl ?_
  show Go p e below _ T4 (mkF m 51 #[.val (.ref r), .val (.int (3 : Int32)), .val (.int y0)] [(.int (y0 >>> ((8 : Int32) &&& 31))), (.int (3 : Int32)), (.ref r)])
  refine OwnGo.i2b X4 hx (hb hby d13_51) rfl ?_
  show Go p e below _ T4 (mkF m 52 #[.val (.ref r), .val (.int (3 : Int32)), .val (.int y0)] [(.int ((y0 >>> ((8 : Int32) &&& 31)).toInt8.toInt32)), (.int (3 : Int32)), (.ref r)])
  obtain ⟨cl5, Ar5, Kq5, Sz5, Nn5, Hh5, Gg5⟩ := (id V3)
  have hin5 : ¬ ((3 : Int32) < 0 ∨ cl5.slots.size ≤ ((3 : Int32)).toNatClampNeg) := inb_of Sz5 ⟨by decide, by decide⟩
  refine OwnGo.stB X4 hx hZ e4 Ar5 hin5 (hb hby d13_52) fun T5 h5 X5 e5 W5 => ?_
  have O1_c5 := O1_c3.wr W5 gr
  have Z5 := Nat.le_trans Z3 (Keep.of_wr W5).1
  have K5_ := K3_.wr W5 (Or.inl (List.mem_of_getElem? (i := 0) rfl))
  have N5_ := Fr.snoc X5 N3_ gr
  have V5 : Arv Z h5 r kr .byte (8 : Int32) [(.int w0), (.int w1), (.int ((y0 >>> ((0 : Int32) &&& 31)).toInt8.toInt32)), (.int (nar .byte ((y0 >>> ((8 : Int32) &&& 31)).toInt8.toInt32))), (.int w4), (.int w5), (.int w6), (.int w7)] (.int (0 : Int32)) := Arv.set Ar5 Kq5 Sz5 Nn5 Hh5 Gg5 (fits_nar_byte _) W5 3 rfl (Nat.le_of_ble_eq_true rfl)
  rw [own_nb] at V5
  show Go p e below _ T5 (mkF m 53 #[.val (.ref r), .val (.int (3 : Int32)), .val (.int y0)] [])
  refine OwnGo.retV X5 hx hlk hret (hb hby d13_53) ?_ (by decide) (by decide)
  rw [e5]
  exact ⟨rfl, N5_, K5_, V5⟩
theorem own_ef_rmPUT2 (m : MethodId) (x0 : Addr) (x1 : Int32) (x2 : Int32) : entryFrame m [(.ref x0), (.int x1), (.int x2)].toArray 3 = mkF m 0 #[.val (.ref x0), .val (.int x1), .val (.int x2)] [] := by first | (simp [entryFrame, mkF, argsToLocals, Value.category]; done) | rfl
set_option maxRecDepth 65536 in
set_option maxHeartbeats 40000000 in
theorem rmPUT2 (l : Launch) (Z : State) (a0 : Array Value) (hw : ∀ d ∈ tables_1, d.before a0 Z = true) (r : Addr) (kr : ClassId) (w0 w1 w2 w3 w4 w5 w6 w7 y0 : Int32) (h0 : Heap) (n0 : Nat) (Z0 : n0 ≤ h0.size) (O1 : Old Z n0 h0) (gr : n0 ≤ r) (V1 : Arv Z h0 r kr .byte (8 : Int32) [(.int w0), (.int w1), (.int w2), (.int w3), (.int w4), (.int w5), (.int w6), (.int w7)] (.int (0 : Int32))) (SA : Sta Z Z.heap "java/lang/StringUTF16" "$assertionsDisabled" "Z" (.int (1 : Int32))) (SH : Sta Z Z.heap "java/lang/StringUTF16" "HI_BYTE_SHIFT" "I" (.int (0 : Int32))) (SLo : Sta Z Z.heap "java/lang/StringUTF16" "LO_BYTE_SHIFT" "I" (.int (8 : Int32))) :
    Con l Z (⟨"java/lang/StringUTF16", "putChar", "([BII)V"⟩ : MethodName) jdk_52_method_4_code 3 none ({ frames := 0, cells := 0, slots := 0, locals := 0 } : Room) [(.ref r), (.int (2 : Int32)), (.int y0)] h0 (fun v h L => v = none ∧ Fr n0 L ∧ Keep h0 h [r] ∧ Arv Z h r kr .byte (8 : Int32) [(.int w0), (.int w1), (.int w2), (.int w3), (.int ((y0 >>> ((0 : Int32) &&& 31)).toInt8.toInt32)), (.int ((y0 >>> ((8 : Int32) &&& 31)).toInt8.toInt32)), (.int w6), (.int w7)] (.int (0 : Int32))) := by
  refine OwnGo.Con.of (plainFor_of_name own_pn1) (Ls0 := #[.val (.ref r), .val (.int (2 : Int32)), .val (.int y0)]) (fun m => own_ef_rmPUT2 m r (2 : Int32) y0) ?_
  intro p e s m below meth c T0 X0 hx hZ hby hml hown hnm hret hlk e0
  show Go p e below _ T0 (mkF m 0 #[.val (.ref r), .val (.int (2 : Int32)), .val (.int y0)] [])
  refine OwnGo.getS X0 hx hZ hown (host := "") (Or.inl (hw _ (List.mem_of_getElem? (i := 55) rfl))) Via.refl e0 (SA.ext O1.2) (hb hby d13_0) fun T1 X1 e1 => ?_
  show Go p e below _ T1 (mkF m 3 #[.val (.ref r), .val (.int (2 : Int32)), .val (.int y0)] [(.int (1 : Int32))])
  refine OwnGo.if_ne X1 hx (pc' := 28) (hb hby d13_3) (by decide) (by decide) (fun _ => ?_) (fun q => absurd q (by decide))
  show Go p e below _ T1 (mkF m 28 #[.val (.ref r), .val (.int (2 : Int32)), .val (.int y0)] [])
  refine OwnGo.iloadN X1 hx (hb hby d13_28) rfl ?_
  show Go p e below _ T1 (mkF m 29 #[.val (.ref r), .val (.int (2 : Int32)), .val (.int y0)] [(.int (2 : Int32))])
  refine OwnGo.iconst X1 hx (z := (1 : Int32)) (hb hby d13_29) (by decide) ?_
  show Go p e below _ T1 (mkF m 30 #[.val (.ref r), .val (.int (2 : Int32)), .val (.int y0)] [(.int (1 : Int32)), (.int (2 : Int32))])
  refine OwnGo.ishl X1 hx (z := (4 : Int32)) (hb hby d13_30) (by decide) ?_
  show Go p e below _ T1 (mkF m 31 #[.val (.ref r), .val (.int (2 : Int32)), .val (.int y0)] [(.int (4 : Int32))])
  refine OwnGo.istoreN X1 hx (hb hby d13_31) (Ls' := #[.val (.ref r), .val (.int (4 : Int32)), .val (.int y0)]) rfl ?_
  show Go p e below _ T1 (mkF m 32 #[.val (.ref r), .val (.int (4 : Int32)), .val (.int y0)] [])
  refine OwnGo.aloadN X1 hx (hb hby d13_32) rfl rfl ?_
  show Go p e below _ T1 (mkF m 33 #[.val (.ref r), .val (.int (4 : Int32)), .val (.int y0)] [(.ref r)])
  refine OwnGo.iloadN X1 hx (hb hby d13_33) rfl ?_
  show Go p e below _ T1 (mkF m 34 #[.val (.ref r), .val (.int (4 : Int32)), .val (.int y0)] [(.int (4 : Int32)), (.ref r)])
  refine OwnGo.iinc X1 hx (hb hby d13_34) rfl (z := (5 : Int32)) (by decide) (Ls' := #[.val (.ref r), .val (.int (5 : Int32)), .val (.int y0)]) rfl ?_
  show Go p e below _ T1 (mkF m 37 #[.val (.ref r), .val (.int (5 : Int32)), .val (.int y0)] [(.int (4 : Int32)), (.ref r)])
  refine OwnGo.iloadN X1 hx (hb hby d13_37) rfl ?_
  show Go p e below _ T1 (mkF m 38 #[.val (.ref r), .val (.int (5 : Int32)), .val (.int y0)] [(.int y0), (.int (4 : Int32)), (.ref r)])
  refine OwnGo.getS X1 hx hZ hown (host := "") (Or.inl (hw _ (List.mem_of_getElem? (i := 56) rfl))) Via.refl e1 (SH.ext O1.2) (hb hby d13_38) fun T2 X2 e2 => ?_
  show Go p e below _ T2 (mkF m 41 #[.val (.ref r), .val (.int (5 : Int32)), .val (.int y0)] [(.int (0 : Int32)), (.int y0), (.int (4 : Int32)), (.ref r)])
  refine OwnGo.ishr X2 hx (hb hby d13_41) rfl ?_
  show Go p e below _ T2 (mkF m 42 #[.val (.ref r), .val (.int (5 : Int32)), .val (.int y0)] [(.int (y0 >>> ((0 : Int32) &&& 31))), (.int (4 : Int32)), (.ref r)])
  refine OwnGo.i2b X2 hx (hb hby d13_42) rfl ?_
  show Go p e below _ T2 (mkF m 43 #[.val (.ref r), .val (.int (5 : Int32)), .val (.int y0)] [(.int ((y0 >>> ((0 : Int32) &&& 31)).toInt8.toInt32)), (.int (4 : Int32)), (.ref r)])
  obtain ⟨cl3, Ar3, Kq3, Sz3, Nn3, Hh3, Gg3⟩ := (id V1)
  have hin3 : ¬ ((4 : Int32) < 0 ∨ cl3.slots.size ≤ ((4 : Int32)).toNatClampNeg) := inb_of Sz3 ⟨by decide, by decide⟩
  refine OwnGo.stB X2 hx hZ e2 Ar3 hin3 (hb hby d13_43) fun T3 h3 X3 e3 W3 => ?_
  have O1_c3 := O1.wr W3 gr
  have Z3 := Nat.le_trans Z0 (Keep.of_wr W3).1
  have K3_ := (Keep.refl h0 [r]).wr W3 (Or.inl (List.mem_of_getElem? (i := 0) rfl))
  have N3_ := Fr.snoc X3 (Fr.nil n0) gr
  have V3 : Arv Z h3 r kr .byte (8 : Int32) [(.int w0), (.int w1), (.int w2), (.int w3), (.int (nar .byte ((y0 >>> ((0 : Int32) &&& 31)).toInt8.toInt32))), (.int w5), (.int w6), (.int w7)] (.int (0 : Int32)) := Arv.set Ar3 Kq3 Sz3 Nn3 Hh3 Gg3 (fits_nar_byte _) W3 4 rfl (Nat.le_of_ble_eq_true rfl)
  rw [own_nb] at V3
  show Go p e below _ T3 (mkF m 44 #[.val (.ref r), .val (.int (5 : Int32)), .val (.int y0)] [])
  refine OwnGo.aloadN X3 hx (hb hby d13_44) rfl rfl ?_
  show Go p e below _ T3 (mkF m 45 #[.val (.ref r), .val (.int (5 : Int32)), .val (.int y0)] [(.ref r)])
  refine OwnGo.iloadN X3 hx (hb hby d13_45) rfl ?_
  show Go p e below _ T3 (mkF m 46 #[.val (.ref r), .val (.int (5 : Int32)), .val (.int y0)] [(.int (5 : Int32)), (.ref r)])
  refine OwnGo.iloadN X3 hx (hb hby d13_46) rfl ?_
  show Go p e below _ T3 (mkF m 47 #[.val (.ref r), .val (.int (5 : Int32)), .val (.int y0)] [(.int y0), (.int (5 : Int32)), (.ref r)])
  refine OwnGo.getS X3 hx hZ hown (host := "") (Or.inl (hw _ (List.mem_of_getElem? (i := 57) rfl))) Via.refl e3 (SLo.ext O1_c3.2) (hb hby d13_47) fun T4 X4 e4 => ?_
  show Go p e below _ T4 (mkF m 50 #[.val (.ref r), .val (.int (5 : Int32)), .val (.int y0)] [(.int (8 : Int32)), (.int y0), (.int (5 : Int32)), (.ref r)])
  refine OwnGo.ishr X4 hx (hb hby d13_50) rfl ?_
  show Go p e below _ T4 (mkF m 51 #[.val (.ref r), .val (.int (5 : Int32)), .val (.int y0)] [(.int (y0 >>> ((8 : Int32) &&& 31))), (.int (5 : Int32)), (.ref r)])
  refine OwnGo.i2b X4 hx (hb hby d13_51) rfl ?_
  show Go p e below _ T4 (mkF m 52 #[.val (.ref r), .val (.int (5 : Int32)), .val (.int y0)] [(.int ((y0 >>> ((8 : Int32) &&& 31)).toInt8.toInt32)), (.int (5 : Int32)), (.ref r)])
  obtain ⟨cl5, Ar5, Kq5, Sz5, Nn5, Hh5, Gg5⟩ := (id V3)
  have hin5 : ¬ ((5 : Int32) < 0 ∨ cl5.slots.size ≤ ((5 : Int32)).toNatClampNeg) := inb_of Sz5 ⟨by decide, by decide⟩
  refine OwnGo.stB X4 hx hZ e4 Ar5 hin5 (hb hby d13_52) fun T5 h5 X5 e5 W5 => ?_
  have O1_c5 := O1_c3.wr W5 gr
  have Z5 := Nat.le_trans Z3 (Keep.of_wr W5).1
  have K5_ := K3_.wr W5 (Or.inl (List.mem_of_getElem? (i := 0) rfl))
  have N5_ := Fr.snoc X5 N3_ gr
  have V5 : Arv Z h5 r kr .byte (8 : Int32) [(.int w0), (.int w1), (.int w2), (.int w3), (.int ((y0 >>> ((0 : Int32) &&& 31)).toInt8.toInt32)), (.int (nar .byte ((y0 >>> ((8 : Int32) &&& 31)).toInt8.toInt32))), (.int w6), (.int w7)] (.int (0 : Int32)) := Arv.set Ar5 Kq5 Sz5 Nn5 Hh5 Gg5 (fits_nar_byte _) W5 5 rfl (Nat.le_of_ble_eq_true rfl)
  rw [own_nb] at V5
  show Go p e below _ T5 (mkF m 53 #[.val (.ref r), .val (.int (5 : Int32)), .val (.int y0)] [])
  refine OwnGo.retV X5 hx hlk hret (hb hby d13_53) ?_ (by decide) (by decide)
  rw [e5]
  exact ⟨rfl, N5_, K5_, V5⟩
theorem own_ef_rmPUT3 (m : MethodId) (x0 : Addr) (x1 : Int32) (x2 : Int32) : entryFrame m [(.ref x0), (.int x1), (.int x2)].toArray 3 = mkF m 0 #[.val (.ref x0), .val (.int x1), .val (.int x2)] [] := by first | (simp [entryFrame, mkF, argsToLocals, Value.category]; done) | rfl
set_option maxRecDepth 65536 in
set_option maxHeartbeats 40000000 in
theorem rmPUT3 (l : Launch) (Z : State) (a0 : Array Value) (hw : ∀ d ∈ tables_1, d.before a0 Z = true) (r : Addr) (kr : ClassId) (w0 w1 w2 w3 w4 w5 w6 w7 y0 : Int32) (h0 : Heap) (n0 : Nat) (Z0 : n0 ≤ h0.size) (O1 : Old Z n0 h0) (gr : n0 ≤ r) (V1 : Arv Z h0 r kr .byte (8 : Int32) [(.int w0), (.int w1), (.int w2), (.int w3), (.int w4), (.int w5), (.int w6), (.int w7)] (.int (0 : Int32))) (SA : Sta Z Z.heap "java/lang/StringUTF16" "$assertionsDisabled" "Z" (.int (1 : Int32))) (SH : Sta Z Z.heap "java/lang/StringUTF16" "HI_BYTE_SHIFT" "I" (.int (0 : Int32))) (SLo : Sta Z Z.heap "java/lang/StringUTF16" "LO_BYTE_SHIFT" "I" (.int (8 : Int32))) :
    Con l Z (⟨"java/lang/StringUTF16", "putChar", "([BII)V"⟩ : MethodName) jdk_52_method_4_code 3 none ({ frames := 0, cells := 0, slots := 0, locals := 0 } : Room) [(.ref r), (.int (3 : Int32)), (.int y0)] h0 (fun v h L => v = none ∧ Fr n0 L ∧ Keep h0 h [r] ∧ Arv Z h r kr .byte (8 : Int32) [(.int w0), (.int w1), (.int w2), (.int w3), (.int w4), (.int w5), (.int ((y0 >>> ((0 : Int32) &&& 31)).toInt8.toInt32)), (.int ((y0 >>> ((8 : Int32) &&& 31)).toInt8.toInt32))] (.int (0 : Int32))) := by
  refine OwnGo.Con.of (plainFor_of_name own_pn1) (Ls0 := #[.val (.ref r), .val (.int (3 : Int32)), .val (.int y0)]) (fun m => own_ef_rmPUT3 m r (3 : Int32) y0) ?_
  intro p e s m below meth c T0 X0 hx hZ hby hml hown hnm hret hlk e0
  show Go p e below _ T0 (mkF m 0 #[.val (.ref r), .val (.int (3 : Int32)), .val (.int y0)] [])
  refine OwnGo.getS X0 hx hZ hown (host := "") (Or.inl (hw _ (List.mem_of_getElem? (i := 55) rfl))) Via.refl e0 (SA.ext O1.2) (hb hby d13_0) fun T1 X1 e1 => ?_
  show Go p e below _ T1 (mkF m 3 #[.val (.ref r), .val (.int (3 : Int32)), .val (.int y0)] [(.int (1 : Int32))])
  refine OwnGo.if_ne X1 hx (pc' := 28) (hb hby d13_3) (by decide) (by decide) (fun _ => ?_) (fun q => absurd q (by decide))
  show Go p e below _ T1 (mkF m 28 #[.val (.ref r), .val (.int (3 : Int32)), .val (.int y0)] [])
  refine OwnGo.iloadN X1 hx (hb hby d13_28) rfl ?_
  show Go p e below _ T1 (mkF m 29 #[.val (.ref r), .val (.int (3 : Int32)), .val (.int y0)] [(.int (3 : Int32))])
  refine OwnGo.iconst X1 hx (z := (1 : Int32)) (hb hby d13_29) (by decide) ?_
  show Go p e below _ T1 (mkF m 30 #[.val (.ref r), .val (.int (3 : Int32)), .val (.int y0)] [(.int (1 : Int32)), (.int (3 : Int32))])
  refine OwnGo.ishl X1 hx (z := (6 : Int32)) (hb hby d13_30) (by decide) ?_
  show Go p e below _ T1 (mkF m 31 #[.val (.ref r), .val (.int (3 : Int32)), .val (.int y0)] [(.int (6 : Int32))])
  refine OwnGo.istoreN X1 hx (hb hby d13_31) (Ls' := #[.val (.ref r), .val (.int (6 : Int32)), .val (.int y0)]) rfl ?_
  show Go p e below _ T1 (mkF m 32 #[.val (.ref r), .val (.int (6 : Int32)), .val (.int y0)] [])
  refine OwnGo.aloadN X1 hx (hb hby d13_32) rfl rfl ?_
  show Go p e below _ T1 (mkF m 33 #[.val (.ref r), .val (.int (6 : Int32)), .val (.int y0)] [(.ref r)])
  refine OwnGo.iloadN X1 hx (hb hby d13_33) rfl ?_
  show Go p e below _ T1 (mkF m 34 #[.val (.ref r), .val (.int (6 : Int32)), .val (.int y0)] [(.int (6 : Int32)), (.ref r)])
  refine OwnGo.iinc X1 hx (hb hby d13_34) rfl (z := (7 : Int32)) (by decide) (Ls' := #[.val (.ref r), .val (.int (7 : Int32)), .val (.int y0)]) rfl ?_
  show Go p e below _ T1 (mkF m 37 #[.val (.ref r), .val (.int (7 : Int32)), .val (.int y0)] [(.int (6 : Int32)), (.ref r)])
  refine OwnGo.iloadN X1 hx (hb hby d13_37) rfl ?_
  show Go p e below _ T1 (mkF m 38 #[.val (.ref r), .val (.int (7 : Int32)), .val (.int y0)] [(.int y0), (.int (6 : Int32)), (.ref r)])
  refine OwnGo.getS X1 hx hZ hown (host := "") (Or.inl (hw _ (List.mem_of_getElem? (i := 56) rfl))) Via.refl e1 (SH.ext O1.2) (hb hby d13_38) fun T2 X2 e2 => ?_
  show Go p e below _ T2 (mkF m 41 #[.val (.ref r), .val (.int (7 : Int32)), .val (.int y0)] [(.int (0 : Int32)), (.int y0), (.int (6 : Int32)), (.ref r)])
  refine OwnGo.ishr X2 hx (hb hby d13_41) rfl ?_
  show Go p e below _ T2 (mkF m 42 #[.val (.ref r), .val (.int (7 : Int32)), .val (.int y0)] [(.int (y0 >>> ((0 : Int32) &&& 31))), (.int (6 : Int32)), (.ref r)])
  refine OwnGo.i2b X2 hx (hb hby d13_42) rfl ?_
  show Go p e below _ T2 (mkF m 43 #[.val (.ref r), .val (.int (7 : Int32)), .val (.int y0)] [(.int ((y0 >>> ((0 : Int32) &&& 31)).toInt8.toInt32)), (.int (6 : Int32)), (.ref r)])
  obtain ⟨cl3, Ar3, Kq3, Sz3, Nn3, Hh3, Gg3⟩ := (id V1)
  have hin3 : ¬ ((6 : Int32) < 0 ∨ cl3.slots.size ≤ ((6 : Int32)).toNatClampNeg) := inb_of Sz3 ⟨by decide, by decide⟩
  refine OwnGo.stB X2 hx hZ e2 Ar3 hin3 (hb hby d13_43) fun T3 h3 X3 e3 W3 => ?_
  have O1_c3 := O1.wr W3 gr
  have Z3 := Nat.le_trans Z0 (Keep.of_wr W3).1
  have K3_ := (Keep.refl h0 [r]).wr W3 (Or.inl (List.mem_of_getElem? (i := 0) rfl))
  have N3_ := Fr.snoc X3 (Fr.nil n0) gr
  have V3 : Arv Z h3 r kr .byte (8 : Int32) [(.int w0), (.int w1), (.int w2), (.int w3), (.int w4), (.int w5), (.int (nar .byte ((y0 >>> ((0 : Int32) &&& 31)).toInt8.toInt32))), (.int w7)] (.int (0 : Int32)) := Arv.set Ar3 Kq3 Sz3 Nn3 Hh3 Gg3 (fits_nar_byte _) W3 6 rfl (Nat.le_of_ble_eq_true rfl)
  rw [own_nb] at V3
  show Go p e below _ T3 (mkF m 44 #[.val (.ref r), .val (.int (7 : Int32)), .val (.int y0)] [])
  refine OwnGo.aloadN X3 hx (hb hby d13_44) rfl rfl ?_
  show Go p e below _ T3 (mkF m 45 #[.val (.ref r), .val (.int (7 : Int32)), .val (.int y0)] [(.ref r)])
  refine OwnGo.iloadN X3 hx (hb hby d13_45) rfl ?_
  show Go p e below _ T3 (mkF m 46 #[.val (.ref r), .val (.int (7 : Int32)), .val (.int y0)] [(.int (7 : Int32)), (.ref r)])
  refine OwnGo.iloadN X3 hx (hb hby d13_46) rfl ?_
  show Go p e below _ T3 (mkF m 47 #[.val (.ref r), .val (.int (7 : Int32)), .val (.int y0)] [(.int y0), (.int (7 : Int32)), (.ref r)])
  refine OwnGo.getS X3 hx hZ hown (host := "") (Or.inl (hw _ (List.mem_of_getElem? (i := 57) rfl))) Via.refl e3 (SLo.ext O1_c3.2) (hb hby d13_47) fun T4 X4 e4 => ?_
  show Go p e below _ T4 (mkF m 50 #[.val (.ref r), .val (.int (7 : Int32)), .val (.int y0)] [(.int (8 : Int32)), (.int y0), (.int (7 : Int32)), (.ref r)])
  refine OwnGo.ishr X4 hx (hb hby d13_50) rfl ?_
  show Go p e below _ T4 (mkF m 51 #[.val (.ref r), .val (.int (7 : Int32)), .val (.int y0)] [(.int (y0 >>> ((8 : Int32) &&& 31))), (.int (7 : Int32)), (.ref r)])
  refine OwnGo.i2b X4 hx (hb hby d13_51) rfl ?_
  show Go p e below _ T4 (mkF m 52 #[.val (.ref r), .val (.int (7 : Int32)), .val (.int y0)] [(.int ((y0 >>> ((8 : Int32) &&& 31)).toInt8.toInt32)), (.int (7 : Int32)), (.ref r)])
  obtain ⟨cl5, Ar5, Kq5, Sz5, Nn5, Hh5, Gg5⟩ := (id V3)
  have hin5 : ¬ ((7 : Int32) < 0 ∨ cl5.slots.size ≤ ((7 : Int32)).toNatClampNeg) := inb_of Sz5 ⟨by decide, by decide⟩
  refine OwnGo.stB X4 hx hZ e4 Ar5 hin5 (hb hby d13_52) fun T5 h5 X5 e5 W5 => ?_
  have O1_c5 := O1_c3.wr W5 gr
  have Z5 := Nat.le_trans Z3 (Keep.of_wr W5).1
  have K5_ := K3_.wr W5 (Or.inl (List.mem_of_getElem? (i := 0) rfl))
  have N5_ := Fr.snoc X5 N3_ gr
  have V5 : Arv Z h5 r kr .byte (8 : Int32) [(.int w0), (.int w1), (.int w2), (.int w3), (.int w4), (.int w5), (.int ((y0 >>> ((0 : Int32) &&& 31)).toInt8.toInt32)), (.int (nar .byte ((y0 >>> ((8 : Int32) &&& 31)).toInt8.toInt32)))] (.int (0 : Int32)) := Arv.set Ar5 Kq5 Sz5 Nn5 Hh5 Gg5 (fits_nar_byte _) W5 7 rfl (Nat.le_of_ble_eq_true rfl)
  rw [own_nb] at V5
  show Go p e below _ T5 (mkF m 53 #[.val (.ref r), .val (.int (7 : Int32)), .val (.int y0)] [])
  refine OwnGo.retV X5 hx hlk hret (hb hby d13_53) ?_ (by decide) (by decide)
  rw [e5]
  exact ⟨rfl, N5_, K5_, V5⟩
theorem d10_0 : decode jdk_52_method_14_code 0 = .ok (.iload_n 2, 1) := by decide +kernel
theorem d10_1 : decode jdk_52_method_14_code 1 = .ok (.invokestatic 107, 3) := by decide +kernel
theorem d10_4 : decode jdk_52_method_14_code 4 = .ok (.astore_n 3, 1) := by decide +kernel
theorem d10_5 : decode jdk_52_method_14_code 5 = .ok (.iconst 0, 1) := by decide +kernel
theorem d10_6 : decode jdk_52_method_14_code 6 = .ok (.istore 4, 2) := by decide +kernel
theorem d10_8 : decode jdk_52_method_14_code 8 = .ok (.iload 4, 2) := by decide +kernel
theorem d10_10 : decode jdk_52_method_14_code 10 = .ok (.iload_n 2, 1) := by decide +kernel
theorem d10_11 : decode jdk_52_method_14_code 11 = .ok (.if_icmp .ge 21, 3) := by decide +kernel
theorem d10_14 : decode jdk_52_method_14_code 14 = .ok (.aload_n 3, 1) := by decide +kernel
theorem d10_15 : decode jdk_52_method_14_code 15 = .ok (.iload 4, 2) := by decide +kernel
theorem d10_17 : decode jdk_52_method_14_code 17 = .ok (.aload_n 0, 1) := by decide +kernel
theorem d10_18 : decode jdk_52_method_14_code 18 = .ok (.iload_n 1, 1) := by decide +kernel
theorem d10_19 : decode jdk_52_method_14_code 19 = .ok (.caload, 1) := by decide +kernel
theorem d10_20 : decode jdk_52_method_14_code 20 = .ok (.invokestatic 111, 3) := by decide +kernel
theorem d10_23 : decode jdk_52_method_14_code 23 = .ok (.iinc 1 1, 3) := by decide +kernel
theorem d10_26 : decode jdk_52_method_14_code 26 = .ok (.iinc 4 1, 3) := by decide +kernel
theorem d10_29 : decode jdk_52_method_14_code 29 = .ok (.goto (-21), 3) := by decide +kernel
theorem d10_32 : decode jdk_52_method_14_code 32 = .ok (.aload_n 3, 1) := by decide +kernel
theorem d10_33 : decode jdk_52_method_14_code 33 = .ok (.areturn, 1) := by decide +kernel
theorem own_ef_rmTOB (m : MethodId) (x0 : Addr) (x1 : Int32) (x2 : Int32) : entryFrame m [(.ref x0), (.int x1), (.int x2)].toArray 5 = mkF m 0 #[.val (.ref x0), .val (.int x1), .val (.int x2), .unset, .unset] [] := by first | (simp [entryFrame, mkF, argsToLocals, Value.category]; done) | rfl
set_option maxRecDepth 65536 in
set_option maxHeartbeats 40000000 in
theorem rmTOB (l : Launch) (Z : State) (a0 : Array Value) (hw : ∀ d ∈ tables_1, d.before a0 Z = true) (ca : Addr) (kc : ClassId) (y0 y1 y2 y3 : Int32) (h0 : Heap) (n0 : Nat) (Z0 : n0 ≤ h0.size) (O1 : Old Z n0 h0) (VC : Arv Z h0 ca kc .char (4 : Int32) [(.int y0), (.int y1), (.int y2), (.int y3)] (.int (0 : Int32))) (SA : Sta Z Z.heap "java/lang/StringUTF16" "$assertionsDisabled" "Z" (.int (1 : Int32))) (SH : Sta Z Z.heap "java/lang/StringUTF16" "HI_BYTE_SHIFT" "I" (.int (0 : Int32))) (SLo : Sta Z Z.heap "java/lang/StringUTF16" "LO_BYTE_SHIFT" "I" (.int (8 : Int32))) :
    Con l Z (⟨"java/lang/StringUTF16", "toBytes", "([CII)[B"⟩ : MethodName) jdk_52_method_14_code 5 (some (.array .byte)) ({ frames := 2, cells := 1, slots := 8, locals := 24 } : Room) [(.ref ca), (.int (0 : Int32)), (.int (4 : Int32))] h0 (fun v h L => ∃ r kr, v = some (.ref r) ∧ Fr n0 L ∧ h0.size ≤ r ∧ n0 ≤ r ∧ Keep h0 h [] ∧ Arv Z h r kr .byte (8 : Int32) [(.int ((y0 >>> ((0 : Int32) &&& 31)).toInt8.toInt32)), (.int ((y0 >>> ((8 : Int32) &&& 31)).toInt8.toInt32)), (.int ((y1 >>> ((0 : Int32) &&& 31)).toInt8.toInt32)), (.int ((y1 >>> ((8 : Int32) &&& 31)).toInt8.toInt32)), (.int ((y2 >>> ((0 : Int32) &&& 31)).toInt8.toInt32)), (.int ((y2 >>> ((8 : Int32) &&& 31)).toInt8.toInt32)), (.int ((y3 >>> ((0 : Int32) &&& 31)).toInt8.toInt32)), (.int ((y3 >>> ((8 : Int32) &&& 31)).toInt8.toInt32))] (.int (0 : Int32))) := by
  refine OwnGo.Con.of (plainFor_of_name own_pn1) (Ls0 := #[.val (.ref ca), .val (.int (0 : Int32)), .val (.int (4 : Int32)), .unset, .unset]) (fun m => own_ef_rmTOB m ca (0 : Int32) (4 : Int32)) ?_
  intro p e s m below meth c T0 X0 hx hZ hby hml hown hnm hret hlk e0
  show Go p e below _ T0 (mkF m 0 #[.val (.ref ca), .val (.int (0 : Int32)), .val (.int (4 : Int32)), .unset, .unset] [])
  refine OwnGo.iloadN X0 hx (hb hby d10_0) rfl ?_
  show Go p e below _ T0 (mkF m 1 #[.val (.ref ca), .val (.int (0 : Int32)), .val (.int (4 : Int32)), .unset, .unset] [(.int (4 : Int32))])
  refine OwnGo.callS X0 hx hZ hown (y := (⟨"java/lang/StringUTF16", "newBytesFor", "(I)[B"⟩ : MethodName)) (hw _ (List.mem_of_getElem? (i := 45) rfl)) (hw _ (List.mem_of_getElem? (i := 46) rfl)) (hw _ (List.mem_of_getElem? (i := 22) rfl)) (hw _ (List.mem_of_getElem? (i := 47) rfl)) (by decide) e0 (as := [(.int (4 : Int32))]) (rmNBF l Z a0 hw h0 n0 Z0) (W := 0) (by decide) (by decide) (by decide) (by decide) (by rw [hml]; rfl) (lenOf own_pd2 rfl) (rest := []) rfl rfl (hb hby d10_1) fun v1 T1 L1 X1 q1 => ?_
  obtain ⟨r1, kr1, rfl, N1, g01, g11, K1, V1⟩ := q1
  have n_ca_r1 : ca ≠ r1 := Nat.ne_of_lt (Nat.lt_of_lt_of_le VC.lt g01)
  have O1_c1 := O1.keep K1 all0
  have VC_c1 := VC.keep K1 nin0
  have Z1 := Nat.le_trans Z0 K1.1
  have K1_ := (Keep.refl h0 []).trans K1 all0
  have gz_r1 : h0.size ≤ r1 := Nat.le_trans (Keep.refl h0 []).1 g01
  show Go p e below _ T1 (mkF m 4 #[.val (.ref ca), .val (.int (0 : Int32)), .val (.int (4 : Int32)), .unset, .unset] [(.ref r1)])
  refine OwnGo.astoreN X1 hx (hb hby d10_4) rfl (Ls' := #[.val (.ref ca), .val (.int (0 : Int32)), .val (.int (4 : Int32)), .val (.ref r1), .unset]) rfl ?_
  show Go p e below _ T1 (mkF m 5 #[.val (.ref ca), .val (.int (0 : Int32)), .val (.int (4 : Int32)), .val (.ref r1), .unset] [])
  refine OwnGo.iconst X1 hx (z := (0 : Int32)) (hb hby d10_5) (by decide) ?_
  show Go p e below _ T1 (mkF m 6 #[.val (.ref ca), .val (.int (0 : Int32)), .val (.int (4 : Int32)), .val (.ref r1), .unset] [(.int (0 : Int32))])
  refine OwnGo.istore X1 hx (hb hby d10_6) (Ls' := #[.val (.ref ca), .val (.int (0 : Int32)), .val (.int (4 : Int32)), .val (.ref r1), .val (.int (0 : Int32))]) rfl ?_
  show Go p e below _ T1 (mkF m 8 #[.val (.ref ca), .val (.int (0 : Int32)), .val (.int (4 : Int32)), .val (.ref r1), .val (.int (0 : Int32))] [])
  refine OwnGo.iload X1 hx (hb hby d10_8) rfl ?_
  show Go p e below _ T1 (mkF m 10 #[.val (.ref ca), .val (.int (0 : Int32)), .val (.int (4 : Int32)), .val (.ref r1), .val (.int (0 : Int32))] [(.int (0 : Int32))])
  refine OwnGo.iloadN X1 hx (hb hby d10_10) rfl ?_
  show Go p e below _ T1 (mkF m 11 #[.val (.ref ca), .val (.int (0 : Int32)), .val (.int (4 : Int32)), .val (.ref r1), .val (.int (0 : Int32))] [(.int (4 : Int32)), (.int (0 : Int32))])
  refine OwnGo.ic_ge X1 hx (pc' := 32) (hb hby d10_11) (by decide) (by decide) (fun q => absurd q (by decide)) (fun _ => ?_)
  show Go p e below _ T1 (mkF m 14 #[.val (.ref ca), .val (.int (0 : Int32)), .val (.int (4 : Int32)), .val (.ref r1), .val (.int (0 : Int32))] [])
  refine OwnGo.aloadN X1 hx (hb hby d10_14) rfl rfl ?_
  show Go p e below _ T1 (mkF m 15 #[.val (.ref ca), .val (.int (0 : Int32)), .val (.int (4 : Int32)), .val (.ref r1), .val (.int (0 : Int32))] [(.ref r1)])
  refine OwnGo.iload X1 hx (hb hby d10_15) rfl ?_
  show Go p e below _ T1 (mkF m 17 #[.val (.ref ca), .val (.int (0 : Int32)), .val (.int (4 : Int32)), .val (.ref r1), .val (.int (0 : Int32))] [(.int (0 : Int32)), (.ref r1)])
  refine OwnGo.aloadN X1 hx (hb hby d10_17) rfl rfl ?_
  show Go p e below _ T1 (mkF m 18 #[.val (.ref ca), .val (.int (0 : Int32)), .val (.int (4 : Int32)), .val (.ref r1), .val (.int (0 : Int32))] [(.ref ca), (.int (0 : Int32)), (.ref r1)])
  refine OwnGo.iloadN X1 hx (hb hby d10_18) rfl ?_
  show Go p e below _ T1 (mkF m 19 #[.val (.ref ca), .val (.int (0 : Int32)), .val (.int (4 : Int32)), .val (.ref r1), .val (.int (0 : Int32))] [(.int (0 : Int32)), (.ref ca), (.int (0 : Int32)), (.ref r1)])
  obtain ⟨cl2, Ar2, Kq2, Sz2, Nn2, Hh2, Gg2⟩ := (id VC_c1)
  have hin2 : ¬ ((0 : Int32) < 0 ∨ cl2.slots.size ≤ ((0 : Int32)).toNatClampNeg) := inb_of Sz2 ⟨by decide, by decide⟩
  refine OwnGo.caload X1 hx hZ rfl Ar2 hin2 (Has.at Hh2 hin2 (v := (.int y0)) rfl) (hb hby d10_19) ?_
  show Go p e below _ T1 (mkF m 20 #[.val (.ref ca), .val (.int (0 : Int32)), .val (.int (4 : Int32)), .val (.ref r1), .val (.int (0 : Int32))] [(.int y0), (.int (0 : Int32)), (.ref r1)])
  refine OwnGo.callS X1 hx hZ hown (y := (⟨"java/lang/StringUTF16", "putChar", "([BII)V"⟩ : MethodName)) (hw _ (List.mem_of_getElem? (i := 52) rfl)) (hw _ (List.mem_of_getElem? (i := 53) rfl)) (hw _ (List.mem_of_getElem? (i := 22) rfl)) (hw _ (List.mem_of_getElem? (i := 54) rfl)) (by decide) rfl (as := [(.ref r1), (.int (0 : Int32)), (.int y0)]) (rmPUT0 l Z a0 hw r1 kr1 (0 : Int32) (0 : Int32) (0 : Int32) (0 : Int32) (0 : Int32) (0 : Int32) (0 : Int32) (0 : Int32) y0 T1.heap n0 Z1 O1_c1 g11 V1 SA SH SLo) (W := 0) (by decide) (by decide) (by decide) (by decide) (by rw [hml]; rfl) (lenOf own_pd3 rfl) (rest := []) rfl rfl (hb hby d10_20) fun v3 T3 L3 X3 q3 => ?_
  obtain ⟨rfl, N3, K3, V3⟩ := q3
  have O1_c3 := O1_c1.keep K3 (allS g11 all0)
  have VC_c3 := VC_c1.keep K3 (ninS n_ca_r1 nin0)
  have Z3 := Nat.le_trans Z1 K3.1
  have K3_ := K1_.trans K3 (allS (Or.inr gz_r1) all0)
  show Go p e below _ T3 (mkF m 23 #[.val (.ref ca), .val (.int (0 : Int32)), .val (.int (4 : Int32)), .val (.ref r1), .val (.int (0 : Int32))] [])
  refine OwnGo.iinc X3 hx (hb hby d10_23) rfl (z := (1 : Int32)) (by decide) (Ls' := #[.val (.ref ca), .val (.int (1 : Int32)), .val (.int (4 : Int32)), .val (.ref r1), .val (.int (0 : Int32))]) rfl ?_
  show Go p e below _ T3 (mkF m 26 #[.val (.ref ca), .val (.int (1 : Int32)), .val (.int (4 : Int32)), .val (.ref r1), .val (.int (0 : Int32))] [])
  refine OwnGo.iinc X3 hx (hb hby d10_26) rfl (z := (1 : Int32)) (by decide) (Ls' := #[.val (.ref ca), .val (.int (1 : Int32)), .val (.int (4 : Int32)), .val (.ref r1), .val (.int (1 : Int32))]) rfl ?_
  show Go p e below _ T3 (mkF m 29 #[.val (.ref ca), .val (.int (1 : Int32)), .val (.int (4 : Int32)), .val (.ref r1), .val (.int (1 : Int32))] [])
  refine OwnGo.goto X3 hx (pc' := 8) (hb hby d10_29) (by decide) (by decide) ?_
  show Go p e below _ T3 (mkF m 8 #[.val (.ref ca), .val (.int (1 : Int32)), .val (.int (4 : Int32)), .val (.ref r1), .val (.int (1 : Int32))] [])
  refine OwnGo.iload X3 hx (hb hby d10_8) rfl ?_
  show Go p e below _ T3 (mkF m 10 #[.val (.ref ca), .val (.int (1 : Int32)), .val (.int (4 : Int32)), .val (.ref r1), .val (.int (1 : Int32))] [(.int (1 : Int32))])
  refine OwnGo.iloadN X3 hx (hb hby d10_10) rfl ?_
  show Go p e below _ T3 (mkF m 11 #[.val (.ref ca), .val (.int (1 : Int32)), .val (.int (4 : Int32)), .val (.ref r1), .val (.int (1 : Int32))] [(.int (4 : Int32)), (.int (1 : Int32))])
  refine OwnGo.ic_ge X3 hx (pc' := 32) (hb hby d10_11) (by decide) (by decide) (fun q => absurd q (by decide)) (fun _ => ?_)
  show Go p e below _ T3 (mkF m 14 #[.val (.ref ca), .val (.int (1 : Int32)), .val (.int (4 : Int32)), .val (.ref r1), .val (.int (1 : Int32))] [])
  refine OwnGo.aloadN X3 hx (hb hby d10_14) rfl rfl ?_
  show Go p e below _ T3 (mkF m 15 #[.val (.ref ca), .val (.int (1 : Int32)), .val (.int (4 : Int32)), .val (.ref r1), .val (.int (1 : Int32))] [(.ref r1)])
  refine OwnGo.iload X3 hx (hb hby d10_15) rfl ?_
  show Go p e below _ T3 (mkF m 17 #[.val (.ref ca), .val (.int (1 : Int32)), .val (.int (4 : Int32)), .val (.ref r1), .val (.int (1 : Int32))] [(.int (1 : Int32)), (.ref r1)])
  refine OwnGo.aloadN X3 hx (hb hby d10_17) rfl rfl ?_
  show Go p e below _ T3 (mkF m 18 #[.val (.ref ca), .val (.int (1 : Int32)), .val (.int (4 : Int32)), .val (.ref r1), .val (.int (1 : Int32))] [(.ref ca), (.int (1 : Int32)), (.ref r1)])
  refine OwnGo.iloadN X3 hx (hb hby d10_18) rfl ?_
  show Go p e below _ T3 (mkF m 19 #[.val (.ref ca), .val (.int (1 : Int32)), .val (.int (4 : Int32)), .val (.ref r1), .val (.int (1 : Int32))] [(.int (1 : Int32)), (.ref ca), (.int (1 : Int32)), (.ref r1)])
  obtain ⟨cl4, Ar4, Kq4, Sz4, Nn4, Hh4, Gg4⟩ := (id VC_c3)
  have hin4 : ¬ ((1 : Int32) < 0 ∨ cl4.slots.size ≤ ((1 : Int32)).toNatClampNeg) := inb_of Sz4 ⟨by decide, by decide⟩
  refine OwnGo.caload X3 hx hZ rfl Ar4 hin4 (Has.at Hh4 hin4 (v := (.int y1)) rfl) (hb hby d10_19) ?_
  show Go p e below _ T3 (mkF m 20 #[.val (.ref ca), .val (.int (1 : Int32)), .val (.int (4 : Int32)), .val (.ref r1), .val (.int (1 : Int32))] [(.int y1), (.int (1 : Int32)), (.ref r1)])
  refine OwnGo.callS X3 hx hZ hown (y := (⟨"java/lang/StringUTF16", "putChar", "([BII)V"⟩ : MethodName)) (hw _ (List.mem_of_getElem? (i := 52) rfl)) (hw _ (List.mem_of_getElem? (i := 53) rfl)) (hw _ (List.mem_of_getElem? (i := 22) rfl)) (hw _ (List.mem_of_getElem? (i := 54) rfl)) (by decide) rfl (as := [(.ref r1), (.int (1 : Int32)), (.int y1)]) (rmPUT1 l Z a0 hw r1 kr1 ((y0 >>> ((0 : Int32) &&& 31)).toInt8.toInt32) ((y0 >>> ((8 : Int32) &&& 31)).toInt8.toInt32) (0 : Int32) (0 : Int32) (0 : Int32) (0 : Int32) (0 : Int32) (0 : Int32) y1 T3.heap n0 Z3 O1_c3 g11 V3 SA SH SLo) (W := 0) (by decide) (by decide) (by decide) (by decide) (by rw [hml]; rfl) (lenOf own_pd3 rfl) (rest := []) rfl rfl (hb hby d10_20) fun v5 T5 L5 X5 q5 => ?_
  obtain ⟨rfl, N5, K5, V5⟩ := q5
  have O1_c5 := O1_c3.keep K5 (allS g11 all0)
  have VC_c5 := VC_c3.keep K5 (ninS n_ca_r1 nin0)
  have Z5 := Nat.le_trans Z3 K5.1
  have K5_ := K3_.trans K5 (allS (Or.inr gz_r1) all0)
  show Go p e below _ T5 (mkF m 23 #[.val (.ref ca), .val (.int (1 : Int32)), .val (.int (4 : Int32)), .val (.ref r1), .val (.int (1 : Int32))] [])
  refine OwnGo.iinc X5 hx (hb hby d10_23) rfl (z := (2 : Int32)) (by decide) (Ls' := #[.val (.ref ca), .val (.int (2 : Int32)), .val (.int (4 : Int32)), .val (.ref r1), .val (.int (1 : Int32))]) rfl ?_
  show Go p e below _ T5 (mkF m 26 #[.val (.ref ca), .val (.int (2 : Int32)), .val (.int (4 : Int32)), .val (.ref r1), .val (.int (1 : Int32))] [])
  refine OwnGo.iinc X5 hx (hb hby d10_26) rfl (z := (2 : Int32)) (by decide) (Ls' := #[.val (.ref ca), .val (.int (2 : Int32)), .val (.int (4 : Int32)), .val (.ref r1), .val (.int (2 : Int32))]) rfl ?_
  show Go p e below _ T5 (mkF m 29 #[.val (.ref ca), .val (.int (2 : Int32)), .val (.int (4 : Int32)), .val (.ref r1), .val (.int (2 : Int32))] [])
  refine OwnGo.goto X5 hx (pc' := 8) (hb hby d10_29) (by decide) (by decide) ?_
  show Go p e below _ T5 (mkF m 8 #[.val (.ref ca), .val (.int (2 : Int32)), .val (.int (4 : Int32)), .val (.ref r1), .val (.int (2 : Int32))] [])
  refine OwnGo.iload X5 hx (hb hby d10_8) rfl ?_
  show Go p e below _ T5 (mkF m 10 #[.val (.ref ca), .val (.int (2 : Int32)), .val (.int (4 : Int32)), .val (.ref r1), .val (.int (2 : Int32))] [(.int (2 : Int32))])
  refine OwnGo.iloadN X5 hx (hb hby d10_10) rfl ?_
  show Go p e below _ T5 (mkF m 11 #[.val (.ref ca), .val (.int (2 : Int32)), .val (.int (4 : Int32)), .val (.ref r1), .val (.int (2 : Int32))] [(.int (4 : Int32)), (.int (2 : Int32))])
  refine OwnGo.ic_ge X5 hx (pc' := 32) (hb hby d10_11) (by decide) (by decide) (fun q => absurd q (by decide)) (fun _ => ?_)
  show Go p e below _ T5 (mkF m 14 #[.val (.ref ca), .val (.int (2 : Int32)), .val (.int (4 : Int32)), .val (.ref r1), .val (.int (2 : Int32))] [])
  refine OwnGo.aloadN X5 hx (hb hby d10_14) rfl rfl ?_
  show Go p e below _ T5 (mkF m 15 #[.val (.ref ca), .val (.int (2 : Int32)), .val (.int (4 : Int32)), .val (.ref r1), .val (.int (2 : Int32))] [(.ref r1)])
  refine OwnGo.iload X5 hx (hb hby d10_15) rfl ?_
  show Go p e below _ T5 (mkF m 17 #[.val (.ref ca), .val (.int (2 : Int32)), .val (.int (4 : Int32)), .val (.ref r1), .val (.int (2 : Int32))] [(.int (2 : Int32)), (.ref r1)])
  refine OwnGo.aloadN X5 hx (hb hby d10_17) rfl rfl ?_
  show Go p e below _ T5 (mkF m 18 #[.val (.ref ca), .val (.int (2 : Int32)), .val (.int (4 : Int32)), .val (.ref r1), .val (.int (2 : Int32))] [(.ref ca), (.int (2 : Int32)), (.ref r1)])
  refine OwnGo.iloadN X5 hx (hb hby d10_18) rfl ?_
  show Go p e below _ T5 (mkF m 19 #[.val (.ref ca), .val (.int (2 : Int32)), .val (.int (4 : Int32)), .val (.ref r1), .val (.int (2 : Int32))] [(.int (2 : Int32)), (.ref ca), (.int (2 : Int32)), (.ref r1)])
  obtain ⟨cl6, Ar6, Kq6, Sz6, Nn6, Hh6, Gg6⟩ := (id VC_c5)
  have hin6 : ¬ ((2 : Int32) < 0 ∨ cl6.slots.size ≤ ((2 : Int32)).toNatClampNeg) := inb_of Sz6 ⟨by decide, by decide⟩
  refine OwnGo.caload X5 hx hZ rfl Ar6 hin6 (Has.at Hh6 hin6 (v := (.int y2)) rfl) (hb hby d10_19) ?_
  show Go p e below _ T5 (mkF m 20 #[.val (.ref ca), .val (.int (2 : Int32)), .val (.int (4 : Int32)), .val (.ref r1), .val (.int (2 : Int32))] [(.int y2), (.int (2 : Int32)), (.ref r1)])
  refine OwnGo.callS X5 hx hZ hown (y := (⟨"java/lang/StringUTF16", "putChar", "([BII)V"⟩ : MethodName)) (hw _ (List.mem_of_getElem? (i := 52) rfl)) (hw _ (List.mem_of_getElem? (i := 53) rfl)) (hw _ (List.mem_of_getElem? (i := 22) rfl)) (hw _ (List.mem_of_getElem? (i := 54) rfl)) (by decide) rfl (as := [(.ref r1), (.int (2 : Int32)), (.int y2)]) (rmPUT2 l Z a0 hw r1 kr1 ((y0 >>> ((0 : Int32) &&& 31)).toInt8.toInt32) ((y0 >>> ((8 : Int32) &&& 31)).toInt8.toInt32) ((y1 >>> ((0 : Int32) &&& 31)).toInt8.toInt32) ((y1 >>> ((8 : Int32) &&& 31)).toInt8.toInt32) (0 : Int32) (0 : Int32) (0 : Int32) (0 : Int32) y2 T5.heap n0 Z5 O1_c5 g11 V5 SA SH SLo) (W := 0) (by decide) (by decide) (by decide) (by decide) (by rw [hml]; rfl) (lenOf own_pd3 rfl) (rest := []) rfl rfl (hb hby d10_20) fun v7 T7 L7 X7 q7 => ?_
  obtain ⟨rfl, N7, K7, V7⟩ := q7
  have O1_c7 := O1_c5.keep K7 (allS g11 all0)
  have VC_c7 := VC_c5.keep K7 (ninS n_ca_r1 nin0)
  have Z7 := Nat.le_trans Z5 K7.1
  have K7_ := K5_.trans K7 (allS (Or.inr gz_r1) all0)
  show Go p e below _ T7 (mkF m 23 #[.val (.ref ca), .val (.int (2 : Int32)), .val (.int (4 : Int32)), .val (.ref r1), .val (.int (2 : Int32))] [])
  refine OwnGo.iinc X7 hx (hb hby d10_23) rfl (z := (3 : Int32)) (by decide) (Ls' := #[.val (.ref ca), .val (.int (3 : Int32)), .val (.int (4 : Int32)), .val (.ref r1), .val (.int (2 : Int32))]) rfl ?_
  show Go p e below _ T7 (mkF m 26 #[.val (.ref ca), .val (.int (3 : Int32)), .val (.int (4 : Int32)), .val (.ref r1), .val (.int (2 : Int32))] [])
  refine OwnGo.iinc X7 hx (hb hby d10_26) rfl (z := (3 : Int32)) (by decide) (Ls' := #[.val (.ref ca), .val (.int (3 : Int32)), .val (.int (4 : Int32)), .val (.ref r1), .val (.int (3 : Int32))]) rfl ?_
  show Go p e below _ T7 (mkF m 29 #[.val (.ref ca), .val (.int (3 : Int32)), .val (.int (4 : Int32)), .val (.ref r1), .val (.int (3 : Int32))] [])
  refine OwnGo.goto X7 hx (pc' := 8) (hb hby d10_29) (by decide) (by decide) ?_
  show Go p e below _ T7 (mkF m 8 #[.val (.ref ca), .val (.int (3 : Int32)), .val (.int (4 : Int32)), .val (.ref r1), .val (.int (3 : Int32))] [])
  refine OwnGo.iload X7 hx (hb hby d10_8) rfl ?_
  show Go p e below _ T7 (mkF m 10 #[.val (.ref ca), .val (.int (3 : Int32)), .val (.int (4 : Int32)), .val (.ref r1), .val (.int (3 : Int32))] [(.int (3 : Int32))])
  refine OwnGo.iloadN X7 hx (hb hby d10_10) rfl ?_
  show Go p e below _ T7 (mkF m 11 #[.val (.ref ca), .val (.int (3 : Int32)), .val (.int (4 : Int32)), .val (.ref r1), .val (.int (3 : Int32))] [(.int (4 : Int32)), (.int (3 : Int32))])
  refine OwnGo.ic_ge X7 hx (pc' := 32) (hb hby d10_11) (by decide) (by decide) (fun q => absurd q (by decide)) (fun _ => ?_)
  show Go p e below _ T7 (mkF m 14 #[.val (.ref ca), .val (.int (3 : Int32)), .val (.int (4 : Int32)), .val (.ref r1), .val (.int (3 : Int32))] [])
  refine OwnGo.aloadN X7 hx (hb hby d10_14) rfl rfl ?_
  show Go p e below _ T7 (mkF m 15 #[.val (.ref ca), .val (.int (3 : Int32)), .val (.int (4 : Int32)), .val (.ref r1), .val (.int (3 : Int32))] [(.ref r1)])
  refine OwnGo.iload X7 hx (hb hby d10_15) rfl ?_
  show Go p e below _ T7 (mkF m 17 #[.val (.ref ca), .val (.int (3 : Int32)), .val (.int (4 : Int32)), .val (.ref r1), .val (.int (3 : Int32))] [(.int (3 : Int32)), (.ref r1)])
  refine OwnGo.aloadN X7 hx (hb hby d10_17) rfl rfl ?_
  show Go p e below _ T7 (mkF m 18 #[.val (.ref ca), .val (.int (3 : Int32)), .val (.int (4 : Int32)), .val (.ref r1), .val (.int (3 : Int32))] [(.ref ca), (.int (3 : Int32)), (.ref r1)])
  refine OwnGo.iloadN X7 hx (hb hby d10_18) rfl ?_
  show Go p e below _ T7 (mkF m 19 #[.val (.ref ca), .val (.int (3 : Int32)), .val (.int (4 : Int32)), .val (.ref r1), .val (.int (3 : Int32))] [(.int (3 : Int32)), (.ref ca), (.int (3 : Int32)), (.ref r1)])
  obtain ⟨cl8, Ar8, Kq8, Sz8, Nn8, Hh8, Gg8⟩ := (id VC_c7)
  have hin8 : ¬ ((3 : Int32) < 0 ∨ cl8.slots.size ≤ ((3 : Int32)).toNatClampNeg) := inb_of Sz8 ⟨by decide, by decide⟩
  refine OwnGo.caload X7 hx hZ rfl Ar8 hin8 (Has.at Hh8 hin8 (v := (.int y3)) rfl) (hb hby d10_19) ?_
  show Go p e below _ T7 (mkF m 20 #[.val (.ref ca), .val (.int (3 : Int32)), .val (.int (4 : Int32)), .val (.ref r1), .val (.int (3 : Int32))] [(.int y3), (.int (3 : Int32)), (.ref r1)])
  refine OwnGo.callS X7 hx hZ hown (y := (⟨"java/lang/StringUTF16", "putChar", "([BII)V"⟩ : MethodName)) (hw _ (List.mem_of_getElem? (i := 52) rfl)) (hw _ (List.mem_of_getElem? (i := 53) rfl)) (hw _ (List.mem_of_getElem? (i := 22) rfl)) (hw _ (List.mem_of_getElem? (i := 54) rfl)) (by decide) rfl (as := [(.ref r1), (.int (3 : Int32)), (.int y3)]) (rmPUT3 l Z a0 hw r1 kr1 ((y0 >>> ((0 : Int32) &&& 31)).toInt8.toInt32) ((y0 >>> ((8 : Int32) &&& 31)).toInt8.toInt32) ((y1 >>> ((0 : Int32) &&& 31)).toInt8.toInt32) ((y1 >>> ((8 : Int32) &&& 31)).toInt8.toInt32) ((y2 >>> ((0 : Int32) &&& 31)).toInt8.toInt32) ((y2 >>> ((8 : Int32) &&& 31)).toInt8.toInt32) (0 : Int32) (0 : Int32) y3 T7.heap n0 Z7 O1_c7 g11 V7 SA SH SLo) (W := 0) (by decide) (by decide) (by decide) (by decide) (by rw [hml]; rfl) (lenOf own_pd3 rfl) (rest := []) rfl rfl (hb hby d10_20) fun v9 T9 L9 X9 q9 => ?_
  obtain ⟨rfl, N9, K9, V9⟩ := q9
  have O1_c9 := O1_c7.keep K9 (allS g11 all0)
  have VC_c9 := VC_c7.keep K9 (ninS n_ca_r1 nin0)
  have Z9 := Nat.le_trans Z7 K9.1
  have K9_ := K7_.trans K9 (allS (Or.inr gz_r1) all0)
  show Go p e below _ T9 (mkF m 23 #[.val (.ref ca), .val (.int (3 : Int32)), .val (.int (4 : Int32)), .val (.ref r1), .val (.int (3 : Int32))] [])
  refine OwnGo.iinc X9 hx (hb hby d10_23) rfl (z := (4 : Int32)) (by decide) (Ls' := #[.val (.ref ca), .val (.int (4 : Int32)), .val (.int (4 : Int32)), .val (.ref r1), .val (.int (3 : Int32))]) rfl ?_
  show Go p e below _ T9 (mkF m 26 #[.val (.ref ca), .val (.int (4 : Int32)), .val (.int (4 : Int32)), .val (.ref r1), .val (.int (3 : Int32))] [])
  refine OwnGo.iinc X9 hx (hb hby d10_26) rfl (z := (4 : Int32)) (by decide) (Ls' := #[.val (.ref ca), .val (.int (4 : Int32)), .val (.int (4 : Int32)), .val (.ref r1), .val (.int (4 : Int32))]) rfl ?_
  show Go p e below _ T9 (mkF m 29 #[.val (.ref ca), .val (.int (4 : Int32)), .val (.int (4 : Int32)), .val (.ref r1), .val (.int (4 : Int32))] [])
  refine OwnGo.goto X9 hx (pc' := 8) (hb hby d10_29) (by decide) (by decide) ?_
  show Go p e below _ T9 (mkF m 8 #[.val (.ref ca), .val (.int (4 : Int32)), .val (.int (4 : Int32)), .val (.ref r1), .val (.int (4 : Int32))] [])
  refine OwnGo.iload X9 hx (hb hby d10_8) rfl ?_
  show Go p e below _ T9 (mkF m 10 #[.val (.ref ca), .val (.int (4 : Int32)), .val (.int (4 : Int32)), .val (.ref r1), .val (.int (4 : Int32))] [(.int (4 : Int32))])
  refine OwnGo.iloadN X9 hx (hb hby d10_10) rfl ?_
  show Go p e below _ T9 (mkF m 11 #[.val (.ref ca), .val (.int (4 : Int32)), .val (.int (4 : Int32)), .val (.ref r1), .val (.int (4 : Int32))] [(.int (4 : Int32)), (.int (4 : Int32))])
  refine OwnGo.ic_ge X9 hx (pc' := 32) (hb hby d10_11) (by decide) (by decide) (fun _ => ?_) (fun q => absurd q (by decide))
  show Go p e below _ T9 (mkF m 32 #[.val (.ref ca), .val (.int (4 : Int32)), .val (.int (4 : Int32)), .val (.ref r1), .val (.int (4 : Int32))] [])
  refine OwnGo.aloadN X9 hx (hb hby d10_32) rfl rfl ?_
  show Go p e below _ T9 (mkF m 33 #[.val (.ref ca), .val (.int (4 : Int32)), .val (.int (4 : Int32)), .val (.ref r1), .val (.int (4 : Int32))] [(.ref r1)])
  refine OwnGo.retA X9 hx hlk rfl rfl hret (hb hby d10_33) ?_ (by decide) (by decide)
  exact ⟨r1, kr1, rfl, (Fr.app (Fr.app (Fr.app (Fr.app (Fr.app (Fr.nil n0) N1) N3) N5) N7) N9), gz_r1, g11, K9_, V9⟩
theorem d14_0 : decode jdk_52_method_5_code 0 = .ok (.getstatic 44, 3) := by decide +kernel
theorem d14_3 : decode jdk_52_method_5_code 3 = .ok (.ifCond .ne 25, 3) := by decide +kernel
theorem d14_28 : decode jdk_52_method_5_code 28 = .ok (.iload_n 1, 1) := by decide +kernel
theorem d14_29 : decode jdk_52_method_5_code 29 = .ok (.iconst 1, 1) := by decide +kernel
theorem d14_30 : decode jdk_52_method_5_code 30 = .ok (.ishl, 1) := by decide +kernel
theorem d14_31 : decode jdk_52_method_5_code 31 = .ok (.istore_n 1, 1) := by decide +kernel
theorem d14_32 : decode jdk_52_method_5_code 32 = .ok (.aload_n 0, 1) := by decide +kernel
theorem d14_33 : decode jdk_52_method_5_code 33 = .ok (.iload_n 1, 1) := by decide +kernel
theorem d14_34 : decode jdk_52_method_5_code 34 = .ok (.iinc 1 1, 3) := by decide +kernel
theorem d14_37 : decode jdk_52_method_5_code 37 = .ok (.baload, 1) := by decide +kernel
theorem d14_38 : decode jdk_52_method_5_code 38 = .ok (.sipush 255, 3) := by decide +kernel
theorem d14_41 : decode jdk_52_method_5_code 41 = .ok (.iand, 1) := by decide +kernel
theorem d14_42 : decode jdk_52_method_5_code 42 = .ok (.getstatic 59, 3) := by decide +kernel
theorem d14_45 : decode jdk_52_method_5_code 45 = .ok (.ishl, 1) := by decide +kernel
theorem d14_46 : decode jdk_52_method_5_code 46 = .ok (.aload_n 0, 1) := by decide +kernel
theorem d14_47 : decode jdk_52_method_5_code 47 = .ok (.iload_n 1, 1) := by decide +kernel
theorem d14_48 : decode jdk_52_method_5_code 48 = .ok (.baload, 1) := by decide +kernel
theorem d14_49 : decode jdk_52_method_5_code 49 = .ok (.sipush 255, 3) := by decide +kernel
theorem d14_52 : decode jdk_52_method_5_code 52 = .ok (.iand, 1) := by decide +kernel
theorem d14_53 : decode jdk_52_method_5_code 53 = .ok (.getstatic 63, 3) := by decide +kernel
theorem d14_56 : decode jdk_52_method_5_code 56 = .ok (.ishl, 1) := by decide +kernel
theorem d14_57 : decode jdk_52_method_5_code 57 = .ok (.ior, 1) := by decide +kernel
theorem d14_58 : decode jdk_52_method_5_code 58 = .ok (.i2c, 1) := by decide +kernel
theorem d14_59 : decode jdk_52_method_5_code 59 = .ok (.ireturn, 1) := by decide +kernel
theorem own_ef_rmGCH0 (m : MethodId) (x0 : Addr) (x1 : Int32) : entryFrame m [(.ref x0), (.int x1)].toArray 2 = mkF m 0 #[.val (.ref x0), .val (.int x1)] [] := by first | (simp [entryFrame, mkF, argsToLocals, Value.category]; done) | rfl
set_option maxRecDepth 65536 in
set_option maxHeartbeats 40000000 in
theorem rmGCH0 (l : Launch) (Z : State) (a0 : Array Value) (hw : ∀ d ∈ tables_1, d.before a0 Z = true) (r : Addr) (kr : ClassId) (y0 y1 y2 y3 : Int32) (h0 : Heap) (n0 : Nat) (Z0 : n0 ≤ h0.size) (O1 : Old Z n0 h0) (V1 : Arv Z h0 r kr .byte (8 : Int32) [(.int ((y0 >>> ((0 : Int32) &&& 31)).toInt8.toInt32)), (.int ((y0 >>> ((8 : Int32) &&& 31)).toInt8.toInt32)), (.int ((y1 >>> ((0 : Int32) &&& 31)).toInt8.toInt32)), (.int ((y1 >>> ((8 : Int32) &&& 31)).toInt8.toInt32)), (.int ((y2 >>> ((0 : Int32) &&& 31)).toInt8.toInt32)), (.int ((y2 >>> ((8 : Int32) &&& 31)).toInt8.toInt32)), (.int ((y3 >>> ((0 : Int32) &&& 31)).toInt8.toInt32)), (.int ((y3 >>> ((8 : Int32) &&& 31)).toInt8.toInt32))] (.int (0 : Int32))) (SA : Sta Z Z.heap "java/lang/StringUTF16" "$assertionsDisabled" "Z" (.int (1 : Int32))) (SH : Sta Z Z.heap "java/lang/StringUTF16" "HI_BYTE_SHIFT" "I" (.int (0 : Int32))) (SLo : Sta Z Z.heap "java/lang/StringUTF16" "LO_BYTE_SHIFT" "I" (.int (8 : Int32))) (nc0 : nar .char y0 = y0) :
    Con l Z (⟨"java/lang/StringUTF16", "getChar", "([BI)C"⟩ : MethodName) jdk_52_method_5_code 2 (some .char) ({ frames := 0, cells := 0, slots := 0, locals := 0 } : Room) [(.ref r), (.int (0 : Int32))] h0 (Ret (some (.int y0)) h0) := by
  refine OwnGo.Con.of (plainFor_of_name own_pn1) (Ls0 := #[.val (.ref r), .val (.int (0 : Int32))]) (fun m => own_ef_rmGCH0 m r (0 : Int32)) ?_
  intro p e s m below meth c T0 X0 hx hZ hby hml hown hnm hret hlk e0
  show Go p e below _ T0 (mkF m 0 #[.val (.ref r), .val (.int (0 : Int32))] [])
  refine OwnGo.getS X0 hx hZ hown (host := "") (Or.inl (hw _ (List.mem_of_getElem? (i := 55) rfl))) Via.refl e0 (SA.ext O1.2) (hb hby d14_0) fun T1 X1 e1 => ?_
  show Go p e below _ T1 (mkF m 3 #[.val (.ref r), .val (.int (0 : Int32))] [(.int (1 : Int32))])
  refine OwnGo.if_ne X1 hx (pc' := 28) (hb hby d14_3) (by decide) (by decide) (fun _ => ?_) (fun q => absurd q (by decide))
  show Go p e below _ T1 (mkF m 28 #[.val (.ref r), .val (.int (0 : Int32))] [])
  refine OwnGo.iloadN X1 hx (hb hby d14_28) rfl ?_
  show Go p e below _ T1 (mkF m 29 #[.val (.ref r), .val (.int (0 : Int32))] [(.int (0 : Int32))])
  refine OwnGo.iconst X1 hx (z := (1 : Int32)) (hb hby d14_29) (by decide) ?_
  show Go p e below _ T1 (mkF m 30 #[.val (.ref r), .val (.int (0 : Int32))] [(.int (1 : Int32)), (.int (0 : Int32))])
  refine OwnGo.ishl X1 hx (z := (0 : Int32)) (hb hby d14_30) (by decide) ?_
  show Go p e below _ T1 (mkF m 31 #[.val (.ref r), .val (.int (0 : Int32))] [(.int (0 : Int32))])
  refine OwnGo.istoreN X1 hx (hb hby d14_31) (Ls' := #[.val (.ref r), .val (.int (0 : Int32))]) rfl ?_
  show Go p e below _ T1 (mkF m 32 #[.val (.ref r), .val (.int (0 : Int32))] [])
  refine OwnGo.aloadN X1 hx (hb hby d14_32) rfl rfl ?_
  show Go p e below _ T1 (mkF m 33 #[.val (.ref r), .val (.int (0 : Int32))] [(.ref r)])
  refine OwnGo.iloadN X1 hx (hb hby d14_33) rfl ?_
  show Go p e below _ T1 (mkF m 34 #[.val (.ref r), .val (.int (0 : Int32))] [(.int (0 : Int32)), (.ref r)])
  refine OwnGo.iinc X1 hx (hb hby d14_34) rfl (z := (1 : Int32)) (by decide) (Ls' := #[.val (.ref r), .val (.int (1 : Int32))]) rfl ?_
  show Go p e below _ T1 (mkF m 37 #[.val (.ref r), .val (.int (1 : Int32))] [(.int (0 : Int32)), (.ref r)])
  obtain ⟨cl2, Ar2, Kq2, Sz2, Nn2, Hh2, Gg2⟩ := (id V1)
  have hin2 : ¬ ((0 : Int32) < 0 ∨ cl2.slots.size ≤ ((0 : Int32)).toNatClampNeg) := inb_of Sz2 ⟨by decide, by decide⟩
  refine OwnGo.baload X1 hx hZ e1 Ar2 hin2 (Has.at Hh2 hin2 (v := (.int ((y0 >>> ((0 : Int32) &&& 31)).toInt8.toInt32))) rfl) (hb hby d14_37) ?_
  show Go p e below _ T1 (mkF m 38 #[.val (.ref r), .val (.int (1 : Int32))] [(.int ((y0 >>> ((0 : Int32) &&& 31)).toInt8.toInt32))])
  refine OwnGo.sipush X1 hx (z := (255 : Int32)) (hb hby d14_38) (by decide) ?_
  show Go p e below _ T1 (mkF m 41 #[.val (.ref r), .val (.int (1 : Int32))] [(.int (255 : Int32)), (.int ((y0 >>> ((0 : Int32) &&& 31)).toInt8.toInt32))])
  refine OwnGo.iand X1 hx (hb hby d14_41) rfl ?_
  show Go p e below _ T1 (mkF m 42 #[.val (.ref r), .val (.int (1 : Int32))] [(.int (((y0 >>> ((0 : Int32) &&& 31)).toInt8.toInt32) &&& (255 : Int32)))])
  refine OwnGo.getS X1 hx hZ hown (host := "") (Or.inl (hw _ (List.mem_of_getElem? (i := 56) rfl))) Via.refl e1 (SH.ext O1.2) (hb hby d14_42) fun T3 X3 e3 => ?_
  show Go p e below _ T3 (mkF m 45 #[.val (.ref r), .val (.int (1 : Int32))] [(.int (0 : Int32)), (.int (((y0 >>> ((0 : Int32) &&& 31)).toInt8.toInt32) &&& (255 : Int32)))])
  refine OwnGo.ishl X3 hx (hb hby d14_45) rfl ?_
  show Go p e below _ T3 (mkF m 46 #[.val (.ref r), .val (.int (1 : Int32))] [(.int ((((y0 >>> ((0 : Int32) &&& 31)).toInt8.toInt32) &&& (255 : Int32)) <<< ((0 : Int32) &&& 31)))])
  refine OwnGo.aloadN X3 hx (hb hby d14_46) rfl rfl ?_
  show Go p e below _ T3 (mkF m 47 #[.val (.ref r), .val (.int (1 : Int32))] [(.ref r), (.int ((((y0 >>> ((0 : Int32) &&& 31)).toInt8.toInt32) &&& (255 : Int32)) <<< ((0 : Int32) &&& 31)))])
  refine OwnGo.iloadN X3 hx (hb hby d14_47) rfl ?_
  show Go p e below _ T3 (mkF m 48 #[.val (.ref r), .val (.int (1 : Int32))] [(.int (1 : Int32)), (.ref r), (.int ((((y0 >>> ((0 : Int32) &&& 31)).toInt8.toInt32) &&& (255 : Int32)) <<< ((0 : Int32) &&& 31)))])
  obtain ⟨cl4, Ar4, Kq4, Sz4, Nn4, Hh4, Gg4⟩ := (id V1)
  have hin4 : ¬ ((1 : Int32) < 0 ∨ cl4.slots.size ≤ ((1 : Int32)).toNatClampNeg) := inb_of Sz4 ⟨by decide, by decide⟩
  refine OwnGo.baload X3 hx hZ e3 Ar4 hin4 (Has.at Hh4 hin4 (v := (.int ((y0 >>> ((8 : Int32) &&& 31)).toInt8.toInt32))) rfl) (hb hby d14_48) ?_
  show Go p e below _ T3 (mkF m 49 #[.val (.ref r), .val (.int (1 : Int32))] [(.int ((y0 >>> ((8 : Int32) &&& 31)).toInt8.toInt32)), (.int ((((y0 >>> ((0 : Int32) &&& 31)).toInt8.toInt32) &&& (255 : Int32)) <<< ((0 : Int32) &&& 31)))])
  refine OwnGo.sipush X3 hx (z := (255 : Int32)) (hb hby d14_49) (by decide) ?_
  show Go p e below _ T3 (mkF m 52 #[.val (.ref r), .val (.int (1 : Int32))] [(.int (255 : Int32)), (.int ((y0 >>> ((8 : Int32) &&& 31)).toInt8.toInt32)), (.int ((((y0 >>> ((0 : Int32) &&& 31)).toInt8.toInt32) &&& (255 : Int32)) <<< ((0 : Int32) &&& 31)))])
  refine OwnGo.iand X3 hx (hb hby d14_52) rfl ?_
  show Go p e below _ T3 (mkF m 53 #[.val (.ref r), .val (.int (1 : Int32))] [(.int (((y0 >>> ((8 : Int32) &&& 31)).toInt8.toInt32) &&& (255 : Int32))), (.int ((((y0 >>> ((0 : Int32) &&& 31)).toInt8.toInt32) &&& (255 : Int32)) <<< ((0 : Int32) &&& 31)))])
  refine OwnGo.getS X3 hx hZ hown (host := "") (Or.inl (hw _ (List.mem_of_getElem? (i := 57) rfl))) Via.refl e3 (SLo.ext O1.2) (hb hby d14_53) fun T5 X5 e5 => ?_
  show Go p e below _ T5 (mkF m 56 #[.val (.ref r), .val (.int (1 : Int32))] [(.int (8 : Int32)), (.int (((y0 >>> ((8 : Int32) &&& 31)).toInt8.toInt32) &&& (255 : Int32))), (.int ((((y0 >>> ((0 : Int32) &&& 31)).toInt8.toInt32) &&& (255 : Int32)) <<< ((0 : Int32) &&& 31)))])
  refine OwnGo.ishl X5 hx (hb hby d14_56) rfl ?_
  show Go p e below _ T5 (mkF m 57 #[.val (.ref r), .val (.int (1 : Int32))] [(.int ((((y0 >>> ((8 : Int32) &&& 31)).toInt8.toInt32) &&& (255 : Int32)) <<< ((8 : Int32) &&& 31))), (.int ((((y0 >>> ((0 : Int32) &&& 31)).toInt8.toInt32) &&& (255 : Int32)) <<< ((0 : Int32) &&& 31)))])
  refine OwnGo.ior X5 hx (hb hby d14_57) rfl ?_
  show Go p e below _ T5 (mkF m 58 #[.val (.ref r), .val (.int (1 : Int32))] [(.int (((((y0 >>> ((0 : Int32) &&& 31)).toInt8.toInt32) &&& (255 : Int32)) <<< ((0 : Int32) &&& 31)) ||| ((((y0 >>> ((8 : Int32) &&& 31)).toInt8.toInt32) &&& (255 : Int32)) <<< ((8 : Int32) &&& 31))))])
  refine OwnGo.i2c X5 hx (hb hby d14_58) rfl ?_
  show Go p e below _ T5 (mkF m 59 #[.val (.ref r), .val (.int (1 : Int32))] [(.int ((((((y0 >>> ((0 : Int32) &&& 31)).toInt8.toInt32) &&& (255 : Int32)) <<< ((0 : Int32) &&& 31)) ||| ((((y0 >>> ((8 : Int32) &&& 31)).toInt8.toInt32) &&& (255 : Int32)) <<< ((8 : Int32) &&& 31))).toUInt32.toUInt16.toUInt32.toInt32))])
  exact OwnGo.retC X5 hx hlk (z' := y0) hret (hb hby d14_59) (own_gc nc0) ⟨rfl, e5, rfl⟩ (by decide) (by decide)
theorem own_ef_rmGCH1 (m : MethodId) (x0 : Addr) (x1 : Int32) : entryFrame m [(.ref x0), (.int x1)].toArray 2 = mkF m 0 #[.val (.ref x0), .val (.int x1)] [] := by first | (simp [entryFrame, mkF, argsToLocals, Value.category]; done) | rfl
set_option maxRecDepth 65536 in
set_option maxHeartbeats 40000000 in
theorem rmGCH1 (l : Launch) (Z : State) (a0 : Array Value) (hw : ∀ d ∈ tables_1, d.before a0 Z = true) (r : Addr) (kr : ClassId) (y0 y1 y2 y3 : Int32) (h0 : Heap) (n0 : Nat) (Z0 : n0 ≤ h0.size) (O1 : Old Z n0 h0) (V1 : Arv Z h0 r kr .byte (8 : Int32) [(.int ((y0 >>> ((0 : Int32) &&& 31)).toInt8.toInt32)), (.int ((y0 >>> ((8 : Int32) &&& 31)).toInt8.toInt32)), (.int ((y1 >>> ((0 : Int32) &&& 31)).toInt8.toInt32)), (.int ((y1 >>> ((8 : Int32) &&& 31)).toInt8.toInt32)), (.int ((y2 >>> ((0 : Int32) &&& 31)).toInt8.toInt32)), (.int ((y2 >>> ((8 : Int32) &&& 31)).toInt8.toInt32)), (.int ((y3 >>> ((0 : Int32) &&& 31)).toInt8.toInt32)), (.int ((y3 >>> ((8 : Int32) &&& 31)).toInt8.toInt32))] (.int (0 : Int32))) (SA : Sta Z Z.heap "java/lang/StringUTF16" "$assertionsDisabled" "Z" (.int (1 : Int32))) (SH : Sta Z Z.heap "java/lang/StringUTF16" "HI_BYTE_SHIFT" "I" (.int (0 : Int32))) (SLo : Sta Z Z.heap "java/lang/StringUTF16" "LO_BYTE_SHIFT" "I" (.int (8 : Int32))) (nc1 : nar .char y1 = y1) :
    Con l Z (⟨"java/lang/StringUTF16", "getChar", "([BI)C"⟩ : MethodName) jdk_52_method_5_code 2 (some .char) ({ frames := 0, cells := 0, slots := 0, locals := 0 } : Room) [(.ref r), (.int (1 : Int32))] h0 (Ret (some (.int y1)) h0) := by
  refine OwnGo.Con.of (plainFor_of_name own_pn1) (Ls0 := #[.val (.ref r), .val (.int (1 : Int32))]) (fun m => own_ef_rmGCH1 m r (1 : Int32)) ?_
  intro p e s m below meth c T0 X0 hx hZ hby hml hown hnm hret hlk e0
  show Go p e below _ T0 (mkF m 0 #[.val (.ref r), .val (.int (1 : Int32))] [])
  refine OwnGo.getS X0 hx hZ hown (host := "") (Or.inl (hw _ (List.mem_of_getElem? (i := 55) rfl))) Via.refl e0 (SA.ext O1.2) (hb hby d14_0) fun T1 X1 e1 => ?_
  show Go p e below _ T1 (mkF m 3 #[.val (.ref r), .val (.int (1 : Int32))] [(.int (1 : Int32))])
  refine OwnGo.if_ne X1 hx (pc' := 28) (hb hby d14_3) (by decide) (by decide) (fun _ => ?_) (fun q => absurd q (by decide))
  show Go p e below _ T1 (mkF m 28 #[.val (.ref r), .val (.int (1 : Int32))] [])
  refine OwnGo.iloadN X1 hx (hb hby d14_28) rfl ?_
  show Go p e below _ T1 (mkF m 29 #[.val (.ref r), .val (.int (1 : Int32))] [(.int (1 : Int32))])
  refine OwnGo.iconst X1 hx (z := (1 : Int32)) (hb hby d14_29) (by decide) ?_
  show Go p e below _ T1 (mkF m 30 #[.val (.ref r), .val (.int (1 : Int32))] [(.int (1 : Int32)), (.int (1 : Int32))])
  refine OwnGo.ishl X1 hx (z := (2 : Int32)) (hb hby d14_30) (by decide) ?_
  show Go p e below _ T1 (mkF m 31 #[.val (.ref r), .val (.int (1 : Int32))] [(.int (2 : Int32))])
  refine OwnGo.istoreN X1 hx (hb hby d14_31) (Ls' := #[.val (.ref r), .val (.int (2 : Int32))]) rfl ?_
  show Go p e below _ T1 (mkF m 32 #[.val (.ref r), .val (.int (2 : Int32))] [])
  refine OwnGo.aloadN X1 hx (hb hby d14_32) rfl rfl ?_
  show Go p e below _ T1 (mkF m 33 #[.val (.ref r), .val (.int (2 : Int32))] [(.ref r)])
  refine OwnGo.iloadN X1 hx (hb hby d14_33) rfl ?_
  show Go p e below _ T1 (mkF m 34 #[.val (.ref r), .val (.int (2 : Int32))] [(.int (2 : Int32)), (.ref r)])
  refine OwnGo.iinc X1 hx (hb hby d14_34) rfl (z := (3 : Int32)) (by decide) (Ls' := #[.val (.ref r), .val (.int (3 : Int32))]) rfl ?_
  show Go p e below _ T1 (mkF m 37 #[.val (.ref r), .val (.int (3 : Int32))] [(.int (2 : Int32)), (.ref r)])
  obtain ⟨cl2, Ar2, Kq2, Sz2, Nn2, Hh2, Gg2⟩ := (id V1)
  have hin2 : ¬ ((2 : Int32) < 0 ∨ cl2.slots.size ≤ ((2 : Int32)).toNatClampNeg) := inb_of Sz2 ⟨by decide, by decide⟩
  refine OwnGo.baload X1 hx hZ e1 Ar2 hin2 (Has.at Hh2 hin2 (v := (.int ((y1 >>> ((0 : Int32) &&& 31)).toInt8.toInt32))) rfl) (hb hby d14_37) ?_
  show Go p e below _ T1 (mkF m 38 #[.val (.ref r), .val (.int (3 : Int32))] [(.int ((y1 >>> ((0 : Int32) &&& 31)).toInt8.toInt32))])
  refine OwnGo.sipush X1 hx (z := (255 : Int32)) (hb hby d14_38) (by decide) ?_
  show Go p e below _ T1 (mkF m 41 #[.val (.ref r), .val (.int (3 : Int32))] [(.int (255 : Int32)), (.int ((y1 >>> ((0 : Int32) &&& 31)).toInt8.toInt32))])
  refine OwnGo.iand X1 hx (hb hby d14_41) rfl ?_
  show Go p e below _ T1 (mkF m 42 #[.val (.ref r), .val (.int (3 : Int32))] [(.int (((y1 >>> ((0 : Int32) &&& 31)).toInt8.toInt32) &&& (255 : Int32)))])
  refine OwnGo.getS X1 hx hZ hown (host := "") (Or.inl (hw _ (List.mem_of_getElem? (i := 56) rfl))) Via.refl e1 (SH.ext O1.2) (hb hby d14_42) fun T3 X3 e3 => ?_
  show Go p e below _ T3 (mkF m 45 #[.val (.ref r), .val (.int (3 : Int32))] [(.int (0 : Int32)), (.int (((y1 >>> ((0 : Int32) &&& 31)).toInt8.toInt32) &&& (255 : Int32)))])
  refine OwnGo.ishl X3 hx (hb hby d14_45) rfl ?_
  show Go p e below _ T3 (mkF m 46 #[.val (.ref r), .val (.int (3 : Int32))] [(.int ((((y1 >>> ((0 : Int32) &&& 31)).toInt8.toInt32) &&& (255 : Int32)) <<< ((0 : Int32) &&& 31)))])
  refine OwnGo.aloadN X3 hx (hb hby d14_46) rfl rfl ?_
  show Go p e below _ T3 (mkF m 47 #[.val (.ref r), .val (.int (3 : Int32))] [(.ref r), (.int ((((y1 >>> ((0 : Int32) &&& 31)).toInt8.toInt32) &&& (255 : Int32)) <<< ((0 : Int32) &&& 31)))])
  refine OwnGo.iloadN X3 hx (hb hby d14_47) rfl ?_
  show Go p e below _ T3 (mkF m 48 #[.val (.ref r), .val (.int (3 : Int32))] [(.int (3 : Int32)), (.ref r), (.int ((((y1 >>> ((0 : Int32) &&& 31)).toInt8.toInt32) &&& (255 : Int32)) <<< ((0 : Int32) &&& 31)))])
  obtain ⟨cl4, Ar4, Kq4, Sz4, Nn4, Hh4, Gg4⟩ := (id V1)
  have hin4 : ¬ ((3 : Int32) < 0 ∨ cl4.slots.size ≤ ((3 : Int32)).toNatClampNeg) := inb_of Sz4 ⟨by decide, by decide⟩
  refine OwnGo.baload X3 hx hZ e3 Ar4 hin4 (Has.at Hh4 hin4 (v := (.int ((y1 >>> ((8 : Int32) &&& 31)).toInt8.toInt32))) rfl) (hb hby d14_48) ?_
  show Go p e below _ T3 (mkF m 49 #[.val (.ref r), .val (.int (3 : Int32))] [(.int ((y1 >>> ((8 : Int32) &&& 31)).toInt8.toInt32)), (.int ((((y1 >>> ((0 : Int32) &&& 31)).toInt8.toInt32) &&& (255 : Int32)) <<< ((0 : Int32) &&& 31)))])
  refine OwnGo.sipush X3 hx (z := (255 : Int32)) (hb hby d14_49) (by decide) ?_
  show Go p e below _ T3 (mkF m 52 #[.val (.ref r), .val (.int (3 : Int32))] [(.int (255 : Int32)), (.int ((y1 >>> ((8 : Int32) &&& 31)).toInt8.toInt32)), (.int ((((y1 >>> ((0 : Int32) &&& 31)).toInt8.toInt32) &&& (255 : Int32)) <<< ((0 : Int32) &&& 31)))])
  refine OwnGo.iand X3 hx (hb hby d14_52) rfl ?_
  show Go p e below _ T3 (mkF m 53 #[.val (.ref r), .val (.int (3 : Int32))] [(.int (((y1 >>> ((8 : Int32) &&& 31)).toInt8.toInt32) &&& (255 : Int32))), (.int ((((y1 >>> ((0 : Int32) &&& 31)).toInt8.toInt32) &&& (255 : Int32)) <<< ((0 : Int32) &&& 31)))])
  refine OwnGo.getS X3 hx hZ hown (host := "") (Or.inl (hw _ (List.mem_of_getElem? (i := 57) rfl))) Via.refl e3 (SLo.ext O1.2) (hb hby d14_53) fun T5 X5 e5 => ?_
  show Go p e below _ T5 (mkF m 56 #[.val (.ref r), .val (.int (3 : Int32))] [(.int (8 : Int32)), (.int (((y1 >>> ((8 : Int32) &&& 31)).toInt8.toInt32) &&& (255 : Int32))), (.int ((((y1 >>> ((0 : Int32) &&& 31)).toInt8.toInt32) &&& (255 : Int32)) <<< ((0 : Int32) &&& 31)))])
  refine OwnGo.ishl X5 hx (hb hby d14_56) rfl ?_
  show Go p e below _ T5 (mkF m 57 #[.val (.ref r), .val (.int (3 : Int32))] [(.int ((((y1 >>> ((8 : Int32) &&& 31)).toInt8.toInt32) &&& (255 : Int32)) <<< ((8 : Int32) &&& 31))), (.int ((((y1 >>> ((0 : Int32) &&& 31)).toInt8.toInt32) &&& (255 : Int32)) <<< ((0 : Int32) &&& 31)))])
  refine OwnGo.ior X5 hx (hb hby d14_57) rfl ?_
  show Go p e below _ T5 (mkF m 58 #[.val (.ref r), .val (.int (3 : Int32))] [(.int (((((y1 >>> ((0 : Int32) &&& 31)).toInt8.toInt32) &&& (255 : Int32)) <<< ((0 : Int32) &&& 31)) ||| ((((y1 >>> ((8 : Int32) &&& 31)).toInt8.toInt32) &&& (255 : Int32)) <<< ((8 : Int32) &&& 31))))])
  refine OwnGo.i2c X5 hx (hb hby d14_58) rfl ?_
  show Go p e below _ T5 (mkF m 59 #[.val (.ref r), .val (.int (3 : Int32))] [(.int ((((((y1 >>> ((0 : Int32) &&& 31)).toInt8.toInt32) &&& (255 : Int32)) <<< ((0 : Int32) &&& 31)) ||| ((((y1 >>> ((8 : Int32) &&& 31)).toInt8.toInt32) &&& (255 : Int32)) <<< ((8 : Int32) &&& 31))).toUInt32.toUInt16.toUInt32.toInt32))])
  exact OwnGo.retC X5 hx hlk (z' := y1) hret (hb hby d14_59) (own_gc nc1) ⟨rfl, e5, rfl⟩ (by decide) (by decide)
theorem own_ef_rmGCH2 (m : MethodId) (x0 : Addr) (x1 : Int32) : entryFrame m [(.ref x0), (.int x1)].toArray 2 = mkF m 0 #[.val (.ref x0), .val (.int x1)] [] := by first | (simp [entryFrame, mkF, argsToLocals, Value.category]; done) | rfl
set_option maxRecDepth 65536 in
set_option maxHeartbeats 40000000 in
theorem rmGCH2 (l : Launch) (Z : State) (a0 : Array Value) (hw : ∀ d ∈ tables_1, d.before a0 Z = true) (r : Addr) (kr : ClassId) (y0 y1 y2 y3 : Int32) (h0 : Heap) (n0 : Nat) (Z0 : n0 ≤ h0.size) (O1 : Old Z n0 h0) (V1 : Arv Z h0 r kr .byte (8 : Int32) [(.int ((y0 >>> ((0 : Int32) &&& 31)).toInt8.toInt32)), (.int ((y0 >>> ((8 : Int32) &&& 31)).toInt8.toInt32)), (.int ((y1 >>> ((0 : Int32) &&& 31)).toInt8.toInt32)), (.int ((y1 >>> ((8 : Int32) &&& 31)).toInt8.toInt32)), (.int ((y2 >>> ((0 : Int32) &&& 31)).toInt8.toInt32)), (.int ((y2 >>> ((8 : Int32) &&& 31)).toInt8.toInt32)), (.int ((y3 >>> ((0 : Int32) &&& 31)).toInt8.toInt32)), (.int ((y3 >>> ((8 : Int32) &&& 31)).toInt8.toInt32))] (.int (0 : Int32))) (SA : Sta Z Z.heap "java/lang/StringUTF16" "$assertionsDisabled" "Z" (.int (1 : Int32))) (SH : Sta Z Z.heap "java/lang/StringUTF16" "HI_BYTE_SHIFT" "I" (.int (0 : Int32))) (SLo : Sta Z Z.heap "java/lang/StringUTF16" "LO_BYTE_SHIFT" "I" (.int (8 : Int32))) (nc2 : nar .char y2 = y2) :
    Con l Z (⟨"java/lang/StringUTF16", "getChar", "([BI)C"⟩ : MethodName) jdk_52_method_5_code 2 (some .char) ({ frames := 0, cells := 0, slots := 0, locals := 0 } : Room) [(.ref r), (.int (2 : Int32))] h0 (Ret (some (.int y2)) h0) := by
  refine OwnGo.Con.of (plainFor_of_name own_pn1) (Ls0 := #[.val (.ref r), .val (.int (2 : Int32))]) (fun m => own_ef_rmGCH2 m r (2 : Int32)) ?_
  intro p e s m below meth c T0 X0 hx hZ hby hml hown hnm hret hlk e0
  show Go p e below _ T0 (mkF m 0 #[.val (.ref r), .val (.int (2 : Int32))] [])
  refine OwnGo.getS X0 hx hZ hown (host := "") (Or.inl (hw _ (List.mem_of_getElem? (i := 55) rfl))) Via.refl e0 (SA.ext O1.2) (hb hby d14_0) fun T1 X1 e1 => ?_
  show Go p e below _ T1 (mkF m 3 #[.val (.ref r), .val (.int (2 : Int32))] [(.int (1 : Int32))])
  refine OwnGo.if_ne X1 hx (pc' := 28) (hb hby d14_3) (by decide) (by decide) (fun _ => ?_) (fun q => absurd q (by decide))
  show Go p e below _ T1 (mkF m 28 #[.val (.ref r), .val (.int (2 : Int32))] [])
  refine OwnGo.iloadN X1 hx (hb hby d14_28) rfl ?_
  show Go p e below _ T1 (mkF m 29 #[.val (.ref r), .val (.int (2 : Int32))] [(.int (2 : Int32))])
  refine OwnGo.iconst X1 hx (z := (1 : Int32)) (hb hby d14_29) (by decide) ?_
  show Go p e below _ T1 (mkF m 30 #[.val (.ref r), .val (.int (2 : Int32))] [(.int (1 : Int32)), (.int (2 : Int32))])
  refine OwnGo.ishl X1 hx (z := (4 : Int32)) (hb hby d14_30) (by decide) ?_
  show Go p e below _ T1 (mkF m 31 #[.val (.ref r), .val (.int (2 : Int32))] [(.int (4 : Int32))])
  refine OwnGo.istoreN X1 hx (hb hby d14_31) (Ls' := #[.val (.ref r), .val (.int (4 : Int32))]) rfl ?_
  show Go p e below _ T1 (mkF m 32 #[.val (.ref r), .val (.int (4 : Int32))] [])
  refine OwnGo.aloadN X1 hx (hb hby d14_32) rfl rfl ?_
  show Go p e below _ T1 (mkF m 33 #[.val (.ref r), .val (.int (4 : Int32))] [(.ref r)])
  refine OwnGo.iloadN X1 hx (hb hby d14_33) rfl ?_
  show Go p e below _ T1 (mkF m 34 #[.val (.ref r), .val (.int (4 : Int32))] [(.int (4 : Int32)), (.ref r)])
  refine OwnGo.iinc X1 hx (hb hby d14_34) rfl (z := (5 : Int32)) (by decide) (Ls' := #[.val (.ref r), .val (.int (5 : Int32))]) rfl ?_
  show Go p e below _ T1 (mkF m 37 #[.val (.ref r), .val (.int (5 : Int32))] [(.int (4 : Int32)), (.ref r)])
  obtain ⟨cl2, Ar2, Kq2, Sz2, Nn2, Hh2, Gg2⟩ := (id V1)
  have hin2 : ¬ ((4 : Int32) < 0 ∨ cl2.slots.size ≤ ((4 : Int32)).toNatClampNeg) := inb_of Sz2 ⟨by decide, by decide⟩
  refine OwnGo.baload X1 hx hZ e1 Ar2 hin2 (Has.at Hh2 hin2 (v := (.int ((y2 >>> ((0 : Int32) &&& 31)).toInt8.toInt32))) rfl) (hb hby d14_37) ?_
  show Go p e below _ T1 (mkF m 38 #[.val (.ref r), .val (.int (5 : Int32))] [(.int ((y2 >>> ((0 : Int32) &&& 31)).toInt8.toInt32))])
  refine OwnGo.sipush X1 hx (z := (255 : Int32)) (hb hby d14_38) (by decide) ?_
  show Go p e below _ T1 (mkF m 41 #[.val (.ref r), .val (.int (5 : Int32))] [(.int (255 : Int32)), (.int ((y2 >>> ((0 : Int32) &&& 31)).toInt8.toInt32))])
  refine OwnGo.iand X1 hx (hb hby d14_41) rfl ?_
  show Go p e below _ T1 (mkF m 42 #[.val (.ref r), .val (.int (5 : Int32))] [(.int (((y2 >>> ((0 : Int32) &&& 31)).toInt8.toInt32) &&& (255 : Int32)))])
  refine OwnGo.getS X1 hx hZ hown (host := "") (Or.inl (hw _ (List.mem_of_getElem? (i := 56) rfl))) Via.refl e1 (SH.ext O1.2) (hb hby d14_42) fun T3 X3 e3 => ?_
  show Go p e below _ T3 (mkF m 45 #[.val (.ref r), .val (.int (5 : Int32))] [(.int (0 : Int32)), (.int (((y2 >>> ((0 : Int32) &&& 31)).toInt8.toInt32) &&& (255 : Int32)))])
  refine OwnGo.ishl X3 hx (hb hby d14_45) rfl ?_
  show Go p e below _ T3 (mkF m 46 #[.val (.ref r), .val (.int (5 : Int32))] [(.int ((((y2 >>> ((0 : Int32) &&& 31)).toInt8.toInt32) &&& (255 : Int32)) <<< ((0 : Int32) &&& 31)))])
  refine OwnGo.aloadN X3 hx (hb hby d14_46) rfl rfl ?_
  show Go p e below _ T3 (mkF m 47 #[.val (.ref r), .val (.int (5 : Int32))] [(.ref r), (.int ((((y2 >>> ((0 : Int32) &&& 31)).toInt8.toInt32) &&& (255 : Int32)) <<< ((0 : Int32) &&& 31)))])
  refine OwnGo.iloadN X3 hx (hb hby d14_47) rfl ?_
  show Go p e below _ T3 (mkF m 48 #[.val (.ref r), .val (.int (5 : Int32))] [(.int (5 : Int32)), (.ref r), (.int ((((y2 >>> ((0 : Int32) &&& 31)).toInt8.toInt32) &&& (255 : Int32)) <<< ((0 : Int32) &&& 31)))])
  obtain ⟨cl4, Ar4, Kq4, Sz4, Nn4, Hh4, Gg4⟩ := (id V1)
  have hin4 : ¬ ((5 : Int32) < 0 ∨ cl4.slots.size ≤ ((5 : Int32)).toNatClampNeg) := inb_of Sz4 ⟨by decide, by decide⟩
  refine OwnGo.baload X3 hx hZ e3 Ar4 hin4 (Has.at Hh4 hin4 (v := (.int ((y2 >>> ((8 : Int32) &&& 31)).toInt8.toInt32))) rfl) (hb hby d14_48) ?_
  show Go p e below _ T3 (mkF m 49 #[.val (.ref r), .val (.int (5 : Int32))] [(.int ((y2 >>> ((8 : Int32) &&& 31)).toInt8.toInt32)), (.int ((((y2 >>> ((0 : Int32) &&& 31)).toInt8.toInt32) &&& (255 : Int32)) <<< ((0 : Int32) &&& 31)))])
  refine OwnGo.sipush X3 hx (z := (255 : Int32)) (hb hby d14_49) (by decide) ?_
  show Go p e below _ T3 (mkF m 52 #[.val (.ref r), .val (.int (5 : Int32))] [(.int (255 : Int32)), (.int ((y2 >>> ((8 : Int32) &&& 31)).toInt8.toInt32)), (.int ((((y2 >>> ((0 : Int32) &&& 31)).toInt8.toInt32) &&& (255 : Int32)) <<< ((0 : Int32) &&& 31)))])
  refine OwnGo.iand X3 hx (hb hby d14_52) rfl ?_
  show Go p e below _ T3 (mkF m 53 #[.val (.ref r), .val (.int (5 : Int32))] [(.int (((y2 >>> ((8 : Int32) &&& 31)).toInt8.toInt32) &&& (255 : Int32))), (.int ((((y2 >>> ((0 : Int32) &&& 31)).toInt8.toInt32) &&& (255 : Int32)) <<< ((0 : Int32) &&& 31)))])
  refine OwnGo.getS X3 hx hZ hown (host := "") (Or.inl (hw _ (List.mem_of_getElem? (i := 57) rfl))) Via.refl e3 (SLo.ext O1.2) (hb hby d14_53) fun T5 X5 e5 => ?_
  show Go p e below _ T5 (mkF m 56 #[.val (.ref r), .val (.int (5 : Int32))] [(.int (8 : Int32)), (.int (((y2 >>> ((8 : Int32) &&& 31)).toInt8.toInt32) &&& (255 : Int32))), (.int ((((y2 >>> ((0 : Int32) &&& 31)).toInt8.toInt32) &&& (255 : Int32)) <<< ((0 : Int32) &&& 31)))])
  refine OwnGo.ishl X5 hx (hb hby d14_56) rfl ?_
  show Go p e below _ T5 (mkF m 57 #[.val (.ref r), .val (.int (5 : Int32))] [(.int ((((y2 >>> ((8 : Int32) &&& 31)).toInt8.toInt32) &&& (255 : Int32)) <<< ((8 : Int32) &&& 31))), (.int ((((y2 >>> ((0 : Int32) &&& 31)).toInt8.toInt32) &&& (255 : Int32)) <<< ((0 : Int32) &&& 31)))])
  refine OwnGo.ior X5 hx (hb hby d14_57) rfl ?_
  show Go p e below _ T5 (mkF m 58 #[.val (.ref r), .val (.int (5 : Int32))] [(.int (((((y2 >>> ((0 : Int32) &&& 31)).toInt8.toInt32) &&& (255 : Int32)) <<< ((0 : Int32) &&& 31)) ||| ((((y2 >>> ((8 : Int32) &&& 31)).toInt8.toInt32) &&& (255 : Int32)) <<< ((8 : Int32) &&& 31))))])
  refine OwnGo.i2c X5 hx (hb hby d14_58) rfl ?_
  show Go p e below _ T5 (mkF m 59 #[.val (.ref r), .val (.int (5 : Int32))] [(.int ((((((y2 >>> ((0 : Int32) &&& 31)).toInt8.toInt32) &&& (255 : Int32)) <<< ((0 : Int32) &&& 31)) ||| ((((y2 >>> ((8 : Int32) &&& 31)).toInt8.toInt32) &&& (255 : Int32)) <<< ((8 : Int32) &&& 31))).toUInt32.toUInt16.toUInt32.toInt32))])
  exact OwnGo.retC X5 hx hlk (z' := y2) hret (hb hby d14_59) (own_gc nc2) ⟨rfl, e5, rfl⟩ (by decide) (by decide)
theorem own_ef_rmGCH3 (m : MethodId) (x0 : Addr) (x1 : Int32) : entryFrame m [(.ref x0), (.int x1)].toArray 2 = mkF m 0 #[.val (.ref x0), .val (.int x1)] [] := by first | (simp [entryFrame, mkF, argsToLocals, Value.category]; done) | rfl
set_option maxRecDepth 65536 in
set_option maxHeartbeats 40000000 in
theorem rmGCH3 (l : Launch) (Z : State) (a0 : Array Value) (hw : ∀ d ∈ tables_1, d.before a0 Z = true) (r : Addr) (kr : ClassId) (y0 y1 y2 y3 : Int32) (h0 : Heap) (n0 : Nat) (Z0 : n0 ≤ h0.size) (O1 : Old Z n0 h0) (V1 : Arv Z h0 r kr .byte (8 : Int32) [(.int ((y0 >>> ((0 : Int32) &&& 31)).toInt8.toInt32)), (.int ((y0 >>> ((8 : Int32) &&& 31)).toInt8.toInt32)), (.int ((y1 >>> ((0 : Int32) &&& 31)).toInt8.toInt32)), (.int ((y1 >>> ((8 : Int32) &&& 31)).toInt8.toInt32)), (.int ((y2 >>> ((0 : Int32) &&& 31)).toInt8.toInt32)), (.int ((y2 >>> ((8 : Int32) &&& 31)).toInt8.toInt32)), (.int ((y3 >>> ((0 : Int32) &&& 31)).toInt8.toInt32)), (.int ((y3 >>> ((8 : Int32) &&& 31)).toInt8.toInt32))] (.int (0 : Int32))) (SA : Sta Z Z.heap "java/lang/StringUTF16" "$assertionsDisabled" "Z" (.int (1 : Int32))) (SH : Sta Z Z.heap "java/lang/StringUTF16" "HI_BYTE_SHIFT" "I" (.int (0 : Int32))) (SLo : Sta Z Z.heap "java/lang/StringUTF16" "LO_BYTE_SHIFT" "I" (.int (8 : Int32))) (nc3 : nar .char y3 = y3) :
    Con l Z (⟨"java/lang/StringUTF16", "getChar", "([BI)C"⟩ : MethodName) jdk_52_method_5_code 2 (some .char) ({ frames := 0, cells := 0, slots := 0, locals := 0 } : Room) [(.ref r), (.int (3 : Int32))] h0 (Ret (some (.int y3)) h0) := by
  refine OwnGo.Con.of (plainFor_of_name own_pn1) (Ls0 := #[.val (.ref r), .val (.int (3 : Int32))]) (fun m => own_ef_rmGCH3 m r (3 : Int32)) ?_
  intro p e s m below meth c T0 X0 hx hZ hby hml hown hnm hret hlk e0
  show Go p e below _ T0 (mkF m 0 #[.val (.ref r), .val (.int (3 : Int32))] [])
  refine OwnGo.getS X0 hx hZ hown (host := "") (Or.inl (hw _ (List.mem_of_getElem? (i := 55) rfl))) Via.refl e0 (SA.ext O1.2) (hb hby d14_0) fun T1 X1 e1 => ?_
  show Go p e below _ T1 (mkF m 3 #[.val (.ref r), .val (.int (3 : Int32))] [(.int (1 : Int32))])
  refine OwnGo.if_ne X1 hx (pc' := 28) (hb hby d14_3) (by decide) (by decide) (fun _ => ?_) (fun q => absurd q (by decide))
  show Go p e below _ T1 (mkF m 28 #[.val (.ref r), .val (.int (3 : Int32))] [])
  refine OwnGo.iloadN X1 hx (hb hby d14_28) rfl ?_
  show Go p e below _ T1 (mkF m 29 #[.val (.ref r), .val (.int (3 : Int32))] [(.int (3 : Int32))])
  refine OwnGo.iconst X1 hx (z := (1 : Int32)) (hb hby d14_29) (by decide) ?_
  show Go p e below _ T1 (mkF m 30 #[.val (.ref r), .val (.int (3 : Int32))] [(.int (1 : Int32)), (.int (3 : Int32))])
  refine OwnGo.ishl X1 hx (z := (6 : Int32)) (hb hby d14_30) (by decide) ?_
  show Go p e below _ T1 (mkF m 31 #[.val (.ref r), .val (.int (3 : Int32))] [(.int (6 : Int32))])
  refine OwnGo.istoreN X1 hx (hb hby d14_31) (Ls' := #[.val (.ref r), .val (.int (6 : Int32))]) rfl ?_
  show Go p e below _ T1 (mkF m 32 #[.val (.ref r), .val (.int (6 : Int32))] [])
  refine OwnGo.aloadN X1 hx (hb hby d14_32) rfl rfl ?_
  show Go p e below _ T1 (mkF m 33 #[.val (.ref r), .val (.int (6 : Int32))] [(.ref r)])
  refine OwnGo.iloadN X1 hx (hb hby d14_33) rfl ?_
  show Go p e below _ T1 (mkF m 34 #[.val (.ref r), .val (.int (6 : Int32))] [(.int (6 : Int32)), (.ref r)])
  refine OwnGo.iinc X1 hx (hb hby d14_34) rfl (z := (7 : Int32)) (by decide) (Ls' := #[.val (.ref r), .val (.int (7 : Int32))]) rfl ?_
  show Go p e below _ T1 (mkF m 37 #[.val (.ref r), .val (.int (7 : Int32))] [(.int (6 : Int32)), (.ref r)])
  obtain ⟨cl2, Ar2, Kq2, Sz2, Nn2, Hh2, Gg2⟩ := (id V1)
  have hin2 : ¬ ((6 : Int32) < 0 ∨ cl2.slots.size ≤ ((6 : Int32)).toNatClampNeg) := inb_of Sz2 ⟨by decide, by decide⟩
  refine OwnGo.baload X1 hx hZ e1 Ar2 hin2 (Has.at Hh2 hin2 (v := (.int ((y3 >>> ((0 : Int32) &&& 31)).toInt8.toInt32))) rfl) (hb hby d14_37) ?_
  show Go p e below _ T1 (mkF m 38 #[.val (.ref r), .val (.int (7 : Int32))] [(.int ((y3 >>> ((0 : Int32) &&& 31)).toInt8.toInt32))])
  refine OwnGo.sipush X1 hx (z := (255 : Int32)) (hb hby d14_38) (by decide) ?_
  show Go p e below _ T1 (mkF m 41 #[.val (.ref r), .val (.int (7 : Int32))] [(.int (255 : Int32)), (.int ((y3 >>> ((0 : Int32) &&& 31)).toInt8.toInt32))])
  refine OwnGo.iand X1 hx (hb hby d14_41) rfl ?_
  show Go p e below _ T1 (mkF m 42 #[.val (.ref r), .val (.int (7 : Int32))] [(.int (((y3 >>> ((0 : Int32) &&& 31)).toInt8.toInt32) &&& (255 : Int32)))])
  refine OwnGo.getS X1 hx hZ hown (host := "") (Or.inl (hw _ (List.mem_of_getElem? (i := 56) rfl))) Via.refl e1 (SH.ext O1.2) (hb hby d14_42) fun T3 X3 e3 => ?_
  show Go p e below _ T3 (mkF m 45 #[.val (.ref r), .val (.int (7 : Int32))] [(.int (0 : Int32)), (.int (((y3 >>> ((0 : Int32) &&& 31)).toInt8.toInt32) &&& (255 : Int32)))])
  refine OwnGo.ishl X3 hx (hb hby d14_45) rfl ?_
  show Go p e below _ T3 (mkF m 46 #[.val (.ref r), .val (.int (7 : Int32))] [(.int ((((y3 >>> ((0 : Int32) &&& 31)).toInt8.toInt32) &&& (255 : Int32)) <<< ((0 : Int32) &&& 31)))])
  refine OwnGo.aloadN X3 hx (hb hby d14_46) rfl rfl ?_
  show Go p e below _ T3 (mkF m 47 #[.val (.ref r), .val (.int (7 : Int32))] [(.ref r), (.int ((((y3 >>> ((0 : Int32) &&& 31)).toInt8.toInt32) &&& (255 : Int32)) <<< ((0 : Int32) &&& 31)))])
  refine OwnGo.iloadN X3 hx (hb hby d14_47) rfl ?_
  show Go p e below _ T3 (mkF m 48 #[.val (.ref r), .val (.int (7 : Int32))] [(.int (7 : Int32)), (.ref r), (.int ((((y3 >>> ((0 : Int32) &&& 31)).toInt8.toInt32) &&& (255 : Int32)) <<< ((0 : Int32) &&& 31)))])
  obtain ⟨cl4, Ar4, Kq4, Sz4, Nn4, Hh4, Gg4⟩ := (id V1)
  have hin4 : ¬ ((7 : Int32) < 0 ∨ cl4.slots.size ≤ ((7 : Int32)).toNatClampNeg) := inb_of Sz4 ⟨by decide, by decide⟩
  refine OwnGo.baload X3 hx hZ e3 Ar4 hin4 (Has.at Hh4 hin4 (v := (.int ((y3 >>> ((8 : Int32) &&& 31)).toInt8.toInt32))) rfl) (hb hby d14_48) ?_
  show Go p e below _ T3 (mkF m 49 #[.val (.ref r), .val (.int (7 : Int32))] [(.int ((y3 >>> ((8 : Int32) &&& 31)).toInt8.toInt32)), (.int ((((y3 >>> ((0 : Int32) &&& 31)).toInt8.toInt32) &&& (255 : Int32)) <<< ((0 : Int32) &&& 31)))])
  refine OwnGo.sipush X3 hx (z := (255 : Int32)) (hb hby d14_49) (by decide) ?_
  show Go p e below _ T3 (mkF m 52 #[.val (.ref r), .val (.int (7 : Int32))] [(.int (255 : Int32)), (.int ((y3 >>> ((8 : Int32) &&& 31)).toInt8.toInt32)), (.int ((((y3 >>> ((0 : Int32) &&& 31)).toInt8.toInt32) &&& (255 : Int32)) <<< ((0 : Int32) &&& 31)))])
  refine OwnGo.iand X3 hx (hb hby d14_52) rfl ?_
  show Go p e below _ T3 (mkF m 53 #[.val (.ref r), .val (.int (7 : Int32))] [(.int (((y3 >>> ((8 : Int32) &&& 31)).toInt8.toInt32) &&& (255 : Int32))), (.int ((((y3 >>> ((0 : Int32) &&& 31)).toInt8.toInt32) &&& (255 : Int32)) <<< ((0 : Int32) &&& 31)))])
  refine OwnGo.getS X3 hx hZ hown (host := "") (Or.inl (hw _ (List.mem_of_getElem? (i := 57) rfl))) Via.refl e3 (SLo.ext O1.2) (hb hby d14_53) fun T5 X5 e5 => ?_
  show Go p e below _ T5 (mkF m 56 #[.val (.ref r), .val (.int (7 : Int32))] [(.int (8 : Int32)), (.int (((y3 >>> ((8 : Int32) &&& 31)).toInt8.toInt32) &&& (255 : Int32))), (.int ((((y3 >>> ((0 : Int32) &&& 31)).toInt8.toInt32) &&& (255 : Int32)) <<< ((0 : Int32) &&& 31)))])
  refine OwnGo.ishl X5 hx (hb hby d14_56) rfl ?_
  show Go p e below _ T5 (mkF m 57 #[.val (.ref r), .val (.int (7 : Int32))] [(.int ((((y3 >>> ((8 : Int32) &&& 31)).toInt8.toInt32) &&& (255 : Int32)) <<< ((8 : Int32) &&& 31))), (.int ((((y3 >>> ((0 : Int32) &&& 31)).toInt8.toInt32) &&& (255 : Int32)) <<< ((0 : Int32) &&& 31)))])
  refine OwnGo.ior X5 hx (hb hby d14_57) rfl ?_
  show Go p e below _ T5 (mkF m 58 #[.val (.ref r), .val (.int (7 : Int32))] [(.int (((((y3 >>> ((0 : Int32) &&& 31)).toInt8.toInt32) &&& (255 : Int32)) <<< ((0 : Int32) &&& 31)) ||| ((((y3 >>> ((8 : Int32) &&& 31)).toInt8.toInt32) &&& (255 : Int32)) <<< ((8 : Int32) &&& 31))))])
  refine OwnGo.i2c X5 hx (hb hby d14_58) rfl ?_
  show Go p e below _ T5 (mkF m 59 #[.val (.ref r), .val (.int (7 : Int32))] [(.int ((((((y3 >>> ((0 : Int32) &&& 31)).toInt8.toInt32) &&& (255 : Int32)) <<< ((0 : Int32) &&& 31)) ||| ((((y3 >>> ((8 : Int32) &&& 31)).toInt8.toInt32) &&& (255 : Int32)) <<< ((8 : Int32) &&& 31))).toUInt32.toUInt16.toUInt32.toInt32))])
  exact OwnGo.retC X5 hx hlk (z' := y3) hret (hb hby d14_59) (own_gc nc3) ⟨rfl, e5, rfl⟩ (by decide) (by decide)
theorem d6_0 : decode jdk_52_method_21_code 0 = .ok (.iconst 0, 1) := by decide +kernel
theorem d6_1 : decode jdk_52_method_21_code 1 = .ok (.istore 5, 2) := by decide +kernel
theorem d6_3 : decode jdk_52_method_21_code 3 = .ok (.iload 5, 2) := by decide +kernel
theorem d6_5 : decode jdk_52_method_21_code 5 = .ok (.iload 4, 2) := by decide +kernel
theorem d6_7 : decode jdk_52_method_21_code 7 = .ok (.if_icmp .ge 37, 3) := by decide +kernel
theorem d6_10 : decode jdk_52_method_21_code 10 = .ok (.aload_n 0, 1) := by decide +kernel
theorem d6_11 : decode jdk_52_method_21_code 11 = .ok (.iload_n 1, 1) := by decide +kernel
theorem d6_12 : decode jdk_52_method_21_code 12 = .ok (.caload, 1) := by decide +kernel
theorem d6_13 : decode jdk_52_method_21_code 13 = .ok (.istore 6, 2) := by decide +kernel
theorem d6_15 : decode jdk_52_method_21_code 15 = .ok (.iload 6, 2) := by decide +kernel
theorem d6_17 : decode jdk_52_method_21_code 17 = .ok (.sipush 255, 3) := by decide +kernel
theorem d6_20 : decode jdk_52_method_21_code 20 = .ok (.if_icmp .le 6, 3) := by decide +kernel
theorem d6_23 : decode jdk_52_method_21_code 23 = .ok (.iload 5, 2) := by decide +kernel
theorem d6_25 : decode jdk_52_method_21_code 25 = .ok (.ireturn, 1) := by decide +kernel
theorem d6_26 : decode jdk_52_method_21_code 26 = .ok (.aload_n 2, 1) := by decide +kernel
theorem d6_27 : decode jdk_52_method_21_code 27 = .ok (.iload_n 3, 1) := by decide +kernel
theorem d6_28 : decode jdk_52_method_21_code 28 = .ok (.iload 6, 2) := by decide +kernel
theorem d6_30 : decode jdk_52_method_21_code 30 = .ok (.i2b, 1) := by decide +kernel
theorem d6_31 : decode jdk_52_method_21_code 31 = .ok (.bastore, 1) := by decide +kernel
theorem d6_32 : decode jdk_52_method_21_code 32 = .ok (.iinc 1 1, 3) := by decide +kernel
theorem d6_35 : decode jdk_52_method_21_code 35 = .ok (.iinc 3 1, 3) := by decide +kernel
theorem d6_38 : decode jdk_52_method_21_code 38 = .ok (.iinc 5 1, 3) := by decide +kernel
theorem d6_41 : decode jdk_52_method_21_code 41 = .ok (.goto (-38), 3) := by decide +kernel
theorem d6_44 : decode jdk_52_method_21_code 44 = .ok (.iload 4, 2) := by decide +kernel
theorem d6_46 : decode jdk_52_method_21_code 46 = .ok (.ireturn, 1) := by decide +kernel
theorem own_ef_rmCMI (m : MethodId) (x0 : Addr) (x1 : Int32) (x2 : Addr) (x3 : Int32) (x4 : Int32) : entryFrame m [(.ref x0), (.int x1), (.ref x2), (.int x3), (.int x4)].toArray 7 = mkF m 0 #[.val (.ref x0), .val (.int x1), .val (.ref x2), .val (.int x3), .val (.int x4), .unset, .unset] [] := by first | (simp [entryFrame, mkF, argsToLocals, Value.category]; done) | rfl
set_option maxRecDepth 65536 in
set_option maxHeartbeats 40000000 in
theorem rmCMI (l : Launch) (Z : State) (a0 : Array Value) (hw : ∀ d ∈ tables_1, d.before a0 Z = true) (ca d : Addr) (kc kd : ClassId) (y0 y1 y2 y3 : Int32) (h0 : Heap) (n0 : Nat) (Z0 : n0 ≤ h0.size) (gd : n0 ≤ d) (ncd : ca ≠ d) (VC : Arv Z h0 ca kc .char (4 : Int32) [(.int y0), (.int y1), (.int y2), (.int y3)] (.int (0 : Int32))) (V1 : Arv Z h0 d kd .byte (4 : Int32) [(.int (0 : Int32)), (.int (0 : Int32)), (.int (0 : Int32)), (.int (0 : Int32))] (.int (0 : Int32))) :
    Con l Z (⟨"java/lang/StringUTF16", "compress", "([CI[BII)I"⟩ : MethodName) jdk_52_method_21_code 7 (some .int) ({ frames := 0, cells := 0, slots := 0, locals := 0 } : Room) [(.ref ca), (.int (0 : Int32)), (.ref d), (.int (0 : Int32)), (.int (4 : Int32))] h0 (fun v h L => Fr n0 L ∧ Keep h0 h [d] ∧ ((v = some (.int 4) ∧ (¬ 255 < y0 ∧ ¬ 255 < y1 ∧ ¬ 255 < y2 ∧ ¬ 255 < y3) ∧ Arv Z h d kd .byte (4 : Int32) [(.int (y0.toInt8.toInt32)), (.int (y1.toInt8.toInt32)), (.int (y2.toInt8.toInt32)), (.int (y3.toInt8.toInt32))] (.int (0 : Int32))) ∨ (v = some (.int 0) ∧ 255 < y0) ∨ (v = some (.int 1) ∧ 255 < y1) ∨ (v = some (.int 2) ∧ 255 < y2) ∨ (v = some (.int 3) ∧ 255 < y3))) := by
  refine OwnGo.Con.of (plainFor_of_name own_pn1) (Ls0 := #[.val (.ref ca), .val (.int (0 : Int32)), .val (.ref d), .val (.int (0 : Int32)), .val (.int (4 : Int32)), .unset, .unset]) (fun m => own_ef_rmCMI m ca (0 : Int32) d (0 : Int32) (4 : Int32)) ?_
  intro p e s m below meth c T0 X0 hx hZ hby hml hown hnm hret hlk e0
  show Go p e below _ T0 (mkF m 0 #[.val (.ref ca), .val (.int (0 : Int32)), .val (.ref d), .val (.int (0 : Int32)), .val (.int (4 : Int32)), .unset, .unset] [])
  refine OwnGo.iconst X0 hx (z := (0 : Int32)) (hb hby d6_0) (by decide) ?_
  show Go p e below _ T0 (mkF m 1 #[.val (.ref ca), .val (.int (0 : Int32)), .val (.ref d), .val (.int (0 : Int32)), .val (.int (4 : Int32)), .unset, .unset] [(.int (0 : Int32))])
  refine OwnGo.istore X0 hx (hb hby d6_1) (Ls' := #[.val (.ref ca), .val (.int (0 : Int32)), .val (.ref d), .val (.int (0 : Int32)), .val (.int (4 : Int32)), .val (.int (0 : Int32)), .unset]) rfl ?_
  show Go p e below _ T0 (mkF m 3 #[.val (.ref ca), .val (.int (0 : Int32)), .val (.ref d), .val (.int (0 : Int32)), .val (.int (4 : Int32)), .val (.int (0 : Int32)), .unset] [])
  refine OwnGo.iload X0 hx (hb hby d6_3) rfl ?_
  show Go p e below _ T0 (mkF m 5 #[.val (.ref ca), .val (.int (0 : Int32)), .val (.ref d), .val (.int (0 : Int32)), .val (.int (4 : Int32)), .val (.int (0 : Int32)), .unset] [(.int (0 : Int32))])
  refine OwnGo.iload X0 hx (hb hby d6_5) rfl ?_
  show Go p e below _ T0 (mkF m 7 #[.val (.ref ca), .val (.int (0 : Int32)), .val (.ref d), .val (.int (0 : Int32)), .val (.int (4 : Int32)), .val (.int (0 : Int32)), .unset] [(.int (4 : Int32)), (.int (0 : Int32))])
  refine OwnGo.ic_ge X0 hx (pc' := 44) (hb hby d6_7) (by decide) (by decide) (fun q => absurd q (by decide)) (fun _ => ?_)
  show Go p e below _ T0 (mkF m 10 #[.val (.ref ca), .val (.int (0 : Int32)), .val (.ref d), .val (.int (0 : Int32)), .val (.int (4 : Int32)), .val (.int (0 : Int32)), .unset] [])
  refine OwnGo.aloadN X0 hx (hb hby d6_10) rfl rfl ?_
  show Go p e below _ T0 (mkF m 11 #[.val (.ref ca), .val (.int (0 : Int32)), .val (.ref d), .val (.int (0 : Int32)), .val (.int (4 : Int32)), .val (.int (0 : Int32)), .unset] [(.ref ca)])
  refine OwnGo.iloadN X0 hx (hb hby d6_11) rfl ?_
  show Go p e below _ T0 (mkF m 12 #[.val (.ref ca), .val (.int (0 : Int32)), .val (.ref d), .val (.int (0 : Int32)), .val (.int (4 : Int32)), .val (.int (0 : Int32)), .unset] [(.int (0 : Int32)), (.ref ca)])
  obtain ⟨cl1, Ar1, Kq1, Sz1, Nn1, Hh1, Gg1⟩ := (id VC)
  have hin1 : ¬ ((0 : Int32) < 0 ∨ cl1.slots.size ≤ ((0 : Int32)).toNatClampNeg) := inb_of Sz1 ⟨by decide, by decide⟩
  refine OwnGo.caload X0 hx hZ e0 Ar1 hin1 (Has.at Hh1 hin1 (v := (.int y0)) rfl) (hb hby d6_12) ?_
  show Go p e below _ T0 (mkF m 13 #[.val (.ref ca), .val (.int (0 : Int32)), .val (.ref d), .val (.int (0 : Int32)), .val (.int (4 : Int32)), .val (.int (0 : Int32)), .unset] [(.int y0)])
  refine OwnGo.istore X0 hx (hb hby d6_13) (Ls' := #[.val (.ref ca), .val (.int (0 : Int32)), .val (.ref d), .val (.int (0 : Int32)), .val (.int (4 : Int32)), .val (.int (0 : Int32)), .val (.int y0)]) rfl ?_
  show Go p e below _ T0 (mkF m 15 #[.val (.ref ca), .val (.int (0 : Int32)), .val (.ref d), .val (.int (0 : Int32)), .val (.int (4 : Int32)), .val (.int (0 : Int32)), .val (.int y0)] [])
  refine OwnGo.iload X0 hx (hb hby d6_15) rfl ?_
  show Go p e below _ T0 (mkF m 17 #[.val (.ref ca), .val (.int (0 : Int32)), .val (.ref d), .val (.int (0 : Int32)), .val (.int (4 : Int32)), .val (.int (0 : Int32)), .val (.int y0)] [(.int y0)])
  refine OwnGo.sipush X0 hx (z := (255 : Int32)) (hb hby d6_17) (by decide) ?_
  show Go p e below _ T0 (mkF m 20 #[.val (.ref ca), .val (.int (0 : Int32)), .val (.ref d), .val (.int (0 : Int32)), .val (.int (4 : Int32)), .val (.int (0 : Int32)), .val (.int y0)] [(.int (255 : Int32)), (.int y0)])
  refine OwnGo.ic_le X0 hx (pc' := 26) (hb hby d6_20) (by decide) (by decide) (fun hb0 => ?_) (fun hb0 => ?_)
  ·
    show Go p e below _ T0 (mkF m 26 #[.val (.ref ca), .val (.int (0 : Int32)), .val (.ref d), .val (.int (0 : Int32)), .val (.int (4 : Int32)), .val (.int (0 : Int32)), .val (.int y0)] [])
    refine OwnGo.aloadN X0 hx (hb hby d6_26) rfl rfl ?_
    show Go p e below _ T0 (mkF m 27 #[.val (.ref ca), .val (.int (0 : Int32)), .val (.ref d), .val (.int (0 : Int32)), .val (.int (4 : Int32)), .val (.int (0 : Int32)), .val (.int y0)] [(.ref d)])
    refine OwnGo.iloadN X0 hx (hb hby d6_27) rfl ?_
    show Go p e below _ T0 (mkF m 28 #[.val (.ref ca), .val (.int (0 : Int32)), .val (.ref d), .val (.int (0 : Int32)), .val (.int (4 : Int32)), .val (.int (0 : Int32)), .val (.int y0)] [(.int (0 : Int32)), (.ref d)])
    refine OwnGo.iload X0 hx (hb hby d6_28) rfl ?_
    show Go p e below _ T0 (mkF m 30 #[.val (.ref ca), .val (.int (0 : Int32)), .val (.ref d), .val (.int (0 : Int32)), .val (.int (4 : Int32)), .val (.int (0 : Int32)), .val (.int y0)] [(.int y0), (.int (0 : Int32)), (.ref d)])
    refine OwnGo.i2b X0 hx (hb hby d6_30) rfl ?_
    show Go p e below _ T0 (mkF m 31 #[.val (.ref ca), .val (.int (0 : Int32)), .val (.ref d), .val (.int (0 : Int32)), .val (.int (4 : Int32)), .val (.int (0 : Int32)), .val (.int y0)] [(.int (y0.toInt8.toInt32)), (.int (0 : Int32)), (.ref d)])
    obtain ⟨cl2, Ar2, Kq2, Sz2, Nn2, Hh2, Gg2⟩ := (id V1)
    have hin2 : ¬ ((0 : Int32) < 0 ∨ cl2.slots.size ≤ ((0 : Int32)).toNatClampNeg) := inb_of Sz2 ⟨by decide, by decide⟩
    refine OwnGo.stB X0 hx hZ e0 Ar2 hin2 (hb hby d6_31) fun T2 h2 X2 e2 W2 => ?_
    have VC_c2 := VC.other W2 ncd
    have Z2 := Nat.le_trans Z0 (Keep.of_wr W2).1
    have K2_ := (Keep.refl h0 [d]).wr W2 (Or.inl (List.mem_of_getElem? (i := 0) rfl))
    have N2_ := Fr.snoc X2 (Fr.nil n0) gd
    have V2 : Arv Z h2 d kd .byte (4 : Int32) [(.int (nar .byte (y0.toInt8.toInt32))), (.int (0 : Int32)), (.int (0 : Int32)), (.int (0 : Int32))] (.int (0 : Int32)) := Arv.set Ar2 Kq2 Sz2 Nn2 Hh2 Gg2 (fits_nar_byte _) W2 0 rfl (Nat.le_of_ble_eq_true rfl)
    rw [own_nb] at V2
    show Go p e below _ T2 (mkF m 32 #[.val (.ref ca), .val (.int (0 : Int32)), .val (.ref d), .val (.int (0 : Int32)), .val (.int (4 : Int32)), .val (.int (0 : Int32)), .val (.int y0)] [])
    refine OwnGo.iinc X2 hx (hb hby d6_32) rfl (z := (1 : Int32)) (by decide) (Ls' := #[.val (.ref ca), .val (.int (1 : Int32)), .val (.ref d), .val (.int (0 : Int32)), .val (.int (4 : Int32)), .val (.int (0 : Int32)), .val (.int y0)]) rfl ?_
    show Go p e below _ T2 (mkF m 35 #[.val (.ref ca), .val (.int (1 : Int32)), .val (.ref d), .val (.int (0 : Int32)), .val (.int (4 : Int32)), .val (.int (0 : Int32)), .val (.int y0)] [])
    refine OwnGo.iinc X2 hx (hb hby d6_35) rfl (z := (1 : Int32)) (by decide) (Ls' := #[.val (.ref ca), .val (.int (1 : Int32)), .val (.ref d), .val (.int (1 : Int32)), .val (.int (4 : Int32)), .val (.int (0 : Int32)), .val (.int y0)]) rfl ?_
    show Go p e below _ T2 (mkF m 38 #[.val (.ref ca), .val (.int (1 : Int32)), .val (.ref d), .val (.int (1 : Int32)), .val (.int (4 : Int32)), .val (.int (0 : Int32)), .val (.int y0)] [])
    refine OwnGo.iinc X2 hx (hb hby d6_38) rfl (z := (1 : Int32)) (by decide) (Ls' := #[.val (.ref ca), .val (.int (1 : Int32)), .val (.ref d), .val (.int (1 : Int32)), .val (.int (4 : Int32)), .val (.int (1 : Int32)), .val (.int y0)]) rfl ?_
    show Go p e below _ T2 (mkF m 41 #[.val (.ref ca), .val (.int (1 : Int32)), .val (.ref d), .val (.int (1 : Int32)), .val (.int (4 : Int32)), .val (.int (1 : Int32)), .val (.int y0)] [])
    refine OwnGo.goto X2 hx (pc' := 3) (hb hby d6_41) (by decide) (by decide) ?_
    show Go p e below _ T2 (mkF m 3 #[.val (.ref ca), .val (.int (1 : Int32)), .val (.ref d), .val (.int (1 : Int32)), .val (.int (4 : Int32)), .val (.int (1 : Int32)), .val (.int y0)] [])
    refine OwnGo.iload X2 hx (hb hby d6_3) rfl ?_
    show Go p e below _ T2 (mkF m 5 #[.val (.ref ca), .val (.int (1 : Int32)), .val (.ref d), .val (.int (1 : Int32)), .val (.int (4 : Int32)), .val (.int (1 : Int32)), .val (.int y0)] [(.int (1 : Int32))])
    refine OwnGo.iload X2 hx (hb hby d6_5) rfl ?_
    show Go p e below _ T2 (mkF m 7 #[.val (.ref ca), .val (.int (1 : Int32)), .val (.ref d), .val (.int (1 : Int32)), .val (.int (4 : Int32)), .val (.int (1 : Int32)), .val (.int y0)] [(.int (4 : Int32)), (.int (1 : Int32))])
    refine OwnGo.ic_ge X2 hx (pc' := 44) (hb hby d6_7) (by decide) (by decide) (fun q => absurd q (by decide)) (fun _ => ?_)
    show Go p e below _ T2 (mkF m 10 #[.val (.ref ca), .val (.int (1 : Int32)), .val (.ref d), .val (.int (1 : Int32)), .val (.int (4 : Int32)), .val (.int (1 : Int32)), .val (.int y0)] [])
    refine OwnGo.aloadN X2 hx (hb hby d6_10) rfl rfl ?_
    show Go p e below _ T2 (mkF m 11 #[.val (.ref ca), .val (.int (1 : Int32)), .val (.ref d), .val (.int (1 : Int32)), .val (.int (4 : Int32)), .val (.int (1 : Int32)), .val (.int y0)] [(.ref ca)])
    refine OwnGo.iloadN X2 hx (hb hby d6_11) rfl ?_
    show Go p e below _ T2 (mkF m 12 #[.val (.ref ca), .val (.int (1 : Int32)), .val (.ref d), .val (.int (1 : Int32)), .val (.int (4 : Int32)), .val (.int (1 : Int32)), .val (.int y0)] [(.int (1 : Int32)), (.ref ca)])
    obtain ⟨cl3, Ar3, Kq3, Sz3, Nn3, Hh3, Gg3⟩ := (id VC_c2)
    have hin3 : ¬ ((1 : Int32) < 0 ∨ cl3.slots.size ≤ ((1 : Int32)).toNatClampNeg) := inb_of Sz3 ⟨by decide, by decide⟩
    refine OwnGo.caload X2 hx hZ e2 Ar3 hin3 (Has.at Hh3 hin3 (v := (.int y1)) rfl) (hb hby d6_12) ?_
    show Go p e below _ T2 (mkF m 13 #[.val (.ref ca), .val (.int (1 : Int32)), .val (.ref d), .val (.int (1 : Int32)), .val (.int (4 : Int32)), .val (.int (1 : Int32)), .val (.int y0)] [(.int y1)])
    refine OwnGo.istore X2 hx (hb hby d6_13) (Ls' := #[.val (.ref ca), .val (.int (1 : Int32)), .val (.ref d), .val (.int (1 : Int32)), .val (.int (4 : Int32)), .val (.int (1 : Int32)), .val (.int y1)]) rfl ?_
    show Go p e below _ T2 (mkF m 15 #[.val (.ref ca), .val (.int (1 : Int32)), .val (.ref d), .val (.int (1 : Int32)), .val (.int (4 : Int32)), .val (.int (1 : Int32)), .val (.int y1)] [])
    refine OwnGo.iload X2 hx (hb hby d6_15) rfl ?_
    show Go p e below _ T2 (mkF m 17 #[.val (.ref ca), .val (.int (1 : Int32)), .val (.ref d), .val (.int (1 : Int32)), .val (.int (4 : Int32)), .val (.int (1 : Int32)), .val (.int y1)] [(.int y1)])
    refine OwnGo.sipush X2 hx (z := (255 : Int32)) (hb hby d6_17) (by decide) ?_
    show Go p e below _ T2 (mkF m 20 #[.val (.ref ca), .val (.int (1 : Int32)), .val (.ref d), .val (.int (1 : Int32)), .val (.int (4 : Int32)), .val (.int (1 : Int32)), .val (.int y1)] [(.int (255 : Int32)), (.int y1)])
    refine OwnGo.ic_le X2 hx (pc' := 26) (hb hby d6_20) (by decide) (by decide) (fun hb1 => ?_) (fun hb1 => ?_)
    ·
      show Go p e below _ T2 (mkF m 26 #[.val (.ref ca), .val (.int (1 : Int32)), .val (.ref d), .val (.int (1 : Int32)), .val (.int (4 : Int32)), .val (.int (1 : Int32)), .val (.int y1)] [])
      refine OwnGo.aloadN X2 hx (hb hby d6_26) rfl rfl ?_
      show Go p e below _ T2 (mkF m 27 #[.val (.ref ca), .val (.int (1 : Int32)), .val (.ref d), .val (.int (1 : Int32)), .val (.int (4 : Int32)), .val (.int (1 : Int32)), .val (.int y1)] [(.ref d)])
      refine OwnGo.iloadN X2 hx (hb hby d6_27) rfl ?_
      show Go p e below _ T2 (mkF m 28 #[.val (.ref ca), .val (.int (1 : Int32)), .val (.ref d), .val (.int (1 : Int32)), .val (.int (4 : Int32)), .val (.int (1 : Int32)), .val (.int y1)] [(.int (1 : Int32)), (.ref d)])
      refine OwnGo.iload X2 hx (hb hby d6_28) rfl ?_
      show Go p e below _ T2 (mkF m 30 #[.val (.ref ca), .val (.int (1 : Int32)), .val (.ref d), .val (.int (1 : Int32)), .val (.int (4 : Int32)), .val (.int (1 : Int32)), .val (.int y1)] [(.int y1), (.int (1 : Int32)), (.ref d)])
      refine OwnGo.i2b X2 hx (hb hby d6_30) rfl ?_
      show Go p e below _ T2 (mkF m 31 #[.val (.ref ca), .val (.int (1 : Int32)), .val (.ref d), .val (.int (1 : Int32)), .val (.int (4 : Int32)), .val (.int (1 : Int32)), .val (.int y1)] [(.int (y1.toInt8.toInt32)), (.int (1 : Int32)), (.ref d)])
      obtain ⟨cl4, Ar4, Kq4, Sz4, Nn4, Hh4, Gg4⟩ := (id V2)
      have hin4 : ¬ ((1 : Int32) < 0 ∨ cl4.slots.size ≤ ((1 : Int32)).toNatClampNeg) := inb_of Sz4 ⟨by decide, by decide⟩
      refine OwnGo.stB X2 hx hZ e2 Ar4 hin4 (hb hby d6_31) fun T4 h4 X4 e4 W4 => ?_
      have VC_c4 := VC_c2.other W4 ncd
      have Z4 := Nat.le_trans Z2 (Keep.of_wr W4).1
      have K4_ := K2_.wr W4 (Or.inl (List.mem_of_getElem? (i := 0) rfl))
      have N4_ := Fr.snoc X4 N2_ gd
      have V4 : Arv Z h4 d kd .byte (4 : Int32) [(.int (y0.toInt8.toInt32)), (.int (nar .byte (y1.toInt8.toInt32))), (.int (0 : Int32)), (.int (0 : Int32))] (.int (0 : Int32)) := Arv.set Ar4 Kq4 Sz4 Nn4 Hh4 Gg4 (fits_nar_byte _) W4 1 rfl (Nat.le_of_ble_eq_true rfl)
      rw [own_nb] at V4
      show Go p e below _ T4 (mkF m 32 #[.val (.ref ca), .val (.int (1 : Int32)), .val (.ref d), .val (.int (1 : Int32)), .val (.int (4 : Int32)), .val (.int (1 : Int32)), .val (.int y1)] [])
      refine OwnGo.iinc X4 hx (hb hby d6_32) rfl (z := (2 : Int32)) (by decide) (Ls' := #[.val (.ref ca), .val (.int (2 : Int32)), .val (.ref d), .val (.int (1 : Int32)), .val (.int (4 : Int32)), .val (.int (1 : Int32)), .val (.int y1)]) rfl ?_
      show Go p e below _ T4 (mkF m 35 #[.val (.ref ca), .val (.int (2 : Int32)), .val (.ref d), .val (.int (1 : Int32)), .val (.int (4 : Int32)), .val (.int (1 : Int32)), .val (.int y1)] [])
      refine OwnGo.iinc X4 hx (hb hby d6_35) rfl (z := (2 : Int32)) (by decide) (Ls' := #[.val (.ref ca), .val (.int (2 : Int32)), .val (.ref d), .val (.int (2 : Int32)), .val (.int (4 : Int32)), .val (.int (1 : Int32)), .val (.int y1)]) rfl ?_
      show Go p e below _ T4 (mkF m 38 #[.val (.ref ca), .val (.int (2 : Int32)), .val (.ref d), .val (.int (2 : Int32)), .val (.int (4 : Int32)), .val (.int (1 : Int32)), .val (.int y1)] [])
      refine OwnGo.iinc X4 hx (hb hby d6_38) rfl (z := (2 : Int32)) (by decide) (Ls' := #[.val (.ref ca), .val (.int (2 : Int32)), .val (.ref d), .val (.int (2 : Int32)), .val (.int (4 : Int32)), .val (.int (2 : Int32)), .val (.int y1)]) rfl ?_
      show Go p e below _ T4 (mkF m 41 #[.val (.ref ca), .val (.int (2 : Int32)), .val (.ref d), .val (.int (2 : Int32)), .val (.int (4 : Int32)), .val (.int (2 : Int32)), .val (.int y1)] [])
      refine OwnGo.goto X4 hx (pc' := 3) (hb hby d6_41) (by decide) (by decide) ?_
      show Go p e below _ T4 (mkF m 3 #[.val (.ref ca), .val (.int (2 : Int32)), .val (.ref d), .val (.int (2 : Int32)), .val (.int (4 : Int32)), .val (.int (2 : Int32)), .val (.int y1)] [])
      refine OwnGo.iload X4 hx (hb hby d6_3) rfl ?_
      show Go p e below _ T4 (mkF m 5 #[.val (.ref ca), .val (.int (2 : Int32)), .val (.ref d), .val (.int (2 : Int32)), .val (.int (4 : Int32)), .val (.int (2 : Int32)), .val (.int y1)] [(.int (2 : Int32))])
      refine OwnGo.iload X4 hx (hb hby d6_5) rfl ?_
      show Go p e below _ T4 (mkF m 7 #[.val (.ref ca), .val (.int (2 : Int32)), .val (.ref d), .val (.int (2 : Int32)), .val (.int (4 : Int32)), .val (.int (2 : Int32)), .val (.int y1)] [(.int (4 : Int32)), (.int (2 : Int32))])
      refine OwnGo.ic_ge X4 hx (pc' := 44) (hb hby d6_7) (by decide) (by decide) (fun q => absurd q (by decide)) (fun _ => ?_)
      show Go p e below _ T4 (mkF m 10 #[.val (.ref ca), .val (.int (2 : Int32)), .val (.ref d), .val (.int (2 : Int32)), .val (.int (4 : Int32)), .val (.int (2 : Int32)), .val (.int y1)] [])
      refine OwnGo.aloadN X4 hx (hb hby d6_10) rfl rfl ?_
      show Go p e below _ T4 (mkF m 11 #[.val (.ref ca), .val (.int (2 : Int32)), .val (.ref d), .val (.int (2 : Int32)), .val (.int (4 : Int32)), .val (.int (2 : Int32)), .val (.int y1)] [(.ref ca)])
      refine OwnGo.iloadN X4 hx (hb hby d6_11) rfl ?_
      show Go p e below _ T4 (mkF m 12 #[.val (.ref ca), .val (.int (2 : Int32)), .val (.ref d), .val (.int (2 : Int32)), .val (.int (4 : Int32)), .val (.int (2 : Int32)), .val (.int y1)] [(.int (2 : Int32)), (.ref ca)])
      obtain ⟨cl5, Ar5, Kq5, Sz5, Nn5, Hh5, Gg5⟩ := (id VC_c4)
      have hin5 : ¬ ((2 : Int32) < 0 ∨ cl5.slots.size ≤ ((2 : Int32)).toNatClampNeg) := inb_of Sz5 ⟨by decide, by decide⟩
      refine OwnGo.caload X4 hx hZ e4 Ar5 hin5 (Has.at Hh5 hin5 (v := (.int y2)) rfl) (hb hby d6_12) ?_
      show Go p e below _ T4 (mkF m 13 #[.val (.ref ca), .val (.int (2 : Int32)), .val (.ref d), .val (.int (2 : Int32)), .val (.int (4 : Int32)), .val (.int (2 : Int32)), .val (.int y1)] [(.int y2)])
      refine OwnGo.istore X4 hx (hb hby d6_13) (Ls' := #[.val (.ref ca), .val (.int (2 : Int32)), .val (.ref d), .val (.int (2 : Int32)), .val (.int (4 : Int32)), .val (.int (2 : Int32)), .val (.int y2)]) rfl ?_
      show Go p e below _ T4 (mkF m 15 #[.val (.ref ca), .val (.int (2 : Int32)), .val (.ref d), .val (.int (2 : Int32)), .val (.int (4 : Int32)), .val (.int (2 : Int32)), .val (.int y2)] [])
      refine OwnGo.iload X4 hx (hb hby d6_15) rfl ?_
      show Go p e below _ T4 (mkF m 17 #[.val (.ref ca), .val (.int (2 : Int32)), .val (.ref d), .val (.int (2 : Int32)), .val (.int (4 : Int32)), .val (.int (2 : Int32)), .val (.int y2)] [(.int y2)])
      refine OwnGo.sipush X4 hx (z := (255 : Int32)) (hb hby d6_17) (by decide) ?_
      show Go p e below _ T4 (mkF m 20 #[.val (.ref ca), .val (.int (2 : Int32)), .val (.ref d), .val (.int (2 : Int32)), .val (.int (4 : Int32)), .val (.int (2 : Int32)), .val (.int y2)] [(.int (255 : Int32)), (.int y2)])
      refine OwnGo.ic_le X4 hx (pc' := 26) (hb hby d6_20) (by decide) (by decide) (fun hb2 => ?_) (fun hb2 => ?_)
      ·
        show Go p e below _ T4 (mkF m 26 #[.val (.ref ca), .val (.int (2 : Int32)), .val (.ref d), .val (.int (2 : Int32)), .val (.int (4 : Int32)), .val (.int (2 : Int32)), .val (.int y2)] [])
        refine OwnGo.aloadN X4 hx (hb hby d6_26) rfl rfl ?_
        show Go p e below _ T4 (mkF m 27 #[.val (.ref ca), .val (.int (2 : Int32)), .val (.ref d), .val (.int (2 : Int32)), .val (.int (4 : Int32)), .val (.int (2 : Int32)), .val (.int y2)] [(.ref d)])
        refine OwnGo.iloadN X4 hx (hb hby d6_27) rfl ?_
        show Go p e below _ T4 (mkF m 28 #[.val (.ref ca), .val (.int (2 : Int32)), .val (.ref d), .val (.int (2 : Int32)), .val (.int (4 : Int32)), .val (.int (2 : Int32)), .val (.int y2)] [(.int (2 : Int32)), (.ref d)])
        refine OwnGo.iload X4 hx (hb hby d6_28) rfl ?_
        show Go p e below _ T4 (mkF m 30 #[.val (.ref ca), .val (.int (2 : Int32)), .val (.ref d), .val (.int (2 : Int32)), .val (.int (4 : Int32)), .val (.int (2 : Int32)), .val (.int y2)] [(.int y2), (.int (2 : Int32)), (.ref d)])
        refine OwnGo.i2b X4 hx (hb hby d6_30) rfl ?_
        show Go p e below _ T4 (mkF m 31 #[.val (.ref ca), .val (.int (2 : Int32)), .val (.ref d), .val (.int (2 : Int32)), .val (.int (4 : Int32)), .val (.int (2 : Int32)), .val (.int y2)] [(.int (y2.toInt8.toInt32)), (.int (2 : Int32)), (.ref d)])
        obtain ⟨cl6, Ar6, Kq6, Sz6, Nn6, Hh6, Gg6⟩ := (id V4)
        have hin6 : ¬ ((2 : Int32) < 0 ∨ cl6.slots.size ≤ ((2 : Int32)).toNatClampNeg) := inb_of Sz6 ⟨by decide, by decide⟩
        refine OwnGo.stB X4 hx hZ e4 Ar6 hin6 (hb hby d6_31) fun T6 h6 X6 e6 W6 => ?_
        have VC_c6 := VC_c4.other W6 ncd
        have Z6 := Nat.le_trans Z4 (Keep.of_wr W6).1
        have K6_ := K4_.wr W6 (Or.inl (List.mem_of_getElem? (i := 0) rfl))
        have N6_ := Fr.snoc X6 N4_ gd
        have V6 : Arv Z h6 d kd .byte (4 : Int32) [(.int (y0.toInt8.toInt32)), (.int (y1.toInt8.toInt32)), (.int (nar .byte (y2.toInt8.toInt32))), (.int (0 : Int32))] (.int (0 : Int32)) := Arv.set Ar6 Kq6 Sz6 Nn6 Hh6 Gg6 (fits_nar_byte _) W6 2 rfl (Nat.le_of_ble_eq_true rfl)
        rw [own_nb] at V6
        show Go p e below _ T6 (mkF m 32 #[.val (.ref ca), .val (.int (2 : Int32)), .val (.ref d), .val (.int (2 : Int32)), .val (.int (4 : Int32)), .val (.int (2 : Int32)), .val (.int y2)] [])
        refine OwnGo.iinc X6 hx (hb hby d6_32) rfl (z := (3 : Int32)) (by decide) (Ls' := #[.val (.ref ca), .val (.int (3 : Int32)), .val (.ref d), .val (.int (2 : Int32)), .val (.int (4 : Int32)), .val (.int (2 : Int32)), .val (.int y2)]) rfl ?_
        show Go p e below _ T6 (mkF m 35 #[.val (.ref ca), .val (.int (3 : Int32)), .val (.ref d), .val (.int (2 : Int32)), .val (.int (4 : Int32)), .val (.int (2 : Int32)), .val (.int y2)] [])
        refine OwnGo.iinc X6 hx (hb hby d6_35) rfl (z := (3 : Int32)) (by decide) (Ls' := #[.val (.ref ca), .val (.int (3 : Int32)), .val (.ref d), .val (.int (3 : Int32)), .val (.int (4 : Int32)), .val (.int (2 : Int32)), .val (.int y2)]) rfl ?_
        show Go p e below _ T6 (mkF m 38 #[.val (.ref ca), .val (.int (3 : Int32)), .val (.ref d), .val (.int (3 : Int32)), .val (.int (4 : Int32)), .val (.int (2 : Int32)), .val (.int y2)] [])
        refine OwnGo.iinc X6 hx (hb hby d6_38) rfl (z := (3 : Int32)) (by decide) (Ls' := #[.val (.ref ca), .val (.int (3 : Int32)), .val (.ref d), .val (.int (3 : Int32)), .val (.int (4 : Int32)), .val (.int (3 : Int32)), .val (.int y2)]) rfl ?_
        show Go p e below _ T6 (mkF m 41 #[.val (.ref ca), .val (.int (3 : Int32)), .val (.ref d), .val (.int (3 : Int32)), .val (.int (4 : Int32)), .val (.int (3 : Int32)), .val (.int y2)] [])
        refine OwnGo.goto X6 hx (pc' := 3) (hb hby d6_41) (by decide) (by decide) ?_
        show Go p e below _ T6 (mkF m 3 #[.val (.ref ca), .val (.int (3 : Int32)), .val (.ref d), .val (.int (3 : Int32)), .val (.int (4 : Int32)), .val (.int (3 : Int32)), .val (.int y2)] [])
        refine OwnGo.iload X6 hx (hb hby d6_3) rfl ?_
        show Go p e below _ T6 (mkF m 5 #[.val (.ref ca), .val (.int (3 : Int32)), .val (.ref d), .val (.int (3 : Int32)), .val (.int (4 : Int32)), .val (.int (3 : Int32)), .val (.int y2)] [(.int (3 : Int32))])
        refine OwnGo.iload X6 hx (hb hby d6_5) rfl ?_
        show Go p e below _ T6 (mkF m 7 #[.val (.ref ca), .val (.int (3 : Int32)), .val (.ref d), .val (.int (3 : Int32)), .val (.int (4 : Int32)), .val (.int (3 : Int32)), .val (.int y2)] [(.int (4 : Int32)), (.int (3 : Int32))])
        refine OwnGo.ic_ge X6 hx (pc' := 44) (hb hby d6_7) (by decide) (by decide) (fun q => absurd q (by decide)) (fun _ => ?_)
        show Go p e below _ T6 (mkF m 10 #[.val (.ref ca), .val (.int (3 : Int32)), .val (.ref d), .val (.int (3 : Int32)), .val (.int (4 : Int32)), .val (.int (3 : Int32)), .val (.int y2)] [])
        refine OwnGo.aloadN X6 hx (hb hby d6_10) rfl rfl ?_
        show Go p e below _ T6 (mkF m 11 #[.val (.ref ca), .val (.int (3 : Int32)), .val (.ref d), .val (.int (3 : Int32)), .val (.int (4 : Int32)), .val (.int (3 : Int32)), .val (.int y2)] [(.ref ca)])
        refine OwnGo.iloadN X6 hx (hb hby d6_11) rfl ?_
        show Go p e below _ T6 (mkF m 12 #[.val (.ref ca), .val (.int (3 : Int32)), .val (.ref d), .val (.int (3 : Int32)), .val (.int (4 : Int32)), .val (.int (3 : Int32)), .val (.int y2)] [(.int (3 : Int32)), (.ref ca)])
        obtain ⟨cl7, Ar7, Kq7, Sz7, Nn7, Hh7, Gg7⟩ := (id VC_c6)
        have hin7 : ¬ ((3 : Int32) < 0 ∨ cl7.slots.size ≤ ((3 : Int32)).toNatClampNeg) := inb_of Sz7 ⟨by decide, by decide⟩
        refine OwnGo.caload X6 hx hZ e6 Ar7 hin7 (Has.at Hh7 hin7 (v := (.int y3)) rfl) (hb hby d6_12) ?_
        show Go p e below _ T6 (mkF m 13 #[.val (.ref ca), .val (.int (3 : Int32)), .val (.ref d), .val (.int (3 : Int32)), .val (.int (4 : Int32)), .val (.int (3 : Int32)), .val (.int y2)] [(.int y3)])
        refine OwnGo.istore X6 hx (hb hby d6_13) (Ls' := #[.val (.ref ca), .val (.int (3 : Int32)), .val (.ref d), .val (.int (3 : Int32)), .val (.int (4 : Int32)), .val (.int (3 : Int32)), .val (.int y3)]) rfl ?_
        show Go p e below _ T6 (mkF m 15 #[.val (.ref ca), .val (.int (3 : Int32)), .val (.ref d), .val (.int (3 : Int32)), .val (.int (4 : Int32)), .val (.int (3 : Int32)), .val (.int y3)] [])
        refine OwnGo.iload X6 hx (hb hby d6_15) rfl ?_
        show Go p e below _ T6 (mkF m 17 #[.val (.ref ca), .val (.int (3 : Int32)), .val (.ref d), .val (.int (3 : Int32)), .val (.int (4 : Int32)), .val (.int (3 : Int32)), .val (.int y3)] [(.int y3)])
        refine OwnGo.sipush X6 hx (z := (255 : Int32)) (hb hby d6_17) (by decide) ?_
        show Go p e below _ T6 (mkF m 20 #[.val (.ref ca), .val (.int (3 : Int32)), .val (.ref d), .val (.int (3 : Int32)), .val (.int (4 : Int32)), .val (.int (3 : Int32)), .val (.int y3)] [(.int (255 : Int32)), (.int y3)])
        refine OwnGo.ic_le X6 hx (pc' := 26) (hb hby d6_20) (by decide) (by decide) (fun hb3 => ?_) (fun hb3 => ?_)
        ·
          show Go p e below _ T6 (mkF m 26 #[.val (.ref ca), .val (.int (3 : Int32)), .val (.ref d), .val (.int (3 : Int32)), .val (.int (4 : Int32)), .val (.int (3 : Int32)), .val (.int y3)] [])
          refine OwnGo.aloadN X6 hx (hb hby d6_26) rfl rfl ?_
          show Go p e below _ T6 (mkF m 27 #[.val (.ref ca), .val (.int (3 : Int32)), .val (.ref d), .val (.int (3 : Int32)), .val (.int (4 : Int32)), .val (.int (3 : Int32)), .val (.int y3)] [(.ref d)])
          refine OwnGo.iloadN X6 hx (hb hby d6_27) rfl ?_
          show Go p e below _ T6 (mkF m 28 #[.val (.ref ca), .val (.int (3 : Int32)), .val (.ref d), .val (.int (3 : Int32)), .val (.int (4 : Int32)), .val (.int (3 : Int32)), .val (.int y3)] [(.int (3 : Int32)), (.ref d)])
          refine OwnGo.iload X6 hx (hb hby d6_28) rfl ?_
          show Go p e below _ T6 (mkF m 30 #[.val (.ref ca), .val (.int (3 : Int32)), .val (.ref d), .val (.int (3 : Int32)), .val (.int (4 : Int32)), .val (.int (3 : Int32)), .val (.int y3)] [(.int y3), (.int (3 : Int32)), (.ref d)])
          refine OwnGo.i2b X6 hx (hb hby d6_30) rfl ?_
          show Go p e below _ T6 (mkF m 31 #[.val (.ref ca), .val (.int (3 : Int32)), .val (.ref d), .val (.int (3 : Int32)), .val (.int (4 : Int32)), .val (.int (3 : Int32)), .val (.int y3)] [(.int (y3.toInt8.toInt32)), (.int (3 : Int32)), (.ref d)])
          obtain ⟨cl8, Ar8, Kq8, Sz8, Nn8, Hh8, Gg8⟩ := (id V6)
          have hin8 : ¬ ((3 : Int32) < 0 ∨ cl8.slots.size ≤ ((3 : Int32)).toNatClampNeg) := inb_of Sz8 ⟨by decide, by decide⟩
          refine OwnGo.stB X6 hx hZ e6 Ar8 hin8 (hb hby d6_31) fun T8 h8 X8 e8 W8 => ?_
          have VC_c8 := VC_c6.other W8 ncd
          have Z8 := Nat.le_trans Z6 (Keep.of_wr W8).1
          have K8_ := K6_.wr W8 (Or.inl (List.mem_of_getElem? (i := 0) rfl))
          have N8_ := Fr.snoc X8 N6_ gd
          have V8 : Arv Z h8 d kd .byte (4 : Int32) [(.int (y0.toInt8.toInt32)), (.int (y1.toInt8.toInt32)), (.int (y2.toInt8.toInt32)), (.int (nar .byte (y3.toInt8.toInt32)))] (.int (0 : Int32)) := Arv.set Ar8 Kq8 Sz8 Nn8 Hh8 Gg8 (fits_nar_byte _) W8 3 rfl (Nat.le_of_ble_eq_true rfl)
          rw [own_nb] at V8
          show Go p e below _ T8 (mkF m 32 #[.val (.ref ca), .val (.int (3 : Int32)), .val (.ref d), .val (.int (3 : Int32)), .val (.int (4 : Int32)), .val (.int (3 : Int32)), .val (.int y3)] [])
          refine OwnGo.iinc X8 hx (hb hby d6_32) rfl (z := (4 : Int32)) (by decide) (Ls' := #[.val (.ref ca), .val (.int (4 : Int32)), .val (.ref d), .val (.int (3 : Int32)), .val (.int (4 : Int32)), .val (.int (3 : Int32)), .val (.int y3)]) rfl ?_
          show Go p e below _ T8 (mkF m 35 #[.val (.ref ca), .val (.int (4 : Int32)), .val (.ref d), .val (.int (3 : Int32)), .val (.int (4 : Int32)), .val (.int (3 : Int32)), .val (.int y3)] [])
          refine OwnGo.iinc X8 hx (hb hby d6_35) rfl (z := (4 : Int32)) (by decide) (Ls' := #[.val (.ref ca), .val (.int (4 : Int32)), .val (.ref d), .val (.int (4 : Int32)), .val (.int (4 : Int32)), .val (.int (3 : Int32)), .val (.int y3)]) rfl ?_
          show Go p e below _ T8 (mkF m 38 #[.val (.ref ca), .val (.int (4 : Int32)), .val (.ref d), .val (.int (4 : Int32)), .val (.int (4 : Int32)), .val (.int (3 : Int32)), .val (.int y3)] [])
          refine OwnGo.iinc X8 hx (hb hby d6_38) rfl (z := (4 : Int32)) (by decide) (Ls' := #[.val (.ref ca), .val (.int (4 : Int32)), .val (.ref d), .val (.int (4 : Int32)), .val (.int (4 : Int32)), .val (.int (4 : Int32)), .val (.int y3)]) rfl ?_
          show Go p e below _ T8 (mkF m 41 #[.val (.ref ca), .val (.int (4 : Int32)), .val (.ref d), .val (.int (4 : Int32)), .val (.int (4 : Int32)), .val (.int (4 : Int32)), .val (.int y3)] [])
          refine OwnGo.goto X8 hx (pc' := 3) (hb hby d6_41) (by decide) (by decide) ?_
          show Go p e below _ T8 (mkF m 3 #[.val (.ref ca), .val (.int (4 : Int32)), .val (.ref d), .val (.int (4 : Int32)), .val (.int (4 : Int32)), .val (.int (4 : Int32)), .val (.int y3)] [])
          refine OwnGo.iload X8 hx (hb hby d6_3) rfl ?_
          show Go p e below _ T8 (mkF m 5 #[.val (.ref ca), .val (.int (4 : Int32)), .val (.ref d), .val (.int (4 : Int32)), .val (.int (4 : Int32)), .val (.int (4 : Int32)), .val (.int y3)] [(.int (4 : Int32))])
          refine OwnGo.iload X8 hx (hb hby d6_5) rfl ?_
          show Go p e below _ T8 (mkF m 7 #[.val (.ref ca), .val (.int (4 : Int32)), .val (.ref d), .val (.int (4 : Int32)), .val (.int (4 : Int32)), .val (.int (4 : Int32)), .val (.int y3)] [(.int (4 : Int32)), (.int (4 : Int32))])
          refine OwnGo.ic_ge X8 hx (pc' := 44) (hb hby d6_7) (by decide) (by decide) (fun _ => ?_) (fun q => absurd q (by decide))
          show Go p e below _ T8 (mkF m 44 #[.val (.ref ca), .val (.int (4 : Int32)), .val (.ref d), .val (.int (4 : Int32)), .val (.int (4 : Int32)), .val (.int (4 : Int32)), .val (.int y3)] [])
          refine OwnGo.iload X8 hx (hb hby d6_44) rfl ?_
          show Go p e below _ T8 (mkF m 46 #[.val (.ref ca), .val (.int (4 : Int32)), .val (.ref d), .val (.int (4 : Int32)), .val (.int (4 : Int32)), .val (.int (4 : Int32)), .val (.int y3)] [(.int (4 : Int32))])
          refine OwnGo.retI X8 hx hlk hret (hb hby d6_46) ?_ (by decide) (by decide)
          rw [e8]
          exact ⟨N8_, K8_, Or.inl ⟨rfl, ⟨hb0, hb1, hb2, hb3⟩, V8⟩⟩
        ·
          show Go p e below _ T6 (mkF m 23 #[.val (.ref ca), .val (.int (3 : Int32)), .val (.ref d), .val (.int (3 : Int32)), .val (.int (4 : Int32)), .val (.int (3 : Int32)), .val (.int y3)] [])
          refine OwnGo.iload X6 hx (hb hby d6_23) rfl ?_
          show Go p e below _ T6 (mkF m 25 #[.val (.ref ca), .val (.int (3 : Int32)), .val (.ref d), .val (.int (3 : Int32)), .val (.int (4 : Int32)), .val (.int (3 : Int32)), .val (.int y3)] [(.int (3 : Int32))])
          refine OwnGo.retI X6 hx hlk hret (hb hby d6_25) ?_ (by decide) (by decide)
          rw [e6]
          exact ⟨N6_, K6_, Or.inr (Or.inr (Or.inr (Or.inr ⟨rfl, hb3⟩)))⟩
      ·
        show Go p e below _ T4 (mkF m 23 #[.val (.ref ca), .val (.int (2 : Int32)), .val (.ref d), .val (.int (2 : Int32)), .val (.int (4 : Int32)), .val (.int (2 : Int32)), .val (.int y2)] [])
        refine OwnGo.iload X4 hx (hb hby d6_23) rfl ?_
        show Go p e below _ T4 (mkF m 25 #[.val (.ref ca), .val (.int (2 : Int32)), .val (.ref d), .val (.int (2 : Int32)), .val (.int (4 : Int32)), .val (.int (2 : Int32)), .val (.int y2)] [(.int (2 : Int32))])
        refine OwnGo.retI X4 hx hlk hret (hb hby d6_25) ?_ (by decide) (by decide)
        rw [e4]
        exact ⟨N4_, K4_, Or.inr (Or.inr (Or.inr (Or.inl ⟨rfl, hb2⟩)))⟩
    ·
      show Go p e below _ T2 (mkF m 23 #[.val (.ref ca), .val (.int (1 : Int32)), .val (.ref d), .val (.int (1 : Int32)), .val (.int (4 : Int32)), .val (.int (1 : Int32)), .val (.int y1)] [])
      refine OwnGo.iload X2 hx (hb hby d6_23) rfl ?_
      show Go p e below _ T2 (mkF m 25 #[.val (.ref ca), .val (.int (1 : Int32)), .val (.ref d), .val (.int (1 : Int32)), .val (.int (4 : Int32)), .val (.int (1 : Int32)), .val (.int y1)] [(.int (1 : Int32))])
      refine OwnGo.retI X2 hx hlk hret (hb hby d6_25) ?_ (by decide) (by decide)
      rw [e2]
      exact ⟨N2_, K2_, Or.inr (Or.inr (Or.inl ⟨rfl, hb1⟩))⟩
  ·
    show Go p e below _ T0 (mkF m 23 #[.val (.ref ca), .val (.int (0 : Int32)), .val (.ref d), .val (.int (0 : Int32)), .val (.int (4 : Int32)), .val (.int (0 : Int32)), .val (.int y0)] [])
    refine OwnGo.iload X0 hx (hb hby d6_23) rfl ?_
    show Go p e below _ T0 (mkF m 25 #[.val (.ref ca), .val (.int (0 : Int32)), .val (.ref d), .val (.int (0 : Int32)), .val (.int (4 : Int32)), .val (.int (0 : Int32)), .val (.int y0)] [(.int (0 : Int32))])
    refine OwnGo.retI X0 hx hlk hret (hb hby d6_25) ?_ (by decide) (by decide)
    rw [e0]
    exact ⟨Fr.nil n0, Keep.refl _ _, Or.inr (Or.inl ⟨rfl, hb0⟩)⟩
theorem d5_0 : decode jdk_52_method_16_code 0 = .ok (.iload_n 2, 1) := by decide +kernel
theorem d5_1 : decode jdk_52_method_16_code 1 = .ok (.newarray .byte, 2) := by decide +kernel
theorem d5_3 : decode jdk_52_method_16_code 3 = .ok (.astore_n 3, 1) := by decide +kernel
theorem d5_4 : decode jdk_52_method_16_code 4 = .ok (.aload_n 0, 1) := by decide +kernel
theorem d5_5 : decode jdk_52_method_16_code 5 = .ok (.iload_n 1, 1) := by decide +kernel
theorem d5_6 : decode jdk_52_method_16_code 6 = .ok (.aload_n 3, 1) := by decide +kernel
theorem d5_7 : decode jdk_52_method_16_code 7 = .ok (.iconst 0, 1) := by decide +kernel
theorem d5_8 : decode jdk_52_method_16_code 8 = .ok (.iload_n 2, 1) := by decide +kernel
theorem d5_9 : decode jdk_52_method_16_code 9 = .ok (.invokestatic 115, 3) := by decide +kernel
theorem d5_12 : decode jdk_52_method_16_code 12 = .ok (.istore 4, 2) := by decide +kernel
theorem d5_14 : decode jdk_52_method_16_code 14 = .ok (.iload 4, 2) := by decide +kernel
theorem d5_16 : decode jdk_52_method_16_code 16 = .ok (.iload_n 2, 1) := by decide +kernel
theorem d5_17 : decode jdk_52_method_16_code 17 = .ok (.if_icmp .eq 40, 3) := by decide +kernel
theorem d5_20 : decode jdk_52_method_16_code 20 = .ok (.aload_n 0, 1) := by decide +kernel
theorem d5_21 : decode jdk_52_method_16_code 21 = .ok (.iload_n 1, 1) := by decide +kernel
theorem d5_22 : decode jdk_52_method_16_code 22 = .ok (.iload_n 2, 1) := by decide +kernel
theorem d5_23 : decode jdk_52_method_16_code 23 = .ok (.invokestatic 119, 3) := by decide +kernel
theorem d5_26 : decode jdk_52_method_16_code 26 = .ok (.astore 5, 2) := by decide +kernel
theorem d5_28 : decode jdk_52_method_16_code 28 = .ok (.aload 5, 2) := by decide +kernel
theorem d5_30 : decode jdk_52_method_16_code 30 = .ok (.iload 4, 2) := by decide +kernel
theorem d5_32 : decode jdk_52_method_16_code 32 = .ok (.invokestatic 71, 3) := by decide +kernel
theorem d5_35 : decode jdk_52_method_16_code 35 = .ok (.sipush 255, 3) := by decide +kernel
theorem d5_38 : decode jdk_52_method_16_code 38 = .ok (.if_icmp .gt 16, 3) := by decide +kernel
theorem d5_54 : decode jdk_52_method_16_code 54 = .ok (.aload 5, 2) := by decide +kernel
theorem d5_56 : decode jdk_52_method_16_code 56 = .ok (.areturn, 1) := by decide +kernel
theorem d5_57 : decode jdk_52_method_16_code 57 = .ok (.aload_n 3, 1) := by decide +kernel
theorem d5_58 : decode jdk_52_method_16_code 58 = .ok (.areturn, 1) := by decide +kernel
theorem own_ef_rmCMP (m : MethodId) (x0 : Addr) (x1 : Int32) (x2 : Int32) : entryFrame m [(.ref x0), (.int x1), (.int x2)].toArray 6 = mkF m 0 #[.val (.ref x0), .val (.int x1), .val (.int x2), .unset, .unset, .unset] [] := by first | (simp [entryFrame, mkF, argsToLocals, Value.category]; done) | rfl
set_option maxRecDepth 65536 in
set_option maxHeartbeats 40000000 in
theorem rmCMP (l : Launch) (Z : State) (a0 : Array Value) (hw : ∀ d ∈ tables_1, d.before a0 Z = true) (ca : Addr) (kc : ClassId) (y0 y1 y2 y3 : Int32) (h0 : Heap) (n0 : Nat) (Z0 : n0 ≤ h0.size) (O1 : Old Z n0 h0) (VC : Arv Z h0 ca kc .char (4 : Int32) [(.int y0), (.int y1), (.int y2), (.int y3)] (.int (0 : Int32))) (SA : Sta Z Z.heap "java/lang/StringUTF16" "$assertionsDisabled" "Z" (.int (1 : Int32))) (SH : Sta Z Z.heap "java/lang/StringUTF16" "HI_BYTE_SHIFT" "I" (.int (0 : Int32))) (SLo : Sta Z Z.heap "java/lang/StringUTF16" "LO_BYTE_SHIFT" "I" (.int (8 : Int32))) (nc0 : nar .char y0 = y0) (nc1 : nar .char y1 = y1) (nc2 : nar .char y2 = y2) (nc3 : nar .char y3 = y3) :
    Con l Z (⟨"java/lang/StringUTF16", "compress", "([CII)[B"⟩ : MethodName) jdk_52_method_16_code 6 (some (.array .byte)) ({ frames := 3, cells := 2, slots := 12, locals := 40 } : Room) [(.ref ca), (.int (0 : Int32)), (.int (4 : Int32))] h0 (fun v h L => ∃ r kr, v = some (.ref r) ∧ Fr n0 L ∧ h0.size ≤ r ∧ n0 ≤ r ∧ Keep h0 h [] ∧ (((¬ 255 < y0 ∧ ¬ 255 < y1 ∧ ¬ 255 < y2 ∧ ¬ 255 < y3) ∧ Arv Z h r kr .byte (4 : Int32) [(.int (y0.toInt8.toInt32)), (.int (y1.toInt8.toInt32)), (.int (y2.toInt8.toInt32)), (.int (y3.toInt8.toInt32))] (.int (0 : Int32))) ∨ Arv Z h r kr .byte (8 : Int32) [(.int ((y0 >>> ((0 : Int32) &&& 31)).toInt8.toInt32)), (.int ((y0 >>> ((8 : Int32) &&& 31)).toInt8.toInt32)), (.int ((y1 >>> ((0 : Int32) &&& 31)).toInt8.toInt32)), (.int ((y1 >>> ((8 : Int32) &&& 31)).toInt8.toInt32)), (.int ((y2 >>> ((0 : Int32) &&& 31)).toInt8.toInt32)), (.int ((y2 >>> ((8 : Int32) &&& 31)).toInt8.toInt32)), (.int ((y3 >>> ((0 : Int32) &&& 31)).toInt8.toInt32)), (.int ((y3 >>> ((8 : Int32) &&& 31)).toInt8.toInt32))] (.int (0 : Int32)))) := by
  refine OwnGo.Con.of (plainFor_of_name own_pn1) (Ls0 := #[.val (.ref ca), .val (.int (0 : Int32)), .val (.int (4 : Int32)), .unset, .unset, .unset]) (fun m => own_ef_rmCMP m ca (0 : Int32) (4 : Int32)) ?_
  intro p e s m below meth c T0 X0 hx hZ hby hml hown hnm hret hlk e0
  show Go p e below _ T0 (mkF m 0 #[.val (.ref ca), .val (.int (0 : Int32)), .val (.int (4 : Int32)), .unset, .unset, .unset] [])
  refine OwnGo.iloadN X0 hx (hb hby d5_0) rfl ?_
  show Go p e below _ T0 (mkF m 1 #[.val (.ref ca), .val (.int (0 : Int32)), .val (.int (4 : Int32)), .unset, .unset, .unset] [(.int (4 : Int32))])
  refine OwnGo.newP X0 hx hZ (aty := .byte) (hw _ (List.mem_of_getElem? (i := 24) rfl)) e0 (hb hby d5_1) (n := (4 : Int32)) (by decide) (cap := 4) (by decide) (by decide) (by decide) (by decide) fun T1 h1 k1 b1 g1 X1 e1 E1 A1 => ?_
  have gb1 : n0 ≤ b1 := Nat.le_trans Z0 (Nat.le_of_eq g1.symm)
  have gz1 : h0.size ≤ b1 := Nat.le_trans (Keep.refl h0 []).1 (Nat.le_of_eq g1.symm)
  have ne_ca_b1 : ca ≠ b1 := Nat.ne_of_lt (Nat.lt_of_lt_of_le VC.lt (Nat.le_of_eq g1.symm))
  have O1_c1 := O1.ext E1
  have VC_c1 := VC.ext E1
  have Z1 := Nat.le_trans Z0 E1.1
  have K1_ := (Keep.refl h0 []).ext E1
  have V1 : Arv Z h1 b1 k1 .byte (4 : Int32) [(.int (0 : Int32)), (.int (0 : Int32)), (.int (0 : Int32)), (.int (0 : Int32))] (.int (0 : Int32)) := (Arv.new A1 (by decide)).pad (pad_rep [] _ 4)
  show Go p e below _ T1 (mkF m 3 #[.val (.ref ca), .val (.int (0 : Int32)), .val (.int (4 : Int32)), .unset, .unset, .unset] [(.ref b1)])
  refine OwnGo.astoreN X1 hx (hb hby d5_3) rfl (Ls' := #[.val (.ref ca), .val (.int (0 : Int32)), .val (.int (4 : Int32)), .val (.ref b1), .unset, .unset]) rfl ?_
  show Go p e below _ T1 (mkF m 4 #[.val (.ref ca), .val (.int (0 : Int32)), .val (.int (4 : Int32)), .val (.ref b1), .unset, .unset] [])
  refine OwnGo.aloadN X1 hx (hb hby d5_4) rfl rfl ?_
  show Go p e below _ T1 (mkF m 5 #[.val (.ref ca), .val (.int (0 : Int32)), .val (.int (4 : Int32)), .val (.ref b1), .unset, .unset] [(.ref ca)])
  refine OwnGo.iloadN X1 hx (hb hby d5_5) rfl ?_
  show Go p e below _ T1 (mkF m 6 #[.val (.ref ca), .val (.int (0 : Int32)), .val (.int (4 : Int32)), .val (.ref b1), .unset, .unset] [(.int (0 : Int32)), (.ref ca)])
  refine OwnGo.aloadN X1 hx (hb hby d5_6) rfl rfl ?_
  show Go p e below _ T1 (mkF m 7 #[.val (.ref ca), .val (.int (0 : Int32)), .val (.int (4 : Int32)), .val (.ref b1), .unset, .unset] [(.ref b1), (.int (0 : Int32)), (.ref ca)])
  refine OwnGo.iconst X1 hx (z := (0 : Int32)) (hb hby d5_7) (by decide) ?_
  show Go p e below _ T1 (mkF m 8 #[.val (.ref ca), .val (.int (0 : Int32)), .val (.int (4 : Int32)), .val (.ref b1), .unset, .unset] [(.int (0 : Int32)), (.ref b1), (.int (0 : Int32)), (.ref ca)])
  refine OwnGo.iloadN X1 hx (hb hby d5_8) rfl ?_
  show Go p e below _ T1 (mkF m 9 #[.val (.ref ca), .val (.int (0 : Int32)), .val (.int (4 : Int32)), .val (.ref b1), .unset, .unset] [(.int (4 : Int32)), (.int (0 : Int32)), (.ref b1), (.int (0 : Int32)), (.ref ca)])
  refine OwnGo.callS X1 hx hZ hown (y := (⟨"java/lang/StringUTF16", "compress", "([CI[BII)I"⟩ : MethodName)) (hw _ (List.mem_of_getElem? (i := 25) rfl)) (hw _ (List.mem_of_getElem? (i := 26) rfl)) (hw _ (List.mem_of_getElem? (i := 22) rfl)) (hw _ (List.mem_of_getElem? (i := 27) rfl)) (by decide) e1 (as := [(.ref ca), (.int (0 : Int32)), (.ref b1), (.int (0 : Int32)), (.int (4 : Int32))]) (rmCMI l Z a0 hw ca b1 kc k1 y0 y1 y2 y3 h1 n0 Z1 gb1 ne_ca_b1 VC_c1 V1) (W := 0) (by decide) (by decide) (by decide) (by decide) (by rw [hml]; rfl) (lenOf own_pd4 rfl) (rest := []) rfl rfl (hb hby d5_9) fun v2 T2 L2 X2 q2 => ?_
  obtain ⟨N2, K2, hc2⟩ := q2
  have O1_c2 := O1_c1.keep K2 (allS gb1 all0)
  have VC_c2 := VC_c1.keep K2 (ninS ne_ca_b1 nin0)
  have Z2 := Nat.le_trans Z1 K2.1
  have K2_ := K1_.trans K2 (allS (Or.inr gz1) all0)
  rcases hc2 with ⟨rfl, hsm, Vd⟩ | ⟨rfl, hbg⟩ | ⟨rfl, hbg⟩ | ⟨rfl, hbg⟩ | ⟨rfl, hbg⟩
  ·
    show Go p e below _ T2 (mkF m 12 #[.val (.ref ca), .val (.int (0 : Int32)), .val (.int (4 : Int32)), .val (.ref b1), .unset, .unset] [(.int (4 : Int32))])
    refine OwnGo.istore X2 hx (hb hby d5_12) (Ls' := #[.val (.ref ca), .val (.int (0 : Int32)), .val (.int (4 : Int32)), .val (.ref b1), .val (.int (4 : Int32)), .unset]) rfl ?_
    show Go p e below _ T2 (mkF m 14 #[.val (.ref ca), .val (.int (0 : Int32)), .val (.int (4 : Int32)), .val (.ref b1), .val (.int (4 : Int32)), .unset] [])
    refine OwnGo.iload X2 hx (hb hby d5_14) rfl ?_
    show Go p e below _ T2 (mkF m 16 #[.val (.ref ca), .val (.int (0 : Int32)), .val (.int (4 : Int32)), .val (.ref b1), .val (.int (4 : Int32)), .unset] [(.int (4 : Int32))])
    refine OwnGo.iloadN X2 hx (hb hby d5_16) rfl ?_
    show Go p e below _ T2 (mkF m 17 #[.val (.ref ca), .val (.int (0 : Int32)), .val (.int (4 : Int32)), .val (.ref b1), .val (.int (4 : Int32)), .unset] [(.int (4 : Int32)), (.int (4 : Int32))])
    refine OwnGo.ic_eq X2 hx (pc' := 57) (hb hby d5_17) (by decide) (by decide) (fun _ => ?_) (fun q => absurd q (by decide))
    show Go p e below _ T2 (mkF m 57 #[.val (.ref ca), .val (.int (0 : Int32)), .val (.int (4 : Int32)), .val (.ref b1), .val (.int (4 : Int32)), .unset] [])
    refine OwnGo.aloadN X2 hx (hb hby d5_57) rfl rfl ?_
    show Go p e below _ T2 (mkF m 58 #[.val (.ref ca), .val (.int (0 : Int32)), .val (.int (4 : Int32)), .val (.ref b1), .val (.int (4 : Int32)), .unset] [(.ref b1)])
    refine OwnGo.retA X2 hx hlk rfl rfl hret (hb hby d5_58) ?_ (by decide) (by decide)
    exact ⟨b1, k1, rfl, (Fr.app (Fr.nil n0) N2), gz1, gb1, K2_, Or.inl ⟨hsm, Vd⟩⟩
  ·
    show Go p e below _ T2 (mkF m 12 #[.val (.ref ca), .val (.int (0 : Int32)), .val (.int (4 : Int32)), .val (.ref b1), .unset, .unset] [(.int (0 : Int32))])
    refine OwnGo.istore X2 hx (hb hby d5_12) (Ls' := #[.val (.ref ca), .val (.int (0 : Int32)), .val (.int (4 : Int32)), .val (.ref b1), .val (.int (0 : Int32)), .unset]) rfl ?_
    show Go p e below _ T2 (mkF m 14 #[.val (.ref ca), .val (.int (0 : Int32)), .val (.int (4 : Int32)), .val (.ref b1), .val (.int (0 : Int32)), .unset] [])
    refine OwnGo.iload X2 hx (hb hby d5_14) rfl ?_
    show Go p e below _ T2 (mkF m 16 #[.val (.ref ca), .val (.int (0 : Int32)), .val (.int (4 : Int32)), .val (.ref b1), .val (.int (0 : Int32)), .unset] [(.int (0 : Int32))])
    refine OwnGo.iloadN X2 hx (hb hby d5_16) rfl ?_
    show Go p e below _ T2 (mkF m 17 #[.val (.ref ca), .val (.int (0 : Int32)), .val (.int (4 : Int32)), .val (.ref b1), .val (.int (0 : Int32)), .unset] [(.int (4 : Int32)), (.int (0 : Int32))])
    refine OwnGo.ic_eq X2 hx (pc' := 57) (hb hby d5_17) (by decide) (by decide) (fun q => absurd q (by decide)) (fun _ => ?_)
    show Go p e below _ T2 (mkF m 20 #[.val (.ref ca), .val (.int (0 : Int32)), .val (.int (4 : Int32)), .val (.ref b1), .val (.int (0 : Int32)), .unset] [])
    refine OwnGo.aloadN X2 hx (hb hby d5_20) rfl rfl ?_
    show Go p e below _ T2 (mkF m 21 #[.val (.ref ca), .val (.int (0 : Int32)), .val (.int (4 : Int32)), .val (.ref b1), .val (.int (0 : Int32)), .unset] [(.ref ca)])
    refine OwnGo.iloadN X2 hx (hb hby d5_21) rfl ?_
    show Go p e below _ T2 (mkF m 22 #[.val (.ref ca), .val (.int (0 : Int32)), .val (.int (4 : Int32)), .val (.ref b1), .val (.int (0 : Int32)), .unset] [(.int (0 : Int32)), (.ref ca)])
    refine OwnGo.iloadN X2 hx (hb hby d5_22) rfl ?_
    show Go p e below _ T2 (mkF m 23 #[.val (.ref ca), .val (.int (0 : Int32)), .val (.int (4 : Int32)), .val (.ref b1), .val (.int (0 : Int32)), .unset] [(.int (4 : Int32)), (.int (0 : Int32)), (.ref ca)])
    refine OwnGo.callS X2 hx hZ hown (y := (⟨"java/lang/StringUTF16", "toBytes", "([CII)[B"⟩ : MethodName)) (hw _ (List.mem_of_getElem? (i := 42) rfl)) (hw _ (List.mem_of_getElem? (i := 43) rfl)) (hw _ (List.mem_of_getElem? (i := 22) rfl)) (hw _ (List.mem_of_getElem? (i := 44) rfl)) (by decide) rfl (as := [(.ref ca), (.int (0 : Int32)), (.int (4 : Int32))]) (rmTOB l Z a0 hw ca kc y0 y1 y2 y3 T2.heap n0 Z2 O1_c2 VC_c2 SA SH SLo) (W := 0) (by decide) (by decide) (by decide) (by decide) (by rw [hml]; rfl) (lenOf own_pd5 rfl) (rest := []) rfl rfl (hb hby d5_23) fun v3 T3 L3 X3 q3 => ?_
    obtain ⟨r3, kr3, rfl, N3, g03, g13, K3, V3⟩ := q3
    have n_ca_r3 : ca ≠ r3 := Nat.ne_of_lt (Nat.lt_of_lt_of_le VC_c2.lt g03)
    have O1_c3 := O1_c2.keep K3 all0
    have VC_c3 := VC_c2.keep K3 nin0
    have Z3 := Nat.le_trans Z2 K3.1
    have K3_ := K2_.trans K3 all0
    have gz_r3 : h0.size ≤ r3 := Nat.le_trans K2_.1 g03
    show Go p e below _ T3 (mkF m 26 #[.val (.ref ca), .val (.int (0 : Int32)), .val (.int (4 : Int32)), .val (.ref b1), .val (.int (0 : Int32)), .unset] [(.ref r3)])
    refine OwnGo.astore X3 hx (hb hby d5_26) rfl (Ls' := #[.val (.ref ca), .val (.int (0 : Int32)), .val (.int (4 : Int32)), .val (.ref b1), .val (.int (0 : Int32)), .val (.ref r3)]) rfl ?_
    show Go p e below _ T3 (mkF m 28 #[.val (.ref ca), .val (.int (0 : Int32)), .val (.int (4 : Int32)), .val (.ref b1), .val (.int (0 : Int32)), .val (.ref r3)] [])
    refine OwnGo.aload X3 hx (hb hby d5_28) rfl rfl ?_
    show Go p e below _ T3 (mkF m 30 #[.val (.ref ca), .val (.int (0 : Int32)), .val (.int (4 : Int32)), .val (.ref b1), .val (.int (0 : Int32)), .val (.ref r3)] [(.ref r3)])
    refine OwnGo.iload X3 hx (hb hby d5_30) rfl ?_
    show Go p e below _ T3 (mkF m 32 #[.val (.ref ca), .val (.int (0 : Int32)), .val (.int (4 : Int32)), .val (.ref b1), .val (.int (0 : Int32)), .val (.ref r3)] [(.int (0 : Int32)), (.ref r3)])
    refine OwnGo.callS X3 hx hZ hown (y := (⟨"java/lang/StringUTF16", "getChar", "([BI)C"⟩ : MethodName)) (hw _ (List.mem_of_getElem? (i := 58) rfl)) (hw _ (List.mem_of_getElem? (i := 59) rfl)) (hw _ (List.mem_of_getElem? (i := 22) rfl)) (hw _ (List.mem_of_getElem? (i := 60) rfl)) (by decide) rfl (as := [(.ref r3), (.int (0 : Int32))]) (rmGCH0 l Z a0 hw r3 kr3 y0 y1 y2 y3 T3.heap n0 Z3 O1_c3 V3 SA SH SLo nc0) (W := 0) (by decide) (by decide) (by decide) (by decide) (by rw [hml]; rfl) (lenOf own_pd6 rfl) (rest := []) rfl rfl (hb hby d5_32) fun v4 T4 L4 X4 q4 => ?_
    obtain ⟨rfl, e4, rfl⟩ := q4
    rw [List.append_nil] at X4
    show Go p e below _ T4 (mkF m 35 #[.val (.ref ca), .val (.int (0 : Int32)), .val (.int (4 : Int32)), .val (.ref b1), .val (.int (0 : Int32)), .val (.ref r3)] [(.int y0)])
    refine OwnGo.sipush X4 hx (z := (255 : Int32)) (hb hby d5_35) (by decide) ?_
    show Go p e below _ T4 (mkF m 38 #[.val (.ref ca), .val (.int (0 : Int32)), .val (.int (4 : Int32)), .val (.ref b1), .val (.int (0 : Int32)), .val (.ref r3)] [(.int (255 : Int32)), (.int y0)])
    refine OwnGo.ic_gt X4 hx (pc' := 54) (hb hby d5_38) (by decide) (by decide) (fun h38 => ?_) (fun h38 => (by first | exact absurd h38 (by assumption) | exact absurd (by assumption) h38 | exact absurd (Value.ref.inj h38) (by assumption) | exact absurd (Value.ref.inj h38).symm (by assumption)))
    show Go p e below _ T4 (mkF m 54 #[.val (.ref ca), .val (.int (0 : Int32)), .val (.int (4 : Int32)), .val (.ref b1), .val (.int (0 : Int32)), .val (.ref r3)] [])
    refine OwnGo.aload X4 hx (hb hby d5_54) rfl rfl ?_
    show Go p e below _ T4 (mkF m 56 #[.val (.ref ca), .val (.int (0 : Int32)), .val (.int (4 : Int32)), .val (.ref b1), .val (.int (0 : Int32)), .val (.ref r3)] [(.ref r3)])
    refine OwnGo.retA X4 hx hlk rfl rfl hret (hb hby d5_56) ?_ (by decide) (by decide)
    rw [e4]
    exact ⟨r3, kr3, rfl, (Fr.app (Fr.app (Fr.nil n0) N2) N3), gz_r3, g13, K3_, Or.inr V3⟩
  ·
    show Go p e below _ T2 (mkF m 12 #[.val (.ref ca), .val (.int (0 : Int32)), .val (.int (4 : Int32)), .val (.ref b1), .unset, .unset] [(.int (1 : Int32))])
    refine OwnGo.istore X2 hx (hb hby d5_12) (Ls' := #[.val (.ref ca), .val (.int (0 : Int32)), .val (.int (4 : Int32)), .val (.ref b1), .val (.int (1 : Int32)), .unset]) rfl ?_
    show Go p e below _ T2 (mkF m 14 #[.val (.ref ca), .val (.int (0 : Int32)), .val (.int (4 : Int32)), .val (.ref b1), .val (.int (1 : Int32)), .unset] [])
    refine OwnGo.iload X2 hx (hb hby d5_14) rfl ?_
    show Go p e below _ T2 (mkF m 16 #[.val (.ref ca), .val (.int (0 : Int32)), .val (.int (4 : Int32)), .val (.ref b1), .val (.int (1 : Int32)), .unset] [(.int (1 : Int32))])
    refine OwnGo.iloadN X2 hx (hb hby d5_16) rfl ?_
    show Go p e below _ T2 (mkF m 17 #[.val (.ref ca), .val (.int (0 : Int32)), .val (.int (4 : Int32)), .val (.ref b1), .val (.int (1 : Int32)), .unset] [(.int (4 : Int32)), (.int (1 : Int32))])
    refine OwnGo.ic_eq X2 hx (pc' := 57) (hb hby d5_17) (by decide) (by decide) (fun q => absurd q (by decide)) (fun _ => ?_)
    show Go p e below _ T2 (mkF m 20 #[.val (.ref ca), .val (.int (0 : Int32)), .val (.int (4 : Int32)), .val (.ref b1), .val (.int (1 : Int32)), .unset] [])
    refine OwnGo.aloadN X2 hx (hb hby d5_20) rfl rfl ?_
    show Go p e below _ T2 (mkF m 21 #[.val (.ref ca), .val (.int (0 : Int32)), .val (.int (4 : Int32)), .val (.ref b1), .val (.int (1 : Int32)), .unset] [(.ref ca)])
    refine OwnGo.iloadN X2 hx (hb hby d5_21) rfl ?_
    show Go p e below _ T2 (mkF m 22 #[.val (.ref ca), .val (.int (0 : Int32)), .val (.int (4 : Int32)), .val (.ref b1), .val (.int (1 : Int32)), .unset] [(.int (0 : Int32)), (.ref ca)])
    refine OwnGo.iloadN X2 hx (hb hby d5_22) rfl ?_
    show Go p e below _ T2 (mkF m 23 #[.val (.ref ca), .val (.int (0 : Int32)), .val (.int (4 : Int32)), .val (.ref b1), .val (.int (1 : Int32)), .unset] [(.int (4 : Int32)), (.int (0 : Int32)), (.ref ca)])
    refine OwnGo.callS X2 hx hZ hown (y := (⟨"java/lang/StringUTF16", "toBytes", "([CII)[B"⟩ : MethodName)) (hw _ (List.mem_of_getElem? (i := 42) rfl)) (hw _ (List.mem_of_getElem? (i := 43) rfl)) (hw _ (List.mem_of_getElem? (i := 22) rfl)) (hw _ (List.mem_of_getElem? (i := 44) rfl)) (by decide) rfl (as := [(.ref ca), (.int (0 : Int32)), (.int (4 : Int32))]) (rmTOB l Z a0 hw ca kc y0 y1 y2 y3 T2.heap n0 Z2 O1_c2 VC_c2 SA SH SLo) (W := 0) (by decide) (by decide) (by decide) (by decide) (by rw [hml]; rfl) (lenOf own_pd5 rfl) (rest := []) rfl rfl (hb hby d5_23) fun v5 T5 L5 X5 q5 => ?_
    obtain ⟨r5, kr5, rfl, N5, g05, g15, K5, V5⟩ := q5
    have n_ca_r5 : ca ≠ r5 := Nat.ne_of_lt (Nat.lt_of_lt_of_le VC_c2.lt g05)
    have O1_c5 := O1_c2.keep K5 all0
    have VC_c5 := VC_c2.keep K5 nin0
    have Z5 := Nat.le_trans Z2 K5.1
    have K5_ := K2_.trans K5 all0
    have gz_r5 : h0.size ≤ r5 := Nat.le_trans K2_.1 g05
    show Go p e below _ T5 (mkF m 26 #[.val (.ref ca), .val (.int (0 : Int32)), .val (.int (4 : Int32)), .val (.ref b1), .val (.int (1 : Int32)), .unset] [(.ref r5)])
    refine OwnGo.astore X5 hx (hb hby d5_26) rfl (Ls' := #[.val (.ref ca), .val (.int (0 : Int32)), .val (.int (4 : Int32)), .val (.ref b1), .val (.int (1 : Int32)), .val (.ref r5)]) rfl ?_
    show Go p e below _ T5 (mkF m 28 #[.val (.ref ca), .val (.int (0 : Int32)), .val (.int (4 : Int32)), .val (.ref b1), .val (.int (1 : Int32)), .val (.ref r5)] [])
    refine OwnGo.aload X5 hx (hb hby d5_28) rfl rfl ?_
    show Go p e below _ T5 (mkF m 30 #[.val (.ref ca), .val (.int (0 : Int32)), .val (.int (4 : Int32)), .val (.ref b1), .val (.int (1 : Int32)), .val (.ref r5)] [(.ref r5)])
    refine OwnGo.iload X5 hx (hb hby d5_30) rfl ?_
    show Go p e below _ T5 (mkF m 32 #[.val (.ref ca), .val (.int (0 : Int32)), .val (.int (4 : Int32)), .val (.ref b1), .val (.int (1 : Int32)), .val (.ref r5)] [(.int (1 : Int32)), (.ref r5)])
    refine OwnGo.callS X5 hx hZ hown (y := (⟨"java/lang/StringUTF16", "getChar", "([BI)C"⟩ : MethodName)) (hw _ (List.mem_of_getElem? (i := 58) rfl)) (hw _ (List.mem_of_getElem? (i := 59) rfl)) (hw _ (List.mem_of_getElem? (i := 22) rfl)) (hw _ (List.mem_of_getElem? (i := 60) rfl)) (by decide) rfl (as := [(.ref r5), (.int (1 : Int32))]) (rmGCH1 l Z a0 hw r5 kr5 y0 y1 y2 y3 T5.heap n0 Z5 O1_c5 V5 SA SH SLo nc1) (W := 0) (by decide) (by decide) (by decide) (by decide) (by rw [hml]; rfl) (lenOf own_pd6 rfl) (rest := []) rfl rfl (hb hby d5_32) fun v6 T6 L6 X6 q6 => ?_
    obtain ⟨rfl, e6, rfl⟩ := q6
    rw [List.append_nil] at X6
    show Go p e below _ T6 (mkF m 35 #[.val (.ref ca), .val (.int (0 : Int32)), .val (.int (4 : Int32)), .val (.ref b1), .val (.int (1 : Int32)), .val (.ref r5)] [(.int y1)])
    refine OwnGo.sipush X6 hx (z := (255 : Int32)) (hb hby d5_35) (by decide) ?_
    show Go p e below _ T6 (mkF m 38 #[.val (.ref ca), .val (.int (0 : Int32)), .val (.int (4 : Int32)), .val (.ref b1), .val (.int (1 : Int32)), .val (.ref r5)] [(.int (255 : Int32)), (.int y1)])
    refine OwnGo.ic_gt X6 hx (pc' := 54) (hb hby d5_38) (by decide) (by decide) (fun h38 => ?_) (fun h38 => (by first | exact absurd h38 (by assumption) | exact absurd (by assumption) h38 | exact absurd (Value.ref.inj h38) (by assumption) | exact absurd (Value.ref.inj h38).symm (by assumption)))
    show Go p e below _ T6 (mkF m 54 #[.val (.ref ca), .val (.int (0 : Int32)), .val (.int (4 : Int32)), .val (.ref b1), .val (.int (1 : Int32)), .val (.ref r5)] [])
    refine OwnGo.aload X6 hx (hb hby d5_54) rfl rfl ?_
    show Go p e below _ T6 (mkF m 56 #[.val (.ref ca), .val (.int (0 : Int32)), .val (.int (4 : Int32)), .val (.ref b1), .val (.int (1 : Int32)), .val (.ref r5)] [(.ref r5)])
    refine OwnGo.retA X6 hx hlk rfl rfl hret (hb hby d5_56) ?_ (by decide) (by decide)
    rw [e6]
    exact ⟨r5, kr5, rfl, (Fr.app (Fr.app (Fr.nil n0) N2) N5), gz_r5, g15, K5_, Or.inr V5⟩
  ·
    show Go p e below _ T2 (mkF m 12 #[.val (.ref ca), .val (.int (0 : Int32)), .val (.int (4 : Int32)), .val (.ref b1), .unset, .unset] [(.int (2 : Int32))])
    refine OwnGo.istore X2 hx (hb hby d5_12) (Ls' := #[.val (.ref ca), .val (.int (0 : Int32)), .val (.int (4 : Int32)), .val (.ref b1), .val (.int (2 : Int32)), .unset]) rfl ?_
    show Go p e below _ T2 (mkF m 14 #[.val (.ref ca), .val (.int (0 : Int32)), .val (.int (4 : Int32)), .val (.ref b1), .val (.int (2 : Int32)), .unset] [])
    refine OwnGo.iload X2 hx (hb hby d5_14) rfl ?_
    show Go p e below _ T2 (mkF m 16 #[.val (.ref ca), .val (.int (0 : Int32)), .val (.int (4 : Int32)), .val (.ref b1), .val (.int (2 : Int32)), .unset] [(.int (2 : Int32))])
    refine OwnGo.iloadN X2 hx (hb hby d5_16) rfl ?_
    show Go p e below _ T2 (mkF m 17 #[.val (.ref ca), .val (.int (0 : Int32)), .val (.int (4 : Int32)), .val (.ref b1), .val (.int (2 : Int32)), .unset] [(.int (4 : Int32)), (.int (2 : Int32))])
    refine OwnGo.ic_eq X2 hx (pc' := 57) (hb hby d5_17) (by decide) (by decide) (fun q => absurd q (by decide)) (fun _ => ?_)
    show Go p e below _ T2 (mkF m 20 #[.val (.ref ca), .val (.int (0 : Int32)), .val (.int (4 : Int32)), .val (.ref b1), .val (.int (2 : Int32)), .unset] [])
    refine OwnGo.aloadN X2 hx (hb hby d5_20) rfl rfl ?_
    show Go p e below _ T2 (mkF m 21 #[.val (.ref ca), .val (.int (0 : Int32)), .val (.int (4 : Int32)), .val (.ref b1), .val (.int (2 : Int32)), .unset] [(.ref ca)])
    refine OwnGo.iloadN X2 hx (hb hby d5_21) rfl ?_
    show Go p e below _ T2 (mkF m 22 #[.val (.ref ca), .val (.int (0 : Int32)), .val (.int (4 : Int32)), .val (.ref b1), .val (.int (2 : Int32)), .unset] [(.int (0 : Int32)), (.ref ca)])
    refine OwnGo.iloadN X2 hx (hb hby d5_22) rfl ?_
    show Go p e below _ T2 (mkF m 23 #[.val (.ref ca), .val (.int (0 : Int32)), .val (.int (4 : Int32)), .val (.ref b1), .val (.int (2 : Int32)), .unset] [(.int (4 : Int32)), (.int (0 : Int32)), (.ref ca)])
    refine OwnGo.callS X2 hx hZ hown (y := (⟨"java/lang/StringUTF16", "toBytes", "([CII)[B"⟩ : MethodName)) (hw _ (List.mem_of_getElem? (i := 42) rfl)) (hw _ (List.mem_of_getElem? (i := 43) rfl)) (hw _ (List.mem_of_getElem? (i := 22) rfl)) (hw _ (List.mem_of_getElem? (i := 44) rfl)) (by decide) rfl (as := [(.ref ca), (.int (0 : Int32)), (.int (4 : Int32))]) (rmTOB l Z a0 hw ca kc y0 y1 y2 y3 T2.heap n0 Z2 O1_c2 VC_c2 SA SH SLo) (W := 0) (by decide) (by decide) (by decide) (by decide) (by rw [hml]; rfl) (lenOf own_pd5 rfl) (rest := []) rfl rfl (hb hby d5_23) fun v7 T7 L7 X7 q7 => ?_
    obtain ⟨r7, kr7, rfl, N7, g07, g17, K7, V7⟩ := q7
    have n_ca_r7 : ca ≠ r7 := Nat.ne_of_lt (Nat.lt_of_lt_of_le VC_c2.lt g07)
    have O1_c7 := O1_c2.keep K7 all0
    have VC_c7 := VC_c2.keep K7 nin0
    have Z7 := Nat.le_trans Z2 K7.1
    have K7_ := K2_.trans K7 all0
    have gz_r7 : h0.size ≤ r7 := Nat.le_trans K2_.1 g07
    show Go p e below _ T7 (mkF m 26 #[.val (.ref ca), .val (.int (0 : Int32)), .val (.int (4 : Int32)), .val (.ref b1), .val (.int (2 : Int32)), .unset] [(.ref r7)])
    refine OwnGo.astore X7 hx (hb hby d5_26) rfl (Ls' := #[.val (.ref ca), .val (.int (0 : Int32)), .val (.int (4 : Int32)), .val (.ref b1), .val (.int (2 : Int32)), .val (.ref r7)]) rfl ?_
    show Go p e below _ T7 (mkF m 28 #[.val (.ref ca), .val (.int (0 : Int32)), .val (.int (4 : Int32)), .val (.ref b1), .val (.int (2 : Int32)), .val (.ref r7)] [])
    refine OwnGo.aload X7 hx (hb hby d5_28) rfl rfl ?_
    show Go p e below _ T7 (mkF m 30 #[.val (.ref ca), .val (.int (0 : Int32)), .val (.int (4 : Int32)), .val (.ref b1), .val (.int (2 : Int32)), .val (.ref r7)] [(.ref r7)])
    refine OwnGo.iload X7 hx (hb hby d5_30) rfl ?_
    show Go p e below _ T7 (mkF m 32 #[.val (.ref ca), .val (.int (0 : Int32)), .val (.int (4 : Int32)), .val (.ref b1), .val (.int (2 : Int32)), .val (.ref r7)] [(.int (2 : Int32)), (.ref r7)])
    refine OwnGo.callS X7 hx hZ hown (y := (⟨"java/lang/StringUTF16", "getChar", "([BI)C"⟩ : MethodName)) (hw _ (List.mem_of_getElem? (i := 58) rfl)) (hw _ (List.mem_of_getElem? (i := 59) rfl)) (hw _ (List.mem_of_getElem? (i := 22) rfl)) (hw _ (List.mem_of_getElem? (i := 60) rfl)) (by decide) rfl (as := [(.ref r7), (.int (2 : Int32))]) (rmGCH2 l Z a0 hw r7 kr7 y0 y1 y2 y3 T7.heap n0 Z7 O1_c7 V7 SA SH SLo nc2) (W := 0) (by decide) (by decide) (by decide) (by decide) (by rw [hml]; rfl) (lenOf own_pd6 rfl) (rest := []) rfl rfl (hb hby d5_32) fun v8 T8 L8 X8 q8 => ?_
    obtain ⟨rfl, e8, rfl⟩ := q8
    rw [List.append_nil] at X8
    show Go p e below _ T8 (mkF m 35 #[.val (.ref ca), .val (.int (0 : Int32)), .val (.int (4 : Int32)), .val (.ref b1), .val (.int (2 : Int32)), .val (.ref r7)] [(.int y2)])
    refine OwnGo.sipush X8 hx (z := (255 : Int32)) (hb hby d5_35) (by decide) ?_
    show Go p e below _ T8 (mkF m 38 #[.val (.ref ca), .val (.int (0 : Int32)), .val (.int (4 : Int32)), .val (.ref b1), .val (.int (2 : Int32)), .val (.ref r7)] [(.int (255 : Int32)), (.int y2)])
    refine OwnGo.ic_gt X8 hx (pc' := 54) (hb hby d5_38) (by decide) (by decide) (fun h38 => ?_) (fun h38 => (by first | exact absurd h38 (by assumption) | exact absurd (by assumption) h38 | exact absurd (Value.ref.inj h38) (by assumption) | exact absurd (Value.ref.inj h38).symm (by assumption)))
    show Go p e below _ T8 (mkF m 54 #[.val (.ref ca), .val (.int (0 : Int32)), .val (.int (4 : Int32)), .val (.ref b1), .val (.int (2 : Int32)), .val (.ref r7)] [])
    refine OwnGo.aload X8 hx (hb hby d5_54) rfl rfl ?_
    show Go p e below _ T8 (mkF m 56 #[.val (.ref ca), .val (.int (0 : Int32)), .val (.int (4 : Int32)), .val (.ref b1), .val (.int (2 : Int32)), .val (.ref r7)] [(.ref r7)])
    refine OwnGo.retA X8 hx hlk rfl rfl hret (hb hby d5_56) ?_ (by decide) (by decide)
    rw [e8]
    exact ⟨r7, kr7, rfl, (Fr.app (Fr.app (Fr.nil n0) N2) N7), gz_r7, g17, K7_, Or.inr V7⟩
  ·
    show Go p e below _ T2 (mkF m 12 #[.val (.ref ca), .val (.int (0 : Int32)), .val (.int (4 : Int32)), .val (.ref b1), .unset, .unset] [(.int (3 : Int32))])
    refine OwnGo.istore X2 hx (hb hby d5_12) (Ls' := #[.val (.ref ca), .val (.int (0 : Int32)), .val (.int (4 : Int32)), .val (.ref b1), .val (.int (3 : Int32)), .unset]) rfl ?_
    show Go p e below _ T2 (mkF m 14 #[.val (.ref ca), .val (.int (0 : Int32)), .val (.int (4 : Int32)), .val (.ref b1), .val (.int (3 : Int32)), .unset] [])
    refine OwnGo.iload X2 hx (hb hby d5_14) rfl ?_
    show Go p e below _ T2 (mkF m 16 #[.val (.ref ca), .val (.int (0 : Int32)), .val (.int (4 : Int32)), .val (.ref b1), .val (.int (3 : Int32)), .unset] [(.int (3 : Int32))])
    refine OwnGo.iloadN X2 hx (hb hby d5_16) rfl ?_
    show Go p e below _ T2 (mkF m 17 #[.val (.ref ca), .val (.int (0 : Int32)), .val (.int (4 : Int32)), .val (.ref b1), .val (.int (3 : Int32)), .unset] [(.int (4 : Int32)), (.int (3 : Int32))])
    refine OwnGo.ic_eq X2 hx (pc' := 57) (hb hby d5_17) (by decide) (by decide) (fun q => absurd q (by decide)) (fun _ => ?_)
    show Go p e below _ T2 (mkF m 20 #[.val (.ref ca), .val (.int (0 : Int32)), .val (.int (4 : Int32)), .val (.ref b1), .val (.int (3 : Int32)), .unset] [])
    refine OwnGo.aloadN X2 hx (hb hby d5_20) rfl rfl ?_
    show Go p e below _ T2 (mkF m 21 #[.val (.ref ca), .val (.int (0 : Int32)), .val (.int (4 : Int32)), .val (.ref b1), .val (.int (3 : Int32)), .unset] [(.ref ca)])
    refine OwnGo.iloadN X2 hx (hb hby d5_21) rfl ?_
    show Go p e below _ T2 (mkF m 22 #[.val (.ref ca), .val (.int (0 : Int32)), .val (.int (4 : Int32)), .val (.ref b1), .val (.int (3 : Int32)), .unset] [(.int (0 : Int32)), (.ref ca)])
    refine OwnGo.iloadN X2 hx (hb hby d5_22) rfl ?_
    show Go p e below _ T2 (mkF m 23 #[.val (.ref ca), .val (.int (0 : Int32)), .val (.int (4 : Int32)), .val (.ref b1), .val (.int (3 : Int32)), .unset] [(.int (4 : Int32)), (.int (0 : Int32)), (.ref ca)])
    refine OwnGo.callS X2 hx hZ hown (y := (⟨"java/lang/StringUTF16", "toBytes", "([CII)[B"⟩ : MethodName)) (hw _ (List.mem_of_getElem? (i := 42) rfl)) (hw _ (List.mem_of_getElem? (i := 43) rfl)) (hw _ (List.mem_of_getElem? (i := 22) rfl)) (hw _ (List.mem_of_getElem? (i := 44) rfl)) (by decide) rfl (as := [(.ref ca), (.int (0 : Int32)), (.int (4 : Int32))]) (rmTOB l Z a0 hw ca kc y0 y1 y2 y3 T2.heap n0 Z2 O1_c2 VC_c2 SA SH SLo) (W := 0) (by decide) (by decide) (by decide) (by decide) (by rw [hml]; rfl) (lenOf own_pd5 rfl) (rest := []) rfl rfl (hb hby d5_23) fun v9 T9 L9 X9 q9 => ?_
    obtain ⟨r9, kr9, rfl, N9, g09, g19, K9, V9⟩ := q9
    have n_ca_r9 : ca ≠ r9 := Nat.ne_of_lt (Nat.lt_of_lt_of_le VC_c2.lt g09)
    have O1_c9 := O1_c2.keep K9 all0
    have VC_c9 := VC_c2.keep K9 nin0
    have Z9 := Nat.le_trans Z2 K9.1
    have K9_ := K2_.trans K9 all0
    have gz_r9 : h0.size ≤ r9 := Nat.le_trans K2_.1 g09
    show Go p e below _ T9 (mkF m 26 #[.val (.ref ca), .val (.int (0 : Int32)), .val (.int (4 : Int32)), .val (.ref b1), .val (.int (3 : Int32)), .unset] [(.ref r9)])
    refine OwnGo.astore X9 hx (hb hby d5_26) rfl (Ls' := #[.val (.ref ca), .val (.int (0 : Int32)), .val (.int (4 : Int32)), .val (.ref b1), .val (.int (3 : Int32)), .val (.ref r9)]) rfl ?_
    show Go p e below _ T9 (mkF m 28 #[.val (.ref ca), .val (.int (0 : Int32)), .val (.int (4 : Int32)), .val (.ref b1), .val (.int (3 : Int32)), .val (.ref r9)] [])
    refine OwnGo.aload X9 hx (hb hby d5_28) rfl rfl ?_
    show Go p e below _ T9 (mkF m 30 #[.val (.ref ca), .val (.int (0 : Int32)), .val (.int (4 : Int32)), .val (.ref b1), .val (.int (3 : Int32)), .val (.ref r9)] [(.ref r9)])
    refine OwnGo.iload X9 hx (hb hby d5_30) rfl ?_
    show Go p e below _ T9 (mkF m 32 #[.val (.ref ca), .val (.int (0 : Int32)), .val (.int (4 : Int32)), .val (.ref b1), .val (.int (3 : Int32)), .val (.ref r9)] [(.int (3 : Int32)), (.ref r9)])
    refine OwnGo.callS X9 hx hZ hown (y := (⟨"java/lang/StringUTF16", "getChar", "([BI)C"⟩ : MethodName)) (hw _ (List.mem_of_getElem? (i := 58) rfl)) (hw _ (List.mem_of_getElem? (i := 59) rfl)) (hw _ (List.mem_of_getElem? (i := 22) rfl)) (hw _ (List.mem_of_getElem? (i := 60) rfl)) (by decide) rfl (as := [(.ref r9), (.int (3 : Int32))]) (rmGCH3 l Z a0 hw r9 kr9 y0 y1 y2 y3 T9.heap n0 Z9 O1_c9 V9 SA SH SLo nc3) (W := 0) (by decide) (by decide) (by decide) (by decide) (by rw [hml]; rfl) (lenOf own_pd6 rfl) (rest := []) rfl rfl (hb hby d5_32) fun v10 T10 L10 X10 q10 => ?_
    obtain ⟨rfl, e10, rfl⟩ := q10
    rw [List.append_nil] at X10
    show Go p e below _ T10 (mkF m 35 #[.val (.ref ca), .val (.int (0 : Int32)), .val (.int (4 : Int32)), .val (.ref b1), .val (.int (3 : Int32)), .val (.ref r9)] [(.int y3)])
    refine OwnGo.sipush X10 hx (z := (255 : Int32)) (hb hby d5_35) (by decide) ?_
    show Go p e below _ T10 (mkF m 38 #[.val (.ref ca), .val (.int (0 : Int32)), .val (.int (4 : Int32)), .val (.ref b1), .val (.int (3 : Int32)), .val (.ref r9)] [(.int (255 : Int32)), (.int y3)])
    refine OwnGo.ic_gt X10 hx (pc' := 54) (hb hby d5_38) (by decide) (by decide) (fun h38 => ?_) (fun h38 => (by first | exact absurd h38 (by assumption) | exact absurd (by assumption) h38 | exact absurd (Value.ref.inj h38) (by assumption) | exact absurd (Value.ref.inj h38).symm (by assumption)))
    show Go p e below _ T10 (mkF m 54 #[.val (.ref ca), .val (.int (0 : Int32)), .val (.int (4 : Int32)), .val (.ref b1), .val (.int (3 : Int32)), .val (.ref r9)] [])
    refine OwnGo.aload X10 hx (hb hby d5_54) rfl rfl ?_
    show Go p e below _ T10 (mkF m 56 #[.val (.ref ca), .val (.int (0 : Int32)), .val (.int (4 : Int32)), .val (.ref b1), .val (.int (3 : Int32)), .val (.ref r9)] [(.ref r9)])
    refine OwnGo.retA X10 hx hlk rfl rfl hret (hb hby d5_56) ?_ (by decide) (by decide)
    rw [e10]
    exact ⟨r9, kr9, rfl, (Fr.app (Fr.app (Fr.nil n0) N2) N9), gz_r9, g19, K9_, Or.inr V9⟩
theorem d7_0 : decode jdk_52_method_15_code 0 = .ok (.iload_n 1, 1) := by decide +kernel
theorem d7_1 : decode jdk_52_method_15_code 1 = .ok (.aload_n 0, 1) := by decide +kernel
theorem d7_2 : decode jdk_52_method_15_code 2 = .ok (.arraylength, 1) := by decide +kernel
theorem d7_3 : decode jdk_52_method_15_code 3 = .ok (.isub, 1) := by decide +kernel
theorem d7_4 : decode jdk_52_method_15_code 4 = .ok (.bipush 31, 2) := by decide +kernel
theorem d7_6 : decode jdk_52_method_15_code 6 = .ok (.iushr, 1) := by decide +kernel
theorem d7_7 : decode jdk_52_method_15_code 7 = .ok (.i2b, 1) := by decide +kernel
theorem d7_8 : decode jdk_52_method_15_code 8 = .ok (.ireturn, 1) := by decide +kernel
theorem own_ef_rmCFAL (m : MethodId) (x0 : Addr) (x1 : Int32) : entryFrame m [(.ref x0), (.int x1)].toArray 2 = mkF m 0 #[.val (.ref x0), .val (.int x1)] [] := by first | (simp [entryFrame, mkF, argsToLocals, Value.category]; done) | rfl
set_option maxRecDepth 65536 in
set_option maxHeartbeats 40000000 in
theorem rmCFAL (l : Launch) (Z : State) (a0 : Array Value) (hw : ∀ d ∈ tables_1, d.before a0 Z = true) (r : Addr) (kr : ClassId) (y0 y1 y2 y3 : Int32) (h0 : Heap) (V1 : Arv Z h0 r kr .byte (4 : Int32) [(.int (y0.toInt8.toInt32)), (.int (y1.toInt8.toInt32)), (.int (y2.toInt8.toInt32)), (.int (y3.toInt8.toInt32))] (.int (0 : Int32))) :
    Con l Z (⟨"java/lang/StringUTF16", "coderFromArrayLen", "([BI)B"⟩ : MethodName) jdk_52_method_15_code 2 (some .byte) ({ frames := 0, cells := 0, slots := 0, locals := 0 } : Room) [(.ref r), (.int (4 : Int32))] h0 (Ret (some (.int 0)) h0) := by
  refine OwnGo.Con.of (plainFor_of_name own_pn1) (Ls0 := #[.val (.ref r), .val (.int (4 : Int32))]) (fun m => own_ef_rmCFAL m r (4 : Int32)) ?_
  intro p e s m below meth c T0 X0 hx hZ hby hml hown hnm hret hlk e0
  show Go p e below _ T0 (mkF m 0 #[.val (.ref r), .val (.int (4 : Int32))] [])
  refine OwnGo.iloadN X0 hx (hb hby d7_0) rfl ?_
  show Go p e below _ T0 (mkF m 1 #[.val (.ref r), .val (.int (4 : Int32))] [(.int (4 : Int32))])
  refine OwnGo.aloadN X0 hx (hb hby d7_1) rfl rfl ?_
  show Go p e below _ T0 (mkF m 2 #[.val (.ref r), .val (.int (4 : Int32))] [(.ref r), (.int (4 : Int32))])
  obtain ⟨cl1, Ar1, -, Sz1, Nn1, -, -⟩ := (id V1)
  refine OwnGo.arraylength X0 hx hZ e0 Ar1 (len_of Sz1 Nn1) (hb hby d7_2) ?_
  show Go p e below _ T0 (mkF m 3 #[.val (.ref r), .val (.int (4 : Int32))] [(.int (4 : Int32)), (.int (4 : Int32))])
  refine OwnGo.isub X0 hx (z := (0 : Int32)) (hb hby d7_3) (by decide) ?_
  show Go p e below _ T0 (mkF m 4 #[.val (.ref r), .val (.int (4 : Int32))] [(.int (0 : Int32))])
  refine OwnGo.bipush X0 hx (z := (31 : Int32)) (hb hby d7_4) (by decide) ?_
  show Go p e below _ T0 (mkF m 6 #[.val (.ref r), .val (.int (4 : Int32))] [(.int (31 : Int32)), (.int (0 : Int32))])
  refine OwnGo.iushr X0 hx (z := (0 : Int32)) (hb hby d7_6) (by decide) ?_
  show Go p e below _ T0 (mkF m 7 #[.val (.ref r), .val (.int (4 : Int32))] [(.int (0 : Int32))])
  refine OwnGo.i2b X0 hx (z := (0 : Int32)) (hb hby d7_7) (by decide) ?_
  show Go p e below _ T0 (mkF m 8 #[.val (.ref r), .val (.int (4 : Int32))] [(.int (0 : Int32))])
  exact OwnGo.retY X0 hx hlk (z' := (0 : Int32)) hret (hb hby d7_8) rfl ⟨rfl, e0, rfl⟩ (by decide) (by decide)
theorem own_ef_rmCFAU (m : MethodId) (x0 : Addr) (x1 : Int32) : entryFrame m [(.ref x0), (.int x1)].toArray 2 = mkF m 0 #[.val (.ref x0), .val (.int x1)] [] := by first | (simp [entryFrame, mkF, argsToLocals, Value.category]; done) | rfl
set_option maxRecDepth 65536 in
set_option maxHeartbeats 40000000 in
theorem rmCFAU (l : Launch) (Z : State) (a0 : Array Value) (hw : ∀ d ∈ tables_1, d.before a0 Z = true) (r : Addr) (kr : ClassId) (y0 y1 y2 y3 : Int32) (h0 : Heap) (V1 : Arv Z h0 r kr .byte (8 : Int32) [(.int ((y0 >>> ((0 : Int32) &&& 31)).toInt8.toInt32)), (.int ((y0 >>> ((8 : Int32) &&& 31)).toInt8.toInt32)), (.int ((y1 >>> ((0 : Int32) &&& 31)).toInt8.toInt32)), (.int ((y1 >>> ((8 : Int32) &&& 31)).toInt8.toInt32)), (.int ((y2 >>> ((0 : Int32) &&& 31)).toInt8.toInt32)), (.int ((y2 >>> ((8 : Int32) &&& 31)).toInt8.toInt32)), (.int ((y3 >>> ((0 : Int32) &&& 31)).toInt8.toInt32)), (.int ((y3 >>> ((8 : Int32) &&& 31)).toInt8.toInt32))] (.int (0 : Int32))) :
    Con l Z (⟨"java/lang/StringUTF16", "coderFromArrayLen", "([BI)B"⟩ : MethodName) jdk_52_method_15_code 2 (some .byte) ({ frames := 0, cells := 0, slots := 0, locals := 0 } : Room) [(.ref r), (.int (4 : Int32))] h0 (Ret (some (.int 1)) h0) := by
  refine OwnGo.Con.of (plainFor_of_name own_pn1) (Ls0 := #[.val (.ref r), .val (.int (4 : Int32))]) (fun m => own_ef_rmCFAU m r (4 : Int32)) ?_
  intro p e s m below meth c T0 X0 hx hZ hby hml hown hnm hret hlk e0
  show Go p e below _ T0 (mkF m 0 #[.val (.ref r), .val (.int (4 : Int32))] [])
  refine OwnGo.iloadN X0 hx (hb hby d7_0) rfl ?_
  show Go p e below _ T0 (mkF m 1 #[.val (.ref r), .val (.int (4 : Int32))] [(.int (4 : Int32))])
  refine OwnGo.aloadN X0 hx (hb hby d7_1) rfl rfl ?_
  show Go p e below _ T0 (mkF m 2 #[.val (.ref r), .val (.int (4 : Int32))] [(.ref r), (.int (4 : Int32))])
  obtain ⟨cl1, Ar1, -, Sz1, Nn1, -, -⟩ := (id V1)
  refine OwnGo.arraylength X0 hx hZ e0 Ar1 (len_of Sz1 Nn1) (hb hby d7_2) ?_
  show Go p e below _ T0 (mkF m 3 #[.val (.ref r), .val (.int (4 : Int32))] [(.int (8 : Int32)), (.int (4 : Int32))])
  refine OwnGo.isub X0 hx (z := (-4 : Int32)) (hb hby d7_3) (by decide) ?_
  show Go p e below _ T0 (mkF m 4 #[.val (.ref r), .val (.int (4 : Int32))] [(.int (-4 : Int32))])
  refine OwnGo.bipush X0 hx (z := (31 : Int32)) (hb hby d7_4) (by decide) ?_
  show Go p e below _ T0 (mkF m 6 #[.val (.ref r), .val (.int (4 : Int32))] [(.int (31 : Int32)), (.int (-4 : Int32))])
  refine OwnGo.iushr X0 hx (z := (1 : Int32)) (hb hby d7_6) (by decide) ?_
  show Go p e below _ T0 (mkF m 7 #[.val (.ref r), .val (.int (4 : Int32))] [(.int (1 : Int32))])
  refine OwnGo.i2b X0 hx (z := (1 : Int32)) (hb hby d7_7) (by decide) ?_
  show Go p e below _ T0 (mkF m 8 #[.val (.ref r), .val (.int (4 : Int32))] [(.int (1 : Int32))])
  exact OwnGo.retY X0 hx hlk (z' := (1 : Int32)) hret (hb hby d7_8) rfl ⟨rfl, e0, rfl⟩ (by decide) (by decide)
theorem d3_0 : decode jdk_42_method_149_code 0 = .ok (.aload_n 0, 1) := by decide +kernel
theorem d3_1 : decode jdk_42_method_149_code 1 = .ok (.invokespecial 1, 3) := by decide +kernel
theorem d3_4 : decode jdk_42_method_149_code 4 = .ok (.iload_n 3, 1) := by decide +kernel
theorem d3_5 : decode jdk_42_method_149_code 5 = .ok (.ifCond .ne 22, 3) := by decide +kernel
theorem d3_27 : decode jdk_42_method_149_code 27 = .ok (.getstatic 38, 3) := by decide +kernel
theorem d3_30 : decode jdk_42_method_149_code 30 = .ok (.ifCond .eq 28, 3) := by decide +kernel
theorem d3_33 : decode jdk_42_method_149_code 33 = .ok (.aload_n 1, 1) := by decide +kernel
theorem d3_34 : decode jdk_42_method_149_code 34 = .ok (.iload_n 2, 1) := by decide +kernel
theorem d3_35 : decode jdk_42_method_149_code 35 = .ok (.iload_n 3, 1) := by decide +kernel
theorem d3_36 : decode jdk_42_method_149_code 36 = .ok (.invokestatic 177, 3) := by decide +kernel
theorem d3_39 : decode jdk_42_method_149_code 39 = .ok (.astore 5, 2) := by decide +kernel
theorem d3_41 : decode jdk_42_method_149_code 41 = .ok (.aload_n 0, 1) := by decide +kernel
theorem d3_42 : decode jdk_42_method_149_code 42 = .ok (.aload 5, 2) := by decide +kernel
theorem d3_44 : decode jdk_42_method_149_code 44 = .ok (.iload_n 3, 1) := by decide +kernel
theorem d3_45 : decode jdk_42_method_149_code 45 = .ok (.invokestatic 47, 3) := by decide +kernel
theorem d3_48 : decode jdk_42_method_149_code 48 = .ok (.putfield 15, 3) := by decide +kernel
theorem d3_51 : decode jdk_42_method_149_code 51 = .ok (.aload_n 0, 1) := by decide +kernel
theorem d3_52 : decode jdk_42_method_149_code 52 = .ok (.aload 5, 2) := by decide +kernel
theorem d3_54 : decode jdk_42_method_149_code 54 = .ok (.putfield 9, 3) := by decide +kernel
theorem d3_57 : decode jdk_42_method_149_code 57 = .ok (.return_, 1) := by decide +kernel
theorem own_ef_rmIN4 (m : MethodId) (x0 : Addr) (x1 : Addr) (x2 : Int32) (x3 : Int32) : entryFrame m [(.ref x0), (.ref x1), (.int x2), (.int x3), .null].toArray 6 = mkF m 0 #[.val (.ref x0), .val (.ref x1), .val (.int x2), .val (.int x3), .val .null, .unset] [] := by first | (simp [entryFrame, mkF, argsToLocals, Value.category]; done) | rfl
set_option maxRecDepth 65536 in
set_option maxHeartbeats 40000000 in
theorem rmIN4 (l : Launch) (Z : State) (a0 : Array Value) (hw : ∀ d ∈ tables_1, d.before a0 Z = true) (a1 ca : Addr) (kc : ClassId) (pz : Int32) (y0 y1 y2 y3 : Int32) (h0 : Heap) (n0 : Nat) (Z0 : n0 ≤ h0.size) (O1 : Old Z n0 h0) (ga : n0 ≤ a1) (nac : a1 ≠ ca) (E1 : Exa Z h0 a1 "java/lang/String") (F1 : Fld Z h0 a1 "java/lang/String" "coder" "B" (.int (0 : Int32))) (F2 : Fld Z h0 a1 "java/lang/String" "value" "[B" .null) (VC : Arv Z h0 ca kc .char (4 : Int32) [(.int y0), (.int y1), (.int y2), (.int y3)] (.int (0 : Int32))) (SA : Sta Z Z.heap "java/lang/StringUTF16" "$assertionsDisabled" "Z" (.int (1 : Int32))) (SH : Sta Z Z.heap "java/lang/StringUTF16" "HI_BYTE_SHIFT" "I" (.int (0 : Int32))) (SLo : Sta Z Z.heap "java/lang/StringUTF16" "LO_BYTE_SHIFT" "I" (.int (8 : Int32))) (SC : Sta Z Z.heap "java/lang/String" "COMPACT_STRINGS" "Z" (.int pz)) (hpz : ¬ pz = 0) (nc0 : nar .char y0 = y0) (nc1 : nar .char y1 = y1) (nc2 : nar .char y2 = y2) (nc3 : nar .char y3 = y3) :
    Con l Z (⟨"java/lang/String", "<init>", "([CIILjava/lang/Void;)V"⟩ : MethodName) jdk_42_method_149_code 6 none ({ frames := 4, cells := 2, slots := 12, locals := 60 } : Room) [(.ref a1), (.ref ca), (.int (0 : Int32)), (.int (4 : Int32)), .null] h0 (fun v h L => v = none ∧ Fr n0 L ∧ Keep h0 h [a1] ∧ Exa Z h a1 "java/lang/String" ∧ ∃ r kr, Fld Z h a1 "java/lang/String" "value" "[B" (.ref r) ∧ (((¬ 255 < y0 ∧ ¬ 255 < y1 ∧ ¬ 255 < y2 ∧ ¬ 255 < y3) ∧ Fld Z h a1 "java/lang/String" "coder" "B" (.int (0 : Int32)) ∧ Arv Z h r kr .byte (4 : Int32) [(.int (y0.toInt8.toInt32)), (.int (y1.toInt8.toInt32)), (.int (y2.toInt8.toInt32)), (.int (y3.toInt8.toInt32))] (.int (0 : Int32))) ∨ (Fld Z h a1 "java/lang/String" "coder" "B" (.int (1 : Int32)) ∧ Arv Z h r kr .byte (8 : Int32) [(.int ((y0 >>> ((0 : Int32) &&& 31)).toInt8.toInt32)), (.int ((y0 >>> ((8 : Int32) &&& 31)).toInt8.toInt32)), (.int ((y1 >>> ((0 : Int32) &&& 31)).toInt8.toInt32)), (.int ((y1 >>> ((8 : Int32) &&& 31)).toInt8.toInt32)), (.int ((y2 >>> ((0 : Int32) &&& 31)).toInt8.toInt32)), (.int ((y2 >>> ((8 : Int32) &&& 31)).toInt8.toInt32)), (.int ((y3 >>> ((0 : Int32) &&& 31)).toInt8.toInt32)), (.int ((y3 >>> ((8 : Int32) &&& 31)).toInt8.toInt32))] (.int (0 : Int32))))) := by
  refine OwnGo.Con.of (plainFor_of_name own_pn2) (Ls0 := #[.val (.ref a1), .val (.ref ca), .val (.int (0 : Int32)), .val (.int (4 : Int32)), .val .null, .unset]) (fun m => own_ef_rmIN4 m a1 ca (0 : Int32) (4 : Int32)) ?_
  intro p e s m below meth c T0 X0 hx hZ hby hml hown hnm hret hlk e0
  show Go p e below _ T0 (mkF m 0 #[.val (.ref a1), .val (.ref ca), .val (.int (0 : Int32)), .val (.int (4 : Int32)), .val .null, .unset] [])
  refine OwnGo.aloadN X0 hx (hb hby d3_0) rfl rfl ?_
  show Go p e below _ T0 (mkF m 1 #[.val (.ref a1), .val (.ref ca), .val (.int (0 : Int32)), .val (.int (4 : Int32)), .val .null, .unset] [(.ref a1)])
  refine OwnGo.initO X0 hx hZ hown (hw _ (List.mem_of_getElem? (i := 16) rfl)) (hw _ (List.mem_of_getElem? (i := 17) rfl)) (hw _ (List.mem_of_getElem? (i := 18) rfl)) e0 (by rw [hml]; rfl) (hb hby d3_1) (by decide) (W := 0) rfl (by decide) fun T1 X1 e1 => ?_
  show Go p e below _ T1 (mkF m 4 #[.val (.ref a1), .val (.ref ca), .val (.int (0 : Int32)), .val (.int (4 : Int32)), .val .null, .unset] [])
  refine OwnGo.iloadN X1 hx (hb hby d3_4) rfl ?_
  show Go p e below _ T1 (mkF m 5 #[.val (.ref a1), .val (.ref ca), .val (.int (0 : Int32)), .val (.int (4 : Int32)), .val .null, .unset] [(.int (4 : Int32))])
  refine OwnGo.if_ne X1 hx (pc' := 27) (hb hby d3_5) (by decide) (by decide) (fun _ => ?_) (fun q => absurd q (by decide))
  show Go p e below _ T1 (mkF m 27 #[.val (.ref a1), .val (.ref ca), .val (.int (0 : Int32)), .val (.int (4 : Int32)), .val .null, .unset] [])
  refine OwnGo.getS X1 hx hZ hown (host := "") (Or.inl (hw _ (List.mem_of_getElem? (i := 19) rfl))) Via.refl e1 (SC.ext O1.2) (hb hby d3_27) fun T2 X2 e2 => ?_
  show Go p e below _ T2 (mkF m 30 #[.val (.ref a1), .val (.ref ca), .val (.int (0 : Int32)), .val (.int (4 : Int32)), .val .null, .unset] [(.int pz)])
  refine OwnGo.if_eq X2 hx (pc' := 58) (hb hby d3_30) (by decide) (by decide) (fun h30 => absurd h30 hpz) (fun h30 => ?_)
  show Go p e below _ T2 (mkF m 33 #[.val (.ref a1), .val (.ref ca), .val (.int (0 : Int32)), .val (.int (4 : Int32)), .val .null, .unset] [])
  refine OwnGo.aloadN X2 hx (hb hby d3_33) rfl rfl ?_
  show Go p e below _ T2 (mkF m 34 #[.val (.ref a1), .val (.ref ca), .val (.int (0 : Int32)), .val (.int (4 : Int32)), .val .null, .unset] [(.ref ca)])
  refine OwnGo.iloadN X2 hx (hb hby d3_34) rfl ?_
  show Go p e below _ T2 (mkF m 35 #[.val (.ref a1), .val (.ref ca), .val (.int (0 : Int32)), .val (.int (4 : Int32)), .val .null, .unset] [(.int (0 : Int32)), (.ref ca)])
  refine OwnGo.iloadN X2 hx (hb hby d3_35) rfl ?_
  show Go p e below _ T2 (mkF m 36 #[.val (.ref a1), .val (.ref ca), .val (.int (0 : Int32)), .val (.int (4 : Int32)), .val .null, .unset] [(.int (4 : Int32)), (.int (0 : Int32)), (.ref ca)])
  refine OwnGo.callS X2 hx hZ hown (y := (⟨"java/lang/StringUTF16", "compress", "([CII)[B"⟩ : MethodName)) (hw _ (List.mem_of_getElem? (i := 20) rfl)) (hw _ (List.mem_of_getElem? (i := 21) rfl)) (hw _ (List.mem_of_getElem? (i := 22) rfl)) (hw _ (List.mem_of_getElem? (i := 23) rfl)) (by decide) e2 (as := [(.ref ca), (.int (0 : Int32)), (.int (4 : Int32))]) (rmCMP l Z a0 hw ca kc y0 y1 y2 y3 h0 n0 Z0 O1 VC SA SH SLo nc0 nc1 nc2 nc3) (W := 0) (by decide) (by decide) (by decide) (by decide) (by rw [hml]; rfl) (lenOf own_pd5 rfl) (rest := []) rfl rfl (hb hby d3_36) fun v3 T3 L3 X3 q3 => ?_
  obtain ⟨r3, kr3, rfl, N3, g03, g13, K3, hc3⟩ := q3
  have n_ca_r3 : ca ≠ r3 := Nat.ne_of_lt (Nat.lt_of_lt_of_le VC.lt g03)
  have n_a1_r3 : a1 ≠ r3 := Nat.ne_of_lt (Nat.lt_of_lt_of_le E1.lt g03)
  have O1_c3 := O1.keep K3 all0
  have VC_c3 := VC.keep K3 nin0
  have E1_c3 := E1.keep K3
  have F1_c3 := F1.keep K3 nin0
  have F2_c3 := F2.keep K3 nin0
  have Z3 := Nat.le_trans Z0 K3.1
  have K3_ := (Keep.refl h0 [a1]).trans K3 all0
  have gz_r3 : h0.size ≤ r3 := Nat.le_trans (Keep.refl h0 [a1]).1 g03
  rcases hc3 with ⟨hsm, Vr⟩ | Vr
  ·
    show Go p e below _ T3 (mkF m 39 #[.val (.ref a1), .val (.ref ca), .val (.int (0 : Int32)), .val (.int (4 : Int32)), .val .null, .unset] [(.ref r3)])
    refine OwnGo.astore X3 hx (hb hby d3_39) rfl (Ls' := #[.val (.ref a1), .val (.ref ca), .val (.int (0 : Int32)), .val (.int (4 : Int32)), .val .null, .val (.ref r3)]) rfl ?_
    show Go p e below _ T3 (mkF m 41 #[.val (.ref a1), .val (.ref ca), .val (.int (0 : Int32)), .val (.int (4 : Int32)), .val .null, .val (.ref r3)] [])
    refine OwnGo.aloadN X3 hx (hb hby d3_41) rfl rfl ?_
    show Go p e below _ T3 (mkF m 42 #[.val (.ref a1), .val (.ref ca), .val (.int (0 : Int32)), .val (.int (4 : Int32)), .val .null, .val (.ref r3)] [(.ref a1)])
    refine OwnGo.aload X3 hx (hb hby d3_42) rfl rfl ?_
    show Go p e below _ T3 (mkF m 44 #[.val (.ref a1), .val (.ref ca), .val (.int (0 : Int32)), .val (.int (4 : Int32)), .val .null, .val (.ref r3)] [(.ref r3), (.ref a1)])
    refine OwnGo.iloadN X3 hx (hb hby d3_44) rfl ?_
    show Go p e below _ T3 (mkF m 45 #[.val (.ref a1), .val (.ref ca), .val (.int (0 : Int32)), .val (.int (4 : Int32)), .val .null, .val (.ref r3)] [(.int (4 : Int32)), (.ref r3), (.ref a1)])
    refine OwnGo.callS X3 hx hZ hown (y := (⟨"java/lang/StringUTF16", "coderFromArrayLen", "([BI)B"⟩ : MethodName)) (hw _ (List.mem_of_getElem? (i := 28) rfl)) (hw _ (List.mem_of_getElem? (i := 29) rfl)) (hw _ (List.mem_of_getElem? (i := 22) rfl)) (hw _ (List.mem_of_getElem? (i := 30) rfl)) (by decide) rfl (as := [(.ref r3), (.int (4 : Int32))]) (rmCFAL l Z a0 hw r3 kr3 y0 y1 y2 y3 T3.heap Vr) (W := 1) (by decide) (by decide) (by decide) (by decide) (by rw [hml]; rfl) (lenOf own_pd7 rfl) (rest := [(.ref a1)]) rfl rfl (hb hby d3_45) fun v4 T4 L4 X4 q4 => ?_
    obtain ⟨rfl, e4, rfl⟩ := q4
    rw [List.append_nil] at X4
    show Go p e below _ T4 (mkF m 48 #[.val (.ref a1), .val (.ref ca), .val (.int (0 : Int32)), .val (.int (4 : Int32)), .val .null, .val (.ref r3)] [(.int (0 : Int32)), (.ref a1)])
    refine OwnGo.putFN X4 hx hZ hown (hw _ (List.mem_of_getElem? (i := 31) rfl)) Via.refl e4 F1_c3 E1_c3 (Or.inr ⟨(hw _ (List.mem_of_getElem? (i := 32) rfl)), rfl, hnm⟩) (hw _ (List.mem_of_getElem? (i := 7) rfl)) (ty := .byte) (v' := (.int (0 : Int32))) (by decide) rfl rfl (hb hby d3_48) fun T5 h5 X5 e5 W5 => ?_
    have O1_c5 := O1_c3.wr W5 ga
    have VC_c5 := VC_c3.other W5 (Ne.symm nac)
    have E1_c5 := E1_c3.wr W5
    have F1_c5 := F1_c3.same W5
    have F2_c5 := F2_c3.other W5 (Or.inr (slot_ne (Or.inr (hw _ (List.mem_of_getElem? (i := 34) rfl))) (Or.inr (hw _ (List.mem_of_getElem? (i := 32) rfl))) (by decide) (t := (.array .byte)) (t' := .byte) (by decide) (by decide)))
    have Vr_c5 := Vr.other W5 (Ne.symm n_a1_r3)
    have Z5 := Nat.le_trans Z3 (Keep.of_wr W5).1
    have K5_ := K3_.wr W5 (Or.inl (List.mem_of_getElem? (i := 0) rfl))
    have N5_ := Fr.snoc X5 (Fr.app (Fr.nil n0) N3) ga
    show Go p e below _ T5 (mkF m 51 #[.val (.ref a1), .val (.ref ca), .val (.int (0 : Int32)), .val (.int (4 : Int32)), .val .null, .val (.ref r3)] [])
    refine OwnGo.aloadN X5 hx (hb hby d3_51) rfl rfl ?_
    show Go p e below _ T5 (mkF m 52 #[.val (.ref a1), .val (.ref ca), .val (.int (0 : Int32)), .val (.int (4 : Int32)), .val .null, .val (.ref r3)] [(.ref a1)])
    refine OwnGo.aload X5 hx (hb hby d3_52) rfl rfl ?_
    show Go p e below _ T5 (mkF m 54 #[.val (.ref a1), .val (.ref ca), .val (.int (0 : Int32)), .val (.int (4 : Int32)), .val .null, .val (.ref r3)] [(.ref r3), (.ref a1)])
    refine OwnGo.putF X5 hx hZ hown (host := "") (Or.inl (hw _ (List.mem_of_getElem? (i := 33) rfl))) Via.refl e5 F2_c5 E1_c5 (Or.inr ⟨(hw _ (List.mem_of_getElem? (i := 34) rfl)), rfl, hnm⟩) (hw _ (List.mem_of_getElem? (i := 7) rfl)) (ty := (.array .byte)) (by decide) rfl rfl (hb hby d3_54) fun T6 h6 X6 e6 W6 => ?_
    have O1_c6 := O1_c5.wr W6 ga
    have VC_c6 := VC_c5.other W6 (Ne.symm nac)
    have E1_c6 := E1_c5.wr W6
    have F1_c6 := F1_c5.other W6 (Or.inr (slot_ne (Or.inr (hw _ (List.mem_of_getElem? (i := 32) rfl))) (Or.inr (hw _ (List.mem_of_getElem? (i := 34) rfl))) (by decide) (t := .byte) (t' := (.array .byte)) (by decide) (by decide)))
    have F2_c6 := F2_c5.same W6
    have Vr_c6 := Vr_c5.other W6 (Ne.symm n_a1_r3)
    have Z6 := Nat.le_trans Z5 (Keep.of_wr W6).1
    have K6_ := K5_.wr W6 (Or.inl (List.mem_of_getElem? (i := 0) rfl))
    have N6_ := Fr.snoc X6 N5_ ga
    show Go p e below _ T6 (mkF m 57 #[.val (.ref a1), .val (.ref ca), .val (.int (0 : Int32)), .val (.int (4 : Int32)), .val .null, .val (.ref r3)] [])
    refine OwnGo.retV X6 hx hlk hret (hb hby d3_57) ?_ (by decide) (by decide)
    rw [e6]
    exact ⟨rfl, N6_, K6_, E1_c6, r3, kr3, F2_c6, Or.inl ⟨hsm, F1_c6, Vr_c6⟩⟩
  ·
    show Go p e below _ T3 (mkF m 39 #[.val (.ref a1), .val (.ref ca), .val (.int (0 : Int32)), .val (.int (4 : Int32)), .val .null, .unset] [(.ref r3)])
    refine OwnGo.astore X3 hx (hb hby d3_39) rfl (Ls' := #[.val (.ref a1), .val (.ref ca), .val (.int (0 : Int32)), .val (.int (4 : Int32)), .val .null, .val (.ref r3)]) rfl ?_
    show Go p e below _ T3 (mkF m 41 #[.val (.ref a1), .val (.ref ca), .val (.int (0 : Int32)), .val (.int (4 : Int32)), .val .null, .val (.ref r3)] [])
    refine OwnGo.aloadN X3 hx (hb hby d3_41) rfl rfl ?_
    show Go p e below _ T3 (mkF m 42 #[.val (.ref a1), .val (.ref ca), .val (.int (0 : Int32)), .val (.int (4 : Int32)), .val .null, .val (.ref r3)] [(.ref a1)])
    refine OwnGo.aload X3 hx (hb hby d3_42) rfl rfl ?_
    show Go p e below _ T3 (mkF m 44 #[.val (.ref a1), .val (.ref ca), .val (.int (0 : Int32)), .val (.int (4 : Int32)), .val .null, .val (.ref r3)] [(.ref r3), (.ref a1)])
    refine OwnGo.iloadN X3 hx (hb hby d3_44) rfl ?_
    show Go p e below _ T3 (mkF m 45 #[.val (.ref a1), .val (.ref ca), .val (.int (0 : Int32)), .val (.int (4 : Int32)), .val .null, .val (.ref r3)] [(.int (4 : Int32)), (.ref r3), (.ref a1)])
    refine OwnGo.callS X3 hx hZ hown (y := (⟨"java/lang/StringUTF16", "coderFromArrayLen", "([BI)B"⟩ : MethodName)) (hw _ (List.mem_of_getElem? (i := 28) rfl)) (hw _ (List.mem_of_getElem? (i := 29) rfl)) (hw _ (List.mem_of_getElem? (i := 22) rfl)) (hw _ (List.mem_of_getElem? (i := 30) rfl)) (by decide) rfl (as := [(.ref r3), (.int (4 : Int32))]) (rmCFAU l Z a0 hw r3 kr3 y0 y1 y2 y3 T3.heap Vr) (W := 1) (by decide) (by decide) (by decide) (by decide) (by rw [hml]; rfl) (lenOf own_pd7 rfl) (rest := [(.ref a1)]) rfl rfl (hb hby d3_45) fun v7 T7 L7 X7 q7 => ?_
    obtain ⟨rfl, e7, rfl⟩ := q7
    rw [List.append_nil] at X7
    show Go p e below _ T7 (mkF m 48 #[.val (.ref a1), .val (.ref ca), .val (.int (0 : Int32)), .val (.int (4 : Int32)), .val .null, .val (.ref r3)] [(.int (1 : Int32)), (.ref a1)])
    refine OwnGo.putFN X7 hx hZ hown (hw _ (List.mem_of_getElem? (i := 31) rfl)) Via.refl e7 F1_c3 E1_c3 (Or.inr ⟨(hw _ (List.mem_of_getElem? (i := 32) rfl)), rfl, hnm⟩) (hw _ (List.mem_of_getElem? (i := 7) rfl)) (ty := .byte) (v' := (.int (1 : Int32))) (by decide) rfl rfl (hb hby d3_48) fun T8 h8 X8 e8 W8 => ?_
    have O1_c8 := O1_c3.wr W8 ga
    have VC_c8 := VC_c3.other W8 (Ne.symm nac)
    have E1_c8 := E1_c3.wr W8
    have F1_c8 := F1_c3.same W8
    have F2_c8 := F2_c3.other W8 (Or.inr (slot_ne (Or.inr (hw _ (List.mem_of_getElem? (i := 34) rfl))) (Or.inr (hw _ (List.mem_of_getElem? (i := 32) rfl))) (by decide) (t := (.array .byte)) (t' := .byte) (by decide) (by decide)))
    have Vr_c8 := Vr.other W8 (Ne.symm n_a1_r3)
    have Z8 := Nat.le_trans Z3 (Keep.of_wr W8).1
    have K8_ := K3_.wr W8 (Or.inl (List.mem_of_getElem? (i := 0) rfl))
    have N8_ := Fr.snoc X8 (Fr.app (Fr.nil n0) N3) ga
    show Go p e below _ T8 (mkF m 51 #[.val (.ref a1), .val (.ref ca), .val (.int (0 : Int32)), .val (.int (4 : Int32)), .val .null, .val (.ref r3)] [])
    refine OwnGo.aloadN X8 hx (hb hby d3_51) rfl rfl ?_
    show Go p e below _ T8 (mkF m 52 #[.val (.ref a1), .val (.ref ca), .val (.int (0 : Int32)), .val (.int (4 : Int32)), .val .null, .val (.ref r3)] [(.ref a1)])
    refine OwnGo.aload X8 hx (hb hby d3_52) rfl rfl ?_
    show Go p e below _ T8 (mkF m 54 #[.val (.ref a1), .val (.ref ca), .val (.int (0 : Int32)), .val (.int (4 : Int32)), .val .null, .val (.ref r3)] [(.ref r3), (.ref a1)])
    refine OwnGo.putF X8 hx hZ hown (host := "") (Or.inl (hw _ (List.mem_of_getElem? (i := 33) rfl))) Via.refl e8 F2_c8 E1_c8 (Or.inr ⟨(hw _ (List.mem_of_getElem? (i := 34) rfl)), rfl, hnm⟩) (hw _ (List.mem_of_getElem? (i := 7) rfl)) (ty := (.array .byte)) (by decide) rfl rfl (hb hby d3_54) fun T9 h9 X9 e9 W9 => ?_
    have O1_c9 := O1_c8.wr W9 ga
    have VC_c9 := VC_c8.other W9 (Ne.symm nac)
    have E1_c9 := E1_c8.wr W9
    have F1_c9 := F1_c8.other W9 (Or.inr (slot_ne (Or.inr (hw _ (List.mem_of_getElem? (i := 32) rfl))) (Or.inr (hw _ (List.mem_of_getElem? (i := 34) rfl))) (by decide) (t := .byte) (t' := (.array .byte)) (by decide) (by decide)))
    have F2_c9 := F2_c8.same W9
    have Vr_c9 := Vr_c8.other W9 (Ne.symm n_a1_r3)
    have Z9 := Nat.le_trans Z8 (Keep.of_wr W9).1
    have K9_ := K8_.wr W9 (Or.inl (List.mem_of_getElem? (i := 0) rfl))
    have N9_ := Fr.snoc X9 N8_ ga
    show Go p e below _ T9 (mkF m 57 #[.val (.ref a1), .val (.ref ca), .val (.int (0 : Int32)), .val (.int (4 : Int32)), .val .null, .val (.ref r3)] [])
    refine OwnGo.retV X9 hx hlk hret (hb hby d3_57) ?_ (by decide) (by decide)
    rw [e9]
    exact ⟨rfl, N9_, K9_, E1_c9, r3, kr3, F2_c9, Or.inr ⟨F1_c9, Vr_c9⟩⟩
theorem d2_0 : decode jdk_42_method_3_code 0 = .ok (.aload_n 0, 1) := by decide +kernel
theorem d2_1 : decode jdk_42_method_3_code 1 = .ok (.aload_n 1, 1) := by decide +kernel
theorem d2_2 : decode jdk_42_method_3_code 2 = .ok (.iconst 0, 1) := by decide +kernel
theorem d2_3 : decode jdk_42_method_3_code 3 = .ok (.aload_n 1, 1) := by decide +kernel
theorem d2_4 : decode jdk_42_method_3_code 4 = .ok (.arraylength, 1) := by decide +kernel
theorem d2_5 : decode jdk_42_method_3_code 5 = .ok (.aconst_null, 1) := by decide +kernel
theorem d2_6 : decode jdk_42_method_3_code 6 = .ok (.invokespecial 27, 3) := by decide +kernel
theorem d2_9 : decode jdk_42_method_3_code 9 = .ok (.return_, 1) := by decide +kernel
theorem own_ef_rmIN1 (m : MethodId) (x0 : Addr) (x1 : Addr) : entryFrame m [(.ref x0), (.ref x1)].toArray 2 = mkF m 0 #[.val (.ref x0), .val (.ref x1)] [] := by first | (simp [entryFrame, mkF, argsToLocals, Value.category]; done) | rfl
set_option maxRecDepth 65536 in
set_option maxHeartbeats 40000000 in
theorem rmIN1 (l : Launch) (Z : State) (a0 : Array Value) (hw : ∀ d ∈ tables_1, d.before a0 Z = true) (a1 ca : Addr) (kc : ClassId) (pz : Int32) (y0 y1 y2 y3 : Int32) (h0 : Heap) (n0 : Nat) (Z0 : n0 ≤ h0.size) (O1 : Old Z n0 h0) (ga : n0 ≤ a1) (nac : a1 ≠ ca) (E1 : Exa Z h0 a1 "java/lang/String") (F1 : Fld Z h0 a1 "java/lang/String" "coder" "B" (.int (0 : Int32))) (F2 : Fld Z h0 a1 "java/lang/String" "value" "[B" .null) (VC : Arv Z h0 ca kc .char (4 : Int32) [(.int y0), (.int y1), (.int y2), (.int y3)] (.int (0 : Int32))) (SA : Sta Z Z.heap "java/lang/StringUTF16" "$assertionsDisabled" "Z" (.int (1 : Int32))) (SH : Sta Z Z.heap "java/lang/StringUTF16" "HI_BYTE_SHIFT" "I" (.int (0 : Int32))) (SLo : Sta Z Z.heap "java/lang/StringUTF16" "LO_BYTE_SHIFT" "I" (.int (8 : Int32))) (SC : Sta Z Z.heap "java/lang/String" "COMPACT_STRINGS" "Z" (.int pz)) (hpz : ¬ pz = 0) (nc0 : nar .char y0 = y0) (nc1 : nar .char y1 = y1) (nc2 : nar .char y2 = y2) (nc3 : nar .char y3 = y3) :
    Con l Z (⟨"java/lang/String", "<init>", "([C)V"⟩ : MethodName) jdk_42_method_3_code 2 none ({ frames := 5, cells := 2, slots := 12, locals := 80 } : Room) [(.ref a1), (.ref ca)] h0 (fun v h L => v = none ∧ Fr n0 L ∧ Keep h0 h [a1] ∧ Exa Z h a1 "java/lang/String" ∧ ∃ r kr, Fld Z h a1 "java/lang/String" "value" "[B" (.ref r) ∧ (((¬ 255 < y0 ∧ ¬ 255 < y1 ∧ ¬ 255 < y2 ∧ ¬ 255 < y3) ∧ Fld Z h a1 "java/lang/String" "coder" "B" (.int (0 : Int32)) ∧ Arv Z h r kr .byte (4 : Int32) [(.int (y0.toInt8.toInt32)), (.int (y1.toInt8.toInt32)), (.int (y2.toInt8.toInt32)), (.int (y3.toInt8.toInt32))] (.int (0 : Int32))) ∨ (Fld Z h a1 "java/lang/String" "coder" "B" (.int (1 : Int32)) ∧ Arv Z h r kr .byte (8 : Int32) [(.int ((y0 >>> ((0 : Int32) &&& 31)).toInt8.toInt32)), (.int ((y0 >>> ((8 : Int32) &&& 31)).toInt8.toInt32)), (.int ((y1 >>> ((0 : Int32) &&& 31)).toInt8.toInt32)), (.int ((y1 >>> ((8 : Int32) &&& 31)).toInt8.toInt32)), (.int ((y2 >>> ((0 : Int32) &&& 31)).toInt8.toInt32)), (.int ((y2 >>> ((8 : Int32) &&& 31)).toInt8.toInt32)), (.int ((y3 >>> ((0 : Int32) &&& 31)).toInt8.toInt32)), (.int ((y3 >>> ((8 : Int32) &&& 31)).toInt8.toInt32))] (.int (0 : Int32))))) := by
  refine OwnGo.Con.of (plainFor_of_name own_pn2) (Ls0 := #[.val (.ref a1), .val (.ref ca)]) (fun m => own_ef_rmIN1 m a1 ca) ?_
  intro p e s m below meth c T0 X0 hx hZ hby hml hown hnm hret hlk e0
  show Go p e below _ T0 (mkF m 0 #[.val (.ref a1), .val (.ref ca)] [])
  refine OwnGo.aloadN X0 hx (hb hby d2_0) rfl rfl ?_
  show Go p e below _ T0 (mkF m 1 #[.val (.ref a1), .val (.ref ca)] [(.ref a1)])
  refine OwnGo.aloadN X0 hx (hb hby d2_1) rfl rfl ?_
  show Go p e below _ T0 (mkF m 2 #[.val (.ref a1), .val (.ref ca)] [(.ref ca), (.ref a1)])
  refine OwnGo.iconst X0 hx (z := (0 : Int32)) (hb hby d2_2) (by decide) ?_
  show Go p e below _ T0 (mkF m 3 #[.val (.ref a1), .val (.ref ca)] [(.int (0 : Int32)), (.ref ca), (.ref a1)])
  refine OwnGo.aloadN X0 hx (hb hby d2_3) rfl rfl ?_
  show Go p e below _ T0 (mkF m 4 #[.val (.ref a1), .val (.ref ca)] [(.ref ca), (.int (0 : Int32)), (.ref ca), (.ref a1)])
  obtain ⟨cl1, Ar1, -, Sz1, Nn1, -, -⟩ := (id VC)
  refine OwnGo.arraylength X0 hx hZ e0 Ar1 (len_of Sz1 Nn1) (hb hby d2_4) ?_
  show Go p e below _ T0 (mkF m 5 #[.val (.ref a1), .val (.ref ca)] [(.int (4 : Int32)), (.int (0 : Int32)), (.ref ca), (.ref a1)])
  refine OwnGo.aconstNull X0 hx (hb hby d2_5) ?_
  show Go p e below _ T0 (mkF m 6 #[.val (.ref a1), .val (.ref ca)] [.null, (.int (4 : Int32)), (.int (0 : Int32)), (.ref ca), (.ref a1)])
  refine OwnGo.callI X0 hx hZ hown (y := (⟨"java/lang/String", "<init>", "([CIILjava/lang/Void;)V"⟩ : MethodName)) rfl (hw _ (List.mem_of_getElem? (i := 12) rfl)) (hw _ (List.mem_of_getElem? (i := 13) rfl)) (hw _ (List.mem_of_getElem? (i := 8) rfl)) (hw _ (List.mem_of_getElem? (i := 15) rfl)) (by decide) e0 (as := [(.ref ca), (.int (0 : Int32)), (.int (4 : Int32)), .null]) (rmIN4 l Z a0 hw a1 ca kc pz y0 y1 y2 y3 h0 n0 Z0 O1 ga nac E1 F1 F2 VC SA SH SLo SC hpz nc0 nc1 nc2 nc3) (W := 0) (by decide) (by decide) (by decide) (by decide) (by rw [hml]; rfl) (lenOf own_pd8 rfl) (rest := []) rfl rfl (hb hby d2_6) fun v2 T2 L2 X2 q2 => ?_
  obtain ⟨rfl, hq2⟩ := q2
  show Go p e below _ T2 (mkF m 9 #[.val (.ref a1), .val (.ref ca)] [])
  exact OwnGo.retV X2 hx hlk hret (hb hby d2_9) ⟨rfl, hq2⟩ (by decide) (by decide)
theorem d20_0 : decode jdk_52_method_6_code 0 = .ok (.aload_n 0, 1) := by decide +kernel
theorem d20_1 : decode jdk_52_method_6_code 1 = .ok (.arraylength, 1) := by decide +kernel
theorem d20_2 : decode jdk_52_method_6_code 2 = .ok (.iconst 1, 1) := by decide +kernel
theorem d20_3 : decode jdk_52_method_6_code 3 = .ok (.ishr, 1) := by decide +kernel
theorem d20_4 : decode jdk_52_method_6_code 4 = .ok (.ireturn, 1) := by decide +kernel
theorem own_ef_rmULN (m : MethodId) (x0 : Addr) : entryFrame m [(.ref x0)].toArray 1 = mkF m 0 #[.val (.ref x0)] [] := by first | (simp [entryFrame, mkF, argsToLocals, Value.category]; done) | rfl
set_option maxRecDepth 65536 in
set_option maxHeartbeats 40000000 in
theorem rmULN (l : Launch) (Z : State) (a0 : Array Value) (hw : ∀ d ∈ tables_1, d.before a0 Z = true) (r : Addr) (kr : ClassId) (y0 y1 y2 y3 : Int32) (h0 : Heap) (V1 : Arv Z h0 r kr .byte (8 : Int32) [(.int ((y0 >>> ((0 : Int32) &&& 31)).toInt8.toInt32)), (.int ((y0 >>> ((8 : Int32) &&& 31)).toInt8.toInt32)), (.int ((y1 >>> ((0 : Int32) &&& 31)).toInt8.toInt32)), (.int ((y1 >>> ((8 : Int32) &&& 31)).toInt8.toInt32)), (.int ((y2 >>> ((0 : Int32) &&& 31)).toInt8.toInt32)), (.int ((y2 >>> ((8 : Int32) &&& 31)).toInt8.toInt32)), (.int ((y3 >>> ((0 : Int32) &&& 31)).toInt8.toInt32)), (.int ((y3 >>> ((8 : Int32) &&& 31)).toInt8.toInt32))] (.int (0 : Int32))) :
    Con l Z (⟨"java/lang/StringUTF16", "length", "([B)I"⟩ : MethodName) jdk_52_method_6_code 1 (some .int) ({ frames := 0, cells := 0, slots := 0, locals := 0 } : Room) [(.ref r)] h0 (Ret (some (.int 4)) h0) := by
  refine OwnGo.Con.of (plainFor_of_name own_pn1) (Ls0 := #[.val (.ref r)]) (fun m => own_ef_rmULN m r) ?_
  intro p e s m below meth c T0 X0 hx hZ hby hml hown hnm hret hlk e0
  show Go p e below _ T0 (mkF m 0 #[.val (.ref r)] [])
  refine OwnGo.aloadN X0 hx (hb hby d20_0) rfl rfl ?_
  show Go p e below _ T0 (mkF m 1 #[.val (.ref r)] [(.ref r)])
  obtain ⟨cl1, Ar1, -, Sz1, Nn1, -, -⟩ := (id V1)
  refine OwnGo.arraylength X0 hx hZ e0 Ar1 (len_of Sz1 Nn1) (hb hby d20_1) ?_
  show Go p e below _ T0 (mkF m 2 #[.val (.ref r)] [(.int (8 : Int32))])
  refine OwnGo.iconst X0 hx (z := (1 : Int32)) (hb hby d20_2) (by decide) ?_
  show Go p e below _ T0 (mkF m 3 #[.val (.ref r)] [(.int (1 : Int32)), (.int (8 : Int32))])
  refine OwnGo.ishr X0 hx (z := (4 : Int32)) (hb hby d20_3) (by decide) ?_
  show Go p e below _ T0 (mkF m 4 #[.val (.ref r)] [(.int (4 : Int32))])
  exact OwnGo.retI X0 hx hlk hret (hb hby d20_4) ⟨rfl, e0, rfl⟩ (by decide) (by decide)
theorem d17_0 : decode jdk_42_method_154_code 0 = .ok (.getstatic 38, 3) := by decide +kernel
theorem d17_3 : decode jdk_42_method_154_code 3 = .ok (.ifCond .eq 14, 3) := by decide +kernel
theorem d17_6 : decode jdk_42_method_154_code 6 = .ok (.aload_n 0, 1) := by decide +kernel
theorem d17_7 : decode jdk_42_method_154_code 7 = .ok (.getfield 15, 3) := by decide +kernel
theorem d17_10 : decode jdk_42_method_154_code 10 = .ok (.ifCond .ne 7, 3) := by decide +kernel
theorem d17_13 : decode jdk_42_method_154_code 13 = .ok (.iconst 1, 1) := by decide +kernel
theorem d17_14 : decode jdk_42_method_154_code 14 = .ok (.goto 4, 3) := by decide +kernel
theorem d17_18 : decode jdk_42_method_154_code 18 = .ok (.ireturn, 1) := by decide +kernel
theorem own_ef_rmISLL (m : MethodId) (x0 : Addr) : entryFrame m [(.ref x0)].toArray 1 = mkF m 0 #[.val (.ref x0)] [] := by first | (simp [entryFrame, mkF, argsToLocals, Value.category]; done) | rfl
set_option maxRecDepth 65536 in
set_option maxHeartbeats 40000000 in
theorem rmISLL (l : Launch) (Z : State) (a0 : Array Value) (hw : ∀ d ∈ tables_1, d.before a0 Z = true) (a1 : Addr) (pz : Int32) (h0 : Heap) (n0 : Nat) (Z0 : n0 ≤ h0.size) (O1 : Old Z n0 h0) (F1 : Fld Z h0 a1 "java/lang/String" "coder" "B" (.int (0 : Int32))) (SC : Sta Z Z.heap "java/lang/String" "COMPACT_STRINGS" "Z" (.int pz)) (hpz : ¬ pz = 0) :
    Con l Z (⟨"java/lang/String", "isLatin1", "()Z"⟩ : MethodName) jdk_42_method_154_code 1 (some .boolean) ({ frames := 0, cells := 0, slots := 0, locals := 0 } : Room) [(.ref a1)] h0 (Ret (some (.int 1)) h0) := by
  refine OwnGo.Con.of (plainFor_of_name own_pn2) (Ls0 := #[.val (.ref a1)]) (fun m => own_ef_rmISLL m a1) ?_
  intro p e s m below meth c T0 X0 hx hZ hby hml hown hnm hret hlk e0
  show Go p e below _ T0 (mkF m 0 #[.val (.ref a1)] [])
  refine OwnGo.getS X0 hx hZ hown (host := "") (Or.inl (hw _ (List.mem_of_getElem? (i := 19) rfl))) Via.refl e0 (SC.ext O1.2) (hb hby d17_0) fun T1 X1 e1 => ?_
  show Go p e below _ T1 (mkF m 3 #[.val (.ref a1)] [(.int pz)])
  refine OwnGo.if_eq X1 hx (pc' := 17) (hb hby d17_3) (by decide) (by decide) (fun h3 => absurd h3 hpz) (fun h3 => ?_)
  show Go p e below _ T1 (mkF m 6 #[.val (.ref a1)] [])
  refine OwnGo.aloadN X1 hx (hb hby d17_6) rfl rfl ?_
  show Go p e below _ T1 (mkF m 7 #[.val (.ref a1)] [(.ref a1)])
  refine OwnGo.getF X1 hx hZ hown (host := "") (Or.inl (hw _ (List.mem_of_getElem? (i := 31) rfl))) Via.refl e1 F1 (hb hby d17_7) fun T2 X2 e2 => ?_
  show Go p e below _ T2 (mkF m 10 #[.val (.ref a1)] [(.int (0 : Int32))])
  refine OwnGo.if_ne X2 hx (pc' := 17) (hb hby d17_10) (by decide) (by decide) (fun q => absurd q (by decide)) (fun _ => ?_)
  show Go p e below _ T2 (mkF m 13 #[.val (.ref a1)] [])
  refine OwnGo.iconst X2 hx (z := (1 : Int32)) (hb hby d17_13) (by decide) ?_
  show Go p e below _ T2 (mkF m 14 #[.val (.ref a1)] [(.int (1 : Int32))])
  refine OwnGo.goto X2 hx (pc' := 18) (hb hby d17_14) (by decide) (by decide) ?_
  show Go p e below _ T2 (mkF m 18 #[.val (.ref a1)] [(.int (1 : Int32))])
  exact OwnGo.retB X2 hx hlk (z' := (1 : Int32)) hret (hb hby d17_18) rfl ⟨rfl, e2, rfl⟩ (by decide) (by decide)
theorem d17_17 : decode jdk_42_method_154_code 17 = .ok (.iconst 0, 1) := by decide +kernel
theorem own_ef_rmISLU (m : MethodId) (x0 : Addr) : entryFrame m [(.ref x0)].toArray 1 = mkF m 0 #[.val (.ref x0)] [] := by first | (simp [entryFrame, mkF, argsToLocals, Value.category]; done) | rfl
set_option maxRecDepth 65536 in
set_option maxHeartbeats 40000000 in
theorem rmISLU (l : Launch) (Z : State) (a0 : Array Value) (hw : ∀ d ∈ tables_1, d.before a0 Z = true) (a1 : Addr) (pz : Int32) (h0 : Heap) (n0 : Nat) (Z0 : n0 ≤ h0.size) (O1 : Old Z n0 h0) (F1 : Fld Z h0 a1 "java/lang/String" "coder" "B" (.int (1 : Int32))) (SC : Sta Z Z.heap "java/lang/String" "COMPACT_STRINGS" "Z" (.int pz)) (hpz : ¬ pz = 0) :
    Con l Z (⟨"java/lang/String", "isLatin1", "()Z"⟩ : MethodName) jdk_42_method_154_code 1 (some .boolean) ({ frames := 0, cells := 0, slots := 0, locals := 0 } : Room) [(.ref a1)] h0 (Ret (some (.int 0)) h0) := by
  refine OwnGo.Con.of (plainFor_of_name own_pn2) (Ls0 := #[.val (.ref a1)]) (fun m => own_ef_rmISLU m a1) ?_
  intro p e s m below meth c T0 X0 hx hZ hby hml hown hnm hret hlk e0
  show Go p e below _ T0 (mkF m 0 #[.val (.ref a1)] [])
  refine OwnGo.getS X0 hx hZ hown (host := "") (Or.inl (hw _ (List.mem_of_getElem? (i := 19) rfl))) Via.refl e0 (SC.ext O1.2) (hb hby d17_0) fun T1 X1 e1 => ?_
  show Go p e below _ T1 (mkF m 3 #[.val (.ref a1)] [(.int pz)])
  refine OwnGo.if_eq X1 hx (pc' := 17) (hb hby d17_3) (by decide) (by decide) (fun h3 => absurd h3 hpz) (fun h3 => ?_)
  show Go p e below _ T1 (mkF m 6 #[.val (.ref a1)] [])
  refine OwnGo.aloadN X1 hx (hb hby d17_6) rfl rfl ?_
  show Go p e below _ T1 (mkF m 7 #[.val (.ref a1)] [(.ref a1)])
  refine OwnGo.getF X1 hx hZ hown (host := "") (Or.inl (hw _ (List.mem_of_getElem? (i := 31) rfl))) Via.refl e1 F1 (hb hby d17_7) fun T2 X2 e2 => ?_
  show Go p e below _ T2 (mkF m 10 #[.val (.ref a1)] [(.int (1 : Int32))])
  refine OwnGo.if_ne X2 hx (pc' := 17) (hb hby d17_10) (by decide) (by decide) (fun _ => ?_) (fun q => absurd q (by decide))
  show Go p e below _ T2 (mkF m 17 #[.val (.ref a1)] [])
  refine OwnGo.iconst X2 hx (z := (0 : Int32)) (hb hby d17_17) (by decide) ?_
  show Go p e below _ T2 (mkF m 18 #[.val (.ref a1)] [(.int (0 : Int32))])
  exact OwnGo.retB X2 hx hlk (z' := (0 : Int32)) hret (hb hby d17_18) rfl ⟨rfl, e2, rfl⟩ (by decide) (by decide)
theorem d22_0 : decode jdk_41_method_11_code 0 = .ok (.iload_n 0, 1) := by decide +kernel
theorem d22_1 : decode jdk_41_method_11_code 1 = .ok (.ifCond .lt 8, 3) := by decide +kernel
theorem d22_4 : decode jdk_41_method_11_code 4 = .ok (.iload_n 0, 1) := by decide +kernel
theorem d22_5 : decode jdk_41_method_11_code 5 = .ok (.iload_n 1, 1) := by decide +kernel
theorem d22_6 : decode jdk_41_method_11_code 6 = .ok (.if_icmp .lt 10, 3) := by decide +kernel
theorem d22_16 : decode jdk_41_method_11_code 16 = .ok (.iload_n 0, 1) := by decide +kernel
theorem d22_17 : decode jdk_41_method_11_code 17 = .ok (.ireturn, 1) := by decide +kernel
theorem own_ef_rmPIX0 (m : MethodId) (x0 : Int32) (x1 : Int32) (x2 : Value) (hx2 : x2.isRef = true) : entryFrame m [(.int x0), (.int x1), x2].toArray 3 = mkF m 0 #[.val (.int x0), .val (.int x1), .val x2] [] := by rcases ref_cases hx2 with rfl | ⟨_, rfl⟩ <;> first | (simp [entryFrame, mkF, argsToLocals, Value.category]; done) | rfl
set_option maxRecDepth 65536 in
set_option maxHeartbeats 40000000 in
theorem rmPIX0 (l : Launch) (Z : State) (a0 : Array Value) (hw : ∀ d ∈ tables_1, d.before a0 Z = true) (xf : Value) (h0 : Heap) (hxf : xf.isRef = true) :
    Con l Z (⟨"jdk/internal/util/Preconditions", "checkIndex", "(IILjava/util/function/BiFunction;)I"⟩ : MethodName) jdk_41_method_11_code 3 (some .int) ({ frames := 0, cells := 0, slots := 0, locals := 0 } : Room) [(.int (0 : Int32)), (.int (4 : Int32)), xf] h0 (Ret (some (.int 0)) h0) := by
  refine OwnGo.Con.of (plainFor_of_name own_pn3) (Ls0 := #[.val (.int (0 : Int32)), .val (.int (4 : Int32)), .val xf]) (fun m => own_ef_rmPIX0 m (0 : Int32) (4 : Int32) xf hxf) ?_
  intro p e s m below meth c T0 X0 hx hZ hby hml hown hnm hret hlk e0
  show Go p e below _ T0 (mkF m 0 #[.val (.int (0 : Int32)), .val (.int (4 : Int32)), .val xf] [])
  refine OwnGo.iloadN X0 hx (hb hby d22_0) rfl ?_
  show Go p e below _ T0 (mkF m 1 #[.val (.int (0 : Int32)), .val (.int (4 : Int32)), .val xf] [(.int (0 : Int32))])
  refine OwnGo.if_lt X0 hx (pc' := 9) (hb hby d22_1) (by decide) (by decide) (fun q => absurd q (by decide)) (fun _ => ?_)
  show Go p e below _ T0 (mkF m 4 #[.val (.int (0 : Int32)), .val (.int (4 : Int32)), .val xf] [])
  refine OwnGo.iloadN X0 hx (hb hby d22_4) rfl ?_
  show Go p e below _ T0 (mkF m 5 #[.val (.int (0 : Int32)), .val (.int (4 : Int32)), .val xf] [(.int (0 : Int32))])
  refine OwnGo.iloadN X0 hx (hb hby d22_5) rfl ?_
  show Go p e below _ T0 (mkF m 6 #[.val (.int (0 : Int32)), .val (.int (4 : Int32)), .val xf] [(.int (4 : Int32)), (.int (0 : Int32))])
  refine OwnGo.ic_lt X0 hx (pc' := 16) (hb hby d22_6) (by decide) (by decide) (fun _ => ?_) (fun q => absurd q (by decide))
  show Go p e below _ T0 (mkF m 16 #[.val (.int (0 : Int32)), .val (.int (4 : Int32)), .val xf] [])
  refine OwnGo.iloadN X0 hx (hb hby d22_16) rfl ?_
  show Go p e below _ T0 (mkF m 17 #[.val (.int (0 : Int32)), .val (.int (4 : Int32)), .val xf] [(.int (0 : Int32))])
  exact OwnGo.retI X0 hx hlk hret (hb hby d22_17) ⟨rfl, e0, rfl⟩ (by decide) (by decide)
theorem d21_0 : decode jdk_42_method_155_code 0 = .ok (.iload_n 0, 1) := by decide +kernel
theorem d21_1 : decode jdk_42_method_155_code 1 = .ok (.iload_n 1, 1) := by decide +kernel
theorem d21_2 : decode jdk_42_method_155_code 2 = .ok (.getstatic 1053, 3) := by decide +kernel
theorem d21_5 : decode jdk_42_method_155_code 5 = .ok (.invokestatic 1059, 3) := by decide +kernel
theorem d21_8 : decode jdk_42_method_155_code 8 = .ok (.pop, 1) := by decide +kernel
theorem d21_9 : decode jdk_42_method_155_code 9 = .ok (.return_, 1) := by decide +kernel
theorem own_ef_rmCIX0 (m : MethodId) (x0 : Int32) (x1 : Int32) : entryFrame m [(.int x0), (.int x1)].toArray 2 = mkF m 0 #[.val (.int x0), .val (.int x1)] [] := by first | (simp [entryFrame, mkF, argsToLocals, Value.category]; done) | rfl
set_option maxRecDepth 65536 in
set_option maxHeartbeats 40000000 in
theorem rmCIX0 (l : Launch) (Z : State) (a0 : Array Value) (hw : ∀ d ∈ tables_1, d.before a0 Z = true) (xf : Value) (h0 : Heap) (n0 : Nat) (Z0 : n0 ≤ h0.size) (O1 : Old Z n0 h0) (hxf : xf.isRef = true) (SF : Sta Z Z.heap "jdk/internal/util/Preconditions" "SIOOBE_FORMATTER" "Ljava/util/function/BiFunction;" xf) :
    Con l Z (⟨"java/lang/String", "checkIndex", "(II)V"⟩ : MethodName) jdk_42_method_155_code 2 none ({ frames := 1, cells := 0, slots := 0, locals := 14 } : Room) [(.int (0 : Int32)), (.int (4 : Int32))] h0 (Ret none h0) := by
  refine OwnGo.Con.of (plainFor_of_name own_pn2) (Ls0 := #[.val (.int (0 : Int32)), .val (.int (4 : Int32))]) (fun m => own_ef_rmCIX0 m (0 : Int32) (4 : Int32)) ?_
  intro p e s m below meth c T0 X0 hx hZ hby hml hown hnm hret hlk e0
  show Go p e below _ T0 (mkF m 0 #[.val (.int (0 : Int32)), .val (.int (4 : Int32))] [])
  refine OwnGo.iloadN X0 hx (hb hby d21_0) rfl ?_
  show Go p e below _ T0 (mkF m 1 #[.val (.int (0 : Int32)), .val (.int (4 : Int32))] [(.int (0 : Int32))])
  refine OwnGo.iloadN X0 hx (hb hby d21_1) rfl ?_
  show Go p e below _ T0 (mkF m 2 #[.val (.int (0 : Int32)), .val (.int (4 : Int32))] [(.int (4 : Int32)), (.int (0 : Int32))])
  refine OwnGo.getS X0 hx hZ hown (host := "") (Or.inl (hw _ (List.mem_of_getElem? (i := 86) rfl))) Via.refl e0 (SF.ext O1.2) (hb hby d21_2) fun T1 X1 e1 => ?_
  show Go p e below _ T1 (mkF m 5 #[.val (.int (0 : Int32)), .val (.int (4 : Int32))] [xf, (.int (4 : Int32)), (.int (0 : Int32))])
  refine OwnGo.callS X1 hx hZ hown (y := (⟨"jdk/internal/util/Preconditions", "checkIndex", "(IILjava/util/function/BiFunction;)I"⟩ : MethodName)) (hw _ (List.mem_of_getElem? (i := 88) rfl)) (hw _ (List.mem_of_getElem? (i := 89) rfl)) (hw _ (List.mem_of_getElem? (i := 87) rfl)) (hw _ (List.mem_of_getElem? (i := 90) rfl)) (by decide) e1 (as := [(.int (0 : Int32)), (.int (4 : Int32)), xf]) (rmPIX0 l Z a0 hw xf h0 hxf) (W := 0) (by decide) (by decide) (by decide) (by decide) (by rw [hml]; rfl) (lenOf own_pd9 rfl) (rest := []) rfl rfl (hb hby d21_5) fun v2 T2 L2 X2 q2 => ?_
  obtain ⟨rfl, e2, rfl⟩ := q2
  rw [List.append_nil] at X2
  show Go p e below _ T2 (mkF m 8 #[.val (.int (0 : Int32)), .val (.int (4 : Int32))] [(.int (0 : Int32))])
  refine OwnGo.pop X2 hx (hb hby d21_8) rfl ?_
  show Go p e below _ T2 (mkF m 9 #[.val (.int (0 : Int32)), .val (.int (4 : Int32))] [])
  exact OwnGo.retV X2 hx hlk hret (hb hby d21_9) ⟨rfl, e2, rfl⟩ (by decide) (by decide)
theorem d23_0 : decode jdk_43_method_2_code 0 = .ok (.iload_n 1, 1) := by decide +kernel
theorem d23_1 : decode jdk_43_method_2_code 1 = .ok (.aload_n 0, 1) := by decide +kernel
theorem d23_2 : decode jdk_43_method_2_code 2 = .ok (.arraylength, 1) := by decide +kernel
theorem d23_3 : decode jdk_43_method_2_code 3 = .ok (.invokestatic 9, 3) := by decide +kernel
theorem d23_6 : decode jdk_43_method_2_code 6 = .ok (.aload_n 0, 1) := by decide +kernel
theorem d23_7 : decode jdk_43_method_2_code 7 = .ok (.iload_n 1, 1) := by decide +kernel
theorem d23_8 : decode jdk_43_method_2_code 8 = .ok (.baload, 1) := by decide +kernel
theorem d23_9 : decode jdk_43_method_2_code 9 = .ok (.sipush 255, 3) := by decide +kernel
theorem d23_12 : decode jdk_43_method_2_code 12 = .ok (.iand, 1) := by decide +kernel
theorem d23_13 : decode jdk_43_method_2_code 13 = .ok (.i2c, 1) := by decide +kernel
theorem d23_14 : decode jdk_43_method_2_code 14 = .ok (.ireturn, 1) := by decide +kernel
theorem own_ef_rmLCA0 (m : MethodId) (x0 : Addr) (x1 : Int32) : entryFrame m [(.ref x0), (.int x1)].toArray 2 = mkF m 0 #[.val (.ref x0), .val (.int x1)] [] := by first | (simp [entryFrame, mkF, argsToLocals, Value.category]; done) | rfl
set_option maxRecDepth 65536 in
set_option maxHeartbeats 40000000 in
theorem rmLCA0 (l : Launch) (Z : State) (a0 : Array Value) (hw : ∀ d ∈ tables_1, d.before a0 Z = true) (r : Addr) (kr : ClassId) (xf : Value) (y0 y1 y2 y3 : Int32) (h0 : Heap) (n0 : Nat) (Z0 : n0 ≤ h0.size) (O1 : Old Z n0 h0) (V1 : Arv Z h0 r kr .byte (4 : Int32) [(.int (y0.toInt8.toInt32)), (.int (y1.toInt8.toInt32)), (.int (y2.toInt8.toInt32)), (.int (y3.toInt8.toInt32))] (.int (0 : Int32))) (hxf : xf.isRef = true) (SF : Sta Z Z.heap "jdk/internal/util/Preconditions" "SIOOBE_FORMATTER" "Ljava/util/function/BiFunction;" xf) (nc0 : nar .char y0 = y0) (hs : ¬ 255 < y0) :
    Con l Z (⟨"java/lang/StringLatin1", "charAt", "([BI)C"⟩ : MethodName) jdk_43_method_2_code 2 (some .char) ({ frames := 2, cells := 0, slots := 0, locals := 27 } : Room) [(.ref r), (.int (0 : Int32))] h0 (Ret (some (.int y0)) h0) := by
  refine OwnGo.Con.of (plainFor_of_name own_pn4) (Ls0 := #[.val (.ref r), .val (.int (0 : Int32))]) (fun m => own_ef_rmLCA0 m r (0 : Int32)) ?_
  intro p e s m below meth c T0 X0 hx hZ hby hml hown hnm hret hlk e0
  show Go p e below _ T0 (mkF m 0 #[.val (.ref r), .val (.int (0 : Int32))] [])
  refine OwnGo.iloadN X0 hx (hb hby d23_0) rfl ?_
  show Go p e below _ T0 (mkF m 1 #[.val (.ref r), .val (.int (0 : Int32))] [(.int (0 : Int32))])
  refine OwnGo.aloadN X0 hx (hb hby d23_1) rfl rfl ?_
  show Go p e below _ T0 (mkF m 2 #[.val (.ref r), .val (.int (0 : Int32))] [(.ref r), (.int (0 : Int32))])
  obtain ⟨cl1, Ar1, -, Sz1, Nn1, -, -⟩ := (id V1)
  refine OwnGo.arraylength X0 hx hZ e0 Ar1 (len_of Sz1 Nn1) (hb hby d23_2) ?_
  show Go p e below _ T0 (mkF m 3 #[.val (.ref r), .val (.int (0 : Int32))] [(.int (4 : Int32)), (.int (0 : Int32))])
  refine OwnGo.callS X0 hx hZ hown (y := (⟨"java/lang/String", "checkIndex", "(II)V"⟩ : MethodName)) (hw _ (List.mem_of_getElem? (i := 95) rfl)) (hw _ (List.mem_of_getElem? (i := 84) rfl)) (hw _ (List.mem_of_getElem? (i := 8) rfl)) (hw _ (List.mem_of_getElem? (i := 85) rfl)) (by decide) e0 (as := [(.int (0 : Int32)), (.int (4 : Int32))]) (rmCIX0 l Z a0 hw xf h0 n0 Z0 O1 hxf SF) (W := 0) (by decide) (by decide) (by decide) (by decide) (by rw [hml]; rfl) (lenOf own_pd10 rfl) (rest := []) rfl rfl (hb hby d23_3) fun v2 T2 L2 X2 q2 => ?_
  obtain ⟨rfl, e2, rfl⟩ := q2
  rw [List.append_nil] at X2
  show Go p e below _ T2 (mkF m 6 #[.val (.ref r), .val (.int (0 : Int32))] [])
  refine OwnGo.aloadN X2 hx (hb hby d23_6) rfl rfl ?_
  show Go p e below _ T2 (mkF m 7 #[.val (.ref r), .val (.int (0 : Int32))] [(.ref r)])
  refine OwnGo.iloadN X2 hx (hb hby d23_7) rfl ?_
  show Go p e below _ T2 (mkF m 8 #[.val (.ref r), .val (.int (0 : Int32))] [(.int (0 : Int32)), (.ref r)])
  obtain ⟨cl3, Ar3, Kq3, Sz3, Nn3, Hh3, Gg3⟩ := (id V1)
  have hin3 : ¬ ((0 : Int32) < 0 ∨ cl3.slots.size ≤ ((0 : Int32)).toNatClampNeg) := inb_of Sz3 ⟨by decide, by decide⟩
  refine OwnGo.baload X2 hx hZ e2 Ar3 hin3 (Has.at Hh3 hin3 (v := (.int (y0.toInt8.toInt32))) rfl) (hb hby d23_8) ?_
  show Go p e below _ T2 (mkF m 9 #[.val (.ref r), .val (.int (0 : Int32))] [(.int (y0.toInt8.toInt32))])
  refine OwnGo.sipush X2 hx (z := (255 : Int32)) (hb hby d23_9) (by decide) ?_
  show Go p e below _ T2 (mkF m 12 #[.val (.ref r), .val (.int (0 : Int32))] [(.int (255 : Int32)), (.int (y0.toInt8.toInt32))])
  refine OwnGo.iand X2 hx (hb hby d23_12) rfl ?_
  show Go p e below _ T2 (mkF m 13 #[.val (.ref r), .val (.int (0 : Int32))] [(.int ((y0.toInt8.toInt32) &&& (255 : Int32)))])
  refine OwnGo.i2c X2 hx (hb hby d23_13) rfl ?_
  show Go p e below _ T2 (mkF m 14 #[.val (.ref r), .val (.int (0 : Int32))] [(.int (((y0.toInt8.toInt32) &&& (255 : Int32)).toUInt32.toUInt16.toUInt32.toInt32))])
  exact OwnGo.retC X2 hx hlk (z' := y0) hret (hb hby d23_14) (own_lc nc0 hs) ⟨rfl, e2, rfl⟩ (by decide) (by decide)
theorem d19_0 : decode jdk_52_method_91_code 0 = .ok (.iload_n 0, 1) := by decide +kernel
theorem d19_1 : decode jdk_52_method_91_code 1 = .ok (.aload_n 1, 1) := by decide +kernel
theorem d19_2 : decode jdk_52_method_91_code 2 = .ok (.invokestatic 48, 3) := by decide +kernel
theorem d19_5 : decode jdk_52_method_91_code 5 = .ok (.invokestatic 414, 3) := by decide +kernel
theorem d19_8 : decode jdk_52_method_91_code 8 = .ok (.return_, 1) := by decide +kernel
theorem own_ef_rmUIX0 (m : MethodId) (x0 : Int32) (x1 : Addr) : entryFrame m [(.int x0), (.ref x1)].toArray 2 = mkF m 0 #[.val (.int x0), .val (.ref x1)] [] := by first | (simp [entryFrame, mkF, argsToLocals, Value.category]; done) | rfl
set_option maxRecDepth 65536 in
set_option maxHeartbeats 40000000 in
theorem rmUIX0 (l : Launch) (Z : State) (a0 : Array Value) (hw : ∀ d ∈ tables_1, d.before a0 Z = true) (r : Addr) (kr : ClassId) (xf : Value) (y0 y1 y2 y3 : Int32) (h0 : Heap) (n0 : Nat) (Z0 : n0 ≤ h0.size) (O1 : Old Z n0 h0) (V1 : Arv Z h0 r kr .byte (8 : Int32) [(.int ((y0 >>> ((0 : Int32) &&& 31)).toInt8.toInt32)), (.int ((y0 >>> ((8 : Int32) &&& 31)).toInt8.toInt32)), (.int ((y1 >>> ((0 : Int32) &&& 31)).toInt8.toInt32)), (.int ((y1 >>> ((8 : Int32) &&& 31)).toInt8.toInt32)), (.int ((y2 >>> ((0 : Int32) &&& 31)).toInt8.toInt32)), (.int ((y2 >>> ((8 : Int32) &&& 31)).toInt8.toInt32)), (.int ((y3 >>> ((0 : Int32) &&& 31)).toInt8.toInt32)), (.int ((y3 >>> ((8 : Int32) &&& 31)).toInt8.toInt32))] (.int (0 : Int32))) (hxf : xf.isRef = true) (SF : Sta Z Z.heap "jdk/internal/util/Preconditions" "SIOOBE_FORMATTER" "Ljava/util/function/BiFunction;" xf) :
    Con l Z (⟨"java/lang/StringUTF16", "checkIndex", "(I[B)V"⟩ : MethodName) jdk_52_method_91_code 2 none ({ frames := 2, cells := 0, slots := 0, locals := 27 } : Room) [(.int (0 : Int32)), (.ref r)] h0 (Ret none h0) := by
  refine OwnGo.Con.of (plainFor_of_name own_pn1) (Ls0 := #[.val (.int (0 : Int32)), .val (.ref r)]) (fun m => own_ef_rmUIX0 m (0 : Int32) r) ?_
  intro p e s m below meth c T0 X0 hx hZ hby hml hown hnm hret hlk e0
  show Go p e below _ T0 (mkF m 0 #[.val (.int (0 : Int32)), .val (.ref r)] [])
  refine OwnGo.iloadN X0 hx (hb hby d19_0) rfl ?_
  show Go p e below _ T0 (mkF m 1 #[.val (.int (0 : Int32)), .val (.ref r)] [(.int (0 : Int32))])
  refine OwnGo.aloadN X0 hx (hb hby d19_1) rfl rfl ?_
  show Go p e below _ T0 (mkF m 2 #[.val (.int (0 : Int32)), .val (.ref r)] [(.ref r), (.int (0 : Int32))])
  refine OwnGo.callS X0 hx hZ hown (y := (⟨"java/lang/StringUTF16", "length", "([B)I"⟩ : MethodName)) (hw _ (List.mem_of_getElem? (i := 80) rfl)) (hw _ (List.mem_of_getElem? (i := 81) rfl)) (hw _ (List.mem_of_getElem? (i := 22) rfl)) (hw _ (List.mem_of_getElem? (i := 82) rfl)) (by decide) e0 (as := [(.ref r)]) (rmULN l Z a0 hw r kr y0 y1 y2 y3 h0 V1) (W := 1) (by decide) (by decide) (by decide) (by decide) (by rw [hml]; rfl) (lenOf own_pd11 rfl) (rest := [(.int (0 : Int32))]) rfl rfl (hb hby d19_2) fun v1 T1 L1 X1 q1 => ?_
  obtain ⟨rfl, e1, rfl⟩ := q1
  rw [List.append_nil] at X1
  show Go p e below _ T1 (mkF m 5 #[.val (.int (0 : Int32)), .val (.ref r)] [(.int (4 : Int32)), (.int (0 : Int32))])
  refine OwnGo.callS X1 hx hZ hown (y := (⟨"java/lang/String", "checkIndex", "(II)V"⟩ : MethodName)) (hw _ (List.mem_of_getElem? (i := 83) rfl)) (hw _ (List.mem_of_getElem? (i := 84) rfl)) (hw _ (List.mem_of_getElem? (i := 8) rfl)) (hw _ (List.mem_of_getElem? (i := 85) rfl)) (by decide) e1 (as := [(.int (0 : Int32)), (.int (4 : Int32))]) (rmCIX0 l Z a0 hw xf h0 n0 Z0 O1 hxf SF) (W := 0) (by decide) (by decide) (by decide) (by decide) (by rw [hml]; rfl) (lenOf own_pd10 rfl) (rest := []) rfl rfl (hb hby d19_5) fun v2 T2 L2 X2 q2 => ?_
  obtain ⟨rfl, e2, rfl⟩ := q2
  rw [List.append_nil] at X2
  show Go p e below _ T2 (mkF m 8 #[.val (.int (0 : Int32)), .val (.ref r)] [])
  exact OwnGo.retV X2 hx hlk hret (hb hby d19_8) ⟨rfl, e2, rfl⟩ (by decide) (by decide)
theorem d18_0 : decode jdk_52_method_83_code 0 = .ok (.iload_n 1, 1) := by decide +kernel
theorem d18_1 : decode jdk_52_method_83_code 1 = .ok (.aload_n 0, 1) := by decide +kernel
theorem d18_2 : decode jdk_52_method_83_code 2 = .ok (.invokestatic 67, 3) := by decide +kernel
theorem d18_5 : decode jdk_52_method_83_code 5 = .ok (.aload_n 0, 1) := by decide +kernel
theorem d18_6 : decode jdk_52_method_83_code 6 = .ok (.iload_n 1, 1) := by decide +kernel
theorem d18_7 : decode jdk_52_method_83_code 7 = .ok (.invokestatic 71, 3) := by decide +kernel
theorem d18_10 : decode jdk_52_method_83_code 10 = .ok (.ireturn, 1) := by decide +kernel
theorem own_ef_rmUCA0 (m : MethodId) (x0 : Addr) (x1 : Int32) : entryFrame m [(.ref x0), (.int x1)].toArray 2 = mkF m 0 #[.val (.ref x0), .val (.int x1)] [] := by first | (simp [entryFrame, mkF, argsToLocals, Value.category]; done) | rfl
set_option maxRecDepth 65536 in
set_option maxHeartbeats 40000000 in
theorem rmUCA0 (l : Launch) (Z : State) (a0 : Array Value) (hw : ∀ d ∈ tables_1, d.before a0 Z = true) (r : Addr) (kr : ClassId) (xf : Value) (y0 y1 y2 y3 : Int32) (h0 : Heap) (n0 : Nat) (Z0 : n0 ≤ h0.size) (O1 : Old Z n0 h0) (V1 : Arv Z h0 r kr .byte (8 : Int32) [(.int ((y0 >>> ((0 : Int32) &&& 31)).toInt8.toInt32)), (.int ((y0 >>> ((8 : Int32) &&& 31)).toInt8.toInt32)), (.int ((y1 >>> ((0 : Int32) &&& 31)).toInt8.toInt32)), (.int ((y1 >>> ((8 : Int32) &&& 31)).toInt8.toInt32)), (.int ((y2 >>> ((0 : Int32) &&& 31)).toInt8.toInt32)), (.int ((y2 >>> ((8 : Int32) &&& 31)).toInt8.toInt32)), (.int ((y3 >>> ((0 : Int32) &&& 31)).toInt8.toInt32)), (.int ((y3 >>> ((8 : Int32) &&& 31)).toInt8.toInt32))] (.int (0 : Int32))) (hxf : xf.isRef = true) (SF : Sta Z Z.heap "jdk/internal/util/Preconditions" "SIOOBE_FORMATTER" "Ljava/util/function/BiFunction;" xf) (SA : Sta Z Z.heap "java/lang/StringUTF16" "$assertionsDisabled" "Z" (.int (1 : Int32))) (SH : Sta Z Z.heap "java/lang/StringUTF16" "HI_BYTE_SHIFT" "I" (.int (0 : Int32))) (SLo : Sta Z Z.heap "java/lang/StringUTF16" "LO_BYTE_SHIFT" "I" (.int (8 : Int32))) (nc0 : nar .char y0 = y0) :
    Con l Z (⟨"java/lang/StringUTF16", "charAt", "([BI)C"⟩ : MethodName) jdk_52_method_83_code 2 (some .char) ({ frames := 3, cells := 0, slots := 0, locals := 40 } : Room) [(.ref r), (.int (0 : Int32))] h0 (Ret (some (.int y0)) h0) := by
  refine OwnGo.Con.of (plainFor_of_name own_pn1) (Ls0 := #[.val (.ref r), .val (.int (0 : Int32))]) (fun m => own_ef_rmUCA0 m r (0 : Int32)) ?_
  intro p e s m below meth c T0 X0 hx hZ hby hml hown hnm hret hlk e0
  show Go p e below _ T0 (mkF m 0 #[.val (.ref r), .val (.int (0 : Int32))] [])
  refine OwnGo.iloadN X0 hx (hb hby d18_0) rfl ?_
  show Go p e below _ T0 (mkF m 1 #[.val (.ref r), .val (.int (0 : Int32))] [(.int (0 : Int32))])
  refine OwnGo.aloadN X0 hx (hb hby d18_1) rfl rfl ?_
  show Go p e below _ T0 (mkF m 2 #[.val (.ref r), .val (.int (0 : Int32))] [(.ref r), (.int (0 : Int32))])
  refine OwnGo.callS X0 hx hZ hown (y := (⟨"java/lang/StringUTF16", "checkIndex", "(I[B)V"⟩ : MethodName)) (hw _ (List.mem_of_getElem? (i := 77) rfl)) (hw _ (List.mem_of_getElem? (i := 78) rfl)) (hw _ (List.mem_of_getElem? (i := 22) rfl)) (hw _ (List.mem_of_getElem? (i := 79) rfl)) (by decide) e0 (as := [(.int (0 : Int32)), (.ref r)]) (rmUIX0 l Z a0 hw r kr xf y0 y1 y2 y3 h0 n0 Z0 O1 V1 hxf SF) (W := 0) (by decide) (by decide) (by decide) (by decide) (by rw [hml]; rfl) (lenOf own_pd12 rfl) (rest := []) rfl rfl (hb hby d18_2) fun v1 T1 L1 X1 q1 => ?_
  obtain ⟨rfl, e1, rfl⟩ := q1
  rw [List.append_nil] at X1
  show Go p e below _ T1 (mkF m 5 #[.val (.ref r), .val (.int (0 : Int32))] [])
  refine OwnGo.aloadN X1 hx (hb hby d18_5) rfl rfl ?_
  show Go p e below _ T1 (mkF m 6 #[.val (.ref r), .val (.int (0 : Int32))] [(.ref r)])
  refine OwnGo.iloadN X1 hx (hb hby d18_6) rfl ?_
  show Go p e below _ T1 (mkF m 7 #[.val (.ref r), .val (.int (0 : Int32))] [(.int (0 : Int32)), (.ref r)])
  refine OwnGo.callS X1 hx hZ hown (y := (⟨"java/lang/StringUTF16", "getChar", "([BI)C"⟩ : MethodName)) (hw _ (List.mem_of_getElem? (i := 58) rfl)) (hw _ (List.mem_of_getElem? (i := 59) rfl)) (hw _ (List.mem_of_getElem? (i := 22) rfl)) (hw _ (List.mem_of_getElem? (i := 60) rfl)) (by decide) e1 (as := [(.ref r), (.int (0 : Int32))]) (rmGCH0 l Z a0 hw r kr y0 y1 y2 y3 h0 n0 Z0 O1 V1 SA SH SLo nc0) (W := 0) (by decide) (by decide) (by decide) (by decide) (by rw [hml]; rfl) (lenOf own_pd6 rfl) (rest := []) rfl rfl (hb hby d18_7) fun v2 T2 L2 X2 q2 => ?_
  obtain ⟨rfl, e2, rfl⟩ := q2
  rw [List.append_nil] at X2
  show Go p e below _ T2 (mkF m 10 #[.val (.ref r), .val (.int (0 : Int32))] [(.int y0)])
  exact OwnGo.retC X2 hx hlk (z' := y0) hret (hb hby d18_10) nc0 ⟨rfl, e2, rfl⟩ (by decide) (by decide)
theorem d16_0 : decode jdk_42_method_56_code 0 = .ok (.aload_n 0, 1) := by decide +kernel
theorem d16_1 : decode jdk_42_method_56_code 1 = .ok (.invokevirtual 492, 3) := by decide +kernel
theorem d16_4 : decode jdk_42_method_56_code 4 = .ok (.ifCond .eq 12, 3) := by decide +kernel
theorem d16_7 : decode jdk_42_method_56_code 7 = .ok (.aload_n 0, 1) := by decide +kernel
theorem d16_8 : decode jdk_42_method_56_code 8 = .ok (.getfield 9, 3) := by decide +kernel
theorem d16_11 : decode jdk_42_method_56_code 11 = .ok (.iload_n 1, 1) := by decide +kernel
theorem d16_12 : decode jdk_42_method_56_code 12 = .ok (.invokestatic 495, 3) := by decide +kernel
theorem d16_15 : decode jdk_42_method_56_code 15 = .ok (.ireturn, 1) := by decide +kernel
theorem own_ef_rmCHAL0 (m : MethodId) (x0 : Addr) (x1 : Int32) : entryFrame m [(.ref x0), (.int x1)].toArray 2 = mkF m 0 #[.val (.ref x0), .val (.int x1)] [] := by first | (simp [entryFrame, mkF, argsToLocals, Value.category]; done) | rfl
set_option maxRecDepth 65536 in
set_option maxHeartbeats 40000000 in
theorem rmCHAL0 (l : Launch) (Z : State) (a0 : Array Value) (hw : ∀ d ∈ tables_1, d.before a0 Z = true) (a1 r : Addr) (kr : ClassId) (xf : Value) (pz : Int32) (y0 y1 y2 y3 : Int32) (h0 : Heap) (n0 : Nat) (Z0 : n0 ≤ h0.size) (O1 : Old Z n0 h0) (E1 : Exa Z h0 a1 "java/lang/String") (F1 : Fld Z h0 a1 "java/lang/String" "coder" "B" (.int (0 : Int32))) (F2 : Fld Z h0 a1 "java/lang/String" "value" "[B" (.ref r)) (V1 : Arv Z h0 r kr .byte (4 : Int32) [(.int (y0.toInt8.toInt32)), (.int (y1.toInt8.toInt32)), (.int (y2.toInt8.toInt32)), (.int (y3.toInt8.toInt32))] (.int (0 : Int32))) (hxf : xf.isRef = true) (SF : Sta Z Z.heap "jdk/internal/util/Preconditions" "SIOOBE_FORMATTER" "Ljava/util/function/BiFunction;" xf) (SA : Sta Z Z.heap "java/lang/StringUTF16" "$assertionsDisabled" "Z" (.int (1 : Int32))) (SH : Sta Z Z.heap "java/lang/StringUTF16" "HI_BYTE_SHIFT" "I" (.int (0 : Int32))) (SLo : Sta Z Z.heap "java/lang/StringUTF16" "LO_BYTE_SHIFT" "I" (.int (8 : Int32))) (SC : Sta Z Z.heap "java/lang/String" "COMPACT_STRINGS" "Z" (.int pz)) (hpz : ¬ pz = 0) (nc0 : nar .char y0 = y0) (hs : ¬ 255 < y0) :
    Con l Z (⟨"java/lang/String", "charAt", "(I)C"⟩ : MethodName) jdk_42_method_56_code 2 (some .char) ({ frames := 4, cells := 0, slots := 0, locals := 53 } : Room) [(.ref a1), (.int (0 : Int32))] h0 (Ret (some (.int y0)) h0) := by
  refine OwnGo.Con.of (plainFor_of_name own_pn2) (Ls0 := #[.val (.ref a1), .val (.int (0 : Int32))]) (fun m => own_ef_rmCHAL0 m a1 (0 : Int32)) ?_
  intro p e s m below meth c T0 X0 hx hZ hby hml hown hnm hret hlk e0
  show Go p e below _ T0 (mkF m 0 #[.val (.ref a1), .val (.int (0 : Int32))] [])
  refine OwnGo.aloadN X0 hx (hb hby d16_0) rfl rfl ?_
  show Go p e below _ T0 (mkF m 1 #[.val (.ref a1), .val (.int (0 : Int32))] [(.ref a1)])
  refine OwnGo.callV X0 hx hZ hown (y := (⟨"java/lang/String", "isLatin1", "()Z"⟩ : MethodName)) (z := (⟨"java/lang/String", "isLatin1", "()Z"⟩ : MethodName)) (hw _ (List.mem_of_getElem? (i := 69) rfl)) (hw _ (List.mem_of_getElem? (i := 70) rfl)) (notFace_of_selects (args := #[]) (mvT hZ (hw _ (List.mem_of_getElem? (i := 72) rfl)))) (hw _ (List.mem_of_getElem? (i := 72) rfl)) (hw _ (List.mem_of_getElem? (i := 71) rfl)) (hw _ (List.mem_of_getElem? (i := 8) rfl)) (hw _ (List.mem_of_getElem? (i := 73) rfl)) (by decide) e0 E1 (as := []) (rmISLL l Z a0 hw a1 pz h0 n0 Z0 O1 F1 SC hpz) (W := 0) (by decide) (by decide) (by decide) (by decide) (by rw [hml]; rfl) (lenOf own_pd13 rfl) (rest := []) rfl rfl (hb hby d16_1) fun v1 T1 L1 X1 q1 => ?_
  obtain ⟨rfl, e1, rfl⟩ := q1
  rw [List.append_nil] at X1
  show Go p e below _ T1 (mkF m 4 #[.val (.ref a1), .val (.int (0 : Int32))] [(.int (1 : Int32))])
  refine OwnGo.if_eq X1 hx (pc' := 16) (hb hby d16_4) (by decide) (by decide) (fun q => absurd q (by decide)) (fun _ => ?_)
  show Go p e below _ T1 (mkF m 7 #[.val (.ref a1), .val (.int (0 : Int32))] [])
  refine OwnGo.aloadN X1 hx (hb hby d16_7) rfl rfl ?_
  show Go p e below _ T1 (mkF m 8 #[.val (.ref a1), .val (.int (0 : Int32))] [(.ref a1)])
  refine OwnGo.getF X1 hx hZ hown (host := "") (Or.inl (hw _ (List.mem_of_getElem? (i := 33) rfl))) Via.refl e1 F2 (hb hby d16_8) fun T2 X2 e2 => ?_
  show Go p e below _ T2 (mkF m 11 #[.val (.ref a1), .val (.int (0 : Int32))] [(.ref r)])
  refine OwnGo.iloadN X2 hx (hb hby d16_11) rfl ?_
  show Go p e below _ T2 (mkF m 12 #[.val (.ref a1), .val (.int (0 : Int32))] [(.int (0 : Int32)), (.ref r)])
  refine OwnGo.callS X2 hx hZ hown (y := (⟨"java/lang/StringLatin1", "charAt", "([BI)C"⟩ : MethodName)) (hw _ (List.mem_of_getElem? (i := 91) rfl)) (hw _ (List.mem_of_getElem? (i := 92) rfl)) (hw _ (List.mem_of_getElem? (i := 93) rfl)) (hw _ (List.mem_of_getElem? (i := 94) rfl)) (by decide) e2 (as := [(.ref r), (.int (0 : Int32))]) (rmLCA0 l Z a0 hw r kr xf y0 y1 y2 y3 h0 n0 Z0 O1 V1 hxf SF nc0 hs) (W := 0) (by decide) (by decide) (by decide) (by decide) (by rw [hml]; rfl) (lenOf own_pd6 rfl) (rest := []) rfl rfl (hb hby d16_12) fun v3 T3 L3 X3 q3 => ?_
  obtain ⟨rfl, e3, rfl⟩ := q3
  rw [List.append_nil] at X3
  show Go p e below _ T3 (mkF m 15 #[.val (.ref a1), .val (.int (0 : Int32))] [(.int y0)])
  exact OwnGo.retC X3 hx hlk (z' := y0) hret (hb hby d16_15) nc0 ⟨rfl, e3, rfl⟩ (by decide) (by decide)
theorem d16_16 : decode jdk_42_method_56_code 16 = .ok (.aload_n 0, 1) := by decide +kernel
theorem d16_17 : decode jdk_42_method_56_code 17 = .ok (.getfield 9, 3) := by decide +kernel
theorem d16_20 : decode jdk_42_method_56_code 20 = .ok (.iload_n 1, 1) := by decide +kernel
theorem d16_21 : decode jdk_42_method_56_code 21 = .ok (.invokestatic 498, 3) := by decide +kernel
theorem d16_24 : decode jdk_42_method_56_code 24 = .ok (.ireturn, 1) := by decide +kernel
theorem own_ef_rmCHAU0 (m : MethodId) (x0 : Addr) (x1 : Int32) : entryFrame m [(.ref x0), (.int x1)].toArray 2 = mkF m 0 #[.val (.ref x0), .val (.int x1)] [] := by first | (simp [entryFrame, mkF, argsToLocals, Value.category]; done) | rfl
set_option maxRecDepth 65536 in
set_option maxHeartbeats 40000000 in
theorem rmCHAU0 (l : Launch) (Z : State) (a0 : Array Value) (hw : ∀ d ∈ tables_1, d.before a0 Z = true) (a1 r : Addr) (kr : ClassId) (xf : Value) (pz : Int32) (y0 y1 y2 y3 : Int32) (h0 : Heap) (n0 : Nat) (Z0 : n0 ≤ h0.size) (O1 : Old Z n0 h0) (E1 : Exa Z h0 a1 "java/lang/String") (F1 : Fld Z h0 a1 "java/lang/String" "coder" "B" (.int (1 : Int32))) (F2 : Fld Z h0 a1 "java/lang/String" "value" "[B" (.ref r)) (V1 : Arv Z h0 r kr .byte (8 : Int32) [(.int ((y0 >>> ((0 : Int32) &&& 31)).toInt8.toInt32)), (.int ((y0 >>> ((8 : Int32) &&& 31)).toInt8.toInt32)), (.int ((y1 >>> ((0 : Int32) &&& 31)).toInt8.toInt32)), (.int ((y1 >>> ((8 : Int32) &&& 31)).toInt8.toInt32)), (.int ((y2 >>> ((0 : Int32) &&& 31)).toInt8.toInt32)), (.int ((y2 >>> ((8 : Int32) &&& 31)).toInt8.toInt32)), (.int ((y3 >>> ((0 : Int32) &&& 31)).toInt8.toInt32)), (.int ((y3 >>> ((8 : Int32) &&& 31)).toInt8.toInt32))] (.int (0 : Int32))) (hxf : xf.isRef = true) (SF : Sta Z Z.heap "jdk/internal/util/Preconditions" "SIOOBE_FORMATTER" "Ljava/util/function/BiFunction;" xf) (SA : Sta Z Z.heap "java/lang/StringUTF16" "$assertionsDisabled" "Z" (.int (1 : Int32))) (SH : Sta Z Z.heap "java/lang/StringUTF16" "HI_BYTE_SHIFT" "I" (.int (0 : Int32))) (SLo : Sta Z Z.heap "java/lang/StringUTF16" "LO_BYTE_SHIFT" "I" (.int (8 : Int32))) (SC : Sta Z Z.heap "java/lang/String" "COMPACT_STRINGS" "Z" (.int pz)) (hpz : ¬ pz = 0) (nc0 : nar .char y0 = y0) :
    Con l Z (⟨"java/lang/String", "charAt", "(I)C"⟩ : MethodName) jdk_42_method_56_code 2 (some .char) ({ frames := 4, cells := 0, slots := 0, locals := 53 } : Room) [(.ref a1), (.int (0 : Int32))] h0 (Ret (some (.int y0)) h0) := by
  refine OwnGo.Con.of (plainFor_of_name own_pn2) (Ls0 := #[.val (.ref a1), .val (.int (0 : Int32))]) (fun m => own_ef_rmCHAU0 m a1 (0 : Int32)) ?_
  intro p e s m below meth c T0 X0 hx hZ hby hml hown hnm hret hlk e0
  show Go p e below _ T0 (mkF m 0 #[.val (.ref a1), .val (.int (0 : Int32))] [])
  refine OwnGo.aloadN X0 hx (hb hby d16_0) rfl rfl ?_
  show Go p e below _ T0 (mkF m 1 #[.val (.ref a1), .val (.int (0 : Int32))] [(.ref a1)])
  refine OwnGo.callV X0 hx hZ hown (y := (⟨"java/lang/String", "isLatin1", "()Z"⟩ : MethodName)) (z := (⟨"java/lang/String", "isLatin1", "()Z"⟩ : MethodName)) (hw _ (List.mem_of_getElem? (i := 69) rfl)) (hw _ (List.mem_of_getElem? (i := 70) rfl)) (notFace_of_selects (args := #[]) (mvT hZ (hw _ (List.mem_of_getElem? (i := 72) rfl)))) (hw _ (List.mem_of_getElem? (i := 72) rfl)) (hw _ (List.mem_of_getElem? (i := 71) rfl)) (hw _ (List.mem_of_getElem? (i := 8) rfl)) (hw _ (List.mem_of_getElem? (i := 73) rfl)) (by decide) e0 E1 (as := []) (rmISLU l Z a0 hw a1 pz h0 n0 Z0 O1 F1 SC hpz) (W := 0) (by decide) (by decide) (by decide) (by decide) (by rw [hml]; rfl) (lenOf own_pd13 rfl) (rest := []) rfl rfl (hb hby d16_1) fun v1 T1 L1 X1 q1 => ?_
  obtain ⟨rfl, e1, rfl⟩ := q1
  rw [List.append_nil] at X1
  show Go p e below _ T1 (mkF m 4 #[.val (.ref a1), .val (.int (0 : Int32))] [(.int (0 : Int32))])
  refine OwnGo.if_eq X1 hx (pc' := 16) (hb hby d16_4) (by decide) (by decide) (fun _ => ?_) (fun q => absurd q (by decide))
  show Go p e below _ T1 (mkF m 16 #[.val (.ref a1), .val (.int (0 : Int32))] [])
  refine OwnGo.aloadN X1 hx (hb hby d16_16) rfl rfl ?_
  show Go p e below _ T1 (mkF m 17 #[.val (.ref a1), .val (.int (0 : Int32))] [(.ref a1)])
  refine OwnGo.getF X1 hx hZ hown (host := "") (Or.inl (hw _ (List.mem_of_getElem? (i := 33) rfl))) Via.refl e1 F2 (hb hby d16_17) fun T2 X2 e2 => ?_
  show Go p e below _ T2 (mkF m 20 #[.val (.ref a1), .val (.int (0 : Int32))] [(.ref r)])
  refine OwnGo.iloadN X2 hx (hb hby d16_20) rfl ?_
  show Go p e below _ T2 (mkF m 21 #[.val (.ref a1), .val (.int (0 : Int32))] [(.int (0 : Int32)), (.ref r)])
  refine OwnGo.callS X2 hx hZ hown (y := (⟨"java/lang/StringUTF16", "charAt", "([BI)C"⟩ : MethodName)) (hw _ (List.mem_of_getElem? (i := 74) rfl)) (hw _ (List.mem_of_getElem? (i := 75) rfl)) (hw _ (List.mem_of_getElem? (i := 22) rfl)) (hw _ (List.mem_of_getElem? (i := 76) rfl)) (by decide) e2 (as := [(.ref r), (.int (0 : Int32))]) (rmUCA0 l Z a0 hw r kr xf y0 y1 y2 y3 h0 n0 Z0 O1 V1 hxf SF SA SH SLo nc0) (W := 0) (by decide) (by decide) (by decide) (by decide) (by rw [hml]; rfl) (lenOf own_pd6 rfl) (rest := []) rfl rfl (hb hby d16_21) fun v3 T3 L3 X3 q3 => ?_
  obtain ⟨rfl, e3, rfl⟩ := q3
  rw [List.append_nil] at X3
  show Go p e below _ T3 (mkF m 24 #[.val (.ref a1), .val (.int (0 : Int32))] [(.int y0)])
  exact OwnGo.retC X3 hx hlk (z' := y0) hret (hb hby d16_24) nc0 ⟨rfl, e3, rfl⟩ (by decide) (by decide)
theorem own_ef_rmPIX1 (m : MethodId) (x0 : Int32) (x1 : Int32) (x2 : Value) (hx2 : x2.isRef = true) : entryFrame m [(.int x0), (.int x1), x2].toArray 3 = mkF m 0 #[.val (.int x0), .val (.int x1), .val x2] [] := by rcases ref_cases hx2 with rfl | ⟨_, rfl⟩ <;> first | (simp [entryFrame, mkF, argsToLocals, Value.category]; done) | rfl
set_option maxRecDepth 65536 in
set_option maxHeartbeats 40000000 in
theorem rmPIX1 (l : Launch) (Z : State) (a0 : Array Value) (hw : ∀ d ∈ tables_1, d.before a0 Z = true) (xf : Value) (h0 : Heap) (hxf : xf.isRef = true) :
    Con l Z (⟨"jdk/internal/util/Preconditions", "checkIndex", "(IILjava/util/function/BiFunction;)I"⟩ : MethodName) jdk_41_method_11_code 3 (some .int) ({ frames := 0, cells := 0, slots := 0, locals := 0 } : Room) [(.int (1 : Int32)), (.int (4 : Int32)), xf] h0 (Ret (some (.int 1)) h0) := by
  refine OwnGo.Con.of (plainFor_of_name own_pn3) (Ls0 := #[.val (.int (1 : Int32)), .val (.int (4 : Int32)), .val xf]) (fun m => own_ef_rmPIX1 m (1 : Int32) (4 : Int32) xf hxf) ?_
  intro p e s m below meth c T0 X0 hx hZ hby hml hown hnm hret hlk e0
  show Go p e below _ T0 (mkF m 0 #[.val (.int (1 : Int32)), .val (.int (4 : Int32)), .val xf] [])
  refine OwnGo.iloadN X0 hx (hb hby d22_0) rfl ?_
  show Go p e below _ T0 (mkF m 1 #[.val (.int (1 : Int32)), .val (.int (4 : Int32)), .val xf] [(.int (1 : Int32))])
  refine OwnGo.if_lt X0 hx (pc' := 9) (hb hby d22_1) (by decide) (by decide) (fun q => absurd q (by decide)) (fun _ => ?_)
  show Go p e below _ T0 (mkF m 4 #[.val (.int (1 : Int32)), .val (.int (4 : Int32)), .val xf] [])
  refine OwnGo.iloadN X0 hx (hb hby d22_4) rfl ?_
  show Go p e below _ T0 (mkF m 5 #[.val (.int (1 : Int32)), .val (.int (4 : Int32)), .val xf] [(.int (1 : Int32))])
  refine OwnGo.iloadN X0 hx (hb hby d22_5) rfl ?_
  show Go p e below _ T0 (mkF m 6 #[.val (.int (1 : Int32)), .val (.int (4 : Int32)), .val xf] [(.int (4 : Int32)), (.int (1 : Int32))])
  refine OwnGo.ic_lt X0 hx (pc' := 16) (hb hby d22_6) (by decide) (by decide) (fun _ => ?_) (fun q => absurd q (by decide))
  show Go p e below _ T0 (mkF m 16 #[.val (.int (1 : Int32)), .val (.int (4 : Int32)), .val xf] [])
  refine OwnGo.iloadN X0 hx (hb hby d22_16) rfl ?_
  show Go p e below _ T0 (mkF m 17 #[.val (.int (1 : Int32)), .val (.int (4 : Int32)), .val xf] [(.int (1 : Int32))])
  exact OwnGo.retI X0 hx hlk hret (hb hby d22_17) ⟨rfl, e0, rfl⟩ (by decide) (by decide)
theorem own_ef_rmCIX1 (m : MethodId) (x0 : Int32) (x1 : Int32) : entryFrame m [(.int x0), (.int x1)].toArray 2 = mkF m 0 #[.val (.int x0), .val (.int x1)] [] := by first | (simp [entryFrame, mkF, argsToLocals, Value.category]; done) | rfl
set_option maxRecDepth 65536 in
set_option maxHeartbeats 40000000 in
theorem rmCIX1 (l : Launch) (Z : State) (a0 : Array Value) (hw : ∀ d ∈ tables_1, d.before a0 Z = true) (xf : Value) (h0 : Heap) (n0 : Nat) (Z0 : n0 ≤ h0.size) (O1 : Old Z n0 h0) (hxf : xf.isRef = true) (SF : Sta Z Z.heap "jdk/internal/util/Preconditions" "SIOOBE_FORMATTER" "Ljava/util/function/BiFunction;" xf) :
    Con l Z (⟨"java/lang/String", "checkIndex", "(II)V"⟩ : MethodName) jdk_42_method_155_code 2 none ({ frames := 1, cells := 0, slots := 0, locals := 14 } : Room) [(.int (1 : Int32)), (.int (4 : Int32))] h0 (Ret none h0) := by
  refine OwnGo.Con.of (plainFor_of_name own_pn2) (Ls0 := #[.val (.int (1 : Int32)), .val (.int (4 : Int32))]) (fun m => own_ef_rmCIX1 m (1 : Int32) (4 : Int32)) ?_
  intro p e s m below meth c T0 X0 hx hZ hby hml hown hnm hret hlk e0
  show Go p e below _ T0 (mkF m 0 #[.val (.int (1 : Int32)), .val (.int (4 : Int32))] [])
  refine OwnGo.iloadN X0 hx (hb hby d21_0) rfl ?_
  show Go p e below _ T0 (mkF m 1 #[.val (.int (1 : Int32)), .val (.int (4 : Int32))] [(.int (1 : Int32))])
  refine OwnGo.iloadN X0 hx (hb hby d21_1) rfl ?_
  show Go p e below _ T0 (mkF m 2 #[.val (.int (1 : Int32)), .val (.int (4 : Int32))] [(.int (4 : Int32)), (.int (1 : Int32))])
  refine OwnGo.getS X0 hx hZ hown (host := "") (Or.inl (hw _ (List.mem_of_getElem? (i := 86) rfl))) Via.refl e0 (SF.ext O1.2) (hb hby d21_2) fun T1 X1 e1 => ?_
  show Go p e below _ T1 (mkF m 5 #[.val (.int (1 : Int32)), .val (.int (4 : Int32))] [xf, (.int (4 : Int32)), (.int (1 : Int32))])
  refine OwnGo.callS X1 hx hZ hown (y := (⟨"jdk/internal/util/Preconditions", "checkIndex", "(IILjava/util/function/BiFunction;)I"⟩ : MethodName)) (hw _ (List.mem_of_getElem? (i := 88) rfl)) (hw _ (List.mem_of_getElem? (i := 89) rfl)) (hw _ (List.mem_of_getElem? (i := 87) rfl)) (hw _ (List.mem_of_getElem? (i := 90) rfl)) (by decide) e1 (as := [(.int (1 : Int32)), (.int (4 : Int32)), xf]) (rmPIX1 l Z a0 hw xf h0 hxf) (W := 0) (by decide) (by decide) (by decide) (by decide) (by rw [hml]; rfl) (lenOf own_pd9 rfl) (rest := []) rfl rfl (hb hby d21_5) fun v2 T2 L2 X2 q2 => ?_
  obtain ⟨rfl, e2, rfl⟩ := q2
  rw [List.append_nil] at X2
  show Go p e below _ T2 (mkF m 8 #[.val (.int (1 : Int32)), .val (.int (4 : Int32))] [(.int (1 : Int32))])
  refine OwnGo.pop X2 hx (hb hby d21_8) rfl ?_
  show Go p e below _ T2 (mkF m 9 #[.val (.int (1 : Int32)), .val (.int (4 : Int32))] [])
  exact OwnGo.retV X2 hx hlk hret (hb hby d21_9) ⟨rfl, e2, rfl⟩ (by decide) (by decide)
theorem own_ef_rmLCA1 (m : MethodId) (x0 : Addr) (x1 : Int32) : entryFrame m [(.ref x0), (.int x1)].toArray 2 = mkF m 0 #[.val (.ref x0), .val (.int x1)] [] := by first | (simp [entryFrame, mkF, argsToLocals, Value.category]; done) | rfl
set_option maxRecDepth 65536 in
set_option maxHeartbeats 40000000 in
theorem rmLCA1 (l : Launch) (Z : State) (a0 : Array Value) (hw : ∀ d ∈ tables_1, d.before a0 Z = true) (r : Addr) (kr : ClassId) (xf : Value) (y0 y1 y2 y3 : Int32) (h0 : Heap) (n0 : Nat) (Z0 : n0 ≤ h0.size) (O1 : Old Z n0 h0) (V1 : Arv Z h0 r kr .byte (4 : Int32) [(.int (y0.toInt8.toInt32)), (.int (y1.toInt8.toInt32)), (.int (y2.toInt8.toInt32)), (.int (y3.toInt8.toInt32))] (.int (0 : Int32))) (hxf : xf.isRef = true) (SF : Sta Z Z.heap "jdk/internal/util/Preconditions" "SIOOBE_FORMATTER" "Ljava/util/function/BiFunction;" xf) (nc1 : nar .char y1 = y1) (hs : ¬ 255 < y1) :
    Con l Z (⟨"java/lang/StringLatin1", "charAt", "([BI)C"⟩ : MethodName) jdk_43_method_2_code 2 (some .char) ({ frames := 2, cells := 0, slots := 0, locals := 27 } : Room) [(.ref r), (.int (1 : Int32))] h0 (Ret (some (.int y1)) h0) := by
  refine OwnGo.Con.of (plainFor_of_name own_pn4) (Ls0 := #[.val (.ref r), .val (.int (1 : Int32))]) (fun m => own_ef_rmLCA1 m r (1 : Int32)) ?_
  intro p e s m below meth c T0 X0 hx hZ hby hml hown hnm hret hlk e0
  show Go p e below _ T0 (mkF m 0 #[.val (.ref r), .val (.int (1 : Int32))] [])
  refine OwnGo.iloadN X0 hx (hb hby d23_0) rfl ?_
  show Go p e below _ T0 (mkF m 1 #[.val (.ref r), .val (.int (1 : Int32))] [(.int (1 : Int32))])
  refine OwnGo.aloadN X0 hx (hb hby d23_1) rfl rfl ?_
  show Go p e below _ T0 (mkF m 2 #[.val (.ref r), .val (.int (1 : Int32))] [(.ref r), (.int (1 : Int32))])
  obtain ⟨cl1, Ar1, -, Sz1, Nn1, -, -⟩ := (id V1)
  refine OwnGo.arraylength X0 hx hZ e0 Ar1 (len_of Sz1 Nn1) (hb hby d23_2) ?_
  show Go p e below _ T0 (mkF m 3 #[.val (.ref r), .val (.int (1 : Int32))] [(.int (4 : Int32)), (.int (1 : Int32))])
  refine OwnGo.callS X0 hx hZ hown (y := (⟨"java/lang/String", "checkIndex", "(II)V"⟩ : MethodName)) (hw _ (List.mem_of_getElem? (i := 95) rfl)) (hw _ (List.mem_of_getElem? (i := 84) rfl)) (hw _ (List.mem_of_getElem? (i := 8) rfl)) (hw _ (List.mem_of_getElem? (i := 85) rfl)) (by decide) e0 (as := [(.int (1 : Int32)), (.int (4 : Int32))]) (rmCIX1 l Z a0 hw xf h0 n0 Z0 O1 hxf SF) (W := 0) (by decide) (by decide) (by decide) (by decide) (by rw [hml]; rfl) (lenOf own_pd10 rfl) (rest := []) rfl rfl (hb hby d23_3) fun v2 T2 L2 X2 q2 => ?_
  obtain ⟨rfl, e2, rfl⟩ := q2
  rw [List.append_nil] at X2
  show Go p e below _ T2 (mkF m 6 #[.val (.ref r), .val (.int (1 : Int32))] [])
  refine OwnGo.aloadN X2 hx (hb hby d23_6) rfl rfl ?_
  show Go p e below _ T2 (mkF m 7 #[.val (.ref r), .val (.int (1 : Int32))] [(.ref r)])
  refine OwnGo.iloadN X2 hx (hb hby d23_7) rfl ?_
  show Go p e below _ T2 (mkF m 8 #[.val (.ref r), .val (.int (1 : Int32))] [(.int (1 : Int32)), (.ref r)])
  obtain ⟨cl3, Ar3, Kq3, Sz3, Nn3, Hh3, Gg3⟩ := (id V1)
  have hin3 : ¬ ((1 : Int32) < 0 ∨ cl3.slots.size ≤ ((1 : Int32)).toNatClampNeg) := inb_of Sz3 ⟨by decide, by decide⟩
  refine OwnGo.baload X2 hx hZ e2 Ar3 hin3 (Has.at Hh3 hin3 (v := (.int (y1.toInt8.toInt32))) rfl) (hb hby d23_8) ?_
  show Go p e below _ T2 (mkF m 9 #[.val (.ref r), .val (.int (1 : Int32))] [(.int (y1.toInt8.toInt32))])
  refine OwnGo.sipush X2 hx (z := (255 : Int32)) (hb hby d23_9) (by decide) ?_
  show Go p e below _ T2 (mkF m 12 #[.val (.ref r), .val (.int (1 : Int32))] [(.int (255 : Int32)), (.int (y1.toInt8.toInt32))])
  refine OwnGo.iand X2 hx (hb hby d23_12) rfl ?_
  show Go p e below _ T2 (mkF m 13 #[.val (.ref r), .val (.int (1 : Int32))] [(.int ((y1.toInt8.toInt32) &&& (255 : Int32)))])
  refine OwnGo.i2c X2 hx (hb hby d23_13) rfl ?_
  show Go p e below _ T2 (mkF m 14 #[.val (.ref r), .val (.int (1 : Int32))] [(.int (((y1.toInt8.toInt32) &&& (255 : Int32)).toUInt32.toUInt16.toUInt32.toInt32))])
  exact OwnGo.retC X2 hx hlk (z' := y1) hret (hb hby d23_14) (own_lc nc1 hs) ⟨rfl, e2, rfl⟩ (by decide) (by decide)
theorem own_ef_rmUIX1 (m : MethodId) (x0 : Int32) (x1 : Addr) : entryFrame m [(.int x0), (.ref x1)].toArray 2 = mkF m 0 #[.val (.int x0), .val (.ref x1)] [] := by first | (simp [entryFrame, mkF, argsToLocals, Value.category]; done) | rfl
set_option maxRecDepth 65536 in
set_option maxHeartbeats 40000000 in
theorem rmUIX1 (l : Launch) (Z : State) (a0 : Array Value) (hw : ∀ d ∈ tables_1, d.before a0 Z = true) (r : Addr) (kr : ClassId) (xf : Value) (y0 y1 y2 y3 : Int32) (h0 : Heap) (n0 : Nat) (Z0 : n0 ≤ h0.size) (O1 : Old Z n0 h0) (V1 : Arv Z h0 r kr .byte (8 : Int32) [(.int ((y0 >>> ((0 : Int32) &&& 31)).toInt8.toInt32)), (.int ((y0 >>> ((8 : Int32) &&& 31)).toInt8.toInt32)), (.int ((y1 >>> ((0 : Int32) &&& 31)).toInt8.toInt32)), (.int ((y1 >>> ((8 : Int32) &&& 31)).toInt8.toInt32)), (.int ((y2 >>> ((0 : Int32) &&& 31)).toInt8.toInt32)), (.int ((y2 >>> ((8 : Int32) &&& 31)).toInt8.toInt32)), (.int ((y3 >>> ((0 : Int32) &&& 31)).toInt8.toInt32)), (.int ((y3 >>> ((8 : Int32) &&& 31)).toInt8.toInt32))] (.int (0 : Int32))) (hxf : xf.isRef = true) (SF : Sta Z Z.heap "jdk/internal/util/Preconditions" "SIOOBE_FORMATTER" "Ljava/util/function/BiFunction;" xf) :
    Con l Z (⟨"java/lang/StringUTF16", "checkIndex", "(I[B)V"⟩ : MethodName) jdk_52_method_91_code 2 none ({ frames := 2, cells := 0, slots := 0, locals := 27 } : Room) [(.int (1 : Int32)), (.ref r)] h0 (Ret none h0) := by
  refine OwnGo.Con.of (plainFor_of_name own_pn1) (Ls0 := #[.val (.int (1 : Int32)), .val (.ref r)]) (fun m => own_ef_rmUIX1 m (1 : Int32) r) ?_
  intro p e s m below meth c T0 X0 hx hZ hby hml hown hnm hret hlk e0
  show Go p e below _ T0 (mkF m 0 #[.val (.int (1 : Int32)), .val (.ref r)] [])
  refine OwnGo.iloadN X0 hx (hb hby d19_0) rfl ?_
  show Go p e below _ T0 (mkF m 1 #[.val (.int (1 : Int32)), .val (.ref r)] [(.int (1 : Int32))])
  refine OwnGo.aloadN X0 hx (hb hby d19_1) rfl rfl ?_
  show Go p e below _ T0 (mkF m 2 #[.val (.int (1 : Int32)), .val (.ref r)] [(.ref r), (.int (1 : Int32))])
  refine OwnGo.callS X0 hx hZ hown (y := (⟨"java/lang/StringUTF16", "length", "([B)I"⟩ : MethodName)) (hw _ (List.mem_of_getElem? (i := 80) rfl)) (hw _ (List.mem_of_getElem? (i := 81) rfl)) (hw _ (List.mem_of_getElem? (i := 22) rfl)) (hw _ (List.mem_of_getElem? (i := 82) rfl)) (by decide) e0 (as := [(.ref r)]) (rmULN l Z a0 hw r kr y0 y1 y2 y3 h0 V1) (W := 1) (by decide) (by decide) (by decide) (by decide) (by rw [hml]; rfl) (lenOf own_pd11 rfl) (rest := [(.int (1 : Int32))]) rfl rfl (hb hby d19_2) fun v1 T1 L1 X1 q1 => ?_
  obtain ⟨rfl, e1, rfl⟩ := q1
  rw [List.append_nil] at X1
  show Go p e below _ T1 (mkF m 5 #[.val (.int (1 : Int32)), .val (.ref r)] [(.int (4 : Int32)), (.int (1 : Int32))])
  refine OwnGo.callS X1 hx hZ hown (y := (⟨"java/lang/String", "checkIndex", "(II)V"⟩ : MethodName)) (hw _ (List.mem_of_getElem? (i := 83) rfl)) (hw _ (List.mem_of_getElem? (i := 84) rfl)) (hw _ (List.mem_of_getElem? (i := 8) rfl)) (hw _ (List.mem_of_getElem? (i := 85) rfl)) (by decide) e1 (as := [(.int (1 : Int32)), (.int (4 : Int32))]) (rmCIX1 l Z a0 hw xf h0 n0 Z0 O1 hxf SF) (W := 0) (by decide) (by decide) (by decide) (by decide) (by rw [hml]; rfl) (lenOf own_pd10 rfl) (rest := []) rfl rfl (hb hby d19_5) fun v2 T2 L2 X2 q2 => ?_
  obtain ⟨rfl, e2, rfl⟩ := q2
  rw [List.append_nil] at X2
  show Go p e below _ T2 (mkF m 8 #[.val (.int (1 : Int32)), .val (.ref r)] [])
  exact OwnGo.retV X2 hx hlk hret (hb hby d19_8) ⟨rfl, e2, rfl⟩ (by decide) (by decide)
theorem own_ef_rmUCA1 (m : MethodId) (x0 : Addr) (x1 : Int32) : entryFrame m [(.ref x0), (.int x1)].toArray 2 = mkF m 0 #[.val (.ref x0), .val (.int x1)] [] := by first | (simp [entryFrame, mkF, argsToLocals, Value.category]; done) | rfl
set_option maxRecDepth 65536 in
set_option maxHeartbeats 40000000 in
theorem rmUCA1 (l : Launch) (Z : State) (a0 : Array Value) (hw : ∀ d ∈ tables_1, d.before a0 Z = true) (r : Addr) (kr : ClassId) (xf : Value) (y0 y1 y2 y3 : Int32) (h0 : Heap) (n0 : Nat) (Z0 : n0 ≤ h0.size) (O1 : Old Z n0 h0) (V1 : Arv Z h0 r kr .byte (8 : Int32) [(.int ((y0 >>> ((0 : Int32) &&& 31)).toInt8.toInt32)), (.int ((y0 >>> ((8 : Int32) &&& 31)).toInt8.toInt32)), (.int ((y1 >>> ((0 : Int32) &&& 31)).toInt8.toInt32)), (.int ((y1 >>> ((8 : Int32) &&& 31)).toInt8.toInt32)), (.int ((y2 >>> ((0 : Int32) &&& 31)).toInt8.toInt32)), (.int ((y2 >>> ((8 : Int32) &&& 31)).toInt8.toInt32)), (.int ((y3 >>> ((0 : Int32) &&& 31)).toInt8.toInt32)), (.int ((y3 >>> ((8 : Int32) &&& 31)).toInt8.toInt32))] (.int (0 : Int32))) (hxf : xf.isRef = true) (SF : Sta Z Z.heap "jdk/internal/util/Preconditions" "SIOOBE_FORMATTER" "Ljava/util/function/BiFunction;" xf) (SA : Sta Z Z.heap "java/lang/StringUTF16" "$assertionsDisabled" "Z" (.int (1 : Int32))) (SH : Sta Z Z.heap "java/lang/StringUTF16" "HI_BYTE_SHIFT" "I" (.int (0 : Int32))) (SLo : Sta Z Z.heap "java/lang/StringUTF16" "LO_BYTE_SHIFT" "I" (.int (8 : Int32))) (nc1 : nar .char y1 = y1) :
    Con l Z (⟨"java/lang/StringUTF16", "charAt", "([BI)C"⟩ : MethodName) jdk_52_method_83_code 2 (some .char) ({ frames := 3, cells := 0, slots := 0, locals := 40 } : Room) [(.ref r), (.int (1 : Int32))] h0 (Ret (some (.int y1)) h0) := by
  refine OwnGo.Con.of (plainFor_of_name own_pn1) (Ls0 := #[.val (.ref r), .val (.int (1 : Int32))]) (fun m => own_ef_rmUCA1 m r (1 : Int32)) ?_
  intro p e s m below meth c T0 X0 hx hZ hby hml hown hnm hret hlk e0
  show Go p e below _ T0 (mkF m 0 #[.val (.ref r), .val (.int (1 : Int32))] [])
  refine OwnGo.iloadN X0 hx (hb hby d18_0) rfl ?_
  show Go p e below _ T0 (mkF m 1 #[.val (.ref r), .val (.int (1 : Int32))] [(.int (1 : Int32))])
  refine OwnGo.aloadN X0 hx (hb hby d18_1) rfl rfl ?_
  show Go p e below _ T0 (mkF m 2 #[.val (.ref r), .val (.int (1 : Int32))] [(.ref r), (.int (1 : Int32))])
  refine OwnGo.callS X0 hx hZ hown (y := (⟨"java/lang/StringUTF16", "checkIndex", "(I[B)V"⟩ : MethodName)) (hw _ (List.mem_of_getElem? (i := 77) rfl)) (hw _ (List.mem_of_getElem? (i := 78) rfl)) (hw _ (List.mem_of_getElem? (i := 22) rfl)) (hw _ (List.mem_of_getElem? (i := 79) rfl)) (by decide) e0 (as := [(.int (1 : Int32)), (.ref r)]) (rmUIX1 l Z a0 hw r kr xf y0 y1 y2 y3 h0 n0 Z0 O1 V1 hxf SF) (W := 0) (by decide) (by decide) (by decide) (by decide) (by rw [hml]; rfl) (lenOf own_pd12 rfl) (rest := []) rfl rfl (hb hby d18_2) fun v1 T1 L1 X1 q1 => ?_
  obtain ⟨rfl, e1, rfl⟩ := q1
  rw [List.append_nil] at X1
  show Go p e below _ T1 (mkF m 5 #[.val (.ref r), .val (.int (1 : Int32))] [])
  refine OwnGo.aloadN X1 hx (hb hby d18_5) rfl rfl ?_
  show Go p e below _ T1 (mkF m 6 #[.val (.ref r), .val (.int (1 : Int32))] [(.ref r)])
  refine OwnGo.iloadN X1 hx (hb hby d18_6) rfl ?_
  show Go p e below _ T1 (mkF m 7 #[.val (.ref r), .val (.int (1 : Int32))] [(.int (1 : Int32)), (.ref r)])
  refine OwnGo.callS X1 hx hZ hown (y := (⟨"java/lang/StringUTF16", "getChar", "([BI)C"⟩ : MethodName)) (hw _ (List.mem_of_getElem? (i := 58) rfl)) (hw _ (List.mem_of_getElem? (i := 59) rfl)) (hw _ (List.mem_of_getElem? (i := 22) rfl)) (hw _ (List.mem_of_getElem? (i := 60) rfl)) (by decide) e1 (as := [(.ref r), (.int (1 : Int32))]) (rmGCH1 l Z a0 hw r kr y0 y1 y2 y3 h0 n0 Z0 O1 V1 SA SH SLo nc1) (W := 0) (by decide) (by decide) (by decide) (by decide) (by rw [hml]; rfl) (lenOf own_pd6 rfl) (rest := []) rfl rfl (hb hby d18_7) fun v2 T2 L2 X2 q2 => ?_
  obtain ⟨rfl, e2, rfl⟩ := q2
  rw [List.append_nil] at X2
  show Go p e below _ T2 (mkF m 10 #[.val (.ref r), .val (.int (1 : Int32))] [(.int y1)])
  exact OwnGo.retC X2 hx hlk (z' := y1) hret (hb hby d18_10) nc1 ⟨rfl, e2, rfl⟩ (by decide) (by decide)
theorem own_ef_rmCHAL1 (m : MethodId) (x0 : Addr) (x1 : Int32) : entryFrame m [(.ref x0), (.int x1)].toArray 2 = mkF m 0 #[.val (.ref x0), .val (.int x1)] [] := by first | (simp [entryFrame, mkF, argsToLocals, Value.category]; done) | rfl
set_option maxRecDepth 65536 in
set_option maxHeartbeats 40000000 in
theorem rmCHAL1 (l : Launch) (Z : State) (a0 : Array Value) (hw : ∀ d ∈ tables_1, d.before a0 Z = true) (a1 r : Addr) (kr : ClassId) (xf : Value) (pz : Int32) (y0 y1 y2 y3 : Int32) (h0 : Heap) (n0 : Nat) (Z0 : n0 ≤ h0.size) (O1 : Old Z n0 h0) (E1 : Exa Z h0 a1 "java/lang/String") (F1 : Fld Z h0 a1 "java/lang/String" "coder" "B" (.int (0 : Int32))) (F2 : Fld Z h0 a1 "java/lang/String" "value" "[B" (.ref r)) (V1 : Arv Z h0 r kr .byte (4 : Int32) [(.int (y0.toInt8.toInt32)), (.int (y1.toInt8.toInt32)), (.int (y2.toInt8.toInt32)), (.int (y3.toInt8.toInt32))] (.int (0 : Int32))) (hxf : xf.isRef = true) (SF : Sta Z Z.heap "jdk/internal/util/Preconditions" "SIOOBE_FORMATTER" "Ljava/util/function/BiFunction;" xf) (SA : Sta Z Z.heap "java/lang/StringUTF16" "$assertionsDisabled" "Z" (.int (1 : Int32))) (SH : Sta Z Z.heap "java/lang/StringUTF16" "HI_BYTE_SHIFT" "I" (.int (0 : Int32))) (SLo : Sta Z Z.heap "java/lang/StringUTF16" "LO_BYTE_SHIFT" "I" (.int (8 : Int32))) (SC : Sta Z Z.heap "java/lang/String" "COMPACT_STRINGS" "Z" (.int pz)) (hpz : ¬ pz = 0) (nc1 : nar .char y1 = y1) (hs : ¬ 255 < y1) :
    Con l Z (⟨"java/lang/String", "charAt", "(I)C"⟩ : MethodName) jdk_42_method_56_code 2 (some .char) ({ frames := 4, cells := 0, slots := 0, locals := 53 } : Room) [(.ref a1), (.int (1 : Int32))] h0 (Ret (some (.int y1)) h0) := by
  refine OwnGo.Con.of (plainFor_of_name own_pn2) (Ls0 := #[.val (.ref a1), .val (.int (1 : Int32))]) (fun m => own_ef_rmCHAL1 m a1 (1 : Int32)) ?_
  intro p e s m below meth c T0 X0 hx hZ hby hml hown hnm hret hlk e0
  show Go p e below _ T0 (mkF m 0 #[.val (.ref a1), .val (.int (1 : Int32))] [])
  refine OwnGo.aloadN X0 hx (hb hby d16_0) rfl rfl ?_
  show Go p e below _ T0 (mkF m 1 #[.val (.ref a1), .val (.int (1 : Int32))] [(.ref a1)])
  refine OwnGo.callV X0 hx hZ hown (y := (⟨"java/lang/String", "isLatin1", "()Z"⟩ : MethodName)) (z := (⟨"java/lang/String", "isLatin1", "()Z"⟩ : MethodName)) (hw _ (List.mem_of_getElem? (i := 69) rfl)) (hw _ (List.mem_of_getElem? (i := 70) rfl)) (notFace_of_selects (args := #[]) (mvT hZ (hw _ (List.mem_of_getElem? (i := 72) rfl)))) (hw _ (List.mem_of_getElem? (i := 72) rfl)) (hw _ (List.mem_of_getElem? (i := 71) rfl)) (hw _ (List.mem_of_getElem? (i := 8) rfl)) (hw _ (List.mem_of_getElem? (i := 73) rfl)) (by decide) e0 E1 (as := []) (rmISLL l Z a0 hw a1 pz h0 n0 Z0 O1 F1 SC hpz) (W := 0) (by decide) (by decide) (by decide) (by decide) (by rw [hml]; rfl) (lenOf own_pd13 rfl) (rest := []) rfl rfl (hb hby d16_1) fun v1 T1 L1 X1 q1 => ?_
  obtain ⟨rfl, e1, rfl⟩ := q1
  rw [List.append_nil] at X1
  show Go p e below _ T1 (mkF m 4 #[.val (.ref a1), .val (.int (1 : Int32))] [(.int (1 : Int32))])
  refine OwnGo.if_eq X1 hx (pc' := 16) (hb hby d16_4) (by decide) (by decide) (fun q => absurd q (by decide)) (fun _ => ?_)
  show Go p e below _ T1 (mkF m 7 #[.val (.ref a1), .val (.int (1 : Int32))] [])
  refine OwnGo.aloadN X1 hx (hb hby d16_7) rfl rfl ?_
  show Go p e below _ T1 (mkF m 8 #[.val (.ref a1), .val (.int (1 : Int32))] [(.ref a1)])
  refine OwnGo.getF X1 hx hZ hown (host := "") (Or.inl (hw _ (List.mem_of_getElem? (i := 33) rfl))) Via.refl e1 F2 (hb hby d16_8) fun T2 X2 e2 => ?_
  show Go p e below _ T2 (mkF m 11 #[.val (.ref a1), .val (.int (1 : Int32))] [(.ref r)])
  refine OwnGo.iloadN X2 hx (hb hby d16_11) rfl ?_
  show Go p e below _ T2 (mkF m 12 #[.val (.ref a1), .val (.int (1 : Int32))] [(.int (1 : Int32)), (.ref r)])
  refine OwnGo.callS X2 hx hZ hown (y := (⟨"java/lang/StringLatin1", "charAt", "([BI)C"⟩ : MethodName)) (hw _ (List.mem_of_getElem? (i := 91) rfl)) (hw _ (List.mem_of_getElem? (i := 92) rfl)) (hw _ (List.mem_of_getElem? (i := 93) rfl)) (hw _ (List.mem_of_getElem? (i := 94) rfl)) (by decide) e2 (as := [(.ref r), (.int (1 : Int32))]) (rmLCA1 l Z a0 hw r kr xf y0 y1 y2 y3 h0 n0 Z0 O1 V1 hxf SF nc1 hs) (W := 0) (by decide) (by decide) (by decide) (by decide) (by rw [hml]; rfl) (lenOf own_pd6 rfl) (rest := []) rfl rfl (hb hby d16_12) fun v3 T3 L3 X3 q3 => ?_
  obtain ⟨rfl, e3, rfl⟩ := q3
  rw [List.append_nil] at X3
  show Go p e below _ T3 (mkF m 15 #[.val (.ref a1), .val (.int (1 : Int32))] [(.int y1)])
  exact OwnGo.retC X3 hx hlk (z' := y1) hret (hb hby d16_15) nc1 ⟨rfl, e3, rfl⟩ (by decide) (by decide)
theorem own_ef_rmCHAU1 (m : MethodId) (x0 : Addr) (x1 : Int32) : entryFrame m [(.ref x0), (.int x1)].toArray 2 = mkF m 0 #[.val (.ref x0), .val (.int x1)] [] := by first | (simp [entryFrame, mkF, argsToLocals, Value.category]; done) | rfl
set_option maxRecDepth 65536 in
set_option maxHeartbeats 40000000 in
theorem rmCHAU1 (l : Launch) (Z : State) (a0 : Array Value) (hw : ∀ d ∈ tables_1, d.before a0 Z = true) (a1 r : Addr) (kr : ClassId) (xf : Value) (pz : Int32) (y0 y1 y2 y3 : Int32) (h0 : Heap) (n0 : Nat) (Z0 : n0 ≤ h0.size) (O1 : Old Z n0 h0) (E1 : Exa Z h0 a1 "java/lang/String") (F1 : Fld Z h0 a1 "java/lang/String" "coder" "B" (.int (1 : Int32))) (F2 : Fld Z h0 a1 "java/lang/String" "value" "[B" (.ref r)) (V1 : Arv Z h0 r kr .byte (8 : Int32) [(.int ((y0 >>> ((0 : Int32) &&& 31)).toInt8.toInt32)), (.int ((y0 >>> ((8 : Int32) &&& 31)).toInt8.toInt32)), (.int ((y1 >>> ((0 : Int32) &&& 31)).toInt8.toInt32)), (.int ((y1 >>> ((8 : Int32) &&& 31)).toInt8.toInt32)), (.int ((y2 >>> ((0 : Int32) &&& 31)).toInt8.toInt32)), (.int ((y2 >>> ((8 : Int32) &&& 31)).toInt8.toInt32)), (.int ((y3 >>> ((0 : Int32) &&& 31)).toInt8.toInt32)), (.int ((y3 >>> ((8 : Int32) &&& 31)).toInt8.toInt32))] (.int (0 : Int32))) (hxf : xf.isRef = true) (SF : Sta Z Z.heap "jdk/internal/util/Preconditions" "SIOOBE_FORMATTER" "Ljava/util/function/BiFunction;" xf) (SA : Sta Z Z.heap "java/lang/StringUTF16" "$assertionsDisabled" "Z" (.int (1 : Int32))) (SH : Sta Z Z.heap "java/lang/StringUTF16" "HI_BYTE_SHIFT" "I" (.int (0 : Int32))) (SLo : Sta Z Z.heap "java/lang/StringUTF16" "LO_BYTE_SHIFT" "I" (.int (8 : Int32))) (SC : Sta Z Z.heap "java/lang/String" "COMPACT_STRINGS" "Z" (.int pz)) (hpz : ¬ pz = 0) (nc1 : nar .char y1 = y1) :
    Con l Z (⟨"java/lang/String", "charAt", "(I)C"⟩ : MethodName) jdk_42_method_56_code 2 (some .char) ({ frames := 4, cells := 0, slots := 0, locals := 53 } : Room) [(.ref a1), (.int (1 : Int32))] h0 (Ret (some (.int y1)) h0) := by
  refine OwnGo.Con.of (plainFor_of_name own_pn2) (Ls0 := #[.val (.ref a1), .val (.int (1 : Int32))]) (fun m => own_ef_rmCHAU1 m a1 (1 : Int32)) ?_
  intro p e s m below meth c T0 X0 hx hZ hby hml hown hnm hret hlk e0
  show Go p e below _ T0 (mkF m 0 #[.val (.ref a1), .val (.int (1 : Int32))] [])
  refine OwnGo.aloadN X0 hx (hb hby d16_0) rfl rfl ?_
  show Go p e below _ T0 (mkF m 1 #[.val (.ref a1), .val (.int (1 : Int32))] [(.ref a1)])
  refine OwnGo.callV X0 hx hZ hown (y := (⟨"java/lang/String", "isLatin1", "()Z"⟩ : MethodName)) (z := (⟨"java/lang/String", "isLatin1", "()Z"⟩ : MethodName)) (hw _ (List.mem_of_getElem? (i := 69) rfl)) (hw _ (List.mem_of_getElem? (i := 70) rfl)) (notFace_of_selects (args := #[]) (mvT hZ (hw _ (List.mem_of_getElem? (i := 72) rfl)))) (hw _ (List.mem_of_getElem? (i := 72) rfl)) (hw _ (List.mem_of_getElem? (i := 71) rfl)) (hw _ (List.mem_of_getElem? (i := 8) rfl)) (hw _ (List.mem_of_getElem? (i := 73) rfl)) (by decide) e0 E1 (as := []) (rmISLU l Z a0 hw a1 pz h0 n0 Z0 O1 F1 SC hpz) (W := 0) (by decide) (by decide) (by decide) (by decide) (by rw [hml]; rfl) (lenOf own_pd13 rfl) (rest := []) rfl rfl (hb hby d16_1) fun v1 T1 L1 X1 q1 => ?_
  obtain ⟨rfl, e1, rfl⟩ := q1
  rw [List.append_nil] at X1
  show Go p e below _ T1 (mkF m 4 #[.val (.ref a1), .val (.int (1 : Int32))] [(.int (0 : Int32))])
  refine OwnGo.if_eq X1 hx (pc' := 16) (hb hby d16_4) (by decide) (by decide) (fun _ => ?_) (fun q => absurd q (by decide))
  show Go p e below _ T1 (mkF m 16 #[.val (.ref a1), .val (.int (1 : Int32))] [])
  refine OwnGo.aloadN X1 hx (hb hby d16_16) rfl rfl ?_
  show Go p e below _ T1 (mkF m 17 #[.val (.ref a1), .val (.int (1 : Int32))] [(.ref a1)])
  refine OwnGo.getF X1 hx hZ hown (host := "") (Or.inl (hw _ (List.mem_of_getElem? (i := 33) rfl))) Via.refl e1 F2 (hb hby d16_17) fun T2 X2 e2 => ?_
  show Go p e below _ T2 (mkF m 20 #[.val (.ref a1), .val (.int (1 : Int32))] [(.ref r)])
  refine OwnGo.iloadN X2 hx (hb hby d16_20) rfl ?_
  show Go p e below _ T2 (mkF m 21 #[.val (.ref a1), .val (.int (1 : Int32))] [(.int (1 : Int32)), (.ref r)])
  refine OwnGo.callS X2 hx hZ hown (y := (⟨"java/lang/StringUTF16", "charAt", "([BI)C"⟩ : MethodName)) (hw _ (List.mem_of_getElem? (i := 74) rfl)) (hw _ (List.mem_of_getElem? (i := 75) rfl)) (hw _ (List.mem_of_getElem? (i := 22) rfl)) (hw _ (List.mem_of_getElem? (i := 76) rfl)) (by decide) e2 (as := [(.ref r), (.int (1 : Int32))]) (rmUCA1 l Z a0 hw r kr xf y0 y1 y2 y3 h0 n0 Z0 O1 V1 hxf SF SA SH SLo nc1) (W := 0) (by decide) (by decide) (by decide) (by decide) (by rw [hml]; rfl) (lenOf own_pd6 rfl) (rest := []) rfl rfl (hb hby d16_21) fun v3 T3 L3 X3 q3 => ?_
  obtain ⟨rfl, e3, rfl⟩ := q3
  rw [List.append_nil] at X3
  show Go p e below _ T3 (mkF m 24 #[.val (.ref a1), .val (.int (1 : Int32))] [(.int y1)])
  exact OwnGo.retC X3 hx hlk (z' := y1) hret (hb hby d16_24) nc1 ⟨rfl, e3, rfl⟩ (by decide) (by decide)
theorem own_ef_rmPIX2 (m : MethodId) (x0 : Int32) (x1 : Int32) (x2 : Value) (hx2 : x2.isRef = true) : entryFrame m [(.int x0), (.int x1), x2].toArray 3 = mkF m 0 #[.val (.int x0), .val (.int x1), .val x2] [] := by rcases ref_cases hx2 with rfl | ⟨_, rfl⟩ <;> first | (simp [entryFrame, mkF, argsToLocals, Value.category]; done) | rfl
set_option maxRecDepth 65536 in
set_option maxHeartbeats 40000000 in
theorem rmPIX2 (l : Launch) (Z : State) (a0 : Array Value) (hw : ∀ d ∈ tables_1, d.before a0 Z = true) (xf : Value) (h0 : Heap) (hxf : xf.isRef = true) :
    Con l Z (⟨"jdk/internal/util/Preconditions", "checkIndex", "(IILjava/util/function/BiFunction;)I"⟩ : MethodName) jdk_41_method_11_code 3 (some .int) ({ frames := 0, cells := 0, slots := 0, locals := 0 } : Room) [(.int (2 : Int32)), (.int (4 : Int32)), xf] h0 (Ret (some (.int 2)) h0) := by
  refine OwnGo.Con.of (plainFor_of_name own_pn3) (Ls0 := #[.val (.int (2 : Int32)), .val (.int (4 : Int32)), .val xf]) (fun m => own_ef_rmPIX2 m (2 : Int32) (4 : Int32) xf hxf) ?_
  intro p e s m below meth c T0 X0 hx hZ hby hml hown hnm hret hlk e0
  show Go p e below _ T0 (mkF m 0 #[.val (.int (2 : Int32)), .val (.int (4 : Int32)), .val xf] [])
  refine OwnGo.iloadN X0 hx (hb hby d22_0) rfl ?_
  show Go p e below _ T0 (mkF m 1 #[.val (.int (2 : Int32)), .val (.int (4 : Int32)), .val xf] [(.int (2 : Int32))])
  refine OwnGo.if_lt X0 hx (pc' := 9) (hb hby d22_1) (by decide) (by decide) (fun q => absurd q (by decide)) (fun _ => ?_)
  show Go p e below _ T0 (mkF m 4 #[.val (.int (2 : Int32)), .val (.int (4 : Int32)), .val xf] [])
  refine OwnGo.iloadN X0 hx (hb hby d22_4) rfl ?_
  show Go p e below _ T0 (mkF m 5 #[.val (.int (2 : Int32)), .val (.int (4 : Int32)), .val xf] [(.int (2 : Int32))])
  refine OwnGo.iloadN X0 hx (hb hby d22_5) rfl ?_
  show Go p e below _ T0 (mkF m 6 #[.val (.int (2 : Int32)), .val (.int (4 : Int32)), .val xf] [(.int (4 : Int32)), (.int (2 : Int32))])
  refine OwnGo.ic_lt X0 hx (pc' := 16) (hb hby d22_6) (by decide) (by decide) (fun _ => ?_) (fun q => absurd q (by decide))
  show Go p e below _ T0 (mkF m 16 #[.val (.int (2 : Int32)), .val (.int (4 : Int32)), .val xf] [])
  refine OwnGo.iloadN X0 hx (hb hby d22_16) rfl ?_
  show Go p e below _ T0 (mkF m 17 #[.val (.int (2 : Int32)), .val (.int (4 : Int32)), .val xf] [(.int (2 : Int32))])
  exact OwnGo.retI X0 hx hlk hret (hb hby d22_17) ⟨rfl, e0, rfl⟩ (by decide) (by decide)
theorem own_ef_rmCIX2 (m : MethodId) (x0 : Int32) (x1 : Int32) : entryFrame m [(.int x0), (.int x1)].toArray 2 = mkF m 0 #[.val (.int x0), .val (.int x1)] [] := by first | (simp [entryFrame, mkF, argsToLocals, Value.category]; done) | rfl
set_option maxRecDepth 65536 in
set_option maxHeartbeats 40000000 in
theorem rmCIX2 (l : Launch) (Z : State) (a0 : Array Value) (hw : ∀ d ∈ tables_1, d.before a0 Z = true) (xf : Value) (h0 : Heap) (n0 : Nat) (Z0 : n0 ≤ h0.size) (O1 : Old Z n0 h0) (hxf : xf.isRef = true) (SF : Sta Z Z.heap "jdk/internal/util/Preconditions" "SIOOBE_FORMATTER" "Ljava/util/function/BiFunction;" xf) :
    Con l Z (⟨"java/lang/String", "checkIndex", "(II)V"⟩ : MethodName) jdk_42_method_155_code 2 none ({ frames := 1, cells := 0, slots := 0, locals := 14 } : Room) [(.int (2 : Int32)), (.int (4 : Int32))] h0 (Ret none h0) := by
  refine OwnGo.Con.of (plainFor_of_name own_pn2) (Ls0 := #[.val (.int (2 : Int32)), .val (.int (4 : Int32))]) (fun m => own_ef_rmCIX2 m (2 : Int32) (4 : Int32)) ?_
  intro p e s m below meth c T0 X0 hx hZ hby hml hown hnm hret hlk e0
  show Go p e below _ T0 (mkF m 0 #[.val (.int (2 : Int32)), .val (.int (4 : Int32))] [])
  refine OwnGo.iloadN X0 hx (hb hby d21_0) rfl ?_
  show Go p e below _ T0 (mkF m 1 #[.val (.int (2 : Int32)), .val (.int (4 : Int32))] [(.int (2 : Int32))])
  refine OwnGo.iloadN X0 hx (hb hby d21_1) rfl ?_
  show Go p e below _ T0 (mkF m 2 #[.val (.int (2 : Int32)), .val (.int (4 : Int32))] [(.int (4 : Int32)), (.int (2 : Int32))])
  refine OwnGo.getS X0 hx hZ hown (host := "") (Or.inl (hw _ (List.mem_of_getElem? (i := 86) rfl))) Via.refl e0 (SF.ext O1.2) (hb hby d21_2) fun T1 X1 e1 => ?_
  show Go p e below _ T1 (mkF m 5 #[.val (.int (2 : Int32)), .val (.int (4 : Int32))] [xf, (.int (4 : Int32)), (.int (2 : Int32))])
  refine OwnGo.callS X1 hx hZ hown (y := (⟨"jdk/internal/util/Preconditions", "checkIndex", "(IILjava/util/function/BiFunction;)I"⟩ : MethodName)) (hw _ (List.mem_of_getElem? (i := 88) rfl)) (hw _ (List.mem_of_getElem? (i := 89) rfl)) (hw _ (List.mem_of_getElem? (i := 87) rfl)) (hw _ (List.mem_of_getElem? (i := 90) rfl)) (by decide) e1 (as := [(.int (2 : Int32)), (.int (4 : Int32)), xf]) (rmPIX2 l Z a0 hw xf h0 hxf) (W := 0) (by decide) (by decide) (by decide) (by decide) (by rw [hml]; rfl) (lenOf own_pd9 rfl) (rest := []) rfl rfl (hb hby d21_5) fun v2 T2 L2 X2 q2 => ?_
  obtain ⟨rfl, e2, rfl⟩ := q2
  rw [List.append_nil] at X2
  show Go p e below _ T2 (mkF m 8 #[.val (.int (2 : Int32)), .val (.int (4 : Int32))] [(.int (2 : Int32))])
  refine OwnGo.pop X2 hx (hb hby d21_8) rfl ?_
  show Go p e below _ T2 (mkF m 9 #[.val (.int (2 : Int32)), .val (.int (4 : Int32))] [])
  exact OwnGo.retV X2 hx hlk hret (hb hby d21_9) ⟨rfl, e2, rfl⟩ (by decide) (by decide)
theorem own_ef_rmLCA2 (m : MethodId) (x0 : Addr) (x1 : Int32) : entryFrame m [(.ref x0), (.int x1)].toArray 2 = mkF m 0 #[.val (.ref x0), .val (.int x1)] [] := by first | (simp [entryFrame, mkF, argsToLocals, Value.category]; done) | rfl
set_option maxRecDepth 65536 in
set_option maxHeartbeats 40000000 in
theorem rmLCA2 (l : Launch) (Z : State) (a0 : Array Value) (hw : ∀ d ∈ tables_1, d.before a0 Z = true) (r : Addr) (kr : ClassId) (xf : Value) (y0 y1 y2 y3 : Int32) (h0 : Heap) (n0 : Nat) (Z0 : n0 ≤ h0.size) (O1 : Old Z n0 h0) (V1 : Arv Z h0 r kr .byte (4 : Int32) [(.int (y0.toInt8.toInt32)), (.int (y1.toInt8.toInt32)), (.int (y2.toInt8.toInt32)), (.int (y3.toInt8.toInt32))] (.int (0 : Int32))) (hxf : xf.isRef = true) (SF : Sta Z Z.heap "jdk/internal/util/Preconditions" "SIOOBE_FORMATTER" "Ljava/util/function/BiFunction;" xf) (nc2 : nar .char y2 = y2) (hs : ¬ 255 < y2) :
    Con l Z (⟨"java/lang/StringLatin1", "charAt", "([BI)C"⟩ : MethodName) jdk_43_method_2_code 2 (some .char) ({ frames := 2, cells := 0, slots := 0, locals := 27 } : Room) [(.ref r), (.int (2 : Int32))] h0 (Ret (some (.int y2)) h0) := by
  refine OwnGo.Con.of (plainFor_of_name own_pn4) (Ls0 := #[.val (.ref r), .val (.int (2 : Int32))]) (fun m => own_ef_rmLCA2 m r (2 : Int32)) ?_
  intro p e s m below meth c T0 X0 hx hZ hby hml hown hnm hret hlk e0
  show Go p e below _ T0 (mkF m 0 #[.val (.ref r), .val (.int (2 : Int32))] [])
  refine OwnGo.iloadN X0 hx (hb hby d23_0) rfl ?_
  show Go p e below _ T0 (mkF m 1 #[.val (.ref r), .val (.int (2 : Int32))] [(.int (2 : Int32))])
  refine OwnGo.aloadN X0 hx (hb hby d23_1) rfl rfl ?_
  show Go p e below _ T0 (mkF m 2 #[.val (.ref r), .val (.int (2 : Int32))] [(.ref r), (.int (2 : Int32))])
  obtain ⟨cl1, Ar1, -, Sz1, Nn1, -, -⟩ := (id V1)
  refine OwnGo.arraylength X0 hx hZ e0 Ar1 (len_of Sz1 Nn1) (hb hby d23_2) ?_
  show Go p e below _ T0 (mkF m 3 #[.val (.ref r), .val (.int (2 : Int32))] [(.int (4 : Int32)), (.int (2 : Int32))])
  refine OwnGo.callS X0 hx hZ hown (y := (⟨"java/lang/String", "checkIndex", "(II)V"⟩ : MethodName)) (hw _ (List.mem_of_getElem? (i := 95) rfl)) (hw _ (List.mem_of_getElem? (i := 84) rfl)) (hw _ (List.mem_of_getElem? (i := 8) rfl)) (hw _ (List.mem_of_getElem? (i := 85) rfl)) (by decide) e0 (as := [(.int (2 : Int32)), (.int (4 : Int32))]) (rmCIX2 l Z a0 hw xf h0 n0 Z0 O1 hxf SF) (W := 0) (by decide) (by decide) (by decide) (by decide) (by rw [hml]; rfl) (lenOf own_pd10 rfl) (rest := []) rfl rfl (hb hby d23_3) fun v2 T2 L2 X2 q2 => ?_
  obtain ⟨rfl, e2, rfl⟩ := q2
  rw [List.append_nil] at X2
  show Go p e below _ T2 (mkF m 6 #[.val (.ref r), .val (.int (2 : Int32))] [])
  refine OwnGo.aloadN X2 hx (hb hby d23_6) rfl rfl ?_
  show Go p e below _ T2 (mkF m 7 #[.val (.ref r), .val (.int (2 : Int32))] [(.ref r)])
  refine OwnGo.iloadN X2 hx (hb hby d23_7) rfl ?_
  show Go p e below _ T2 (mkF m 8 #[.val (.ref r), .val (.int (2 : Int32))] [(.int (2 : Int32)), (.ref r)])
  obtain ⟨cl3, Ar3, Kq3, Sz3, Nn3, Hh3, Gg3⟩ := (id V1)
  have hin3 : ¬ ((2 : Int32) < 0 ∨ cl3.slots.size ≤ ((2 : Int32)).toNatClampNeg) := inb_of Sz3 ⟨by decide, by decide⟩
  refine OwnGo.baload X2 hx hZ e2 Ar3 hin3 (Has.at Hh3 hin3 (v := (.int (y2.toInt8.toInt32))) rfl) (hb hby d23_8) ?_
  show Go p e below _ T2 (mkF m 9 #[.val (.ref r), .val (.int (2 : Int32))] [(.int (y2.toInt8.toInt32))])
  refine OwnGo.sipush X2 hx (z := (255 : Int32)) (hb hby d23_9) (by decide) ?_
  show Go p e below _ T2 (mkF m 12 #[.val (.ref r), .val (.int (2 : Int32))] [(.int (255 : Int32)), (.int (y2.toInt8.toInt32))])
  refine OwnGo.iand X2 hx (hb hby d23_12) rfl ?_
  show Go p e below _ T2 (mkF m 13 #[.val (.ref r), .val (.int (2 : Int32))] [(.int ((y2.toInt8.toInt32) &&& (255 : Int32)))])
  refine OwnGo.i2c X2 hx (hb hby d23_13) rfl ?_
  show Go p e below _ T2 (mkF m 14 #[.val (.ref r), .val (.int (2 : Int32))] [(.int (((y2.toInt8.toInt32) &&& (255 : Int32)).toUInt32.toUInt16.toUInt32.toInt32))])
  exact OwnGo.retC X2 hx hlk (z' := y2) hret (hb hby d23_14) (own_lc nc2 hs) ⟨rfl, e2, rfl⟩ (by decide) (by decide)
theorem own_ef_rmUIX2 (m : MethodId) (x0 : Int32) (x1 : Addr) : entryFrame m [(.int x0), (.ref x1)].toArray 2 = mkF m 0 #[.val (.int x0), .val (.ref x1)] [] := by first | (simp [entryFrame, mkF, argsToLocals, Value.category]; done) | rfl
set_option maxRecDepth 65536 in
set_option maxHeartbeats 40000000 in
theorem rmUIX2 (l : Launch) (Z : State) (a0 : Array Value) (hw : ∀ d ∈ tables_1, d.before a0 Z = true) (r : Addr) (kr : ClassId) (xf : Value) (y0 y1 y2 y3 : Int32) (h0 : Heap) (n0 : Nat) (Z0 : n0 ≤ h0.size) (O1 : Old Z n0 h0) (V1 : Arv Z h0 r kr .byte (8 : Int32) [(.int ((y0 >>> ((0 : Int32) &&& 31)).toInt8.toInt32)), (.int ((y0 >>> ((8 : Int32) &&& 31)).toInt8.toInt32)), (.int ((y1 >>> ((0 : Int32) &&& 31)).toInt8.toInt32)), (.int ((y1 >>> ((8 : Int32) &&& 31)).toInt8.toInt32)), (.int ((y2 >>> ((0 : Int32) &&& 31)).toInt8.toInt32)), (.int ((y2 >>> ((8 : Int32) &&& 31)).toInt8.toInt32)), (.int ((y3 >>> ((0 : Int32) &&& 31)).toInt8.toInt32)), (.int ((y3 >>> ((8 : Int32) &&& 31)).toInt8.toInt32))] (.int (0 : Int32))) (hxf : xf.isRef = true) (SF : Sta Z Z.heap "jdk/internal/util/Preconditions" "SIOOBE_FORMATTER" "Ljava/util/function/BiFunction;" xf) :
    Con l Z (⟨"java/lang/StringUTF16", "checkIndex", "(I[B)V"⟩ : MethodName) jdk_52_method_91_code 2 none ({ frames := 2, cells := 0, slots := 0, locals := 27 } : Room) [(.int (2 : Int32)), (.ref r)] h0 (Ret none h0) := by
  refine OwnGo.Con.of (plainFor_of_name own_pn1) (Ls0 := #[.val (.int (2 : Int32)), .val (.ref r)]) (fun m => own_ef_rmUIX2 m (2 : Int32) r) ?_
  intro p e s m below meth c T0 X0 hx hZ hby hml hown hnm hret hlk e0
  show Go p e below _ T0 (mkF m 0 #[.val (.int (2 : Int32)), .val (.ref r)] [])
  refine OwnGo.iloadN X0 hx (hb hby d19_0) rfl ?_
  show Go p e below _ T0 (mkF m 1 #[.val (.int (2 : Int32)), .val (.ref r)] [(.int (2 : Int32))])
  refine OwnGo.aloadN X0 hx (hb hby d19_1) rfl rfl ?_
  show Go p e below _ T0 (mkF m 2 #[.val (.int (2 : Int32)), .val (.ref r)] [(.ref r), (.int (2 : Int32))])
  refine OwnGo.callS X0 hx hZ hown (y := (⟨"java/lang/StringUTF16", "length", "([B)I"⟩ : MethodName)) (hw _ (List.mem_of_getElem? (i := 80) rfl)) (hw _ (List.mem_of_getElem? (i := 81) rfl)) (hw _ (List.mem_of_getElem? (i := 22) rfl)) (hw _ (List.mem_of_getElem? (i := 82) rfl)) (by decide) e0 (as := [(.ref r)]) (rmULN l Z a0 hw r kr y0 y1 y2 y3 h0 V1) (W := 1) (by decide) (by decide) (by decide) (by decide) (by rw [hml]; rfl) (lenOf own_pd11 rfl) (rest := [(.int (2 : Int32))]) rfl rfl (hb hby d19_2) fun v1 T1 L1 X1 q1 => ?_
  obtain ⟨rfl, e1, rfl⟩ := q1
  rw [List.append_nil] at X1
  show Go p e below _ T1 (mkF m 5 #[.val (.int (2 : Int32)), .val (.ref r)] [(.int (4 : Int32)), (.int (2 : Int32))])
  refine OwnGo.callS X1 hx hZ hown (y := (⟨"java/lang/String", "checkIndex", "(II)V"⟩ : MethodName)) (hw _ (List.mem_of_getElem? (i := 83) rfl)) (hw _ (List.mem_of_getElem? (i := 84) rfl)) (hw _ (List.mem_of_getElem? (i := 8) rfl)) (hw _ (List.mem_of_getElem? (i := 85) rfl)) (by decide) e1 (as := [(.int (2 : Int32)), (.int (4 : Int32))]) (rmCIX2 l Z a0 hw xf h0 n0 Z0 O1 hxf SF) (W := 0) (by decide) (by decide) (by decide) (by decide) (by rw [hml]; rfl) (lenOf own_pd10 rfl) (rest := []) rfl rfl (hb hby d19_5) fun v2 T2 L2 X2 q2 => ?_
  obtain ⟨rfl, e2, rfl⟩ := q2
  rw [List.append_nil] at X2
  show Go p e below _ T2 (mkF m 8 #[.val (.int (2 : Int32)), .val (.ref r)] [])
  exact OwnGo.retV X2 hx hlk hret (hb hby d19_8) ⟨rfl, e2, rfl⟩ (by decide) (by decide)
theorem own_ef_rmUCA2 (m : MethodId) (x0 : Addr) (x1 : Int32) : entryFrame m [(.ref x0), (.int x1)].toArray 2 = mkF m 0 #[.val (.ref x0), .val (.int x1)] [] := by first | (simp [entryFrame, mkF, argsToLocals, Value.category]; done) | rfl
set_option maxRecDepth 65536 in
set_option maxHeartbeats 40000000 in
theorem rmUCA2 (l : Launch) (Z : State) (a0 : Array Value) (hw : ∀ d ∈ tables_1, d.before a0 Z = true) (r : Addr) (kr : ClassId) (xf : Value) (y0 y1 y2 y3 : Int32) (h0 : Heap) (n0 : Nat) (Z0 : n0 ≤ h0.size) (O1 : Old Z n0 h0) (V1 : Arv Z h0 r kr .byte (8 : Int32) [(.int ((y0 >>> ((0 : Int32) &&& 31)).toInt8.toInt32)), (.int ((y0 >>> ((8 : Int32) &&& 31)).toInt8.toInt32)), (.int ((y1 >>> ((0 : Int32) &&& 31)).toInt8.toInt32)), (.int ((y1 >>> ((8 : Int32) &&& 31)).toInt8.toInt32)), (.int ((y2 >>> ((0 : Int32) &&& 31)).toInt8.toInt32)), (.int ((y2 >>> ((8 : Int32) &&& 31)).toInt8.toInt32)), (.int ((y3 >>> ((0 : Int32) &&& 31)).toInt8.toInt32)), (.int ((y3 >>> ((8 : Int32) &&& 31)).toInt8.toInt32))] (.int (0 : Int32))) (hxf : xf.isRef = true) (SF : Sta Z Z.heap "jdk/internal/util/Preconditions" "SIOOBE_FORMATTER" "Ljava/util/function/BiFunction;" xf) (SA : Sta Z Z.heap "java/lang/StringUTF16" "$assertionsDisabled" "Z" (.int (1 : Int32))) (SH : Sta Z Z.heap "java/lang/StringUTF16" "HI_BYTE_SHIFT" "I" (.int (0 : Int32))) (SLo : Sta Z Z.heap "java/lang/StringUTF16" "LO_BYTE_SHIFT" "I" (.int (8 : Int32))) (nc2 : nar .char y2 = y2) :
    Con l Z (⟨"java/lang/StringUTF16", "charAt", "([BI)C"⟩ : MethodName) jdk_52_method_83_code 2 (some .char) ({ frames := 3, cells := 0, slots := 0, locals := 40 } : Room) [(.ref r), (.int (2 : Int32))] h0 (Ret (some (.int y2)) h0) := by
  refine OwnGo.Con.of (plainFor_of_name own_pn1) (Ls0 := #[.val (.ref r), .val (.int (2 : Int32))]) (fun m => own_ef_rmUCA2 m r (2 : Int32)) ?_
  intro p e s m below meth c T0 X0 hx hZ hby hml hown hnm hret hlk e0
  show Go p e below _ T0 (mkF m 0 #[.val (.ref r), .val (.int (2 : Int32))] [])
  refine OwnGo.iloadN X0 hx (hb hby d18_0) rfl ?_
  show Go p e below _ T0 (mkF m 1 #[.val (.ref r), .val (.int (2 : Int32))] [(.int (2 : Int32))])
  refine OwnGo.aloadN X0 hx (hb hby d18_1) rfl rfl ?_
  show Go p e below _ T0 (mkF m 2 #[.val (.ref r), .val (.int (2 : Int32))] [(.ref r), (.int (2 : Int32))])
  refine OwnGo.callS X0 hx hZ hown (y := (⟨"java/lang/StringUTF16", "checkIndex", "(I[B)V"⟩ : MethodName)) (hw _ (List.mem_of_getElem? (i := 77) rfl)) (hw _ (List.mem_of_getElem? (i := 78) rfl)) (hw _ (List.mem_of_getElem? (i := 22) rfl)) (hw _ (List.mem_of_getElem? (i := 79) rfl)) (by decide) e0 (as := [(.int (2 : Int32)), (.ref r)]) (rmUIX2 l Z a0 hw r kr xf y0 y1 y2 y3 h0 n0 Z0 O1 V1 hxf SF) (W := 0) (by decide) (by decide) (by decide) (by decide) (by rw [hml]; rfl) (lenOf own_pd12 rfl) (rest := []) rfl rfl (hb hby d18_2) fun v1 T1 L1 X1 q1 => ?_
  obtain ⟨rfl, e1, rfl⟩ := q1
  rw [List.append_nil] at X1
  show Go p e below _ T1 (mkF m 5 #[.val (.ref r), .val (.int (2 : Int32))] [])
  refine OwnGo.aloadN X1 hx (hb hby d18_5) rfl rfl ?_
  show Go p e below _ T1 (mkF m 6 #[.val (.ref r), .val (.int (2 : Int32))] [(.ref r)])
  refine OwnGo.iloadN X1 hx (hb hby d18_6) rfl ?_
  show Go p e below _ T1 (mkF m 7 #[.val (.ref r), .val (.int (2 : Int32))] [(.int (2 : Int32)), (.ref r)])
  refine OwnGo.callS X1 hx hZ hown (y := (⟨"java/lang/StringUTF16", "getChar", "([BI)C"⟩ : MethodName)) (hw _ (List.mem_of_getElem? (i := 58) rfl)) (hw _ (List.mem_of_getElem? (i := 59) rfl)) (hw _ (List.mem_of_getElem? (i := 22) rfl)) (hw _ (List.mem_of_getElem? (i := 60) rfl)) (by decide) e1 (as := [(.ref r), (.int (2 : Int32))]) (rmGCH2 l Z a0 hw r kr y0 y1 y2 y3 h0 n0 Z0 O1 V1 SA SH SLo nc2) (W := 0) (by decide) (by decide) (by decide) (by decide) (by rw [hml]; rfl) (lenOf own_pd6 rfl) (rest := []) rfl rfl (hb hby d18_7) fun v2 T2 L2 X2 q2 => ?_
  obtain ⟨rfl, e2, rfl⟩ := q2
  rw [List.append_nil] at X2
  show Go p e below _ T2 (mkF m 10 #[.val (.ref r), .val (.int (2 : Int32))] [(.int y2)])
  exact OwnGo.retC X2 hx hlk (z' := y2) hret (hb hby d18_10) nc2 ⟨rfl, e2, rfl⟩ (by decide) (by decide)
theorem own_ef_rmCHAL2 (m : MethodId) (x0 : Addr) (x1 : Int32) : entryFrame m [(.ref x0), (.int x1)].toArray 2 = mkF m 0 #[.val (.ref x0), .val (.int x1)] [] := by first | (simp [entryFrame, mkF, argsToLocals, Value.category]; done) | rfl
set_option maxRecDepth 65536 in
set_option maxHeartbeats 40000000 in
theorem rmCHAL2 (l : Launch) (Z : State) (a0 : Array Value) (hw : ∀ d ∈ tables_1, d.before a0 Z = true) (a1 r : Addr) (kr : ClassId) (xf : Value) (pz : Int32) (y0 y1 y2 y3 : Int32) (h0 : Heap) (n0 : Nat) (Z0 : n0 ≤ h0.size) (O1 : Old Z n0 h0) (E1 : Exa Z h0 a1 "java/lang/String") (F1 : Fld Z h0 a1 "java/lang/String" "coder" "B" (.int (0 : Int32))) (F2 : Fld Z h0 a1 "java/lang/String" "value" "[B" (.ref r)) (V1 : Arv Z h0 r kr .byte (4 : Int32) [(.int (y0.toInt8.toInt32)), (.int (y1.toInt8.toInt32)), (.int (y2.toInt8.toInt32)), (.int (y3.toInt8.toInt32))] (.int (0 : Int32))) (hxf : xf.isRef = true) (SF : Sta Z Z.heap "jdk/internal/util/Preconditions" "SIOOBE_FORMATTER" "Ljava/util/function/BiFunction;" xf) (SA : Sta Z Z.heap "java/lang/StringUTF16" "$assertionsDisabled" "Z" (.int (1 : Int32))) (SH : Sta Z Z.heap "java/lang/StringUTF16" "HI_BYTE_SHIFT" "I" (.int (0 : Int32))) (SLo : Sta Z Z.heap "java/lang/StringUTF16" "LO_BYTE_SHIFT" "I" (.int (8 : Int32))) (SC : Sta Z Z.heap "java/lang/String" "COMPACT_STRINGS" "Z" (.int pz)) (hpz : ¬ pz = 0) (nc2 : nar .char y2 = y2) (hs : ¬ 255 < y2) :
    Con l Z (⟨"java/lang/String", "charAt", "(I)C"⟩ : MethodName) jdk_42_method_56_code 2 (some .char) ({ frames := 4, cells := 0, slots := 0, locals := 53 } : Room) [(.ref a1), (.int (2 : Int32))] h0 (Ret (some (.int y2)) h0) := by
  refine OwnGo.Con.of (plainFor_of_name own_pn2) (Ls0 := #[.val (.ref a1), .val (.int (2 : Int32))]) (fun m => own_ef_rmCHAL2 m a1 (2 : Int32)) ?_
  intro p e s m below meth c T0 X0 hx hZ hby hml hown hnm hret hlk e0
  show Go p e below _ T0 (mkF m 0 #[.val (.ref a1), .val (.int (2 : Int32))] [])
  refine OwnGo.aloadN X0 hx (hb hby d16_0) rfl rfl ?_
  show Go p e below _ T0 (mkF m 1 #[.val (.ref a1), .val (.int (2 : Int32))] [(.ref a1)])
  refine OwnGo.callV X0 hx hZ hown (y := (⟨"java/lang/String", "isLatin1", "()Z"⟩ : MethodName)) (z := (⟨"java/lang/String", "isLatin1", "()Z"⟩ : MethodName)) (hw _ (List.mem_of_getElem? (i := 69) rfl)) (hw _ (List.mem_of_getElem? (i := 70) rfl)) (notFace_of_selects (args := #[]) (mvT hZ (hw _ (List.mem_of_getElem? (i := 72) rfl)))) (hw _ (List.mem_of_getElem? (i := 72) rfl)) (hw _ (List.mem_of_getElem? (i := 71) rfl)) (hw _ (List.mem_of_getElem? (i := 8) rfl)) (hw _ (List.mem_of_getElem? (i := 73) rfl)) (by decide) e0 E1 (as := []) (rmISLL l Z a0 hw a1 pz h0 n0 Z0 O1 F1 SC hpz) (W := 0) (by decide) (by decide) (by decide) (by decide) (by rw [hml]; rfl) (lenOf own_pd13 rfl) (rest := []) rfl rfl (hb hby d16_1) fun v1 T1 L1 X1 q1 => ?_
  obtain ⟨rfl, e1, rfl⟩ := q1
  rw [List.append_nil] at X1
  show Go p e below _ T1 (mkF m 4 #[.val (.ref a1), .val (.int (2 : Int32))] [(.int (1 : Int32))])
  refine OwnGo.if_eq X1 hx (pc' := 16) (hb hby d16_4) (by decide) (by decide) (fun q => absurd q (by decide)) (fun _ => ?_)
  show Go p e below _ T1 (mkF m 7 #[.val (.ref a1), .val (.int (2 : Int32))] [])
  refine OwnGo.aloadN X1 hx (hb hby d16_7) rfl rfl ?_
  show Go p e below _ T1 (mkF m 8 #[.val (.ref a1), .val (.int (2 : Int32))] [(.ref a1)])
  refine OwnGo.getF X1 hx hZ hown (host := "") (Or.inl (hw _ (List.mem_of_getElem? (i := 33) rfl))) Via.refl e1 F2 (hb hby d16_8) fun T2 X2 e2 => ?_
  show Go p e below _ T2 (mkF m 11 #[.val (.ref a1), .val (.int (2 : Int32))] [(.ref r)])
  refine OwnGo.iloadN X2 hx (hb hby d16_11) rfl ?_
  show Go p e below _ T2 (mkF m 12 #[.val (.ref a1), .val (.int (2 : Int32))] [(.int (2 : Int32)), (.ref r)])
  refine OwnGo.callS X2 hx hZ hown (y := (⟨"java/lang/StringLatin1", "charAt", "([BI)C"⟩ : MethodName)) (hw _ (List.mem_of_getElem? (i := 91) rfl)) (hw _ (List.mem_of_getElem? (i := 92) rfl)) (hw _ (List.mem_of_getElem? (i := 93) rfl)) (hw _ (List.mem_of_getElem? (i := 94) rfl)) (by decide) e2 (as := [(.ref r), (.int (2 : Int32))]) (rmLCA2 l Z a0 hw r kr xf y0 y1 y2 y3 h0 n0 Z0 O1 V1 hxf SF nc2 hs) (W := 0) (by decide) (by decide) (by decide) (by decide) (by rw [hml]; rfl) (lenOf own_pd6 rfl) (rest := []) rfl rfl (hb hby d16_12) fun v3 T3 L3 X3 q3 => ?_
  obtain ⟨rfl, e3, rfl⟩ := q3
  rw [List.append_nil] at X3
  show Go p e below _ T3 (mkF m 15 #[.val (.ref a1), .val (.int (2 : Int32))] [(.int y2)])
  exact OwnGo.retC X3 hx hlk (z' := y2) hret (hb hby d16_15) nc2 ⟨rfl, e3, rfl⟩ (by decide) (by decide)
theorem own_ef_rmCHAU2 (m : MethodId) (x0 : Addr) (x1 : Int32) : entryFrame m [(.ref x0), (.int x1)].toArray 2 = mkF m 0 #[.val (.ref x0), .val (.int x1)] [] := by first | (simp [entryFrame, mkF, argsToLocals, Value.category]; done) | rfl
set_option maxRecDepth 65536 in
set_option maxHeartbeats 40000000 in
theorem rmCHAU2 (l : Launch) (Z : State) (a0 : Array Value) (hw : ∀ d ∈ tables_1, d.before a0 Z = true) (a1 r : Addr) (kr : ClassId) (xf : Value) (pz : Int32) (y0 y1 y2 y3 : Int32) (h0 : Heap) (n0 : Nat) (Z0 : n0 ≤ h0.size) (O1 : Old Z n0 h0) (E1 : Exa Z h0 a1 "java/lang/String") (F1 : Fld Z h0 a1 "java/lang/String" "coder" "B" (.int (1 : Int32))) (F2 : Fld Z h0 a1 "java/lang/String" "value" "[B" (.ref r)) (V1 : Arv Z h0 r kr .byte (8 : Int32) [(.int ((y0 >>> ((0 : Int32) &&& 31)).toInt8.toInt32)), (.int ((y0 >>> ((8 : Int32) &&& 31)).toInt8.toInt32)), (.int ((y1 >>> ((0 : Int32) &&& 31)).toInt8.toInt32)), (.int ((y1 >>> ((8 : Int32) &&& 31)).toInt8.toInt32)), (.int ((y2 >>> ((0 : Int32) &&& 31)).toInt8.toInt32)), (.int ((y2 >>> ((8 : Int32) &&& 31)).toInt8.toInt32)), (.int ((y3 >>> ((0 : Int32) &&& 31)).toInt8.toInt32)), (.int ((y3 >>> ((8 : Int32) &&& 31)).toInt8.toInt32))] (.int (0 : Int32))) (hxf : xf.isRef = true) (SF : Sta Z Z.heap "jdk/internal/util/Preconditions" "SIOOBE_FORMATTER" "Ljava/util/function/BiFunction;" xf) (SA : Sta Z Z.heap "java/lang/StringUTF16" "$assertionsDisabled" "Z" (.int (1 : Int32))) (SH : Sta Z Z.heap "java/lang/StringUTF16" "HI_BYTE_SHIFT" "I" (.int (0 : Int32))) (SLo : Sta Z Z.heap "java/lang/StringUTF16" "LO_BYTE_SHIFT" "I" (.int (8 : Int32))) (SC : Sta Z Z.heap "java/lang/String" "COMPACT_STRINGS" "Z" (.int pz)) (hpz : ¬ pz = 0) (nc2 : nar .char y2 = y2) :
    Con l Z (⟨"java/lang/String", "charAt", "(I)C"⟩ : MethodName) jdk_42_method_56_code 2 (some .char) ({ frames := 4, cells := 0, slots := 0, locals := 53 } : Room) [(.ref a1), (.int (2 : Int32))] h0 (Ret (some (.int y2)) h0) := by
  refine OwnGo.Con.of (plainFor_of_name own_pn2) (Ls0 := #[.val (.ref a1), .val (.int (2 : Int32))]) (fun m => own_ef_rmCHAU2 m a1 (2 : Int32)) ?_
  intro p e s m below meth c T0 X0 hx hZ hby hml hown hnm hret hlk e0
  show Go p e below _ T0 (mkF m 0 #[.val (.ref a1), .val (.int (2 : Int32))] [])
  refine OwnGo.aloadN X0 hx (hb hby d16_0) rfl rfl ?_
  show Go p e below _ T0 (mkF m 1 #[.val (.ref a1), .val (.int (2 : Int32))] [(.ref a1)])
  refine OwnGo.callV X0 hx hZ hown (y := (⟨"java/lang/String", "isLatin1", "()Z"⟩ : MethodName)) (z := (⟨"java/lang/String", "isLatin1", "()Z"⟩ : MethodName)) (hw _ (List.mem_of_getElem? (i := 69) rfl)) (hw _ (List.mem_of_getElem? (i := 70) rfl)) (notFace_of_selects (args := #[]) (mvT hZ (hw _ (List.mem_of_getElem? (i := 72) rfl)))) (hw _ (List.mem_of_getElem? (i := 72) rfl)) (hw _ (List.mem_of_getElem? (i := 71) rfl)) (hw _ (List.mem_of_getElem? (i := 8) rfl)) (hw _ (List.mem_of_getElem? (i := 73) rfl)) (by decide) e0 E1 (as := []) (rmISLU l Z a0 hw a1 pz h0 n0 Z0 O1 F1 SC hpz) (W := 0) (by decide) (by decide) (by decide) (by decide) (by rw [hml]; rfl) (lenOf own_pd13 rfl) (rest := []) rfl rfl (hb hby d16_1) fun v1 T1 L1 X1 q1 => ?_
  obtain ⟨rfl, e1, rfl⟩ := q1
  rw [List.append_nil] at X1
  show Go p e below _ T1 (mkF m 4 #[.val (.ref a1), .val (.int (2 : Int32))] [(.int (0 : Int32))])
  refine OwnGo.if_eq X1 hx (pc' := 16) (hb hby d16_4) (by decide) (by decide) (fun _ => ?_) (fun q => absurd q (by decide))
  show Go p e below _ T1 (mkF m 16 #[.val (.ref a1), .val (.int (2 : Int32))] [])
  refine OwnGo.aloadN X1 hx (hb hby d16_16) rfl rfl ?_
  show Go p e below _ T1 (mkF m 17 #[.val (.ref a1), .val (.int (2 : Int32))] [(.ref a1)])
  refine OwnGo.getF X1 hx hZ hown (host := "") (Or.inl (hw _ (List.mem_of_getElem? (i := 33) rfl))) Via.refl e1 F2 (hb hby d16_17) fun T2 X2 e2 => ?_
  show Go p e below _ T2 (mkF m 20 #[.val (.ref a1), .val (.int (2 : Int32))] [(.ref r)])
  refine OwnGo.iloadN X2 hx (hb hby d16_20) rfl ?_
  show Go p e below _ T2 (mkF m 21 #[.val (.ref a1), .val (.int (2 : Int32))] [(.int (2 : Int32)), (.ref r)])
  refine OwnGo.callS X2 hx hZ hown (y := (⟨"java/lang/StringUTF16", "charAt", "([BI)C"⟩ : MethodName)) (hw _ (List.mem_of_getElem? (i := 74) rfl)) (hw _ (List.mem_of_getElem? (i := 75) rfl)) (hw _ (List.mem_of_getElem? (i := 22) rfl)) (hw _ (List.mem_of_getElem? (i := 76) rfl)) (by decide) e2 (as := [(.ref r), (.int (2 : Int32))]) (rmUCA2 l Z a0 hw r kr xf y0 y1 y2 y3 h0 n0 Z0 O1 V1 hxf SF SA SH SLo nc2) (W := 0) (by decide) (by decide) (by decide) (by decide) (by rw [hml]; rfl) (lenOf own_pd6 rfl) (rest := []) rfl rfl (hb hby d16_21) fun v3 T3 L3 X3 q3 => ?_
  obtain ⟨rfl, e3, rfl⟩ := q3
  rw [List.append_nil] at X3
  show Go p e below _ T3 (mkF m 24 #[.val (.ref a1), .val (.int (2 : Int32))] [(.int y2)])
  exact OwnGo.retC X3 hx hlk (z' := y2) hret (hb hby d16_24) nc2 ⟨rfl, e3, rfl⟩ (by decide) (by decide)
theorem own_ef_rmPIX3 (m : MethodId) (x0 : Int32) (x1 : Int32) (x2 : Value) (hx2 : x2.isRef = true) : entryFrame m [(.int x0), (.int x1), x2].toArray 3 = mkF m 0 #[.val (.int x0), .val (.int x1), .val x2] [] := by rcases ref_cases hx2 with rfl | ⟨_, rfl⟩ <;> first | (simp [entryFrame, mkF, argsToLocals, Value.category]; done) | rfl
set_option maxRecDepth 65536 in
set_option maxHeartbeats 40000000 in
theorem rmPIX3 (l : Launch) (Z : State) (a0 : Array Value) (hw : ∀ d ∈ tables_1, d.before a0 Z = true) (xf : Value) (h0 : Heap) (hxf : xf.isRef = true) :
    Con l Z (⟨"jdk/internal/util/Preconditions", "checkIndex", "(IILjava/util/function/BiFunction;)I"⟩ : MethodName) jdk_41_method_11_code 3 (some .int) ({ frames := 0, cells := 0, slots := 0, locals := 0 } : Room) [(.int (3 : Int32)), (.int (4 : Int32)), xf] h0 (Ret (some (.int 3)) h0) := by
  refine OwnGo.Con.of (plainFor_of_name own_pn3) (Ls0 := #[.val (.int (3 : Int32)), .val (.int (4 : Int32)), .val xf]) (fun m => own_ef_rmPIX3 m (3 : Int32) (4 : Int32) xf hxf) ?_
  intro p e s m below meth c T0 X0 hx hZ hby hml hown hnm hret hlk e0
  show Go p e below _ T0 (mkF m 0 #[.val (.int (3 : Int32)), .val (.int (4 : Int32)), .val xf] [])
  refine OwnGo.iloadN X0 hx (hb hby d22_0) rfl ?_
  show Go p e below _ T0 (mkF m 1 #[.val (.int (3 : Int32)), .val (.int (4 : Int32)), .val xf] [(.int (3 : Int32))])
  refine OwnGo.if_lt X0 hx (pc' := 9) (hb hby d22_1) (by decide) (by decide) (fun q => absurd q (by decide)) (fun _ => ?_)
  show Go p e below _ T0 (mkF m 4 #[.val (.int (3 : Int32)), .val (.int (4 : Int32)), .val xf] [])
  refine OwnGo.iloadN X0 hx (hb hby d22_4) rfl ?_
  show Go p e below _ T0 (mkF m 5 #[.val (.int (3 : Int32)), .val (.int (4 : Int32)), .val xf] [(.int (3 : Int32))])
  refine OwnGo.iloadN X0 hx (hb hby d22_5) rfl ?_
  show Go p e below _ T0 (mkF m 6 #[.val (.int (3 : Int32)), .val (.int (4 : Int32)), .val xf] [(.int (4 : Int32)), (.int (3 : Int32))])
  refine OwnGo.ic_lt X0 hx (pc' := 16) (hb hby d22_6) (by decide) (by decide) (fun _ => ?_) (fun q => absurd q (by decide))
  show Go p e below _ T0 (mkF m 16 #[.val (.int (3 : Int32)), .val (.int (4 : Int32)), .val xf] [])
  refine OwnGo.iloadN X0 hx (hb hby d22_16) rfl ?_
  show Go p e below _ T0 (mkF m 17 #[.val (.int (3 : Int32)), .val (.int (4 : Int32)), .val xf] [(.int (3 : Int32))])
  exact OwnGo.retI X0 hx hlk hret (hb hby d22_17) ⟨rfl, e0, rfl⟩ (by decide) (by decide)
theorem own_ef_rmCIX3 (m : MethodId) (x0 : Int32) (x1 : Int32) : entryFrame m [(.int x0), (.int x1)].toArray 2 = mkF m 0 #[.val (.int x0), .val (.int x1)] [] := by first | (simp [entryFrame, mkF, argsToLocals, Value.category]; done) | rfl
set_option maxRecDepth 65536 in
set_option maxHeartbeats 40000000 in
theorem rmCIX3 (l : Launch) (Z : State) (a0 : Array Value) (hw : ∀ d ∈ tables_1, d.before a0 Z = true) (xf : Value) (h0 : Heap) (n0 : Nat) (Z0 : n0 ≤ h0.size) (O1 : Old Z n0 h0) (hxf : xf.isRef = true) (SF : Sta Z Z.heap "jdk/internal/util/Preconditions" "SIOOBE_FORMATTER" "Ljava/util/function/BiFunction;" xf) :
    Con l Z (⟨"java/lang/String", "checkIndex", "(II)V"⟩ : MethodName) jdk_42_method_155_code 2 none ({ frames := 1, cells := 0, slots := 0, locals := 14 } : Room) [(.int (3 : Int32)), (.int (4 : Int32))] h0 (Ret none h0) := by
  refine OwnGo.Con.of (plainFor_of_name own_pn2) (Ls0 := #[.val (.int (3 : Int32)), .val (.int (4 : Int32))]) (fun m => own_ef_rmCIX3 m (3 : Int32) (4 : Int32)) ?_
  intro p e s m below meth c T0 X0 hx hZ hby hml hown hnm hret hlk e0
  show Go p e below _ T0 (mkF m 0 #[.val (.int (3 : Int32)), .val (.int (4 : Int32))] [])
  refine OwnGo.iloadN X0 hx (hb hby d21_0) rfl ?_
  show Go p e below _ T0 (mkF m 1 #[.val (.int (3 : Int32)), .val (.int (4 : Int32))] [(.int (3 : Int32))])
  refine OwnGo.iloadN X0 hx (hb hby d21_1) rfl ?_
  show Go p e below _ T0 (mkF m 2 #[.val (.int (3 : Int32)), .val (.int (4 : Int32))] [(.int (4 : Int32)), (.int (3 : Int32))])
  refine OwnGo.getS X0 hx hZ hown (host := "") (Or.inl (hw _ (List.mem_of_getElem? (i := 86) rfl))) Via.refl e0 (SF.ext O1.2) (hb hby d21_2) fun T1 X1 e1 => ?_
  show Go p e below _ T1 (mkF m 5 #[.val (.int (3 : Int32)), .val (.int (4 : Int32))] [xf, (.int (4 : Int32)), (.int (3 : Int32))])
  refine OwnGo.callS X1 hx hZ hown (y := (⟨"jdk/internal/util/Preconditions", "checkIndex", "(IILjava/util/function/BiFunction;)I"⟩ : MethodName)) (hw _ (List.mem_of_getElem? (i := 88) rfl)) (hw _ (List.mem_of_getElem? (i := 89) rfl)) (hw _ (List.mem_of_getElem? (i := 87) rfl)) (hw _ (List.mem_of_getElem? (i := 90) rfl)) (by decide) e1 (as := [(.int (3 : Int32)), (.int (4 : Int32)), xf]) (rmPIX3 l Z a0 hw xf h0 hxf) (W := 0) (by decide) (by decide) (by decide) (by decide) (by rw [hml]; rfl) (lenOf own_pd9 rfl) (rest := []) rfl rfl (hb hby d21_5) fun v2 T2 L2 X2 q2 => ?_
  obtain ⟨rfl, e2, rfl⟩ := q2
  rw [List.append_nil] at X2
  show Go p e below _ T2 (mkF m 8 #[.val (.int (3 : Int32)), .val (.int (4 : Int32))] [(.int (3 : Int32))])
  refine OwnGo.pop X2 hx (hb hby d21_8) rfl ?_
  show Go p e below _ T2 (mkF m 9 #[.val (.int (3 : Int32)), .val (.int (4 : Int32))] [])
  exact OwnGo.retV X2 hx hlk hret (hb hby d21_9) ⟨rfl, e2, rfl⟩ (by decide) (by decide)
theorem own_ef_rmLCA3 (m : MethodId) (x0 : Addr) (x1 : Int32) : entryFrame m [(.ref x0), (.int x1)].toArray 2 = mkF m 0 #[.val (.ref x0), .val (.int x1)] [] := by first | (simp [entryFrame, mkF, argsToLocals, Value.category]; done) | rfl
set_option maxRecDepth 65536 in
set_option maxHeartbeats 40000000 in
theorem rmLCA3 (l : Launch) (Z : State) (a0 : Array Value) (hw : ∀ d ∈ tables_1, d.before a0 Z = true) (r : Addr) (kr : ClassId) (xf : Value) (y0 y1 y2 y3 : Int32) (h0 : Heap) (n0 : Nat) (Z0 : n0 ≤ h0.size) (O1 : Old Z n0 h0) (V1 : Arv Z h0 r kr .byte (4 : Int32) [(.int (y0.toInt8.toInt32)), (.int (y1.toInt8.toInt32)), (.int (y2.toInt8.toInt32)), (.int (y3.toInt8.toInt32))] (.int (0 : Int32))) (hxf : xf.isRef = true) (SF : Sta Z Z.heap "jdk/internal/util/Preconditions" "SIOOBE_FORMATTER" "Ljava/util/function/BiFunction;" xf) (nc3 : nar .char y3 = y3) (hs : ¬ 255 < y3) :
    Con l Z (⟨"java/lang/StringLatin1", "charAt", "([BI)C"⟩ : MethodName) jdk_43_method_2_code 2 (some .char) ({ frames := 2, cells := 0, slots := 0, locals := 27 } : Room) [(.ref r), (.int (3 : Int32))] h0 (Ret (some (.int y3)) h0) := by
  refine OwnGo.Con.of (plainFor_of_name own_pn4) (Ls0 := #[.val (.ref r), .val (.int (3 : Int32))]) (fun m => own_ef_rmLCA3 m r (3 : Int32)) ?_
  intro p e s m below meth c T0 X0 hx hZ hby hml hown hnm hret hlk e0
  show Go p e below _ T0 (mkF m 0 #[.val (.ref r), .val (.int (3 : Int32))] [])
  refine OwnGo.iloadN X0 hx (hb hby d23_0) rfl ?_
  show Go p e below _ T0 (mkF m 1 #[.val (.ref r), .val (.int (3 : Int32))] [(.int (3 : Int32))])
  refine OwnGo.aloadN X0 hx (hb hby d23_1) rfl rfl ?_
  show Go p e below _ T0 (mkF m 2 #[.val (.ref r), .val (.int (3 : Int32))] [(.ref r), (.int (3 : Int32))])
  obtain ⟨cl1, Ar1, -, Sz1, Nn1, -, -⟩ := (id V1)
  refine OwnGo.arraylength X0 hx hZ e0 Ar1 (len_of Sz1 Nn1) (hb hby d23_2) ?_
  show Go p e below _ T0 (mkF m 3 #[.val (.ref r), .val (.int (3 : Int32))] [(.int (4 : Int32)), (.int (3 : Int32))])
  refine OwnGo.callS X0 hx hZ hown (y := (⟨"java/lang/String", "checkIndex", "(II)V"⟩ : MethodName)) (hw _ (List.mem_of_getElem? (i := 95) rfl)) (hw _ (List.mem_of_getElem? (i := 84) rfl)) (hw _ (List.mem_of_getElem? (i := 8) rfl)) (hw _ (List.mem_of_getElem? (i := 85) rfl)) (by decide) e0 (as := [(.int (3 : Int32)), (.int (4 : Int32))]) (rmCIX3 l Z a0 hw xf h0 n0 Z0 O1 hxf SF) (W := 0) (by decide) (by decide) (by decide) (by decide) (by rw [hml]; rfl) (lenOf own_pd10 rfl) (rest := []) rfl rfl (hb hby d23_3) fun v2 T2 L2 X2 q2 => ?_
  obtain ⟨rfl, e2, rfl⟩ := q2
  rw [List.append_nil] at X2
  show Go p e below _ T2 (mkF m 6 #[.val (.ref r), .val (.int (3 : Int32))] [])
  refine OwnGo.aloadN X2 hx (hb hby d23_6) rfl rfl ?_
  show Go p e below _ T2 (mkF m 7 #[.val (.ref r), .val (.int (3 : Int32))] [(.ref r)])
  refine OwnGo.iloadN X2 hx (hb hby d23_7) rfl ?_
  show Go p e below _ T2 (mkF m 8 #[.val (.ref r), .val (.int (3 : Int32))] [(.int (3 : Int32)), (.ref r)])
  obtain ⟨cl3, Ar3, Kq3, Sz3, Nn3, Hh3, Gg3⟩ := (id V1)
  have hin3 : ¬ ((3 : Int32) < 0 ∨ cl3.slots.size ≤ ((3 : Int32)).toNatClampNeg) := inb_of Sz3 ⟨by decide, by decide⟩
  refine OwnGo.baload X2 hx hZ e2 Ar3 hin3 (Has.at Hh3 hin3 (v := (.int (y3.toInt8.toInt32))) rfl) (hb hby d23_8) ?_
  show Go p e below _ T2 (mkF m 9 #[.val (.ref r), .val (.int (3 : Int32))] [(.int (y3.toInt8.toInt32))])
  refine OwnGo.sipush X2 hx (z := (255 : Int32)) (hb hby d23_9) (by decide) ?_
  show Go p e below _ T2 (mkF m 12 #[.val (.ref r), .val (.int (3 : Int32))] [(.int (255 : Int32)), (.int (y3.toInt8.toInt32))])
  refine OwnGo.iand X2 hx (hb hby d23_12) rfl ?_
  show Go p e below _ T2 (mkF m 13 #[.val (.ref r), .val (.int (3 : Int32))] [(.int ((y3.toInt8.toInt32) &&& (255 : Int32)))])
  refine OwnGo.i2c X2 hx (hb hby d23_13) rfl ?_
  show Go p e below _ T2 (mkF m 14 #[.val (.ref r), .val (.int (3 : Int32))] [(.int (((y3.toInt8.toInt32) &&& (255 : Int32)).toUInt32.toUInt16.toUInt32.toInt32))])
  exact OwnGo.retC X2 hx hlk (z' := y3) hret (hb hby d23_14) (own_lc nc3 hs) ⟨rfl, e2, rfl⟩ (by decide) (by decide)
theorem own_ef_rmUIX3 (m : MethodId) (x0 : Int32) (x1 : Addr) : entryFrame m [(.int x0), (.ref x1)].toArray 2 = mkF m 0 #[.val (.int x0), .val (.ref x1)] [] := by first | (simp [entryFrame, mkF, argsToLocals, Value.category]; done) | rfl
set_option maxRecDepth 65536 in
set_option maxHeartbeats 40000000 in
theorem rmUIX3 (l : Launch) (Z : State) (a0 : Array Value) (hw : ∀ d ∈ tables_1, d.before a0 Z = true) (r : Addr) (kr : ClassId) (xf : Value) (y0 y1 y2 y3 : Int32) (h0 : Heap) (n0 : Nat) (Z0 : n0 ≤ h0.size) (O1 : Old Z n0 h0) (V1 : Arv Z h0 r kr .byte (8 : Int32) [(.int ((y0 >>> ((0 : Int32) &&& 31)).toInt8.toInt32)), (.int ((y0 >>> ((8 : Int32) &&& 31)).toInt8.toInt32)), (.int ((y1 >>> ((0 : Int32) &&& 31)).toInt8.toInt32)), (.int ((y1 >>> ((8 : Int32) &&& 31)).toInt8.toInt32)), (.int ((y2 >>> ((0 : Int32) &&& 31)).toInt8.toInt32)), (.int ((y2 >>> ((8 : Int32) &&& 31)).toInt8.toInt32)), (.int ((y3 >>> ((0 : Int32) &&& 31)).toInt8.toInt32)), (.int ((y3 >>> ((8 : Int32) &&& 31)).toInt8.toInt32))] (.int (0 : Int32))) (hxf : xf.isRef = true) (SF : Sta Z Z.heap "jdk/internal/util/Preconditions" "SIOOBE_FORMATTER" "Ljava/util/function/BiFunction;" xf) :
    Con l Z (⟨"java/lang/StringUTF16", "checkIndex", "(I[B)V"⟩ : MethodName) jdk_52_method_91_code 2 none ({ frames := 2, cells := 0, slots := 0, locals := 27 } : Room) [(.int (3 : Int32)), (.ref r)] h0 (Ret none h0) := by
  refine OwnGo.Con.of (plainFor_of_name own_pn1) (Ls0 := #[.val (.int (3 : Int32)), .val (.ref r)]) (fun m => own_ef_rmUIX3 m (3 : Int32) r) ?_
  intro p e s m below meth c T0 X0 hx hZ hby hml hown hnm hret hlk e0
  show Go p e below _ T0 (mkF m 0 #[.val (.int (3 : Int32)), .val (.ref r)] [])
  refine OwnGo.iloadN X0 hx (hb hby d19_0) rfl ?_
  show Go p e below _ T0 (mkF m 1 #[.val (.int (3 : Int32)), .val (.ref r)] [(.int (3 : Int32))])
  refine OwnGo.aloadN X0 hx (hb hby d19_1) rfl rfl ?_
  show Go p e below _ T0 (mkF m 2 #[.val (.int (3 : Int32)), .val (.ref r)] [(.ref r), (.int (3 : Int32))])
  refine OwnGo.callS X0 hx hZ hown (y := (⟨"java/lang/StringUTF16", "length", "([B)I"⟩ : MethodName)) (hw _ (List.mem_of_getElem? (i := 80) rfl)) (hw _ (List.mem_of_getElem? (i := 81) rfl)) (hw _ (List.mem_of_getElem? (i := 22) rfl)) (hw _ (List.mem_of_getElem? (i := 82) rfl)) (by decide) e0 (as := [(.ref r)]) (rmULN l Z a0 hw r kr y0 y1 y2 y3 h0 V1) (W := 1) (by decide) (by decide) (by decide) (by decide) (by rw [hml]; rfl) (lenOf own_pd11 rfl) (rest := [(.int (3 : Int32))]) rfl rfl (hb hby d19_2) fun v1 T1 L1 X1 q1 => ?_
  obtain ⟨rfl, e1, rfl⟩ := q1
  rw [List.append_nil] at X1
  show Go p e below _ T1 (mkF m 5 #[.val (.int (3 : Int32)), .val (.ref r)] [(.int (4 : Int32)), (.int (3 : Int32))])
  refine OwnGo.callS X1 hx hZ hown (y := (⟨"java/lang/String", "checkIndex", "(II)V"⟩ : MethodName)) (hw _ (List.mem_of_getElem? (i := 83) rfl)) (hw _ (List.mem_of_getElem? (i := 84) rfl)) (hw _ (List.mem_of_getElem? (i := 8) rfl)) (hw _ (List.mem_of_getElem? (i := 85) rfl)) (by decide) e1 (as := [(.int (3 : Int32)), (.int (4 : Int32))]) (rmCIX3 l Z a0 hw xf h0 n0 Z0 O1 hxf SF) (W := 0) (by decide) (by decide) (by decide) (by decide) (by rw [hml]; rfl) (lenOf own_pd10 rfl) (rest := []) rfl rfl (hb hby d19_5) fun v2 T2 L2 X2 q2 => ?_
  obtain ⟨rfl, e2, rfl⟩ := q2
  rw [List.append_nil] at X2
  show Go p e below _ T2 (mkF m 8 #[.val (.int (3 : Int32)), .val (.ref r)] [])
  exact OwnGo.retV X2 hx hlk hret (hb hby d19_8) ⟨rfl, e2, rfl⟩ (by decide) (by decide)
theorem own_ef_rmUCA3 (m : MethodId) (x0 : Addr) (x1 : Int32) : entryFrame m [(.ref x0), (.int x1)].toArray 2 = mkF m 0 #[.val (.ref x0), .val (.int x1)] [] := by first | (simp [entryFrame, mkF, argsToLocals, Value.category]; done) | rfl
set_option maxRecDepth 65536 in
set_option maxHeartbeats 40000000 in
theorem rmUCA3 (l : Launch) (Z : State) (a0 : Array Value) (hw : ∀ d ∈ tables_1, d.before a0 Z = true) (r : Addr) (kr : ClassId) (xf : Value) (y0 y1 y2 y3 : Int32) (h0 : Heap) (n0 : Nat) (Z0 : n0 ≤ h0.size) (O1 : Old Z n0 h0) (V1 : Arv Z h0 r kr .byte (8 : Int32) [(.int ((y0 >>> ((0 : Int32) &&& 31)).toInt8.toInt32)), (.int ((y0 >>> ((8 : Int32) &&& 31)).toInt8.toInt32)), (.int ((y1 >>> ((0 : Int32) &&& 31)).toInt8.toInt32)), (.int ((y1 >>> ((8 : Int32) &&& 31)).toInt8.toInt32)), (.int ((y2 >>> ((0 : Int32) &&& 31)).toInt8.toInt32)), (.int ((y2 >>> ((8 : Int32) &&& 31)).toInt8.toInt32)), (.int ((y3 >>> ((0 : Int32) &&& 31)).toInt8.toInt32)), (.int ((y3 >>> ((8 : Int32) &&& 31)).toInt8.toInt32))] (.int (0 : Int32))) (hxf : xf.isRef = true) (SF : Sta Z Z.heap "jdk/internal/util/Preconditions" "SIOOBE_FORMATTER" "Ljava/util/function/BiFunction;" xf) (SA : Sta Z Z.heap "java/lang/StringUTF16" "$assertionsDisabled" "Z" (.int (1 : Int32))) (SH : Sta Z Z.heap "java/lang/StringUTF16" "HI_BYTE_SHIFT" "I" (.int (0 : Int32))) (SLo : Sta Z Z.heap "java/lang/StringUTF16" "LO_BYTE_SHIFT" "I" (.int (8 : Int32))) (nc3 : nar .char y3 = y3) :
    Con l Z (⟨"java/lang/StringUTF16", "charAt", "([BI)C"⟩ : MethodName) jdk_52_method_83_code 2 (some .char) ({ frames := 3, cells := 0, slots := 0, locals := 40 } : Room) [(.ref r), (.int (3 : Int32))] h0 (Ret (some (.int y3)) h0) := by
  refine OwnGo.Con.of (plainFor_of_name own_pn1) (Ls0 := #[.val (.ref r), .val (.int (3 : Int32))]) (fun m => own_ef_rmUCA3 m r (3 : Int32)) ?_
  intro p e s m below meth c T0 X0 hx hZ hby hml hown hnm hret hlk e0
  show Go p e below _ T0 (mkF m 0 #[.val (.ref r), .val (.int (3 : Int32))] [])
  refine OwnGo.iloadN X0 hx (hb hby d18_0) rfl ?_
  show Go p e below _ T0 (mkF m 1 #[.val (.ref r), .val (.int (3 : Int32))] [(.int (3 : Int32))])
  refine OwnGo.aloadN X0 hx (hb hby d18_1) rfl rfl ?_
  show Go p e below _ T0 (mkF m 2 #[.val (.ref r), .val (.int (3 : Int32))] [(.ref r), (.int (3 : Int32))])
  refine OwnGo.callS X0 hx hZ hown (y := (⟨"java/lang/StringUTF16", "checkIndex", "(I[B)V"⟩ : MethodName)) (hw _ (List.mem_of_getElem? (i := 77) rfl)) (hw _ (List.mem_of_getElem? (i := 78) rfl)) (hw _ (List.mem_of_getElem? (i := 22) rfl)) (hw _ (List.mem_of_getElem? (i := 79) rfl)) (by decide) e0 (as := [(.int (3 : Int32)), (.ref r)]) (rmUIX3 l Z a0 hw r kr xf y0 y1 y2 y3 h0 n0 Z0 O1 V1 hxf SF) (W := 0) (by decide) (by decide) (by decide) (by decide) (by rw [hml]; rfl) (lenOf own_pd12 rfl) (rest := []) rfl rfl (hb hby d18_2) fun v1 T1 L1 X1 q1 => ?_
  obtain ⟨rfl, e1, rfl⟩ := q1
  rw [List.append_nil] at X1
  show Go p e below _ T1 (mkF m 5 #[.val (.ref r), .val (.int (3 : Int32))] [])
  refine OwnGo.aloadN X1 hx (hb hby d18_5) rfl rfl ?_
  show Go p e below _ T1 (mkF m 6 #[.val (.ref r), .val (.int (3 : Int32))] [(.ref r)])
  refine OwnGo.iloadN X1 hx (hb hby d18_6) rfl ?_
  show Go p e below _ T1 (mkF m 7 #[.val (.ref r), .val (.int (3 : Int32))] [(.int (3 : Int32)), (.ref r)])
  refine OwnGo.callS X1 hx hZ hown (y := (⟨"java/lang/StringUTF16", "getChar", "([BI)C"⟩ : MethodName)) (hw _ (List.mem_of_getElem? (i := 58) rfl)) (hw _ (List.mem_of_getElem? (i := 59) rfl)) (hw _ (List.mem_of_getElem? (i := 22) rfl)) (hw _ (List.mem_of_getElem? (i := 60) rfl)) (by decide) e1 (as := [(.ref r), (.int (3 : Int32))]) (rmGCH3 l Z a0 hw r kr y0 y1 y2 y3 h0 n0 Z0 O1 V1 SA SH SLo nc3) (W := 0) (by decide) (by decide) (by decide) (by decide) (by rw [hml]; rfl) (lenOf own_pd6 rfl) (rest := []) rfl rfl (hb hby d18_7) fun v2 T2 L2 X2 q2 => ?_
  obtain ⟨rfl, e2, rfl⟩ := q2
  rw [List.append_nil] at X2
  show Go p e below _ T2 (mkF m 10 #[.val (.ref r), .val (.int (3 : Int32))] [(.int y3)])
  exact OwnGo.retC X2 hx hlk (z' := y3) hret (hb hby d18_10) nc3 ⟨rfl, e2, rfl⟩ (by decide) (by decide)
theorem own_ef_rmCHAL3 (m : MethodId) (x0 : Addr) (x1 : Int32) : entryFrame m [(.ref x0), (.int x1)].toArray 2 = mkF m 0 #[.val (.ref x0), .val (.int x1)] [] := by first | (simp [entryFrame, mkF, argsToLocals, Value.category]; done) | rfl
set_option maxRecDepth 65536 in
set_option maxHeartbeats 40000000 in
theorem rmCHAL3 (l : Launch) (Z : State) (a0 : Array Value) (hw : ∀ d ∈ tables_1, d.before a0 Z = true) (a1 r : Addr) (kr : ClassId) (xf : Value) (pz : Int32) (y0 y1 y2 y3 : Int32) (h0 : Heap) (n0 : Nat) (Z0 : n0 ≤ h0.size) (O1 : Old Z n0 h0) (E1 : Exa Z h0 a1 "java/lang/String") (F1 : Fld Z h0 a1 "java/lang/String" "coder" "B" (.int (0 : Int32))) (F2 : Fld Z h0 a1 "java/lang/String" "value" "[B" (.ref r)) (V1 : Arv Z h0 r kr .byte (4 : Int32) [(.int (y0.toInt8.toInt32)), (.int (y1.toInt8.toInt32)), (.int (y2.toInt8.toInt32)), (.int (y3.toInt8.toInt32))] (.int (0 : Int32))) (hxf : xf.isRef = true) (SF : Sta Z Z.heap "jdk/internal/util/Preconditions" "SIOOBE_FORMATTER" "Ljava/util/function/BiFunction;" xf) (SA : Sta Z Z.heap "java/lang/StringUTF16" "$assertionsDisabled" "Z" (.int (1 : Int32))) (SH : Sta Z Z.heap "java/lang/StringUTF16" "HI_BYTE_SHIFT" "I" (.int (0 : Int32))) (SLo : Sta Z Z.heap "java/lang/StringUTF16" "LO_BYTE_SHIFT" "I" (.int (8 : Int32))) (SC : Sta Z Z.heap "java/lang/String" "COMPACT_STRINGS" "Z" (.int pz)) (hpz : ¬ pz = 0) (nc3 : nar .char y3 = y3) (hs : ¬ 255 < y3) :
    Con l Z (⟨"java/lang/String", "charAt", "(I)C"⟩ : MethodName) jdk_42_method_56_code 2 (some .char) ({ frames := 4, cells := 0, slots := 0, locals := 53 } : Room) [(.ref a1), (.int (3 : Int32))] h0 (Ret (some (.int y3)) h0) := by
  refine OwnGo.Con.of (plainFor_of_name own_pn2) (Ls0 := #[.val (.ref a1), .val (.int (3 : Int32))]) (fun m => own_ef_rmCHAL3 m a1 (3 : Int32)) ?_
  intro p e s m below meth c T0 X0 hx hZ hby hml hown hnm hret hlk e0
  show Go p e below _ T0 (mkF m 0 #[.val (.ref a1), .val (.int (3 : Int32))] [])
  refine OwnGo.aloadN X0 hx (hb hby d16_0) rfl rfl ?_
  show Go p e below _ T0 (mkF m 1 #[.val (.ref a1), .val (.int (3 : Int32))] [(.ref a1)])
  refine OwnGo.callV X0 hx hZ hown (y := (⟨"java/lang/String", "isLatin1", "()Z"⟩ : MethodName)) (z := (⟨"java/lang/String", "isLatin1", "()Z"⟩ : MethodName)) (hw _ (List.mem_of_getElem? (i := 69) rfl)) (hw _ (List.mem_of_getElem? (i := 70) rfl)) (notFace_of_selects (args := #[]) (mvT hZ (hw _ (List.mem_of_getElem? (i := 72) rfl)))) (hw _ (List.mem_of_getElem? (i := 72) rfl)) (hw _ (List.mem_of_getElem? (i := 71) rfl)) (hw _ (List.mem_of_getElem? (i := 8) rfl)) (hw _ (List.mem_of_getElem? (i := 73) rfl)) (by decide) e0 E1 (as := []) (rmISLL l Z a0 hw a1 pz h0 n0 Z0 O1 F1 SC hpz) (W := 0) (by decide) (by decide) (by decide) (by decide) (by rw [hml]; rfl) (lenOf own_pd13 rfl) (rest := []) rfl rfl (hb hby d16_1) fun v1 T1 L1 X1 q1 => ?_
  obtain ⟨rfl, e1, rfl⟩ := q1
  rw [List.append_nil] at X1
  show Go p e below _ T1 (mkF m 4 #[.val (.ref a1), .val (.int (3 : Int32))] [(.int (1 : Int32))])
  refine OwnGo.if_eq X1 hx (pc' := 16) (hb hby d16_4) (by decide) (by decide) (fun q => absurd q (by decide)) (fun _ => ?_)
  show Go p e below _ T1 (mkF m 7 #[.val (.ref a1), .val (.int (3 : Int32))] [])
  refine OwnGo.aloadN X1 hx (hb hby d16_7) rfl rfl ?_
  show Go p e below _ T1 (mkF m 8 #[.val (.ref a1), .val (.int (3 : Int32))] [(.ref a1)])
  refine OwnGo.getF X1 hx hZ hown (host := "") (Or.inl (hw _ (List.mem_of_getElem? (i := 33) rfl))) Via.refl e1 F2 (hb hby d16_8) fun T2 X2 e2 => ?_
  show Go p e below _ T2 (mkF m 11 #[.val (.ref a1), .val (.int (3 : Int32))] [(.ref r)])
  refine OwnGo.iloadN X2 hx (hb hby d16_11) rfl ?_
  show Go p e below _ T2 (mkF m 12 #[.val (.ref a1), .val (.int (3 : Int32))] [(.int (3 : Int32)), (.ref r)])
  refine OwnGo.callS X2 hx hZ hown (y := (⟨"java/lang/StringLatin1", "charAt", "([BI)C"⟩ : MethodName)) (hw _ (List.mem_of_getElem? (i := 91) rfl)) (hw _ (List.mem_of_getElem? (i := 92) rfl)) (hw _ (List.mem_of_getElem? (i := 93) rfl)) (hw _ (List.mem_of_getElem? (i := 94) rfl)) (by decide) e2 (as := [(.ref r), (.int (3 : Int32))]) (rmLCA3 l Z a0 hw r kr xf y0 y1 y2 y3 h0 n0 Z0 O1 V1 hxf SF nc3 hs) (W := 0) (by decide) (by decide) (by decide) (by decide) (by rw [hml]; rfl) (lenOf own_pd6 rfl) (rest := []) rfl rfl (hb hby d16_12) fun v3 T3 L3 X3 q3 => ?_
  obtain ⟨rfl, e3, rfl⟩ := q3
  rw [List.append_nil] at X3
  show Go p e below _ T3 (mkF m 15 #[.val (.ref a1), .val (.int (3 : Int32))] [(.int y3)])
  exact OwnGo.retC X3 hx hlk (z' := y3) hret (hb hby d16_15) nc3 ⟨rfl, e3, rfl⟩ (by decide) (by decide)
theorem own_ef_rmCHAU3 (m : MethodId) (x0 : Addr) (x1 : Int32) : entryFrame m [(.ref x0), (.int x1)].toArray 2 = mkF m 0 #[.val (.ref x0), .val (.int x1)] [] := by first | (simp [entryFrame, mkF, argsToLocals, Value.category]; done) | rfl
set_option maxRecDepth 65536 in
set_option maxHeartbeats 40000000 in
theorem rmCHAU3 (l : Launch) (Z : State) (a0 : Array Value) (hw : ∀ d ∈ tables_1, d.before a0 Z = true) (a1 r : Addr) (kr : ClassId) (xf : Value) (pz : Int32) (y0 y1 y2 y3 : Int32) (h0 : Heap) (n0 : Nat) (Z0 : n0 ≤ h0.size) (O1 : Old Z n0 h0) (E1 : Exa Z h0 a1 "java/lang/String") (F1 : Fld Z h0 a1 "java/lang/String" "coder" "B" (.int (1 : Int32))) (F2 : Fld Z h0 a1 "java/lang/String" "value" "[B" (.ref r)) (V1 : Arv Z h0 r kr .byte (8 : Int32) [(.int ((y0 >>> ((0 : Int32) &&& 31)).toInt8.toInt32)), (.int ((y0 >>> ((8 : Int32) &&& 31)).toInt8.toInt32)), (.int ((y1 >>> ((0 : Int32) &&& 31)).toInt8.toInt32)), (.int ((y1 >>> ((8 : Int32) &&& 31)).toInt8.toInt32)), (.int ((y2 >>> ((0 : Int32) &&& 31)).toInt8.toInt32)), (.int ((y2 >>> ((8 : Int32) &&& 31)).toInt8.toInt32)), (.int ((y3 >>> ((0 : Int32) &&& 31)).toInt8.toInt32)), (.int ((y3 >>> ((8 : Int32) &&& 31)).toInt8.toInt32))] (.int (0 : Int32))) (hxf : xf.isRef = true) (SF : Sta Z Z.heap "jdk/internal/util/Preconditions" "SIOOBE_FORMATTER" "Ljava/util/function/BiFunction;" xf) (SA : Sta Z Z.heap "java/lang/StringUTF16" "$assertionsDisabled" "Z" (.int (1 : Int32))) (SH : Sta Z Z.heap "java/lang/StringUTF16" "HI_BYTE_SHIFT" "I" (.int (0 : Int32))) (SLo : Sta Z Z.heap "java/lang/StringUTF16" "LO_BYTE_SHIFT" "I" (.int (8 : Int32))) (SC : Sta Z Z.heap "java/lang/String" "COMPACT_STRINGS" "Z" (.int pz)) (hpz : ¬ pz = 0) (nc3 : nar .char y3 = y3) :
    Con l Z (⟨"java/lang/String", "charAt", "(I)C"⟩ : MethodName) jdk_42_method_56_code 2 (some .char) ({ frames := 4, cells := 0, slots := 0, locals := 53 } : Room) [(.ref a1), (.int (3 : Int32))] h0 (Ret (some (.int y3)) h0) := by
  refine OwnGo.Con.of (plainFor_of_name own_pn2) (Ls0 := #[.val (.ref a1), .val (.int (3 : Int32))]) (fun m => own_ef_rmCHAU3 m a1 (3 : Int32)) ?_
  intro p e s m below meth c T0 X0 hx hZ hby hml hown hnm hret hlk e0
  show Go p e below _ T0 (mkF m 0 #[.val (.ref a1), .val (.int (3 : Int32))] [])
  refine OwnGo.aloadN X0 hx (hb hby d16_0) rfl rfl ?_
  show Go p e below _ T0 (mkF m 1 #[.val (.ref a1), .val (.int (3 : Int32))] [(.ref a1)])
  refine OwnGo.callV X0 hx hZ hown (y := (⟨"java/lang/String", "isLatin1", "()Z"⟩ : MethodName)) (z := (⟨"java/lang/String", "isLatin1", "()Z"⟩ : MethodName)) (hw _ (List.mem_of_getElem? (i := 69) rfl)) (hw _ (List.mem_of_getElem? (i := 70) rfl)) (notFace_of_selects (args := #[]) (mvT hZ (hw _ (List.mem_of_getElem? (i := 72) rfl)))) (hw _ (List.mem_of_getElem? (i := 72) rfl)) (hw _ (List.mem_of_getElem? (i := 71) rfl)) (hw _ (List.mem_of_getElem? (i := 8) rfl)) (hw _ (List.mem_of_getElem? (i := 73) rfl)) (by decide) e0 E1 (as := []) (rmISLU l Z a0 hw a1 pz h0 n0 Z0 O1 F1 SC hpz) (W := 0) (by decide) (by decide) (by decide) (by decide) (by rw [hml]; rfl) (lenOf own_pd13 rfl) (rest := []) rfl rfl (hb hby d16_1) fun v1 T1 L1 X1 q1 => ?_
  obtain ⟨rfl, e1, rfl⟩ := q1
  rw [List.append_nil] at X1
  show Go p e below _ T1 (mkF m 4 #[.val (.ref a1), .val (.int (3 : Int32))] [(.int (0 : Int32))])
  refine OwnGo.if_eq X1 hx (pc' := 16) (hb hby d16_4) (by decide) (by decide) (fun _ => ?_) (fun q => absurd q (by decide))
  show Go p e below _ T1 (mkF m 16 #[.val (.ref a1), .val (.int (3 : Int32))] [])
  refine OwnGo.aloadN X1 hx (hb hby d16_16) rfl rfl ?_
  show Go p e below _ T1 (mkF m 17 #[.val (.ref a1), .val (.int (3 : Int32))] [(.ref a1)])
  refine OwnGo.getF X1 hx hZ hown (host := "") (Or.inl (hw _ (List.mem_of_getElem? (i := 33) rfl))) Via.refl e1 F2 (hb hby d16_17) fun T2 X2 e2 => ?_
  show Go p e below _ T2 (mkF m 20 #[.val (.ref a1), .val (.int (3 : Int32))] [(.ref r)])
  refine OwnGo.iloadN X2 hx (hb hby d16_20) rfl ?_
  show Go p e below _ T2 (mkF m 21 #[.val (.ref a1), .val (.int (3 : Int32))] [(.int (3 : Int32)), (.ref r)])
  refine OwnGo.callS X2 hx hZ hown (y := (⟨"java/lang/StringUTF16", "charAt", "([BI)C"⟩ : MethodName)) (hw _ (List.mem_of_getElem? (i := 74) rfl)) (hw _ (List.mem_of_getElem? (i := 75) rfl)) (hw _ (List.mem_of_getElem? (i := 22) rfl)) (hw _ (List.mem_of_getElem? (i := 76) rfl)) (by decide) e2 (as := [(.ref r), (.int (3 : Int32))]) (rmUCA3 l Z a0 hw r kr xf y0 y1 y2 y3 h0 n0 Z0 O1 V1 hxf SF SA SH SLo nc3) (W := 0) (by decide) (by decide) (by decide) (by decide) (by rw [hml]; rfl) (lenOf own_pd6 rfl) (rest := []) rfl rfl (hb hby d16_21) fun v3 T3 L3 X3 q3 => ?_
  obtain ⟨rfl, e3, rfl⟩ := q3
  rw [List.append_nil] at X3
  show Go p e below _ T3 (mkF m 24 #[.val (.ref a1), .val (.int (3 : Int32))] [(.int y3)])
  exact OwnGo.retC X3 hx hlk (z' := y3) hret (hb hby d16_24) nc3 ⟨rfl, e3, rfl⟩ (by decide) (by decide)
theorem own_no4 {t : Int32} (ht : own_in5 t) : ¬ 4 < t := by rcases ht with rfl | rfl | rfl | rfl | rfl <;> decide
theorem d9_0 : decode prog_22_method_3_code 0 = .ok (.iload_n 1, 1) := by decide +kernel
theorem d9_1 : decode prog_22_method_3_code 1 = .ok (.istore_n 3, 1) := by decide +kernel
theorem d9_2 : decode prog_22_method_3_code 2 = .ok (.iload_n 3, 1) := by decide +kernel
theorem d9_3 : decode prog_22_method_3_code 3 = .ok (.iload_n 2, 1) := by decide +kernel
theorem d9_4 : decode prog_22_method_3_code 4 = .ok (.if_icmp .ge 32, 3) := by decide +kernel
theorem d9_7 : decode prog_22_method_3_code 7 = .ok (.aload_n 0, 1) := by decide +kernel
theorem d9_8 : decode prog_22_method_3_code 8 = .ok (.iload_n 3, 1) := by decide +kernel
theorem d9_9 : decode prog_22_method_3_code 9 = .ok (.invokevirtual 42, 3) := by decide +kernel
theorem d9_12 : decode prog_22_method_3_code 12 = .ok (.istore 4, 2) := by decide +kernel
theorem d9_14 : decode prog_22_method_3_code 14 = .ok (.iload 4, 2) := by decide +kernel
theorem d9_16 : decode prog_22_method_3_code 16 = .ok (.bipush 48, 2) := by decide +kernel
theorem d9_18 : decode prog_22_method_3_code 18 = .ok (.if_icmp .lt 10, 3) := by decide +kernel
theorem d9_21 : decode prog_22_method_3_code 21 = .ok (.iload 4, 2) := by decide +kernel
theorem d9_23 : decode prog_22_method_3_code 23 = .ok (.bipush 57, 2) := by decide +kernel
theorem d9_25 : decode prog_22_method_3_code 25 = .ok (.if_icmp .le 5, 3) := by decide +kernel
theorem d9_28 : decode prog_22_method_3_code 28 = .ok (.iconst 0, 1) := by decide +kernel
theorem d9_29 : decode prog_22_method_3_code 29 = .ok (.ireturn, 1) := by decide +kernel
theorem d9_30 : decode prog_22_method_3_code 30 = .ok (.iinc 3 1, 3) := by decide +kernel
theorem d9_33 : decode prog_22_method_3_code 33 = .ok (.goto (-31), 3) := by decide +kernel
theorem d9_36 : decode prog_22_method_3_code 36 = .ok (.iconst 1, 1) := by decide +kernel
theorem d9_37 : decode prog_22_method_3_code 37 = .ok (.ireturn, 1) := by decide +kernel
theorem own_ef_rmISD (m : MethodId) (x0 : Addr) (x1 : Int32) (x2 : Int32) : entryFrame m [(.ref x0), (.int x1), (.int x2)].toArray 5 = mkF m 0 #[.val (.ref x0), .val (.int x1), .val (.int x2), .unset, .unset] [] := by first | (simp [entryFrame, mkF, argsToLocals, Value.category]; done) | rfl
set_option maxRecDepth 65536 in
set_option maxHeartbeats 40000000 in
theorem rmISD (l : Launch) (Z : State) (a0 : Array Value) (hw : ∀ d ∈ tables_1, d.before a0 Z = true) (a1 : Addr) (f1 t1 rr : Int32) (y0 y1 y2 y3 : Int32) (h0 : Heap) (hf : own_in5 f1) (ht : own_in5 t1) (hr : own_ex f1 t1 y0 y1 y2 y3 = rr) (E1 : Exa Z h0 a1 "java/lang/String") (ca0 : Con l Z (⟨"java/lang/String", "charAt", "(I)C"⟩ : MethodName) jdk_42_method_56_code 2 (some .char) ({ frames := 4, cells := 0, slots := 0, locals := 53 } : Room) [(.ref a1), (.int (0 : Int32))] h0 (Ret (some (.int y0)) h0)) (ca1 : Con l Z (⟨"java/lang/String", "charAt", "(I)C"⟩ : MethodName) jdk_42_method_56_code 2 (some .char) ({ frames := 4, cells := 0, slots := 0, locals := 53 } : Room) [(.ref a1), (.int (1 : Int32))] h0 (Ret (some (.int y1)) h0)) (ca2 : Con l Z (⟨"java/lang/String", "charAt", "(I)C"⟩ : MethodName) jdk_42_method_56_code 2 (some .char) ({ frames := 4, cells := 0, slots := 0, locals := 53 } : Room) [(.ref a1), (.int (2 : Int32))] h0 (Ret (some (.int y2)) h0)) (ca3 : Con l Z (⟨"java/lang/String", "charAt", "(I)C"⟩ : MethodName) jdk_42_method_56_code 2 (some .char) ({ frames := 4, cells := 0, slots := 0, locals := 53 } : Room) [(.ref a1), (.int (3 : Int32))] h0 (Ret (some (.int y3)) h0)) :
    Con l Z (⟨"com/example/crossbook/crossbook/cli/IntegerText", "isDigits", "(Ljava/lang/String;II)Z"⟩ : MethodName) prog_22_method_3_code 5 (some .boolean) ({ frames := 5, cells := 0, slots := 0, locals := 66 } : Room) [(.ref a1), (.int f1), (.int t1)] h0 (Ret (some (.int rr)) h0) := by
  refine OwnGo.Con.of (plainFor_of_name own_pn5) (Ls0 := #[.val (.ref a1), .val (.int f1), .val (.int t1), .unset, .unset]) (fun m => own_ef_rmISD m a1 f1 t1) ?_
  intro p e s m below meth c T0 X0 hx hZ hby hml hown hnm hret hlk e0
  have J4 : ∀ (w : Slot) (hw4 : w = .unset ∨ ∃ z, w = .val (.int z)) (hD : own_D4 = rr) (T' : State), Stand p l e ({ frames := 5, cells := 0, slots := 0, locals := 66 } : Room) s m #[(.ref a1), (.int f1), (.int t1)] below meth c T' [] 0 0 → T'.heap = h0 → Go p e below (OwnGo.EndN s (Ret (some (.int rr)) h0) ({ frames := 5, cells := 0, slots := 0, locals := 66 } : Room).cells ({ frames := 5, cells := 0, slots := 0, locals := 66 } : Room).slots) T' (mkF m 2 #[.val (.ref a1), .val (.int f1), .val (.int t1), .val (.int (4 : Int32)), w] []) := by
    intro w hw4 hD T1 X1 e1
    show Go p e below _ T1 (mkF m 2 #[.val (.ref a1), .val (.int f1), .val (.int t1), .val (.int (4 : Int32)), w] [])
    refine OwnGo.iloadN X1 hx (hb hby d9_2) rfl ?_
    show Go p e below _ T1 (mkF m 3 #[.val (.ref a1), .val (.int f1), .val (.int t1), .val (.int (4 : Int32)), w] [(.int (4 : Int32))])
    refine OwnGo.iloadN X1 hx (hb hby d9_3) rfl ?_
    show Go p e below _ T1 (mkF m 4 #[.val (.ref a1), .val (.int f1), .val (.int t1), .val (.int (4 : Int32)), w] [(.int t1), (.int (4 : Int32))])
    refine OwnGo.ic_ge X1 hx (pc' := 36) (hb hby d9_4) (by decide) (by decide) (fun h4 => ?_) (fun h4 => absurd h4 (own_no4 ht))
    show Go p e below _ T1 (mkF m 36 #[.val (.ref a1), .val (.int f1), .val (.int t1), .val (.int (4 : Int32)), w] [])
    refine OwnGo.iconst X1 hx (z := (1 : Int32)) (hb hby d9_36) (by decide) ?_
    show Go p e below _ T1 (mkF m 37 #[.val (.ref a1), .val (.int f1), .val (.int t1), .val (.int (4 : Int32)), w] [(.int (1 : Int32))])
    exact OwnGo.retB X1 hx hlk (z' := (1 : Int32)) hret (hb hby d9_37) rfl ⟨by rw [← hD]; rfl, e1, rfl⟩ (by decide) (by decide)
  have J3 : ∀ (w : Slot) (hw4 : w = .unset ∨ ∃ z, w = .val (.int z)) (hD : own_D3 t1 y3 = rr) (T' : State), Stand p l e ({ frames := 5, cells := 0, slots := 0, locals := 66 } : Room) s m #[(.ref a1), (.int f1), (.int t1)] below meth c T' [] 0 0 → T'.heap = h0 → Go p e below (OwnGo.EndN s (Ret (some (.int rr)) h0) ({ frames := 5, cells := 0, slots := 0, locals := 66 } : Room).cells ({ frames := 5, cells := 0, slots := 0, locals := 66 } : Room).slots) T' (mkF m 2 #[.val (.ref a1), .val (.int f1), .val (.int t1), .val (.int (3 : Int32)), w] []) := by
    intro w hw4 hD T2 X2 e2
    show Go p e below _ T2 (mkF m 2 #[.val (.ref a1), .val (.int f1), .val (.int t1), .val (.int (3 : Int32)), w] [])
    refine OwnGo.iloadN X2 hx (hb hby d9_2) rfl ?_
    show Go p e below _ T2 (mkF m 3 #[.val (.ref a1), .val (.int f1), .val (.int t1), .val (.int (3 : Int32)), w] [(.int (3 : Int32))])
    refine OwnGo.iloadN X2 hx (hb hby d9_3) rfl ?_
    show Go p e below _ T2 (mkF m 4 #[.val (.ref a1), .val (.int f1), .val (.int t1), .val (.int (3 : Int32)), w] [(.int t1), (.int (3 : Int32))])
    refine OwnGo.ic_ge X2 hx (pc' := 36) (hb hby d9_4) (by decide) (by decide) (fun h4 => ?_) (fun h4 => ?_)
    ·
      show Go p e below _ T2 (mkF m 36 #[.val (.ref a1), .val (.int f1), .val (.int t1), .val (.int (3 : Int32)), w] [])
      refine OwnGo.iconst X2 hx (z := (1 : Int32)) (hb hby d9_36) (by decide) ?_
      show Go p e below _ T2 (mkF m 37 #[.val (.ref a1), .val (.int f1), .val (.int t1), .val (.int (3 : Int32)), w] [(.int (1 : Int32))])
      exact OwnGo.retB X2 hx hlk (z' := (1 : Int32)) hret (hb hby d9_37) rfl ⟨by rw [← hD]; first | rfl | (unfold own_D3; rw [if_neg h4]), e2, rfl⟩ (by decide) (by decide)
    ·
      show Go p e below _ T2 (mkF m 7 #[.val (.ref a1), .val (.int f1), .val (.int t1), .val (.int (3 : Int32)), w] [])
      refine OwnGo.aloadN X2 hx (hb hby d9_7) rfl rfl ?_
      show Go p e below _ T2 (mkF m 8 #[.val (.ref a1), .val (.int f1), .val (.int t1), .val (.int (3 : Int32)), w] [(.ref a1)])
      refine OwnGo.iloadN X2 hx (hb hby d9_8) rfl ?_
      show Go p e below _ T2 (mkF m 9 #[.val (.ref a1), .val (.int f1), .val (.int t1), .val (.int (3 : Int32)), w] [(.int (3 : Int32)), (.ref a1)])
      refine OwnGo.callV X2 hx hZ hown (y := (⟨"java/lang/String", "charAt", "(I)C"⟩ : MethodName)) (z := (⟨"java/lang/String", "charAt", "(I)C"⟩ : MethodName)) (hw _ (List.mem_of_getElem? (i := 64) rfl)) (hw _ (List.mem_of_getElem? (i := 65) rfl)) (notFace_of_selects (args := #[]) (mvT hZ (hw _ (List.mem_of_getElem? (i := 67) rfl)))) (hw _ (List.mem_of_getElem? (i := 67) rfl)) (hw _ (List.mem_of_getElem? (i := 66) rfl)) (hw _ (List.mem_of_getElem? (i := 8) rfl)) (hw _ (List.mem_of_getElem? (i := 68) rfl)) (by decide) e2 E1 (as := [(.int (3 : Int32))]) (ca3) (W := 0) (by decide) (by decide) (by decide) (by decide) (by rw [hml]; rfl) (lenOf own_pd14 rfl) (rest := []) rfl rfl (hb hby d9_9) fun v3 T3 L3 X3 q3 => ?_
      obtain ⟨rfl, e3, rfl⟩ := q3
      rw [List.append_nil] at X3
      show Go p e below _ T3 (mkF m 12 #[.val (.ref a1), .val (.int f1), .val (.int t1), .val (.int (3 : Int32)), w] [(.int y3)])
      refine OwnGo.istore X3 hx (hb hby d9_12) (Ls' := #[.val (.ref a1), .val (.int f1), .val (.int t1), .val (.int (3 : Int32)), .val (.int y3)]) (by rcases hw4 with rfl | ⟨z, rfl⟩ <;> rfl) ?_
      show Go p e below _ T3 (mkF m 14 #[.val (.ref a1), .val (.int f1), .val (.int t1), .val (.int (3 : Int32)), .val (.int y3)] [])
      refine OwnGo.iload X3 hx (hb hby d9_14) rfl ?_
      show Go p e below _ T3 (mkF m 16 #[.val (.ref a1), .val (.int f1), .val (.int t1), .val (.int (3 : Int32)), .val (.int y3)] [(.int y3)])
      refine OwnGo.bipush X3 hx (z := (48 : Int32)) (hb hby d9_16) (by decide) ?_
      show Go p e below _ T3 (mkF m 18 #[.val (.ref a1), .val (.int f1), .val (.int t1), .val (.int (3 : Int32)), .val (.int y3)] [(.int (48 : Int32)), (.int y3)])
      refine OwnGo.ic_lt X3 hx (pc' := 28) (hb hby d9_18) (by decide) (by decide) (fun h18 => ?_) (fun h18 => ?_)
      ·
        show Go p e below _ T3 (mkF m 28 #[.val (.ref a1), .val (.int f1), .val (.int t1), .val (.int (3 : Int32)), .val (.int y3)] [])
        refine OwnGo.iconst X3 hx (z := (0 : Int32)) (hb hby d9_28) (by decide) ?_
        show Go p e below _ T3 (mkF m 29 #[.val (.ref a1), .val (.int f1), .val (.int t1), .val (.int (3 : Int32)), .val (.int y3)] [(.int (0 : Int32))])
        exact OwnGo.retB X3 hx hlk (z' := (0 : Int32)) hret (hb hby d9_29) rfl ⟨by rw [← hD]; unfold own_D3; rw [if_pos h4, if_pos (own_dig_a h18)], e3, rfl⟩ (by decide) (by decide)
      ·
        show Go p e below _ T3 (mkF m 21 #[.val (.ref a1), .val (.int f1), .val (.int t1), .val (.int (3 : Int32)), .val (.int y3)] [])
        refine OwnGo.iload X3 hx (hb hby d9_21) rfl ?_
        show Go p e below _ T3 (mkF m 23 #[.val (.ref a1), .val (.int f1), .val (.int t1), .val (.int (3 : Int32)), .val (.int y3)] [(.int y3)])
        refine OwnGo.bipush X3 hx (z := (57 : Int32)) (hb hby d9_23) (by decide) ?_
        show Go p e below _ T3 (mkF m 25 #[.val (.ref a1), .val (.int f1), .val (.int t1), .val (.int (3 : Int32)), .val (.int y3)] [(.int (57 : Int32)), (.int y3)])
        refine OwnGo.ic_le X3 hx (pc' := 30) (hb hby d9_25) (by decide) (by decide) (fun h25 => ?_) (fun h25 => ?_)
        ·
          show Go p e below _ T3 (mkF m 30 #[.val (.ref a1), .val (.int f1), .val (.int t1), .val (.int (3 : Int32)), .val (.int y3)] [])
          refine OwnGo.iinc X3 hx (hb hby d9_30) rfl (z := (4 : Int32)) (by decide) (Ls' := #[.val (.ref a1), .val (.int f1), .val (.int t1), .val (.int (4 : Int32)), .val (.int y3)]) rfl ?_
          show Go p e below _ T3 (mkF m 33 #[.val (.ref a1), .val (.int f1), .val (.int t1), .val (.int (4 : Int32)), .val (.int y3)] [])
          refine OwnGo.goto X3 hx (pc' := 2) (hb hby d9_33) (by decide) (by decide) ?_
          exact J4 (.val (.int y3)) (Or.inr ⟨_, rfl⟩) (by rw [← hD]; unfold own_D3; rw [if_pos h4, if_neg (own_dig_y h18 h25)]) T3 X3 e3
        ·
          show Go p e below _ T3 (mkF m 28 #[.val (.ref a1), .val (.int f1), .val (.int t1), .val (.int (3 : Int32)), .val (.int y3)] [])
          refine OwnGo.iconst X3 hx (z := (0 : Int32)) (hb hby d9_28) (by decide) ?_
          show Go p e below _ T3 (mkF m 29 #[.val (.ref a1), .val (.int f1), .val (.int t1), .val (.int (3 : Int32)), .val (.int y3)] [(.int (0 : Int32))])
          exact OwnGo.retB X3 hx hlk (z' := (0 : Int32)) hret (hb hby d9_29) rfl ⟨by rw [← hD]; unfold own_D3; rw [if_pos h4, if_pos (own_dig_b h25)], e3, rfl⟩ (by decide) (by decide)
  have J2 : ∀ (w : Slot) (hw4 : w = .unset ∨ ∃ z, w = .val (.int z)) (hD : own_D2 t1 y2 y3 = rr) (T' : State), Stand p l e ({ frames := 5, cells := 0, slots := 0, locals := 66 } : Room) s m #[(.ref a1), (.int f1), (.int t1)] below meth c T' [] 0 0 → T'.heap = h0 → Go p e below (OwnGo.EndN s (Ret (some (.int rr)) h0) ({ frames := 5, cells := 0, slots := 0, locals := 66 } : Room).cells ({ frames := 5, cells := 0, slots := 0, locals := 66 } : Room).slots) T' (mkF m 2 #[.val (.ref a1), .val (.int f1), .val (.int t1), .val (.int (2 : Int32)), w] []) := by
    intro w hw4 hD T4 X4 e4
    show Go p e below _ T4 (mkF m 2 #[.val (.ref a1), .val (.int f1), .val (.int t1), .val (.int (2 : Int32)), w] [])
    refine OwnGo.iloadN X4 hx (hb hby d9_2) rfl ?_
    show Go p e below _ T4 (mkF m 3 #[.val (.ref a1), .val (.int f1), .val (.int t1), .val (.int (2 : Int32)), w] [(.int (2 : Int32))])
    refine OwnGo.iloadN X4 hx (hb hby d9_3) rfl ?_
    show Go p e below _ T4 (mkF m 4 #[.val (.ref a1), .val (.int f1), .val (.int t1), .val (.int (2 : Int32)), w] [(.int t1), (.int (2 : Int32))])
    refine OwnGo.ic_ge X4 hx (pc' := 36) (hb hby d9_4) (by decide) (by decide) (fun h4 => ?_) (fun h4 => ?_)
    ·
      show Go p e below _ T4 (mkF m 36 #[.val (.ref a1), .val (.int f1), .val (.int t1), .val (.int (2 : Int32)), w] [])
      refine OwnGo.iconst X4 hx (z := (1 : Int32)) (hb hby d9_36) (by decide) ?_
      show Go p e below _ T4 (mkF m 37 #[.val (.ref a1), .val (.int f1), .val (.int t1), .val (.int (2 : Int32)), w] [(.int (1 : Int32))])
      exact OwnGo.retB X4 hx hlk (z' := (1 : Int32)) hret (hb hby d9_37) rfl ⟨by rw [← hD]; first | rfl | (unfold own_D2; rw [if_neg h4]), e4, rfl⟩ (by decide) (by decide)
    ·
      show Go p e below _ T4 (mkF m 7 #[.val (.ref a1), .val (.int f1), .val (.int t1), .val (.int (2 : Int32)), w] [])
      refine OwnGo.aloadN X4 hx (hb hby d9_7) rfl rfl ?_
      show Go p e below _ T4 (mkF m 8 #[.val (.ref a1), .val (.int f1), .val (.int t1), .val (.int (2 : Int32)), w] [(.ref a1)])
      refine OwnGo.iloadN X4 hx (hb hby d9_8) rfl ?_
      show Go p e below _ T4 (mkF m 9 #[.val (.ref a1), .val (.int f1), .val (.int t1), .val (.int (2 : Int32)), w] [(.int (2 : Int32)), (.ref a1)])
      refine OwnGo.callV X4 hx hZ hown (y := (⟨"java/lang/String", "charAt", "(I)C"⟩ : MethodName)) (z := (⟨"java/lang/String", "charAt", "(I)C"⟩ : MethodName)) (hw _ (List.mem_of_getElem? (i := 64) rfl)) (hw _ (List.mem_of_getElem? (i := 65) rfl)) (notFace_of_selects (args := #[]) (mvT hZ (hw _ (List.mem_of_getElem? (i := 67) rfl)))) (hw _ (List.mem_of_getElem? (i := 67) rfl)) (hw _ (List.mem_of_getElem? (i := 66) rfl)) (hw _ (List.mem_of_getElem? (i := 8) rfl)) (hw _ (List.mem_of_getElem? (i := 68) rfl)) (by decide) e4 E1 (as := [(.int (2 : Int32))]) (ca2) (W := 0) (by decide) (by decide) (by decide) (by decide) (by rw [hml]; rfl) (lenOf own_pd14 rfl) (rest := []) rfl rfl (hb hby d9_9) fun v5 T5 L5 X5 q5 => ?_
      obtain ⟨rfl, e5, rfl⟩ := q5
      rw [List.append_nil] at X5
      show Go p e below _ T5 (mkF m 12 #[.val (.ref a1), .val (.int f1), .val (.int t1), .val (.int (2 : Int32)), w] [(.int y2)])
      refine OwnGo.istore X5 hx (hb hby d9_12) (Ls' := #[.val (.ref a1), .val (.int f1), .val (.int t1), .val (.int (2 : Int32)), .val (.int y2)]) (by rcases hw4 with rfl | ⟨z, rfl⟩ <;> rfl) ?_
      show Go p e below _ T5 (mkF m 14 #[.val (.ref a1), .val (.int f1), .val (.int t1), .val (.int (2 : Int32)), .val (.int y2)] [])
      refine OwnGo.iload X5 hx (hb hby d9_14) rfl ?_
      show Go p e below _ T5 (mkF m 16 #[.val (.ref a1), .val (.int f1), .val (.int t1), .val (.int (2 : Int32)), .val (.int y2)] [(.int y2)])
      refine OwnGo.bipush X5 hx (z := (48 : Int32)) (hb hby d9_16) (by decide) ?_
      show Go p e below _ T5 (mkF m 18 #[.val (.ref a1), .val (.int f1), .val (.int t1), .val (.int (2 : Int32)), .val (.int y2)] [(.int (48 : Int32)), (.int y2)])
      refine OwnGo.ic_lt X5 hx (pc' := 28) (hb hby d9_18) (by decide) (by decide) (fun h18 => ?_) (fun h18 => ?_)
      ·
        show Go p e below _ T5 (mkF m 28 #[.val (.ref a1), .val (.int f1), .val (.int t1), .val (.int (2 : Int32)), .val (.int y2)] [])
        refine OwnGo.iconst X5 hx (z := (0 : Int32)) (hb hby d9_28) (by decide) ?_
        show Go p e below _ T5 (mkF m 29 #[.val (.ref a1), .val (.int f1), .val (.int t1), .val (.int (2 : Int32)), .val (.int y2)] [(.int (0 : Int32))])
        exact OwnGo.retB X5 hx hlk (z' := (0 : Int32)) hret (hb hby d9_29) rfl ⟨by rw [← hD]; unfold own_D2; rw [if_pos h4, if_pos (own_dig_a h18)], e5, rfl⟩ (by decide) (by decide)
      ·
        show Go p e below _ T5 (mkF m 21 #[.val (.ref a1), .val (.int f1), .val (.int t1), .val (.int (2 : Int32)), .val (.int y2)] [])
        refine OwnGo.iload X5 hx (hb hby d9_21) rfl ?_
        show Go p e below _ T5 (mkF m 23 #[.val (.ref a1), .val (.int f1), .val (.int t1), .val (.int (2 : Int32)), .val (.int y2)] [(.int y2)])
        refine OwnGo.bipush X5 hx (z := (57 : Int32)) (hb hby d9_23) (by decide) ?_
        show Go p e below _ T5 (mkF m 25 #[.val (.ref a1), .val (.int f1), .val (.int t1), .val (.int (2 : Int32)), .val (.int y2)] [(.int (57 : Int32)), (.int y2)])
        refine OwnGo.ic_le X5 hx (pc' := 30) (hb hby d9_25) (by decide) (by decide) (fun h25 => ?_) (fun h25 => ?_)
        ·
          show Go p e below _ T5 (mkF m 30 #[.val (.ref a1), .val (.int f1), .val (.int t1), .val (.int (2 : Int32)), .val (.int y2)] [])
          refine OwnGo.iinc X5 hx (hb hby d9_30) rfl (z := (3 : Int32)) (by decide) (Ls' := #[.val (.ref a1), .val (.int f1), .val (.int t1), .val (.int (3 : Int32)), .val (.int y2)]) rfl ?_
          show Go p e below _ T5 (mkF m 33 #[.val (.ref a1), .val (.int f1), .val (.int t1), .val (.int (3 : Int32)), .val (.int y2)] [])
          refine OwnGo.goto X5 hx (pc' := 2) (hb hby d9_33) (by decide) (by decide) ?_
          exact J3 (.val (.int y2)) (Or.inr ⟨_, rfl⟩) (by rw [← hD]; unfold own_D2; rw [if_pos h4, if_neg (own_dig_y h18 h25)]) T5 X5 e5
        ·
          show Go p e below _ T5 (mkF m 28 #[.val (.ref a1), .val (.int f1), .val (.int t1), .val (.int (2 : Int32)), .val (.int y2)] [])
          refine OwnGo.iconst X5 hx (z := (0 : Int32)) (hb hby d9_28) (by decide) ?_
          show Go p e below _ T5 (mkF m 29 #[.val (.ref a1), .val (.int f1), .val (.int t1), .val (.int (2 : Int32)), .val (.int y2)] [(.int (0 : Int32))])
          exact OwnGo.retB X5 hx hlk (z' := (0 : Int32)) hret (hb hby d9_29) rfl ⟨by rw [← hD]; unfold own_D2; rw [if_pos h4, if_pos (own_dig_b h25)], e5, rfl⟩ (by decide) (by decide)
  have J1 : ∀ (w : Slot) (hw4 : w = .unset ∨ ∃ z, w = .val (.int z)) (hD : own_D1 t1 y1 y2 y3 = rr) (T' : State), Stand p l e ({ frames := 5, cells := 0, slots := 0, locals := 66 } : Room) s m #[(.ref a1), (.int f1), (.int t1)] below meth c T' [] 0 0 → T'.heap = h0 → Go p e below (OwnGo.EndN s (Ret (some (.int rr)) h0) ({ frames := 5, cells := 0, slots := 0, locals := 66 } : Room).cells ({ frames := 5, cells := 0, slots := 0, locals := 66 } : Room).slots) T' (mkF m 2 #[.val (.ref a1), .val (.int f1), .val (.int t1), .val (.int (1 : Int32)), w] []) := by
    intro w hw4 hD T6 X6 e6
    show Go p e below _ T6 (mkF m 2 #[.val (.ref a1), .val (.int f1), .val (.int t1), .val (.int (1 : Int32)), w] [])
    refine OwnGo.iloadN X6 hx (hb hby d9_2) rfl ?_
    show Go p e below _ T6 (mkF m 3 #[.val (.ref a1), .val (.int f1), .val (.int t1), .val (.int (1 : Int32)), w] [(.int (1 : Int32))])
    refine OwnGo.iloadN X6 hx (hb hby d9_3) rfl ?_
    show Go p e below _ T6 (mkF m 4 #[.val (.ref a1), .val (.int f1), .val (.int t1), .val (.int (1 : Int32)), w] [(.int t1), (.int (1 : Int32))])
    refine OwnGo.ic_ge X6 hx (pc' := 36) (hb hby d9_4) (by decide) (by decide) (fun h4 => ?_) (fun h4 => ?_)
    ·
      show Go p e below _ T6 (mkF m 36 #[.val (.ref a1), .val (.int f1), .val (.int t1), .val (.int (1 : Int32)), w] [])
      refine OwnGo.iconst X6 hx (z := (1 : Int32)) (hb hby d9_36) (by decide) ?_
      show Go p e below _ T6 (mkF m 37 #[.val (.ref a1), .val (.int f1), .val (.int t1), .val (.int (1 : Int32)), w] [(.int (1 : Int32))])
      exact OwnGo.retB X6 hx hlk (z' := (1 : Int32)) hret (hb hby d9_37) rfl ⟨by rw [← hD]; first | rfl | (unfold own_D1; rw [if_neg h4]), e6, rfl⟩ (by decide) (by decide)
    ·
      show Go p e below _ T6 (mkF m 7 #[.val (.ref a1), .val (.int f1), .val (.int t1), .val (.int (1 : Int32)), w] [])
      refine OwnGo.aloadN X6 hx (hb hby d9_7) rfl rfl ?_
      show Go p e below _ T6 (mkF m 8 #[.val (.ref a1), .val (.int f1), .val (.int t1), .val (.int (1 : Int32)), w] [(.ref a1)])
      refine OwnGo.iloadN X6 hx (hb hby d9_8) rfl ?_
      show Go p e below _ T6 (mkF m 9 #[.val (.ref a1), .val (.int f1), .val (.int t1), .val (.int (1 : Int32)), w] [(.int (1 : Int32)), (.ref a1)])
      refine OwnGo.callV X6 hx hZ hown (y := (⟨"java/lang/String", "charAt", "(I)C"⟩ : MethodName)) (z := (⟨"java/lang/String", "charAt", "(I)C"⟩ : MethodName)) (hw _ (List.mem_of_getElem? (i := 64) rfl)) (hw _ (List.mem_of_getElem? (i := 65) rfl)) (notFace_of_selects (args := #[]) (mvT hZ (hw _ (List.mem_of_getElem? (i := 67) rfl)))) (hw _ (List.mem_of_getElem? (i := 67) rfl)) (hw _ (List.mem_of_getElem? (i := 66) rfl)) (hw _ (List.mem_of_getElem? (i := 8) rfl)) (hw _ (List.mem_of_getElem? (i := 68) rfl)) (by decide) e6 E1 (as := [(.int (1 : Int32))]) (ca1) (W := 0) (by decide) (by decide) (by decide) (by decide) (by rw [hml]; rfl) (lenOf own_pd14 rfl) (rest := []) rfl rfl (hb hby d9_9) fun v7 T7 L7 X7 q7 => ?_
      obtain ⟨rfl, e7, rfl⟩ := q7
      rw [List.append_nil] at X7
      show Go p e below _ T7 (mkF m 12 #[.val (.ref a1), .val (.int f1), .val (.int t1), .val (.int (1 : Int32)), w] [(.int y1)])
      refine OwnGo.istore X7 hx (hb hby d9_12) (Ls' := #[.val (.ref a1), .val (.int f1), .val (.int t1), .val (.int (1 : Int32)), .val (.int y1)]) (by rcases hw4 with rfl | ⟨z, rfl⟩ <;> rfl) ?_
      show Go p e below _ T7 (mkF m 14 #[.val (.ref a1), .val (.int f1), .val (.int t1), .val (.int (1 : Int32)), .val (.int y1)] [])
      refine OwnGo.iload X7 hx (hb hby d9_14) rfl ?_
      show Go p e below _ T7 (mkF m 16 #[.val (.ref a1), .val (.int f1), .val (.int t1), .val (.int (1 : Int32)), .val (.int y1)] [(.int y1)])
      refine OwnGo.bipush X7 hx (z := (48 : Int32)) (hb hby d9_16) (by decide) ?_
      show Go p e below _ T7 (mkF m 18 #[.val (.ref a1), .val (.int f1), .val (.int t1), .val (.int (1 : Int32)), .val (.int y1)] [(.int (48 : Int32)), (.int y1)])
      refine OwnGo.ic_lt X7 hx (pc' := 28) (hb hby d9_18) (by decide) (by decide) (fun h18 => ?_) (fun h18 => ?_)
      ·
        show Go p e below _ T7 (mkF m 28 #[.val (.ref a1), .val (.int f1), .val (.int t1), .val (.int (1 : Int32)), .val (.int y1)] [])
        refine OwnGo.iconst X7 hx (z := (0 : Int32)) (hb hby d9_28) (by decide) ?_
        show Go p e below _ T7 (mkF m 29 #[.val (.ref a1), .val (.int f1), .val (.int t1), .val (.int (1 : Int32)), .val (.int y1)] [(.int (0 : Int32))])
        exact OwnGo.retB X7 hx hlk (z' := (0 : Int32)) hret (hb hby d9_29) rfl ⟨by rw [← hD]; unfold own_D1; rw [if_pos h4, if_pos (own_dig_a h18)], e7, rfl⟩ (by decide) (by decide)
      ·
        show Go p e below _ T7 (mkF m 21 #[.val (.ref a1), .val (.int f1), .val (.int t1), .val (.int (1 : Int32)), .val (.int y1)] [])
        refine OwnGo.iload X7 hx (hb hby d9_21) rfl ?_
        show Go p e below _ T7 (mkF m 23 #[.val (.ref a1), .val (.int f1), .val (.int t1), .val (.int (1 : Int32)), .val (.int y1)] [(.int y1)])
        refine OwnGo.bipush X7 hx (z := (57 : Int32)) (hb hby d9_23) (by decide) ?_
        show Go p e below _ T7 (mkF m 25 #[.val (.ref a1), .val (.int f1), .val (.int t1), .val (.int (1 : Int32)), .val (.int y1)] [(.int (57 : Int32)), (.int y1)])
        refine OwnGo.ic_le X7 hx (pc' := 30) (hb hby d9_25) (by decide) (by decide) (fun h25 => ?_) (fun h25 => ?_)
        ·
          show Go p e below _ T7 (mkF m 30 #[.val (.ref a1), .val (.int f1), .val (.int t1), .val (.int (1 : Int32)), .val (.int y1)] [])
          refine OwnGo.iinc X7 hx (hb hby d9_30) rfl (z := (2 : Int32)) (by decide) (Ls' := #[.val (.ref a1), .val (.int f1), .val (.int t1), .val (.int (2 : Int32)), .val (.int y1)]) rfl ?_
          show Go p e below _ T7 (mkF m 33 #[.val (.ref a1), .val (.int f1), .val (.int t1), .val (.int (2 : Int32)), .val (.int y1)] [])
          refine OwnGo.goto X7 hx (pc' := 2) (hb hby d9_33) (by decide) (by decide) ?_
          exact J2 (.val (.int y1)) (Or.inr ⟨_, rfl⟩) (by rw [← hD]; unfold own_D1; rw [if_pos h4, if_neg (own_dig_y h18 h25)]) T7 X7 e7
        ·
          show Go p e below _ T7 (mkF m 28 #[.val (.ref a1), .val (.int f1), .val (.int t1), .val (.int (1 : Int32)), .val (.int y1)] [])
          refine OwnGo.iconst X7 hx (z := (0 : Int32)) (hb hby d9_28) (by decide) ?_
          show Go p e below _ T7 (mkF m 29 #[.val (.ref a1), .val (.int f1), .val (.int t1), .val (.int (1 : Int32)), .val (.int y1)] [(.int (0 : Int32))])
          exact OwnGo.retB X7 hx hlk (z' := (0 : Int32)) hret (hb hby d9_29) rfl ⟨by rw [← hD]; unfold own_D1; rw [if_pos h4, if_pos (own_dig_b h25)], e7, rfl⟩ (by decide) (by decide)
  have J0 : ∀ (w : Slot) (hw4 : w = .unset ∨ ∃ z, w = .val (.int z)) (hD : own_D0 t1 y0 y1 y2 y3 = rr) (T' : State), Stand p l e ({ frames := 5, cells := 0, slots := 0, locals := 66 } : Room) s m #[(.ref a1), (.int f1), (.int t1)] below meth c T' [] 0 0 → T'.heap = h0 → Go p e below (OwnGo.EndN s (Ret (some (.int rr)) h0) ({ frames := 5, cells := 0, slots := 0, locals := 66 } : Room).cells ({ frames := 5, cells := 0, slots := 0, locals := 66 } : Room).slots) T' (mkF m 2 #[.val (.ref a1), .val (.int f1), .val (.int t1), .val (.int (0 : Int32)), w] []) := by
    intro w hw4 hD T8 X8 e8
    show Go p e below _ T8 (mkF m 2 #[.val (.ref a1), .val (.int f1), .val (.int t1), .val (.int (0 : Int32)), w] [])
    refine OwnGo.iloadN X8 hx (hb hby d9_2) rfl ?_
    show Go p e below _ T8 (mkF m 3 #[.val (.ref a1), .val (.int f1), .val (.int t1), .val (.int (0 : Int32)), w] [(.int (0 : Int32))])
    refine OwnGo.iloadN X8 hx (hb hby d9_3) rfl ?_
    show Go p e below _ T8 (mkF m 4 #[.val (.ref a1), .val (.int f1), .val (.int t1), .val (.int (0 : Int32)), w] [(.int t1), (.int (0 : Int32))])
    refine OwnGo.ic_ge X8 hx (pc' := 36) (hb hby d9_4) (by decide) (by decide) (fun h4 => ?_) (fun h4 => ?_)
    ·
      show Go p e below _ T8 (mkF m 36 #[.val (.ref a1), .val (.int f1), .val (.int t1), .val (.int (0 : Int32)), w] [])
      refine OwnGo.iconst X8 hx (z := (1 : Int32)) (hb hby d9_36) (by decide) ?_
      show Go p e below _ T8 (mkF m 37 #[.val (.ref a1), .val (.int f1), .val (.int t1), .val (.int (0 : Int32)), w] [(.int (1 : Int32))])
      exact OwnGo.retB X8 hx hlk (z' := (1 : Int32)) hret (hb hby d9_37) rfl ⟨by rw [← hD]; first | rfl | (unfold own_D0; rw [if_neg h4]), e8, rfl⟩ (by decide) (by decide)
    ·
      show Go p e below _ T8 (mkF m 7 #[.val (.ref a1), .val (.int f1), .val (.int t1), .val (.int (0 : Int32)), w] [])
      refine OwnGo.aloadN X8 hx (hb hby d9_7) rfl rfl ?_
      show Go p e below _ T8 (mkF m 8 #[.val (.ref a1), .val (.int f1), .val (.int t1), .val (.int (0 : Int32)), w] [(.ref a1)])
      refine OwnGo.iloadN X8 hx (hb hby d9_8) rfl ?_
      show Go p e below _ T8 (mkF m 9 #[.val (.ref a1), .val (.int f1), .val (.int t1), .val (.int (0 : Int32)), w] [(.int (0 : Int32)), (.ref a1)])
      refine OwnGo.callV X8 hx hZ hown (y := (⟨"java/lang/String", "charAt", "(I)C"⟩ : MethodName)) (z := (⟨"java/lang/String", "charAt", "(I)C"⟩ : MethodName)) (hw _ (List.mem_of_getElem? (i := 64) rfl)) (hw _ (List.mem_of_getElem? (i := 65) rfl)) (notFace_of_selects (args := #[]) (mvT hZ (hw _ (List.mem_of_getElem? (i := 67) rfl)))) (hw _ (List.mem_of_getElem? (i := 67) rfl)) (hw _ (List.mem_of_getElem? (i := 66) rfl)) (hw _ (List.mem_of_getElem? (i := 8) rfl)) (hw _ (List.mem_of_getElem? (i := 68) rfl)) (by decide) e8 E1 (as := [(.int (0 : Int32))]) (ca0) (W := 0) (by decide) (by decide) (by decide) (by decide) (by rw [hml]; rfl) (lenOf own_pd14 rfl) (rest := []) rfl rfl (hb hby d9_9) fun v9 T9 L9 X9 q9 => ?_
      obtain ⟨rfl, e9, rfl⟩ := q9
      rw [List.append_nil] at X9
      show Go p e below _ T9 (mkF m 12 #[.val (.ref a1), .val (.int f1), .val (.int t1), .val (.int (0 : Int32)), w] [(.int y0)])
      refine OwnGo.istore X9 hx (hb hby d9_12) (Ls' := #[.val (.ref a1), .val (.int f1), .val (.int t1), .val (.int (0 : Int32)), .val (.int y0)]) (by rcases hw4 with rfl | ⟨z, rfl⟩ <;> rfl) ?_
      show Go p e below _ T9 (mkF m 14 #[.val (.ref a1), .val (.int f1), .val (.int t1), .val (.int (0 : Int32)), .val (.int y0)] [])
      refine OwnGo.iload X9 hx (hb hby d9_14) rfl ?_
      show Go p e below _ T9 (mkF m 16 #[.val (.ref a1), .val (.int f1), .val (.int t1), .val (.int (0 : Int32)), .val (.int y0)] [(.int y0)])
      refine OwnGo.bipush X9 hx (z := (48 : Int32)) (hb hby d9_16) (by decide) ?_
      show Go p e below _ T9 (mkF m 18 #[.val (.ref a1), .val (.int f1), .val (.int t1), .val (.int (0 : Int32)), .val (.int y0)] [(.int (48 : Int32)), (.int y0)])
      refine OwnGo.ic_lt X9 hx (pc' := 28) (hb hby d9_18) (by decide) (by decide) (fun h18 => ?_) (fun h18 => ?_)
      ·
        show Go p e below _ T9 (mkF m 28 #[.val (.ref a1), .val (.int f1), .val (.int t1), .val (.int (0 : Int32)), .val (.int y0)] [])
        refine OwnGo.iconst X9 hx (z := (0 : Int32)) (hb hby d9_28) (by decide) ?_
        show Go p e below _ T9 (mkF m 29 #[.val (.ref a1), .val (.int f1), .val (.int t1), .val (.int (0 : Int32)), .val (.int y0)] [(.int (0 : Int32))])
        exact OwnGo.retB X9 hx hlk (z' := (0 : Int32)) hret (hb hby d9_29) rfl ⟨by rw [← hD]; unfold own_D0; rw [if_pos h4, if_pos (own_dig_a h18)], e9, rfl⟩ (by decide) (by decide)
      ·
        show Go p e below _ T9 (mkF m 21 #[.val (.ref a1), .val (.int f1), .val (.int t1), .val (.int (0 : Int32)), .val (.int y0)] [])
        refine OwnGo.iload X9 hx (hb hby d9_21) rfl ?_
        show Go p e below _ T9 (mkF m 23 #[.val (.ref a1), .val (.int f1), .val (.int t1), .val (.int (0 : Int32)), .val (.int y0)] [(.int y0)])
        refine OwnGo.bipush X9 hx (z := (57 : Int32)) (hb hby d9_23) (by decide) ?_
        show Go p e below _ T9 (mkF m 25 #[.val (.ref a1), .val (.int f1), .val (.int t1), .val (.int (0 : Int32)), .val (.int y0)] [(.int (57 : Int32)), (.int y0)])
        refine OwnGo.ic_le X9 hx (pc' := 30) (hb hby d9_25) (by decide) (by decide) (fun h25 => ?_) (fun h25 => ?_)
        ·
          show Go p e below _ T9 (mkF m 30 #[.val (.ref a1), .val (.int f1), .val (.int t1), .val (.int (0 : Int32)), .val (.int y0)] [])
          refine OwnGo.iinc X9 hx (hb hby d9_30) rfl (z := (1 : Int32)) (by decide) (Ls' := #[.val (.ref a1), .val (.int f1), .val (.int t1), .val (.int (1 : Int32)), .val (.int y0)]) rfl ?_
          show Go p e below _ T9 (mkF m 33 #[.val (.ref a1), .val (.int f1), .val (.int t1), .val (.int (1 : Int32)), .val (.int y0)] [])
          refine OwnGo.goto X9 hx (pc' := 2) (hb hby d9_33) (by decide) (by decide) ?_
          exact J1 (.val (.int y0)) (Or.inr ⟨_, rfl⟩) (by rw [← hD]; unfold own_D0; rw [if_pos h4, if_neg (own_dig_y h18 h25)]) T9 X9 e9
        ·
          show Go p e below _ T9 (mkF m 28 #[.val (.ref a1), .val (.int f1), .val (.int t1), .val (.int (0 : Int32)), .val (.int y0)] [])
          refine OwnGo.iconst X9 hx (z := (0 : Int32)) (hb hby d9_28) (by decide) ?_
          show Go p e below _ T9 (mkF m 29 #[.val (.ref a1), .val (.int f1), .val (.int t1), .val (.int (0 : Int32)), .val (.int y0)] [(.int (0 : Int32))])
          exact OwnGo.retB X9 hx hlk (z' := (0 : Int32)) hret (hb hby d9_29) rfl ⟨by rw [← hD]; unfold own_D0; rw [if_pos h4, if_pos (own_dig_b h25)], e9, rfl⟩ (by decide) (by decide)
  have hr2 := hr
  rw [own_eq _ _ _ _ _ _ hf ht] at hr2
  rcases hf with rfl | rfl | rfl | rfl | rfl
  ·
    show Go p e below _ T0 (mkF m 0 #[.val (.ref a1), .val (.int (0 : Int32)), .val (.int t1), .unset, .unset] [])
    refine OwnGo.iloadN X0 hx (hb hby d9_0) rfl ?_
    show Go p e below _ T0 (mkF m 1 #[.val (.ref a1), .val (.int (0 : Int32)), .val (.int t1), .unset, .unset] [(.int (0 : Int32))])
    refine OwnGo.istoreN X0 hx (hb hby d9_1) (Ls' := #[.val (.ref a1), .val (.int (0 : Int32)), .val (.int t1), .val (.int (0 : Int32)), .unset]) rfl ?_
    exact J0 (.unset) (Or.inl rfl) (by first | exact hr2 | (simp +decide at hr2; exact hr2) | simpa using hr2) T0 X0 e0
  ·
    show Go p e below _ T0 (mkF m 0 #[.val (.ref a1), .val (.int (1 : Int32)), .val (.int t1), .unset, .unset] [])
    refine OwnGo.iloadN X0 hx (hb hby d9_0) rfl ?_
    show Go p e below _ T0 (mkF m 1 #[.val (.ref a1), .val (.int (1 : Int32)), .val (.int t1), .unset, .unset] [(.int (1 : Int32))])
    refine OwnGo.istoreN X0 hx (hb hby d9_1) (Ls' := #[.val (.ref a1), .val (.int (1 : Int32)), .val (.int t1), .val (.int (1 : Int32)), .unset]) rfl ?_
    exact J1 (.unset) (Or.inl rfl) (by first | exact hr2 | (simp +decide at hr2; exact hr2) | simpa using hr2) T0 X0 e0
  ·
    show Go p e below _ T0 (mkF m 0 #[.val (.ref a1), .val (.int (2 : Int32)), .val (.int t1), .unset, .unset] [])
    refine OwnGo.iloadN X0 hx (hb hby d9_0) rfl ?_
    show Go p e below _ T0 (mkF m 1 #[.val (.ref a1), .val (.int (2 : Int32)), .val (.int t1), .unset, .unset] [(.int (2 : Int32))])
    refine OwnGo.istoreN X0 hx (hb hby d9_1) (Ls' := #[.val (.ref a1), .val (.int (2 : Int32)), .val (.int t1), .val (.int (2 : Int32)), .unset]) rfl ?_
    exact J2 (.unset) (Or.inl rfl) (by first | exact hr2 | (simp +decide at hr2; exact hr2) | simpa using hr2) T0 X0 e0
  ·
    show Go p e below _ T0 (mkF m 0 #[.val (.ref a1), .val (.int (3 : Int32)), .val (.int t1), .unset, .unset] [])
    refine OwnGo.iloadN X0 hx (hb hby d9_0) rfl ?_
    show Go p e below _ T0 (mkF m 1 #[.val (.ref a1), .val (.int (3 : Int32)), .val (.int t1), .unset, .unset] [(.int (3 : Int32))])
    refine OwnGo.istoreN X0 hx (hb hby d9_1) (Ls' := #[.val (.ref a1), .val (.int (3 : Int32)), .val (.int t1), .val (.int (3 : Int32)), .unset]) rfl ?_
    exact J3 (.unset) (Or.inl rfl) (by first | exact hr2 | (simp +decide at hr2; exact hr2) | simpa using hr2) T0 X0 e0
  ·
    show Go p e below _ T0 (mkF m 0 #[.val (.ref a1), .val (.int (4 : Int32)), .val (.int t1), .unset, .unset] [])
    refine OwnGo.iloadN X0 hx (hb hby d9_0) rfl ?_
    show Go p e below _ T0 (mkF m 1 #[.val (.ref a1), .val (.int (4 : Int32)), .val (.int t1), .unset, .unset] [(.int (4 : Int32))])
    refine OwnGo.istoreN X0 hx (hb hby d9_1) (Ls' := #[.val (.ref a1), .val (.int (4 : Int32)), .val (.int t1), .val (.int (4 : Int32)), .unset]) rfl ?_
    exact J4 (.unset) (Or.inl rfl) (by first | exact hr2 | (simp +decide at hr2; exact hr2) | simpa using hr2) T0 X0 e0
theorem own_eqpin {s : State} {args : Array Value} {t : Term} {k : Int32} (hq : (Jvm.Cond.eq t (.int k)).value args s none s [] = some true) : t.eval args s none [] s = some (.int k) := by
  obtain ⟨x, y, h1, h2, h3, h4⟩ := cmp_v (Or.inl hq)
  have hy : y = .int k := (Option.some.inj h2).symm
  subst hy
  obtain ⟨z, rfl⟩ := h4
  have q : z = k := gotT (by simp only [Cond.value, h1, h2] : (Jvm.Cond.eq t (.int k)).value args s none s [] = some (decide (z = k))) hq
  subst q
  exact h1
theorem own_ef_rm0 (m : MethodId) (x0 : Int32) (x1 : Int32) (x2 : Int32) (x3 : Int32) (x4 : Int32) : entryFrame m [(.int x0), (.int x1), (.int x2), (.int x3), (.int x4)].toArray maxLocals = mkF m 0 #[.val (.int x0), .val (.int x1), .val (.int x2), .val (.int x3), .val (.int x4), .unset, .unset, .unset, .unset, .unset, .unset, .unset, .unset, .unset, .unset] [] := by first | (simp [entryFrame, mkF, argsToLocals, Value.category, maxLocals]; done) | rfl
set_option maxRecDepth 65536 in
set_option maxHeartbeats 40000000 in
theorem rm0 (l : Launch) (Z : State) (a0 : Array Value) (hw : ∀ d ∈ tables_1, d.before a0 Z = true) (p1 p2 p3 p4 p5 pz : Int32) (xf : Value) (h0 : Heap) (n0 : Nat) (Z0 : n0 ≤ h0.size) (O1 : Old Z n0 h0) (hxf : xf.isRef = true) (SF : Sta Z Z.heap "jdk/internal/util/Preconditions" "SIOOBE_FORMATTER" "Ljava/util/function/BiFunction;" xf) (SA : Sta Z Z.heap "java/lang/StringUTF16" "$assertionsDisabled" "Z" (.int (1 : Int32))) (SH : Sta Z Z.heap "java/lang/StringUTF16" "HI_BYTE_SHIFT" "I" (.int (0 : Int32))) (SLo : Sta Z Z.heap "java/lang/StringUTF16" "LO_BYTE_SHIFT" "I" (.int (8 : Int32))) (SC : Sta Z Z.heap "java/lang/String" "COMPACT_STRINGS" "Z" (.int pz)) (hpz : ¬ pz = 0) :
    Con l Z x code maxLocals ret room_1 [(.int p1), (.int p2), (.int p3), (.int p4), (.int p5)] h0 (fun v _ L => v = some (.int 1) ∧ Fr n0 L) := by
  refine OwnGo.Con.of (plainFor_of_name own_pn0) (Ls0 := #[.val (.int p1), .val (.int p2), .val (.int p3), .val (.int p4), .val (.int p5), .unset, .unset, .unset, .unset, .unset, .unset, .unset, .unset, .unset, .unset]) (fun m => own_ef_rm0 m p1 p2 p3 p4 p5) ?_
  intro p e s m below meth c T0 X0 hx hZ hby hml hown hnm hret hlk e0
  have hml : c.maxLocals = 15 := hml
  show Go p e below _ T0 (mkF m 0 #[.val (.int p1), .val (.int p2), .val (.int p3), .val (.int p4), .val (.int p5), .unset, .unset, .unset, .unset, .unset, .unset, .unset, .unset, .unset, .unset] [])
  refine OwnGo.iloadN X0 hx (hb hby at_0) rfl ?_
  show Go p e below _ T0 (mkF m 1 #[.val (.int p1), .val (.int p2), .val (.int p3), .val (.int p4), .val (.int p5), .unset, .unset, .unset, .unset, .unset, .unset, .unset, .unset, .unset, .unset] [(.int p1)])
  refine OwnGo.callS X0 hx hZ hown (y := (⟨"com/example/crossbook/crossbook/cli/IntegerTextIsDigitsPinLaw", "ch", "(I)C"⟩ : MethodName)) (hw _ (List.mem_of_getElem? (i := 0) rfl)) (hw _ (List.mem_of_getElem? (i := 1) rfl)) (hw _ (List.mem_of_getElem? (i := 2) rfl)) (hw _ (List.mem_of_getElem? (i := 3) rfl)) (by decide) e0 (as := [(.int p1)]) (rmCH l Z a0 hw p1 h0) (W := 0) (by decide) (by decide) (by decide) (by decide) (by rw [hml]; rfl) (lenOf own_pd14 rfl) (rest := []) rfl rfl (hb hby at_1) fun v1 T1 L1 X1 q1 => ?_
  obtain ⟨rfl, e1, rfl⟩ := q1
  rw [List.append_nil] at X1
  obtain ⟨y0, hy0⟩ : ∃ z, z = own_ch p1 := ⟨_, rfl⟩
  have nc0 : nar .char y0 = y0 := by rw [hy0]; exact own_nch _
  rw [← hy0]
  show Go p e below _ T1 (mkF m 4 #[.val (.int p1), .val (.int p2), .val (.int p3), .val (.int p4), .val (.int p5), .unset, .unset, .unset, .unset, .unset, .unset, .unset, .unset, .unset, .unset] [(.int y0)])
  refine OwnGo.istore X1 hx (hb hby at_4) (Ls' := #[.val (.int p1), .val (.int p2), .val (.int p3), .val (.int p4), .val (.int p5), .val (.int y0), .unset, .unset, .unset, .unset, .unset, .unset, .unset, .unset, .unset]) rfl ?_
  show Go p e below _ T1 (mkF m 6 #[.val (.int p1), .val (.int p2), .val (.int p3), .val (.int p4), .val (.int p5), .val (.int y0), .unset, .unset, .unset, .unset, .unset, .unset, .unset, .unset, .unset] [])
  refine OwnGo.iloadN X1 hx (hb hby at_6) rfl ?_
  show Go p e below _ T1 (mkF m 7 #[.val (.int p1), .val (.int p2), .val (.int p3), .val (.int p4), .val (.int p5), .val (.int y0), .unset, .unset, .unset, .unset, .unset, .unset, .unset, .unset, .unset] [(.int p2)])
  refine OwnGo.callS X1 hx hZ hown (y := (⟨"com/example/crossbook/crossbook/cli/IntegerTextIsDigitsPinLaw", "ch", "(I)C"⟩ : MethodName)) (hw _ (List.mem_of_getElem? (i := 0) rfl)) (hw _ (List.mem_of_getElem? (i := 1) rfl)) (hw _ (List.mem_of_getElem? (i := 2) rfl)) (hw _ (List.mem_of_getElem? (i := 3) rfl)) (by decide) e1 (as := [(.int p2)]) (rmCH l Z a0 hw p2 h0) (W := 0) (by decide) (by decide) (by decide) (by decide) (by rw [hml]; rfl) (lenOf own_pd14 rfl) (rest := []) rfl rfl (hb hby at_7) fun v2 T2 L2 X2 q2 => ?_
  obtain ⟨rfl, e2, rfl⟩ := q2
  rw [List.append_nil] at X2
  obtain ⟨y1, hy1⟩ : ∃ z, z = own_ch p2 := ⟨_, rfl⟩
  have nc1 : nar .char y1 = y1 := by rw [hy1]; exact own_nch _
  rw [← hy1]
  show Go p e below _ T2 (mkF m 10 #[.val (.int p1), .val (.int p2), .val (.int p3), .val (.int p4), .val (.int p5), .val (.int y0), .unset, .unset, .unset, .unset, .unset, .unset, .unset, .unset, .unset] [(.int y1)])
  refine OwnGo.istore X2 hx (hb hby at_10) (Ls' := #[.val (.int p1), .val (.int p2), .val (.int p3), .val (.int p4), .val (.int p5), .val (.int y0), .val (.int y1), .unset, .unset, .unset, .unset, .unset, .unset, .unset, .unset]) rfl ?_
  show Go p e below _ T2 (mkF m 12 #[.val (.int p1), .val (.int p2), .val (.int p3), .val (.int p4), .val (.int p5), .val (.int y0), .val (.int y1), .unset, .unset, .unset, .unset, .unset, .unset, .unset, .unset] [])
  refine OwnGo.iloadN X2 hx (hb hby at_12) rfl ?_
  show Go p e below _ T2 (mkF m 13 #[.val (.int p1), .val (.int p2), .val (.int p3), .val (.int p4), .val (.int p5), .val (.int y0), .val (.int y1), .unset, .unset, .unset, .unset, .unset, .unset, .unset, .unset] [(.int p3)])
  refine OwnGo.callS X2 hx hZ hown (y := (⟨"com/example/crossbook/crossbook/cli/IntegerTextIsDigitsPinLaw", "ch", "(I)C"⟩ : MethodName)) (hw _ (List.mem_of_getElem? (i := 0) rfl)) (hw _ (List.mem_of_getElem? (i := 1) rfl)) (hw _ (List.mem_of_getElem? (i := 2) rfl)) (hw _ (List.mem_of_getElem? (i := 3) rfl)) (by decide) e2 (as := [(.int p3)]) (rmCH l Z a0 hw p3 h0) (W := 0) (by decide) (by decide) (by decide) (by decide) (by rw [hml]; rfl) (lenOf own_pd14 rfl) (rest := []) rfl rfl (hb hby at_13) fun v3 T3 L3 X3 q3 => ?_
  obtain ⟨rfl, e3, rfl⟩ := q3
  rw [List.append_nil] at X3
  obtain ⟨y2, hy2⟩ : ∃ z, z = own_ch p3 := ⟨_, rfl⟩
  have nc2 : nar .char y2 = y2 := by rw [hy2]; exact own_nch _
  rw [← hy2]
  show Go p e below _ T3 (mkF m 16 #[.val (.int p1), .val (.int p2), .val (.int p3), .val (.int p4), .val (.int p5), .val (.int y0), .val (.int y1), .unset, .unset, .unset, .unset, .unset, .unset, .unset, .unset] [(.int y2)])
  refine OwnGo.istore X3 hx (hb hby at_16) (Ls' := #[.val (.int p1), .val (.int p2), .val (.int p3), .val (.int p4), .val (.int p5), .val (.int y0), .val (.int y1), .val (.int y2), .unset, .unset, .unset, .unset, .unset, .unset, .unset]) rfl ?_
  show Go p e below _ T3 (mkF m 18 #[.val (.int p1), .val (.int p2), .val (.int p3), .val (.int p4), .val (.int p5), .val (.int y0), .val (.int y1), .val (.int y2), .unset, .unset, .unset, .unset, .unset, .unset, .unset] [])
  refine OwnGo.iloadN X3 hx (hb hby at_18) rfl ?_
  show Go p e below _ T3 (mkF m 19 #[.val (.int p1), .val (.int p2), .val (.int p3), .val (.int p4), .val (.int p5), .val (.int y0), .val (.int y1), .val (.int y2), .unset, .unset, .unset, .unset, .unset, .unset, .unset] [(.int p4)])
  refine OwnGo.callS X3 hx hZ hown (y := (⟨"com/example/crossbook/crossbook/cli/IntegerTextIsDigitsPinLaw", "ch", "(I)C"⟩ : MethodName)) (hw _ (List.mem_of_getElem? (i := 0) rfl)) (hw _ (List.mem_of_getElem? (i := 1) rfl)) (hw _ (List.mem_of_getElem? (i := 2) rfl)) (hw _ (List.mem_of_getElem? (i := 3) rfl)) (by decide) e3 (as := [(.int p4)]) (rmCH l Z a0 hw p4 h0) (W := 0) (by decide) (by decide) (by decide) (by decide) (by rw [hml]; rfl) (lenOf own_pd14 rfl) (rest := []) rfl rfl (hb hby at_19) fun v4 T4 L4 X4 q4 => ?_
  obtain ⟨rfl, e4, rfl⟩ := q4
  rw [List.append_nil] at X4
  obtain ⟨y3, hy3⟩ : ∃ z, z = own_ch p4 := ⟨_, rfl⟩
  have nc3 : nar .char y3 = y3 := by rw [hy3]; exact own_nch _
  rw [← hy3]
  show Go p e below _ T4 (mkF m 22 #[.val (.int p1), .val (.int p2), .val (.int p3), .val (.int p4), .val (.int p5), .val (.int y0), .val (.int y1), .val (.int y2), .unset, .unset, .unset, .unset, .unset, .unset, .unset] [(.int y3)])
  refine OwnGo.istore X4 hx (hb hby at_22) (Ls' := #[.val (.int p1), .val (.int p2), .val (.int p3), .val (.int p4), .val (.int p5), .val (.int y0), .val (.int y1), .val (.int y2), .val (.int y3), .unset, .unset, .unset, .unset, .unset, .unset]) rfl ?_
  show Go p e below _ T4 (mkF m 24 #[.val (.int p1), .val (.int p2), .val (.int p3), .val (.int p4), .val (.int p5), .val (.int y0), .val (.int y1), .val (.int y2), .val (.int y3), .unset, .unset, .unset, .unset, .unset, .unset] [])
  refine OwnGo.iconst X4 hx (z := (4 : Int32)) (hb hby at_24) (by decide) ?_
  show Go p e below _ T4 (mkF m 25 #[.val (.int p1), .val (.int p2), .val (.int p3), .val (.int p4), .val (.int p5), .val (.int y0), .val (.int y1), .val (.int y2), .val (.int y3), .unset, .unset, .unset, .unset, .unset, .unset] [(.int (4 : Int32))])
  refine OwnGo.newP X4 hx hZ (aty := .char) (hw _ (List.mem_of_getElem? (i := 5) rfl)) e4 (hb hby at_25) (n := (4 : Int32)) (by decide) (cap := 4) (by decide) (by decide) (by decide) (by decide) fun T5 h5 k5 b5 g5 X5 e5 E5 A5 => ?_
  have gb5 : n0 ≤ b5 := Nat.le_trans Z0 (Nat.le_of_eq g5.symm)
  have gz5 : h0.size ≤ b5 := Nat.le_trans (Keep.refl h0 []).1 (Nat.le_of_eq g5.symm)
  have O1_c5 := O1.ext E5
  have Z5 := Nat.le_trans Z0 E5.1
  have K5_ := (Keep.refl h0 []).ext E5
  have V5 : Arv Z h5 b5 k5 .char (4 : Int32) [(.int (0 : Int32)), (.int (0 : Int32)), (.int (0 : Int32)), (.int (0 : Int32))] (.int (0 : Int32)) := (Arv.new A5 (by decide)).pad (pad_rep [] _ 4)
  show Go p e below _ T5 (mkF m 27 #[.val (.int p1), .val (.int p2), .val (.int p3), .val (.int p4), .val (.int p5), .val (.int y0), .val (.int y1), .val (.int y2), .val (.int y3), .unset, .unset, .unset, .unset, .unset, .unset] [(.ref b5)])
  refine OwnGo.astore X5 hx (hb hby at_27) rfl (Ls' := #[.val (.int p1), .val (.int p2), .val (.int p3), .val (.int p4), .val (.int p5), .val (.int y0), .val (.int y1), .val (.int y2), .val (.int y3), .val (.ref b5), .unset, .unset, .unset, .unset, .unset]) rfl ?_
  show Go p e below _ T5 (mkF m 29 #[.val (.int p1), .val (.int p2), .val (.int p3), .val (.int p4), .val (.int p5), .val (.int y0), .val (.int y1), .val (.int y2), .val (.int y3), .val (.ref b5), .unset, .unset, .unset, .unset, .unset] [])
  refine OwnGo.aload X5 hx (hb hby at_29) rfl rfl ?_
  show Go p e below _ T5 (mkF m 31 #[.val (.int p1), .val (.int p2), .val (.int p3), .val (.int p4), .val (.int p5), .val (.int y0), .val (.int y1), .val (.int y2), .val (.int y3), .val (.ref b5), .unset, .unset, .unset, .unset, .unset] [(.ref b5)])
  refine OwnGo.iconst X5 hx (z := (0 : Int32)) (hb hby at_31) (by decide) ?_
  show Go p e below _ T5 (mkF m 32 #[.val (.int p1), .val (.int p2), .val (.int p3), .val (.int p4), .val (.int p5), .val (.int y0), .val (.int y1), .val (.int y2), .val (.int y3), .val (.ref b5), .unset, .unset, .unset, .unset, .unset] [(.int (0 : Int32)), (.ref b5)])
  refine OwnGo.iload X5 hx (hb hby at_32) rfl ?_
  show Go p e below _ T5 (mkF m 34 #[.val (.int p1), .val (.int p2), .val (.int p3), .val (.int p4), .val (.int p5), .val (.int y0), .val (.int y1), .val (.int y2), .val (.int y3), .val (.ref b5), .unset, .unset, .unset, .unset, .unset] [(.int y0), (.int (0 : Int32)), (.ref b5)])
  obtain ⟨cl6, Ar6, Kq6, Sz6, Nn6, Hh6, Gg6⟩ := (id V5)
  have hin6 : ¬ ((0 : Int32) < 0 ∨ cl6.slots.size ≤ ((0 : Int32)).toNatClampNeg) := inb_of Sz6 ⟨by decide, by decide⟩
  refine OwnGo.stC X5 hx hZ e5 Ar6 hin6 (hb hby at_34) fun T6 h6 X6 e6 W6 => ?_
  have O1_c6 := O1_c5.wr W6 gb5
  have Z6 := Nat.le_trans Z5 (Keep.of_wr W6).1
  have K6_ := K5_.wr W6 (Or.inr gz5)
  have N6_ := Fr.snoc X6 (Fr.nil n0) gb5
  have V6 : Arv Z h6 b5 k5 .char (4 : Int32) [(.int (nar .char y0)), (.int (0 : Int32)), (.int (0 : Int32)), (.int (0 : Int32))] (.int (0 : Int32)) := Arv.set Ar6 Kq6 Sz6 Nn6 Hh6 Gg6 (fits_nar_char _) W6 0 rfl (Nat.le_of_ble_eq_true rfl)
  rw [nc0] at V6
  show Go p e below _ T6 (mkF m 35 #[.val (.int p1), .val (.int p2), .val (.int p3), .val (.int p4), .val (.int p5), .val (.int y0), .val (.int y1), .val (.int y2), .val (.int y3), .val (.ref b5), .unset, .unset, .unset, .unset, .unset] [])
  refine OwnGo.aload X6 hx (hb hby at_35) rfl rfl ?_
  show Go p e below _ T6 (mkF m 37 #[.val (.int p1), .val (.int p2), .val (.int p3), .val (.int p4), .val (.int p5), .val (.int y0), .val (.int y1), .val (.int y2), .val (.int y3), .val (.ref b5), .unset, .unset, .unset, .unset, .unset] [(.ref b5)])
  refine OwnGo.iconst X6 hx (z := (1 : Int32)) (hb hby at_37) (by decide) ?_
  show Go p e below _ T6 (mkF m 38 #[.val (.int p1), .val (.int p2), .val (.int p3), .val (.int p4), .val (.int p5), .val (.int y0), .val (.int y1), .val (.int y2), .val (.int y3), .val (.ref b5), .unset, .unset, .unset, .unset, .unset] [(.int (1 : Int32)), (.ref b5)])
  refine OwnGo.iload X6 hx (hb hby at_38) rfl ?_
  show Go p e below _ T6 (mkF m 40 #[.val (.int p1), .val (.int p2), .val (.int p3), .val (.int p4), .val (.int p5), .val (.int y0), .val (.int y1), .val (.int y2), .val (.int y3), .val (.ref b5), .unset, .unset, .unset, .unset, .unset] [(.int y1), (.int (1 : Int32)), (.ref b5)])
  obtain ⟨cl7, Ar7, Kq7, Sz7, Nn7, Hh7, Gg7⟩ := (id V6)
  have hin7 : ¬ ((1 : Int32) < 0 ∨ cl7.slots.size ≤ ((1 : Int32)).toNatClampNeg) := inb_of Sz7 ⟨by decide, by decide⟩
  refine OwnGo.stC X6 hx hZ e6 Ar7 hin7 (hb hby at_40) fun T7 h7 X7 e7 W7 => ?_
  have O1_c7 := O1_c6.wr W7 gb5
  have Z7 := Nat.le_trans Z6 (Keep.of_wr W7).1
  have K7_ := K6_.wr W7 (Or.inr gz5)
  have N7_ := Fr.snoc X7 N6_ gb5
  have V7 : Arv Z h7 b5 k5 .char (4 : Int32) [(.int y0), (.int (nar .char y1)), (.int (0 : Int32)), (.int (0 : Int32))] (.int (0 : Int32)) := Arv.set Ar7 Kq7 Sz7 Nn7 Hh7 Gg7 (fits_nar_char _) W7 1 rfl (Nat.le_of_ble_eq_true rfl)
  rw [nc1] at V7
  show Go p e below _ T7 (mkF m 41 #[.val (.int p1), .val (.int p2), .val (.int p3), .val (.int p4), .val (.int p5), .val (.int y0), .val (.int y1), .val (.int y2), .val (.int y3), .val (.ref b5), .unset, .unset, .unset, .unset, .unset] [])
  refine OwnGo.aload X7 hx (hb hby at_41) rfl rfl ?_
  show Go p e below _ T7 (mkF m 43 #[.val (.int p1), .val (.int p2), .val (.int p3), .val (.int p4), .val (.int p5), .val (.int y0), .val (.int y1), .val (.int y2), .val (.int y3), .val (.ref b5), .unset, .unset, .unset, .unset, .unset] [(.ref b5)])
  refine OwnGo.iconst X7 hx (z := (2 : Int32)) (hb hby at_43) (by decide) ?_
  show Go p e below _ T7 (mkF m 44 #[.val (.int p1), .val (.int p2), .val (.int p3), .val (.int p4), .val (.int p5), .val (.int y0), .val (.int y1), .val (.int y2), .val (.int y3), .val (.ref b5), .unset, .unset, .unset, .unset, .unset] [(.int (2 : Int32)), (.ref b5)])
  refine OwnGo.iload X7 hx (hb hby at_44) rfl ?_
  show Go p e below _ T7 (mkF m 46 #[.val (.int p1), .val (.int p2), .val (.int p3), .val (.int p4), .val (.int p5), .val (.int y0), .val (.int y1), .val (.int y2), .val (.int y3), .val (.ref b5), .unset, .unset, .unset, .unset, .unset] [(.int y2), (.int (2 : Int32)), (.ref b5)])
  obtain ⟨cl8, Ar8, Kq8, Sz8, Nn8, Hh8, Gg8⟩ := (id V7)
  have hin8 : ¬ ((2 : Int32) < 0 ∨ cl8.slots.size ≤ ((2 : Int32)).toNatClampNeg) := inb_of Sz8 ⟨by decide, by decide⟩
  refine OwnGo.stC X7 hx hZ e7 Ar8 hin8 (hb hby at_46) fun T8 h8 X8 e8 W8 => ?_
  have O1_c8 := O1_c7.wr W8 gb5
  have Z8 := Nat.le_trans Z7 (Keep.of_wr W8).1
  have K8_ := K7_.wr W8 (Or.inr gz5)
  have N8_ := Fr.snoc X8 N7_ gb5
  have V8 : Arv Z h8 b5 k5 .char (4 : Int32) [(.int y0), (.int y1), (.int (nar .char y2)), (.int (0 : Int32))] (.int (0 : Int32)) := Arv.set Ar8 Kq8 Sz8 Nn8 Hh8 Gg8 (fits_nar_char _) W8 2 rfl (Nat.le_of_ble_eq_true rfl)
  rw [nc2] at V8
  show Go p e below _ T8 (mkF m 47 #[.val (.int p1), .val (.int p2), .val (.int p3), .val (.int p4), .val (.int p5), .val (.int y0), .val (.int y1), .val (.int y2), .val (.int y3), .val (.ref b5), .unset, .unset, .unset, .unset, .unset] [])
  refine OwnGo.aload X8 hx (hb hby at_47) rfl rfl ?_
  show Go p e below _ T8 (mkF m 49 #[.val (.int p1), .val (.int p2), .val (.int p3), .val (.int p4), .val (.int p5), .val (.int y0), .val (.int y1), .val (.int y2), .val (.int y3), .val (.ref b5), .unset, .unset, .unset, .unset, .unset] [(.ref b5)])
  refine OwnGo.iconst X8 hx (z := (3 : Int32)) (hb hby at_49) (by decide) ?_
  show Go p e below _ T8 (mkF m 50 #[.val (.int p1), .val (.int p2), .val (.int p3), .val (.int p4), .val (.int p5), .val (.int y0), .val (.int y1), .val (.int y2), .val (.int y3), .val (.ref b5), .unset, .unset, .unset, .unset, .unset] [(.int (3 : Int32)), (.ref b5)])
  refine OwnGo.iload X8 hx (hb hby at_50) rfl ?_
  show Go p e below _ T8 (mkF m 52 #[.val (.int p1), .val (.int p2), .val (.int p3), .val (.int p4), .val (.int p5), .val (.int y0), .val (.int y1), .val (.int y2), .val (.int y3), .val (.ref b5), .unset, .unset, .unset, .unset, .unset] [(.int y3), (.int (3 : Int32)), (.ref b5)])
  obtain ⟨cl9, Ar9, Kq9, Sz9, Nn9, Hh9, Gg9⟩ := (id V8)
  have hin9 : ¬ ((3 : Int32) < 0 ∨ cl9.slots.size ≤ ((3 : Int32)).toNatClampNeg) := inb_of Sz9 ⟨by decide, by decide⟩
  refine OwnGo.stC X8 hx hZ e8 Ar9 hin9 (hb hby at_52) fun T9 h9 X9 e9 W9 => ?_
  have O1_c9 := O1_c8.wr W9 gb5
  have Z9 := Nat.le_trans Z8 (Keep.of_wr W9).1
  have K9_ := K8_.wr W9 (Or.inr gz5)
  have N9_ := Fr.snoc X9 N8_ gb5
  have V9 : Arv Z h9 b5 k5 .char (4 : Int32) [(.int y0), (.int y1), (.int y2), (.int (nar .char y3))] (.int (0 : Int32)) := Arv.set Ar9 Kq9 Sz9 Nn9 Hh9 Gg9 (fits_nar_char _) W9 3 rfl (Nat.le_of_ble_eq_true rfl)
  rw [nc3] at V9
  show Go p e below _ T9 (mkF m 53 #[.val (.int p1), .val (.int p2), .val (.int p3), .val (.int p4), .val (.int p5), .val (.int y0), .val (.int y1), .val (.int y2), .val (.int y3), .val (.ref b5), .unset, .unset, .unset, .unset, .unset] [])
  refine OwnGo.newO X9 hx hZ hown (hw _ (List.mem_of_getElem? (i := 6) rfl)) (hw _ (List.mem_of_getElem? (i := 7) rfl)) (hw _ (List.mem_of_getElem? (i := 8) rfl)) e9 (hb hby at_53) (by decide) (by decide) fun T10 h10 b10 g10 X10 e10 E10 A10 D10 => ?_
  have gb10 : n0 ≤ b10 := Nat.le_trans Z9 (Nat.le_of_eq g10.symm)
  have gz10 : h0.size ≤ b10 := Nat.le_trans K9_.1 (Nat.le_of_eq g10.symm)
  have ne_b5_b10 : b5 ≠ b10 := Nat.ne_of_lt (Nat.lt_of_lt_of_le V9.lt (Nat.le_of_eq g10.symm))
  have O1_c10 := O1_c9.ext E10
  have V9_c10 := V9.ext E10
  have Z10 := Nat.le_trans Z9 E10.1
  have K10_ := K9_.ext E10
  have F10_coder : Fld Z h10 b10 "java/lang/String" "coder" "B" (.int (0 : Int32)) := D10 (Or.inr (hw _ (List.mem_of_getElem? (i := 32) rfl))) (ty := .byte) (by decide)
  have F10_value : Fld Z h10 b10 "java/lang/String" "value" "[B" .null := D10 (Or.inr (hw _ (List.mem_of_getElem? (i := 34) rfl))) (ty := (.array .byte)) (by decide)
  show Go p e below _ T10 (mkF m 56 #[.val (.int p1), .val (.int p2), .val (.int p3), .val (.int p4), .val (.int p5), .val (.int y0), .val (.int y1), .val (.int y2), .val (.int y3), .val (.ref b5), .unset, .unset, .unset, .unset, .unset] [(.ref b10)])
  refine OwnGo.dup X10 hx (hb hby at_56) rfl ?_
  show Go p e below _ T10 (mkF m 57 #[.val (.int p1), .val (.int p2), .val (.int p3), .val (.int p4), .val (.int p5), .val (.int y0), .val (.int y1), .val (.int y2), .val (.int y3), .val (.ref b5), .unset, .unset, .unset, .unset, .unset] [(.ref b10), (.ref b10)])
  refine OwnGo.aload X10 hx (hb hby at_57) rfl rfl ?_
  show Go p e below _ T10 (mkF m 59 #[.val (.int p1), .val (.int p2), .val (.int p3), .val (.int p4), .val (.int p5), .val (.int y0), .val (.int y1), .val (.int y2), .val (.int y3), .val (.ref b5), .unset, .unset, .unset, .unset, .unset] [(.ref b5), (.ref b10), (.ref b10)])
  refine OwnGo.callI X10 hx hZ hown (y := (⟨"java/lang/String", "<init>", "([C)V"⟩ : MethodName)) rfl (hw _ (List.mem_of_getElem? (i := 9) rfl)) (hw _ (List.mem_of_getElem? (i := 10) rfl)) (hw _ (List.mem_of_getElem? (i := 8) rfl)) (hw _ (List.mem_of_getElem? (i := 11) rfl)) (by decide) e10 (as := [(.ref b5)]) (rmIN1 l Z a0 hw b10 b5 k5 pz y0 y1 y2 y3 h10 n0 Z10 O1_c10 gb10 (Ne.symm ne_b5_b10) A10 F10_coder F10_value V9_c10 SA SH SLo SC hpz nc0 nc1 nc2 nc3) (W := 1) (by decide) (by decide) (by decide) (by decide) (by rw [hml]; rfl) (lenOf own_pd15 rfl) (rest := [(.ref b10)]) rfl rfl (hb hby at_59) fun v11 T11 L11 X11 q11 => ?_
  obtain ⟨rfl, N11, K11, E11, r1, kr1, Fv11, hc11⟩ := q11
  have O11 := O1_c10.keep K11 (allS gb10 all0)
  have Zs11 := Nat.le_trans Z10 K11.1
  have J64 : ∀ (a1 : Addr) (hh : Heap) (E1 : Exa Z hh a1 "java/lang/String") (ca0 : Con l Z (⟨"java/lang/String", "charAt", "(I)C"⟩ : MethodName) jdk_42_method_56_code 2 (some .char) ({ frames := 4, cells := 0, slots := 0, locals := 53 } : Room) [(.ref a1), (.int (0 : Int32))] hh (Ret (some (.int y0)) hh)) (ca1 : Con l Z (⟨"java/lang/String", "charAt", "(I)C"⟩ : MethodName) jdk_42_method_56_code 2 (some .char) ({ frames := 4, cells := 0, slots := 0, locals := 53 } : Room) [(.ref a1), (.int (1 : Int32))] hh (Ret (some (.int y1)) hh)) (ca2 : Con l Z (⟨"java/lang/String", "charAt", "(I)C"⟩ : MethodName) jdk_42_method_56_code 2 (some .char) ({ frames := 4, cells := 0, slots := 0, locals := 53 } : Room) [(.ref a1), (.int (2 : Int32))] hh (Ret (some (.int y2)) hh)) (ca3 : Con l Z (⟨"java/lang/String", "charAt", "(I)C"⟩ : MethodName) jdk_42_method_56_code 2 (some .char) ({ frames := 4, cells := 0, slots := 0, locals := 53 } : Room) [(.ref a1), (.int (3 : Int32))] hh (Ret (some (.int y3)) hh)) (LL : List Loc) (NN : Fr n0 LL) (T' : State), Stand p l e room_1 s m #[(.int p1), (.int p2), (.int p3), (.int p4), (.int p5)] below meth c T' LL 4 20 → T'.heap = hh → Go p e below (OwnGo.EndN s (fun v _ L => v = some (.int 1) ∧ Fr n0 L) room_1.cells room_1.slots) T' (mkF m 62 #[.val (.int p1), .val (.int p2), .val (.int p3), .val (.int p4), .val (.int p5), .val (.int y0), .val (.int y1), .val (.int y2), .val (.int y3), .val (.ref b5), .unset, .unset, .unset, .unset, .unset] [(.ref a1)]) := by
    intro a1 hh E1 ca0 ca1 ca2 ca3 LL NN T12 X12 e12
    show Go p e below _ T12 (mkF m 62 #[.val (.int p1), .val (.int p2), .val (.int p3), .val (.int p4), .val (.int p5), .val (.int y0), .val (.int y1), .val (.int y2), .val (.int y3), .val (.ref b5), .unset, .unset, .unset, .unset, .unset] [(.ref a1)])
    refine OwnGo.astore X12 hx (hb hby at_62) rfl (Ls' := #[.val (.int p1), .val (.int p2), .val (.int p3), .val (.int p4), .val (.int p5), .val (.int y0), .val (.int y1), .val (.int y2), .val (.int y3), .val (.ref b5), .val (.ref a1), .unset, .unset, .unset, .unset]) rfl ?_
    show Go p e below _ T12 (mkF m 64 #[.val (.int p1), .val (.int p2), .val (.int p3), .val (.int p4), .val (.int p5), .val (.int y0), .val (.int y1), .val (.int y2), .val (.int y3), .val (.ref b5), .val (.ref a1), .unset, .unset, .unset, .unset] [])
    refine OwnGo.iload X12 hx (hb hby at_64) rfl ?_
    show Go p e below _ T12 (mkF m 66 #[.val (.int p1), .val (.int p2), .val (.int p3), .val (.int p4), .val (.int p5), .val (.int y0), .val (.int y1), .val (.int y2), .val (.int y3), .val (.ref b5), .val (.ref a1), .unset, .unset, .unset, .unset] [(.int p5)])
    refine OwnGo.sipush X12 hx (z := (255 : Int32)) (hb hby at_66) (by decide) ?_
    show Go p e below _ T12 (mkF m 69 #[.val (.int p1), .val (.int p2), .val (.int p3), .val (.int p4), .val (.int p5), .val (.int y0), .val (.int y1), .val (.int y2), .val (.int y3), .val (.ref b5), .val (.ref a1), .unset, .unset, .unset, .unset] [(.int (255 : Int32)), (.int p5)])
    refine OwnGo.iand X12 hx (hb hby at_69) rfl ?_
    show Go p e below _ T12 (mkF m 70 #[.val (.int p1), .val (.int p2), .val (.int p3), .val (.int p4), .val (.int p5), .val (.int y0), .val (.int y1), .val (.int y2), .val (.int y3), .val (.ref b5), .val (.ref a1), .unset, .unset, .unset, .unset] [(.int (p5 &&& (255 : Int32)))])
    refine OwnGo.iconst X12 hx (z := (5 : Int32)) (hb hby at_70) (by decide) ?_
    show Go p e below _ T12 (mkF m 71 #[.val (.int p1), .val (.int p2), .val (.int p3), .val (.int p4), .val (.int p5), .val (.int y0), .val (.int y1), .val (.int y2), .val (.int y3), .val (.ref b5), .val (.ref a1), .unset, .unset, .unset, .unset] [(.int (5 : Int32)), (.int (p5 &&& (255 : Int32)))])
    refine OwnGo.irem X12 hx (hb hby at_71) (by decide) rfl ?_
    show Go p e below _ T12 (mkF m 72 #[.val (.int p1), .val (.int p2), .val (.int p3), .val (.int p4), .val (.int p5), .val (.int y0), .val (.int y1), .val (.int y2), .val (.int y3), .val (.ref b5), .val (.ref a1), .unset, .unset, .unset, .unset] [(.int ((p5 &&& (255 : Int32)) % (5 : Int32)))])
    refine OwnGo.istore X12 hx (hb hby at_72) (Ls' := #[.val (.int p1), .val (.int p2), .val (.int p3), .val (.int p4), .val (.int p5), .val (.int y0), .val (.int y1), .val (.int y2), .val (.int y3), .val (.ref b5), .val (.ref a1), .val (.int ((p5 &&& (255 : Int32)) % (5 : Int32))), .unset, .unset, .unset]) rfl ?_
    show Go p e below _ T12 (mkF m 74 #[.val (.int p1), .val (.int p2), .val (.int p3), .val (.int p4), .val (.int p5), .val (.int y0), .val (.int y1), .val (.int y2), .val (.int y3), .val (.ref b5), .val (.ref a1), .val (.int ((p5 &&& (255 : Int32)) % (5 : Int32))), .unset, .unset, .unset] [])
    refine OwnGo.iload X12 hx (hb hby at_74) rfl ?_
    show Go p e below _ T12 (mkF m 76 #[.val (.int p1), .val (.int p2), .val (.int p3), .val (.int p4), .val (.int p5), .val (.int y0), .val (.int y1), .val (.int y2), .val (.int y3), .val (.ref b5), .val (.ref a1), .val (.int ((p5 &&& (255 : Int32)) % (5 : Int32))), .unset, .unset, .unset] [(.int p5)])
    refine OwnGo.bipush X12 hx (z := (8 : Int32)) (hb hby at_76) (by decide) ?_
    show Go p e below _ T12 (mkF m 78 #[.val (.int p1), .val (.int p2), .val (.int p3), .val (.int p4), .val (.int p5), .val (.int y0), .val (.int y1), .val (.int y2), .val (.int y3), .val (.ref b5), .val (.ref a1), .val (.int ((p5 &&& (255 : Int32)) % (5 : Int32))), .unset, .unset, .unset] [(.int (8 : Int32)), (.int p5)])
    refine OwnGo.iushr X12 hx (hb hby at_78) rfl ?_
    show Go p e below _ T12 (mkF m 79 #[.val (.int p1), .val (.int p2), .val (.int p3), .val (.int p4), .val (.int p5), .val (.int y0), .val (.int y1), .val (.int y2), .val (.int y3), .val (.ref b5), .val (.ref a1), .val (.int ((p5 &&& (255 : Int32)) % (5 : Int32))), .unset, .unset, .unset] [(.int ((p5.toUInt32 >>> ((8 : Int32) &&& 31).toUInt32).toInt32))])
    refine OwnGo.sipush X12 hx (z := (255 : Int32)) (hb hby at_79) (by decide) ?_
    show Go p e below _ T12 (mkF m 82 #[.val (.int p1), .val (.int p2), .val (.int p3), .val (.int p4), .val (.int p5), .val (.int y0), .val (.int y1), .val (.int y2), .val (.int y3), .val (.ref b5), .val (.ref a1), .val (.int ((p5 &&& (255 : Int32)) % (5 : Int32))), .unset, .unset, .unset] [(.int (255 : Int32)), (.int ((p5.toUInt32 >>> ((8 : Int32) &&& 31).toUInt32).toInt32))])
    refine OwnGo.iand X12 hx (hb hby at_82) rfl ?_
    show Go p e below _ T12 (mkF m 83 #[.val (.int p1), .val (.int p2), .val (.int p3), .val (.int p4), .val (.int p5), .val (.int y0), .val (.int y1), .val (.int y2), .val (.int y3), .val (.ref b5), .val (.ref a1), .val (.int ((p5 &&& (255 : Int32)) % (5 : Int32))), .unset, .unset, .unset] [(.int (((p5.toUInt32 >>> ((8 : Int32) &&& 31).toUInt32).toInt32) &&& (255 : Int32)))])
    refine OwnGo.iconst X12 hx (z := (5 : Int32)) (hb hby at_83) (by decide) ?_
    show Go p e below _ T12 (mkF m 84 #[.val (.int p1), .val (.int p2), .val (.int p3), .val (.int p4), .val (.int p5), .val (.int y0), .val (.int y1), .val (.int y2), .val (.int y3), .val (.ref b5), .val (.ref a1), .val (.int ((p5 &&& (255 : Int32)) % (5 : Int32))), .unset, .unset, .unset] [(.int (5 : Int32)), (.int (((p5.toUInt32 >>> ((8 : Int32) &&& 31).toUInt32).toInt32) &&& (255 : Int32)))])
    refine OwnGo.irem X12 hx (hb hby at_84) (by decide) rfl ?_
    show Go p e below _ T12 (mkF m 85 #[.val (.int p1), .val (.int p2), .val (.int p3), .val (.int p4), .val (.int p5), .val (.int y0), .val (.int y1), .val (.int y2), .val (.int y3), .val (.ref b5), .val (.ref a1), .val (.int ((p5 &&& (255 : Int32)) % (5 : Int32))), .unset, .unset, .unset] [(.int ((((p5.toUInt32 >>> ((8 : Int32) &&& 31).toUInt32).toInt32) &&& (255 : Int32)) % (5 : Int32)))])
    refine OwnGo.istore X12 hx (hb hby at_85) (Ls' := #[.val (.int p1), .val (.int p2), .val (.int p3), .val (.int p4), .val (.int p5), .val (.int y0), .val (.int y1), .val (.int y2), .val (.int y3), .val (.ref b5), .val (.ref a1), .val (.int ((p5 &&& (255 : Int32)) % (5 : Int32))), .val (.int ((((p5.toUInt32 >>> ((8 : Int32) &&& 31).toUInt32).toInt32) &&& (255 : Int32)) % (5 : Int32))), .unset, .unset]) rfl ?_
    obtain ⟨ff, hff⟩ : ∃ z, z = (p5 &&& (255 : Int32)) % (5 : Int32) := ⟨_, rfl⟩
    have hf5 : own_in5 ff := by rw [hff]; exact own_five _
    obtain ⟨tt, htt⟩ : ∃ z, z = (((p5.toUInt32 >>> ((8 : Int32) &&& 31).toUInt32).toInt32) &&& (255 : Int32)) % (5 : Int32) := ⟨_, rfl⟩
    have ht5 : own_in5 tt := by rw [htt]; exact own_five _
    rw [← hff, ← htt]
    show Go p e below _ T12 (mkF m 87 #[.val (.int p1), .val (.int p2), .val (.int p3), .val (.int p4), .val (.int p5), .val (.int y0), .val (.int y1), .val (.int y2), .val (.int y3), .val (.ref b5), .val (.ref a1), .val (.int ff), .val (.int tt), .unset, .unset] [])
    refine OwnGo.iconst X12 hx (z := (0 : Int32)) (hb hby at_87) (by decide) ?_
    have J144 : ∀ (ex : Int32) (hex : own_ex ff tt y0 y1 y2 y3 = ex) (T' : State), Stand p l e room_1 s m #[(.int p1), (.int p2), (.int p3), (.int p4), (.int p5)] below meth c T' LL 4 20 → T'.heap = hh → Go p e below (OwnGo.EndN s (fun v _ L => v = some (.int 1) ∧ Fr n0 L) room_1.cells room_1.slots) T' (mkF m 144 #[.val (.int p1), .val (.int p2), .val (.int p3), .val (.int p4), .val (.int p5), .val (.int y0), .val (.int y1), .val (.int y2), .val (.int y3), .val (.ref b5), .val (.ref a1), .val (.int ff), .val (.int tt), .unset, .unset] [(.int ex)]) := by
      intro ex hex T13 X13 e13
      show Go p e below _ T13 (mkF m 144 #[.val (.int p1), .val (.int p2), .val (.int p3), .val (.int p4), .val (.int p5), .val (.int y0), .val (.int y1), .val (.int y2), .val (.int y3), .val (.ref b5), .val (.ref a1), .val (.int ff), .val (.int tt), .unset, .unset] [(.int ex)])
      refine OwnGo.istore X13 hx (hb hby at_144) (Ls' := #[.val (.int p1), .val (.int p2), .val (.int p3), .val (.int p4), .val (.int p5), .val (.int y0), .val (.int y1), .val (.int y2), .val (.int y3), .val (.ref b5), .val (.ref a1), .val (.int ff), .val (.int tt), .val (.int ex), .unset]) rfl ?_
      show Go p e below _ T13 (mkF m 146 #[.val (.int p1), .val (.int p2), .val (.int p3), .val (.int p4), .val (.int p5), .val (.int y0), .val (.int y1), .val (.int y2), .val (.int y3), .val (.ref b5), .val (.ref a1), .val (.int ff), .val (.int tt), .val (.int ex), .unset] [])
      refine OwnGo.aload X13 hx (hb hby at_146) rfl rfl ?_
      show Go p e below _ T13 (mkF m 148 #[.val (.int p1), .val (.int p2), .val (.int p3), .val (.int p4), .val (.int p5), .val (.int y0), .val (.int y1), .val (.int y2), .val (.int y3), .val (.ref b5), .val (.ref a1), .val (.int ff), .val (.int tt), .val (.int ex), .unset] [(.ref a1)])
      refine OwnGo.iload X13 hx (hb hby at_148) rfl ?_
      show Go p e below _ T13 (mkF m 150 #[.val (.int p1), .val (.int p2), .val (.int p3), .val (.int p4), .val (.int p5), .val (.int y0), .val (.int y1), .val (.int y2), .val (.int y3), .val (.ref b5), .val (.ref a1), .val (.int ff), .val (.int tt), .val (.int ex), .unset] [(.int ff), (.ref a1)])
      refine OwnGo.iload X13 hx (hb hby at_150) rfl ?_
      show Go p e below _ T13 (mkF m 152 #[.val (.int p1), .val (.int p2), .val (.int p3), .val (.int p4), .val (.int p5), .val (.int y0), .val (.int y1), .val (.int y2), .val (.int y3), .val (.ref b5), .val (.ref a1), .val (.int ff), .val (.int tt), .val (.int ex), .unset] [(.int tt), (.int ff), (.ref a1)])
      refine OwnGo.callS X13 hx hZ hown (y := (⟨"com/example/crossbook/crossbook/cli/IntegerText", "isDigits", "(Ljava/lang/String;II)Z"⟩ : MethodName)) (hw _ (List.mem_of_getElem? (i := 38) rfl)) (hw _ (List.mem_of_getElem? (i := 39) rfl)) (hw _ (List.mem_of_getElem? (i := 40) rfl)) (hw _ (List.mem_of_getElem? (i := 41) rfl)) (by decide) e13 (as := [(.ref a1), (.int ff), (.int tt)]) (rmISD l Z a0 hw a1 ff tt ex y0 y1 y2 y3 hh hf5 ht5 hex E1 ca0 ca1 ca2 ca3) (W := 0) (by decide) (by decide) (by decide) (by decide) (by rw [hml]; rfl) (lenOf own_pd16 rfl) (rest := []) rfl rfl (hb hby at_152) fun v14 T14 L14 X14 q14 => ?_
      obtain ⟨rfl, e14, rfl⟩ := q14
      rw [List.append_nil] at X14
      show Go p e below _ T14 (mkF m 155 #[.val (.int p1), .val (.int p2), .val (.int p3), .val (.int p4), .val (.int p5), .val (.int y0), .val (.int y1), .val (.int y2), .val (.int y3), .val (.ref b5), .val (.ref a1), .val (.int ff), .val (.int tt), .val (.int ex), .unset] [(.int ex)])
      refine OwnGo.istore X14 hx (hb hby at_155) (Ls' := #[.val (.int p1), .val (.int p2), .val (.int p3), .val (.int p4), .val (.int p5), .val (.int y0), .val (.int y1), .val (.int y2), .val (.int y3), .val (.ref b5), .val (.ref a1), .val (.int ff), .val (.int tt), .val (.int ex), .val (.int ex)]) rfl ?_
      show Go p e below _ T14 (mkF m 157 #[.val (.int p1), .val (.int p2), .val (.int p3), .val (.int p4), .val (.int p5), .val (.int y0), .val (.int y1), .val (.int y2), .val (.int y3), .val (.ref b5), .val (.ref a1), .val (.int ff), .val (.int tt), .val (.int ex), .val (.int ex)] [])
      refine OwnGo.iload X14 hx (hb hby at_157) rfl ?_
      show Go p e below _ T14 (mkF m 159 #[.val (.int p1), .val (.int p2), .val (.int p3), .val (.int p4), .val (.int p5), .val (.int y0), .val (.int y1), .val (.int y2), .val (.int y3), .val (.ref b5), .val (.ref a1), .val (.int ff), .val (.int tt), .val (.int ex), .val (.int ex)] [(.int ex)])
      refine OwnGo.iload X14 hx (hb hby at_159) rfl ?_
      show Go p e below _ T14 (mkF m 161 #[.val (.int p1), .val (.int p2), .val (.int p3), .val (.int p4), .val (.int p5), .val (.int y0), .val (.int y1), .val (.int y2), .val (.int y3), .val (.ref b5), .val (.ref a1), .val (.int ff), .val (.int tt), .val (.int ex), .val (.int ex)] [(.int ex), (.int ex)])
      refine OwnGo.ic_ne X14 hx (pc' := 168) (hb hby at_161) (by decide) (by decide) (fun q => absurd rfl q) (fun _ => ?_)
      show Go p e below _ T14 (mkF m 164 #[.val (.int p1), .val (.int p2), .val (.int p3), .val (.int p4), .val (.int p5), .val (.int y0), .val (.int y1), .val (.int y2), .val (.int y3), .val (.ref b5), .val (.ref a1), .val (.int ff), .val (.int tt), .val (.int ex), .val (.int ex)] [])
      refine OwnGo.iconst X14 hx (z := (1 : Int32)) (hb hby at_164) (by decide) ?_
      show Go p e below _ T14 (mkF m 165 #[.val (.int p1), .val (.int p2), .val (.int p3), .val (.int p4), .val (.int p5), .val (.int y0), .val (.int y1), .val (.int y2), .val (.int y3), .val (.ref b5), .val (.ref a1), .val (.int ff), .val (.int tt), .val (.int ex), .val (.int ex)] [(.int (1 : Int32))])
      refine OwnGo.goto X14 hx (pc' := 169) (hb hby at_165) (by decide) (by decide) ?_
      show Go p e below _ T14 (mkF m 169 #[.val (.int p1), .val (.int p2), .val (.int p3), .val (.int p4), .val (.int p5), .val (.int y0), .val (.int y1), .val (.int y2), .val (.int y3), .val (.ref b5), .val (.ref a1), .val (.int ff), .val (.int tt), .val (.int ex), .val (.int ex)] [(.int (1 : Int32))])
      exact OwnGo.retB X14 hx hlk (z' := (1 : Int32)) hret (hb hby at_169) rfl ⟨rfl, NN⟩ (by decide) (by decide)
    show Go p e below _ T12 (mkF m 88 #[.val (.int p1), .val (.int p2), .val (.int p3), .val (.int p4), .val (.int p5), .val (.int y0), .val (.int y1), .val (.int y2), .val (.int y3), .val (.ref b5), .val (.ref a1), .val (.int ff), .val (.int tt), .unset, .unset] [(.int (0 : Int32))])
    refine OwnGo.iload X12 hx (hb hby at_88) rfl ?_
    show Go p e below _ T12 (mkF m 90 #[.val (.int p1), .val (.int p2), .val (.int p3), .val (.int p4), .val (.int p5), .val (.int y0), .val (.int y1), .val (.int y2), .val (.int y3), .val (.ref b5), .val (.ref a1), .val (.int ff), .val (.int tt), .unset, .unset] [(.int ff), (.int (0 : Int32))])
    refine OwnGo.iload X12 hx (hb hby at_90) rfl ?_
    show Go p e below _ T12 (mkF m 92 #[.val (.int p1), .val (.int p2), .val (.int p3), .val (.int p4), .val (.int p5), .val (.int y0), .val (.int y1), .val (.int y2), .val (.int y3), .val (.ref b5), .val (.ref a1), .val (.int ff), .val (.int tt), .unset, .unset] [(.int tt), (.int ff), (.int (0 : Int32))])
    refine OwnGo.iload X12 hx (hb hby at_92) rfl ?_
    show Go p e below _ T12 (mkF m 94 #[.val (.int p1), .val (.int p2), .val (.int p3), .val (.int p4), .val (.int p5), .val (.int y0), .val (.int y1), .val (.int y2), .val (.int y3), .val (.ref b5), .val (.ref a1), .val (.int ff), .val (.int tt), .unset, .unset] [(.int y0), (.int tt), (.int ff), (.int (0 : Int32))])
    refine OwnGo.callS X12 hx hZ hown (y := (⟨"com/example/crossbook/crossbook/cli/IntegerTextIsDigitsPinLaw", "ok", "(IIIC)Z"⟩ : MethodName)) (hw _ (List.mem_of_getElem? (i := 35) rfl)) (hw _ (List.mem_of_getElem? (i := 36) rfl)) (hw _ (List.mem_of_getElem? (i := 2) rfl)) (hw _ (List.mem_of_getElem? (i := 37) rfl)) (by decide) e12 (as := [(.int (0 : Int32)), (.int ff), (.int tt), (.int y0)]) (rmOK l Z a0 hw (0 : Int32) ff tt y0 hh) (W := 0) (by decide) (by decide) (by decide) (by decide) (by rw [hml]; rfl) (lenOf own_pd17 rfl) (rest := []) rfl rfl (hb hby at_94) fun v15 T15 L15 X15 q15 => ?_
    obtain ⟨rfl, e15, rfl⟩ := q15
    rw [List.append_nil] at X15
    show Go p e below _ T15 (mkF m 97 #[.val (.int p1), .val (.int p2), .val (.int p3), .val (.int p4), .val (.int p5), .val (.int y0), .val (.int y1), .val (.int y2), .val (.int y3), .val (.ref b5), .val (.ref a1), .val (.int ff), .val (.int tt), .unset, .unset] [(.int (own_ok (0 : Int32) ff tt y0))])
    refine OwnGo.if_eq X15 hx (pc' := 143) (hb hby at_97) (by decide) (by decide) (fun h97 => ?_) (fun h97 => ?_)
    ·
      show Go p e below _ T15 (mkF m 143 #[.val (.int p1), .val (.int p2), .val (.int p3), .val (.int p4), .val (.int p5), .val (.int y0), .val (.int y1), .val (.int y2), .val (.int y3), .val (.ref b5), .val (.ref a1), .val (.int ff), .val (.int tt), .unset, .unset] [])
      refine OwnGo.iconst X15 hx (z := (0 : Int32)) (hb hby at_143) (by decide) ?_
      exact J144 (0 : Int32) (by unfold own_ex; rw [if_pos h97]) T15 X15 e15
    ·
      show Go p e below _ T15 (mkF m 100 #[.val (.int p1), .val (.int p2), .val (.int p3), .val (.int p4), .val (.int p5), .val (.int y0), .val (.int y1), .val (.int y2), .val (.int y3), .val (.ref b5), .val (.ref a1), .val (.int ff), .val (.int tt), .unset, .unset] [])
      refine OwnGo.iconst X15 hx (z := (1 : Int32)) (hb hby at_100) (by decide) ?_
      show Go p e below _ T15 (mkF m 101 #[.val (.int p1), .val (.int p2), .val (.int p3), .val (.int p4), .val (.int p5), .val (.int y0), .val (.int y1), .val (.int y2), .val (.int y3), .val (.ref b5), .val (.ref a1), .val (.int ff), .val (.int tt), .unset, .unset] [(.int (1 : Int32))])
      refine OwnGo.iload X15 hx (hb hby at_101) rfl ?_
      show Go p e below _ T15 (mkF m 103 #[.val (.int p1), .val (.int p2), .val (.int p3), .val (.int p4), .val (.int p5), .val (.int y0), .val (.int y1), .val (.int y2), .val (.int y3), .val (.ref b5), .val (.ref a1), .val (.int ff), .val (.int tt), .unset, .unset] [(.int ff), (.int (1 : Int32))])
      refine OwnGo.iload X15 hx (hb hby at_103) rfl ?_
      show Go p e below _ T15 (mkF m 105 #[.val (.int p1), .val (.int p2), .val (.int p3), .val (.int p4), .val (.int p5), .val (.int y0), .val (.int y1), .val (.int y2), .val (.int y3), .val (.ref b5), .val (.ref a1), .val (.int ff), .val (.int tt), .unset, .unset] [(.int tt), (.int ff), (.int (1 : Int32))])
      refine OwnGo.iload X15 hx (hb hby at_105) rfl ?_
      show Go p e below _ T15 (mkF m 107 #[.val (.int p1), .val (.int p2), .val (.int p3), .val (.int p4), .val (.int p5), .val (.int y0), .val (.int y1), .val (.int y2), .val (.int y3), .val (.ref b5), .val (.ref a1), .val (.int ff), .val (.int tt), .unset, .unset] [(.int y1), (.int tt), (.int ff), (.int (1 : Int32))])
      refine OwnGo.callS X15 hx hZ hown (y := (⟨"com/example/crossbook/crossbook/cli/IntegerTextIsDigitsPinLaw", "ok", "(IIIC)Z"⟩ : MethodName)) (hw _ (List.mem_of_getElem? (i := 35) rfl)) (hw _ (List.mem_of_getElem? (i := 36) rfl)) (hw _ (List.mem_of_getElem? (i := 2) rfl)) (hw _ (List.mem_of_getElem? (i := 37) rfl)) (by decide) e15 (as := [(.int (1 : Int32)), (.int ff), (.int tt), (.int y1)]) (rmOK l Z a0 hw (1 : Int32) ff tt y1 hh) (W := 0) (by decide) (by decide) (by decide) (by decide) (by rw [hml]; rfl) (lenOf own_pd17 rfl) (rest := []) rfl rfl (hb hby at_107) fun v16 T16 L16 X16 q16 => ?_
      obtain ⟨rfl, e16, rfl⟩ := q16
      rw [List.append_nil] at X16
      show Go p e below _ T16 (mkF m 110 #[.val (.int p1), .val (.int p2), .val (.int p3), .val (.int p4), .val (.int p5), .val (.int y0), .val (.int y1), .val (.int y2), .val (.int y3), .val (.ref b5), .val (.ref a1), .val (.int ff), .val (.int tt), .unset, .unset] [(.int (own_ok (1 : Int32) ff tt y1))])
      refine OwnGo.if_eq X16 hx (pc' := 143) (hb hby at_110) (by decide) (by decide) (fun h110 => ?_) (fun h110 => ?_)
      ·
        show Go p e below _ T16 (mkF m 143 #[.val (.int p1), .val (.int p2), .val (.int p3), .val (.int p4), .val (.int p5), .val (.int y0), .val (.int y1), .val (.int y2), .val (.int y3), .val (.ref b5), .val (.ref a1), .val (.int ff), .val (.int tt), .unset, .unset] [])
        refine OwnGo.iconst X16 hx (z := (0 : Int32)) (hb hby at_143) (by decide) ?_
        exact J144 (0 : Int32) (by unfold own_ex; rw [if_neg h97, if_pos h110]) T16 X16 e16
      ·
        show Go p e below _ T16 (mkF m 113 #[.val (.int p1), .val (.int p2), .val (.int p3), .val (.int p4), .val (.int p5), .val (.int y0), .val (.int y1), .val (.int y2), .val (.int y3), .val (.ref b5), .val (.ref a1), .val (.int ff), .val (.int tt), .unset, .unset] [])
        refine OwnGo.iconst X16 hx (z := (2 : Int32)) (hb hby at_113) (by decide) ?_
        show Go p e below _ T16 (mkF m 114 #[.val (.int p1), .val (.int p2), .val (.int p3), .val (.int p4), .val (.int p5), .val (.int y0), .val (.int y1), .val (.int y2), .val (.int y3), .val (.ref b5), .val (.ref a1), .val (.int ff), .val (.int tt), .unset, .unset] [(.int (2 : Int32))])
        refine OwnGo.iload X16 hx (hb hby at_114) rfl ?_
        show Go p e below _ T16 (mkF m 116 #[.val (.int p1), .val (.int p2), .val (.int p3), .val (.int p4), .val (.int p5), .val (.int y0), .val (.int y1), .val (.int y2), .val (.int y3), .val (.ref b5), .val (.ref a1), .val (.int ff), .val (.int tt), .unset, .unset] [(.int ff), (.int (2 : Int32))])
        refine OwnGo.iload X16 hx (hb hby at_116) rfl ?_
        show Go p e below _ T16 (mkF m 118 #[.val (.int p1), .val (.int p2), .val (.int p3), .val (.int p4), .val (.int p5), .val (.int y0), .val (.int y1), .val (.int y2), .val (.int y3), .val (.ref b5), .val (.ref a1), .val (.int ff), .val (.int tt), .unset, .unset] [(.int tt), (.int ff), (.int (2 : Int32))])
        refine OwnGo.iload X16 hx (hb hby at_118) rfl ?_
        show Go p e below _ T16 (mkF m 120 #[.val (.int p1), .val (.int p2), .val (.int p3), .val (.int p4), .val (.int p5), .val (.int y0), .val (.int y1), .val (.int y2), .val (.int y3), .val (.ref b5), .val (.ref a1), .val (.int ff), .val (.int tt), .unset, .unset] [(.int y2), (.int tt), (.int ff), (.int (2 : Int32))])
        refine OwnGo.callS X16 hx hZ hown (y := (⟨"com/example/crossbook/crossbook/cli/IntegerTextIsDigitsPinLaw", "ok", "(IIIC)Z"⟩ : MethodName)) (hw _ (List.mem_of_getElem? (i := 35) rfl)) (hw _ (List.mem_of_getElem? (i := 36) rfl)) (hw _ (List.mem_of_getElem? (i := 2) rfl)) (hw _ (List.mem_of_getElem? (i := 37) rfl)) (by decide) e16 (as := [(.int (2 : Int32)), (.int ff), (.int tt), (.int y2)]) (rmOK l Z a0 hw (2 : Int32) ff tt y2 hh) (W := 0) (by decide) (by decide) (by decide) (by decide) (by rw [hml]; rfl) (lenOf own_pd17 rfl) (rest := []) rfl rfl (hb hby at_120) fun v17 T17 L17 X17 q17 => ?_
        obtain ⟨rfl, e17, rfl⟩ := q17
        rw [List.append_nil] at X17
        show Go p e below _ T17 (mkF m 123 #[.val (.int p1), .val (.int p2), .val (.int p3), .val (.int p4), .val (.int p5), .val (.int y0), .val (.int y1), .val (.int y2), .val (.int y3), .val (.ref b5), .val (.ref a1), .val (.int ff), .val (.int tt), .unset, .unset] [(.int (own_ok (2 : Int32) ff tt y2))])
        refine OwnGo.if_eq X17 hx (pc' := 143) (hb hby at_123) (by decide) (by decide) (fun h123 => ?_) (fun h123 => ?_)
        ·
          show Go p e below _ T17 (mkF m 143 #[.val (.int p1), .val (.int p2), .val (.int p3), .val (.int p4), .val (.int p5), .val (.int y0), .val (.int y1), .val (.int y2), .val (.int y3), .val (.ref b5), .val (.ref a1), .val (.int ff), .val (.int tt), .unset, .unset] [])
          refine OwnGo.iconst X17 hx (z := (0 : Int32)) (hb hby at_143) (by decide) ?_
          exact J144 (0 : Int32) (by unfold own_ex; rw [if_neg h97, if_neg h110, if_pos h123]) T17 X17 e17
        ·
          show Go p e below _ T17 (mkF m 126 #[.val (.int p1), .val (.int p2), .val (.int p3), .val (.int p4), .val (.int p5), .val (.int y0), .val (.int y1), .val (.int y2), .val (.int y3), .val (.ref b5), .val (.ref a1), .val (.int ff), .val (.int tt), .unset, .unset] [])
          refine OwnGo.iconst X17 hx (z := (3 : Int32)) (hb hby at_126) (by decide) ?_
          show Go p e below _ T17 (mkF m 127 #[.val (.int p1), .val (.int p2), .val (.int p3), .val (.int p4), .val (.int p5), .val (.int y0), .val (.int y1), .val (.int y2), .val (.int y3), .val (.ref b5), .val (.ref a1), .val (.int ff), .val (.int tt), .unset, .unset] [(.int (3 : Int32))])
          refine OwnGo.iload X17 hx (hb hby at_127) rfl ?_
          show Go p e below _ T17 (mkF m 129 #[.val (.int p1), .val (.int p2), .val (.int p3), .val (.int p4), .val (.int p5), .val (.int y0), .val (.int y1), .val (.int y2), .val (.int y3), .val (.ref b5), .val (.ref a1), .val (.int ff), .val (.int tt), .unset, .unset] [(.int ff), (.int (3 : Int32))])
          refine OwnGo.iload X17 hx (hb hby at_129) rfl ?_
          show Go p e below _ T17 (mkF m 131 #[.val (.int p1), .val (.int p2), .val (.int p3), .val (.int p4), .val (.int p5), .val (.int y0), .val (.int y1), .val (.int y2), .val (.int y3), .val (.ref b5), .val (.ref a1), .val (.int ff), .val (.int tt), .unset, .unset] [(.int tt), (.int ff), (.int (3 : Int32))])
          refine OwnGo.iload X17 hx (hb hby at_131) rfl ?_
          show Go p e below _ T17 (mkF m 133 #[.val (.int p1), .val (.int p2), .val (.int p3), .val (.int p4), .val (.int p5), .val (.int y0), .val (.int y1), .val (.int y2), .val (.int y3), .val (.ref b5), .val (.ref a1), .val (.int ff), .val (.int tt), .unset, .unset] [(.int y3), (.int tt), (.int ff), (.int (3 : Int32))])
          refine OwnGo.callS X17 hx hZ hown (y := (⟨"com/example/crossbook/crossbook/cli/IntegerTextIsDigitsPinLaw", "ok", "(IIIC)Z"⟩ : MethodName)) (hw _ (List.mem_of_getElem? (i := 35) rfl)) (hw _ (List.mem_of_getElem? (i := 36) rfl)) (hw _ (List.mem_of_getElem? (i := 2) rfl)) (hw _ (List.mem_of_getElem? (i := 37) rfl)) (by decide) e17 (as := [(.int (3 : Int32)), (.int ff), (.int tt), (.int y3)]) (rmOK l Z a0 hw (3 : Int32) ff tt y3 hh) (W := 0) (by decide) (by decide) (by decide) (by decide) (by rw [hml]; rfl) (lenOf own_pd17 rfl) (rest := []) rfl rfl (hb hby at_133) fun v18 T18 L18 X18 q18 => ?_
          obtain ⟨rfl, e18, rfl⟩ := q18
          rw [List.append_nil] at X18
          show Go p e below _ T18 (mkF m 136 #[.val (.int p1), .val (.int p2), .val (.int p3), .val (.int p4), .val (.int p5), .val (.int y0), .val (.int y1), .val (.int y2), .val (.int y3), .val (.ref b5), .val (.ref a1), .val (.int ff), .val (.int tt), .unset, .unset] [(.int (own_ok (3 : Int32) ff tt y3))])
          refine OwnGo.if_eq X18 hx (pc' := 143) (hb hby at_136) (by decide) (by decide) (fun h136 => ?_) (fun h136 => ?_)
          ·
            show Go p e below _ T18 (mkF m 143 #[.val (.int p1), .val (.int p2), .val (.int p3), .val (.int p4), .val (.int p5), .val (.int y0), .val (.int y1), .val (.int y2), .val (.int y3), .val (.ref b5), .val (.ref a1), .val (.int ff), .val (.int tt), .unset, .unset] [])
            refine OwnGo.iconst X18 hx (z := (0 : Int32)) (hb hby at_143) (by decide) ?_
            exact J144 (0 : Int32) (by unfold own_ex; rw [if_neg h97, if_neg h110, if_neg h123, if_pos h136]) T18 X18 e18
          ·
            show Go p e below _ T18 (mkF m 139 #[.val (.int p1), .val (.int p2), .val (.int p3), .val (.int p4), .val (.int p5), .val (.int y0), .val (.int y1), .val (.int y2), .val (.int y3), .val (.ref b5), .val (.ref a1), .val (.int ff), .val (.int tt), .unset, .unset] [])
            refine OwnGo.iconst X18 hx (z := (1 : Int32)) (hb hby at_139) (by decide) ?_
            show Go p e below _ T18 (mkF m 140 #[.val (.int p1), .val (.int p2), .val (.int p3), .val (.int p4), .val (.int p5), .val (.int y0), .val (.int y1), .val (.int y2), .val (.int y3), .val (.ref b5), .val (.ref a1), .val (.int ff), .val (.int tt), .unset, .unset] [(.int (1 : Int32))])
            refine OwnGo.goto X18 hx (pc' := 144) (hb hby at_140) (by decide) (by decide) ?_
            exact J144 (1 : Int32) (by unfold own_ex; rw [if_neg h97, if_neg h110, if_neg h123, if_neg h136]) T18 X18 e18
  rcases hc11 with ⟨hsm, Fc, Vr⟩ | ⟨Fc, Vr⟩
  ·
    exact J64 b10 _ E11 (rmCHAL0 l Z a0 hw b10 r1 kr1 xf pz y0 y1 y2 y3 _ n0 Zs11 O11 E11 Fc Fv11 Vr hxf SF SA SH SLo SC hpz nc0 hsm.1) (rmCHAL1 l Z a0 hw b10 r1 kr1 xf pz y0 y1 y2 y3 _ n0 Zs11 O11 E11 Fc Fv11 Vr hxf SF SA SH SLo SC hpz nc1 hsm.2.1) (rmCHAL2 l Z a0 hw b10 r1 kr1 xf pz y0 y1 y2 y3 _ n0 Zs11 O11 E11 Fc Fv11 Vr hxf SF SA SH SLo SC hpz nc2 hsm.2.2.1) (rmCHAL3 l Z a0 hw b10 r1 kr1 xf pz y0 y1 y2 y3 _ n0 Zs11 O11 E11 Fc Fv11 Vr hxf SF SA SH SLo SC hpz nc3 hsm.2.2.2) _ (Fr.app N9_ N11) T11 X11 rfl
  ·
    exact J64 b10 _ E11 (rmCHAU0 l Z a0 hw b10 r1 kr1 xf pz y0 y1 y2 y3 _ n0 Zs11 O11 E11 Fc Fv11 Vr hxf SF SA SH SLo SC hpz nc0) (rmCHAU1 l Z a0 hw b10 r1 kr1 xf pz y0 y1 y2 y3 _ n0 Zs11 O11 E11 Fc Fv11 Vr hxf SF SA SH SLo SC hpz nc1) (rmCHAU2 l Z a0 hw b10 r1 kr1 xf pz y0 y1 y2 y3 _ n0 Zs11 O11 E11 Fc Fv11 Vr hxf SF SA SH SLo SC hpz nc2) (rmCHAU3 l Z a0 hw b10 r1 kr1 xf pz y0 y1 y2 y3 _ n0 Zs11 O11 E11 Fc Fv11 Vr hxf SF SA SH SLo SC hpz nc3) _ (Fr.app N9_ N11) T11 X11 rfl
set_option maxRecDepth 65536 in
set_option maxHeartbeats 40000000 in
theorem comes_1 {Post : Tables → Env → Array Value → State → Outcome → State → Prop} (hpost : ∀ tb e args s v u, (limb_1_1.after args s (.returned v) u = true ∧ limb_1_2.after args s (.returned v) u = true ∧ True) → FrameEnd s (.returned v) u (Jvm.fieldLocs frame_1_writes args s ++ Jvm.arrayLocs frame_1_arrays args s ++ Jvm.staticLocs frame_1_statics s) 16 128 → Post tb e args s (.returned v) u) :
    ArmFor flags0 classFile x code maxLocals ret World_1 tables_1 room_1 Calls_1 rest_1 Pre_1 Post := by
  intro l hfl _ _ p e ha hc hk s m args below hf hA hF happ hP
  obtain ⟨hcalls, hrest, hpre⟩ := hP
  obtain ⟨-, -, -, hnamed, -, -, -, hat⟩ := (Spec.applies_iff hf).mp happ
  obtain ⟨hg, hn⟩ := and_e (Cond.before_iff.mp (show (Jvm.Cond.and given_1 narrow_1).before args s = true from hpre))
  obtain ⟨gc0, gr0⟩ := and_e hg
  obtain ⟨gc1, gr1⟩ := and_e gr0
  obtain ⟨gc2, gr2⟩ := and_e gr1
  obtain ⟨gc3, gr3⟩ := and_e gr2
  obtain ⟨gc4, gr4⟩ := and_e gr3
  obtain ⟨w0, w1, w2, w3, w4, rfl⟩ : ∃ w0 w1 w2 w3 w4 : Value, args = #[w0, w1, w2, w3, w4] := by
    have hs : args.size = 5 := by simpa [Cond.value, given_1] using gc0
    obtain ⟨L⟩ := args
    match L, hs with
    | [w0, w1, w2, w3, w4], _ => exact ⟨w0, w1, w2, w3, w4, rfl⟩
  have hw := fun d (hd : d ∈ tables_1) => atoms_spec (ws := Jvm.Cond.code x code maxLocals ret :: tables_1) hat d (List.mem_cons_of_mem _ hd)
  obtain ⟨i0, ei0⟩ := is_v gc1
  obtain rfl : w0 = (.int i0) := Option.some.inj ei0
  obtain ⟨i1, ei1⟩ := is_v gc2
  obtain rfl : w1 = (.int i1) := Option.some.inj ei1
  obtain ⟨i2, ei2⟩ := is_v gc3
  obtain rfl : w2 = (.int i2) := Option.some.inj ei2
  obtain ⟨i3, ei3⟩ := is_v gc4
  obtain rfl : w3 = (.int i3) := Option.some.inj ei3
  obtain ⟨i4, ei4⟩ := is_v gr4
  obtain rfl : w4 = (.int i4) := Option.some.inj ei4
  have hr0 : rest_1_c.before _ s = true := hrest
  rw [rest_1_c_eq] at hr0
  have hs := (atoms_of jdkStatics_1 hr0).1
  obtain ⟨pz, ez⟩ := is_v (Cond.before_iff.mp (hs _ (List.mem_of_getElem? (i := 1) rfl)))
  have hpz : ¬ pz = 0 := gotF (by simp only [Cond.value, ez]; rfl) (not_v (Cond.before_iff.mp (hs _ (List.mem_of_getElem? (i := 2) rfl))))
  have SC := Sta.start ez (Or.inl (hs _ (List.mem_of_getElem? (i := 0) rfl)))
  obtain ⟨xf, ef, hxf⟩ := isR_v (Cond.before_iff.mp (hs _ (List.mem_of_getElem? (i := 8) rfl)))
  have SF := Sta.start ef (Or.inl (hs _ (List.mem_of_getElem? (i := 7) rfl)))
  have SA := Sta.start (own_eqpin (Cond.before_iff.mp (hs _ (List.mem_of_getElem? (i := 12) rfl)))) (Or.inl (hs _ (List.mem_of_getElem? (i := 11) rfl)))
  have SH := Sta.start (own_eqpin (Cond.before_iff.mp (hs _ (List.mem_of_getElem? (i := 15) rfl)))) (Or.inl (hs _ (List.mem_of_getElem? (i := 14) rfl)))
  have SLo := Sta.start (own_eqpin (Cond.before_iff.mp (hs _ (List.mem_of_getElem? (i := 18) rfl)))) (Or.inl (hs _ (List.mem_of_getElem? (i := 17) rfl)))
  obtain ⟨n, o, h1, h2, h3, _, L, rfl, ⟨rfl, N⟩, hq⟩ := rm0 l s _ hw i0 i1 i2 i3 i4 pz xf s.heap s.heap.size (Nat.le_refl _) (Old.start s) hxf SF SA SH SLo SC hpz tables_1 p e ha hc hk s m _ below hf ((Spec.applies_iff_loose hf).mp happ).1 ⟨rfl, State.Warmed39.refl s, rfl⟩ trivial
  refine ⟨n, _, h1, h2, h3, hpost _ _ _ _ _ _ ⟨Cond.after_iff.mpr rfl, Cond.after_iff.mpr (eq_i res_at (Term.int_eval (1)) rfl), trivial⟩ ⟨hq.1, hq.2.1, (hq.2.2.sift fun y hy => Or.inr (N y hy)).mono (by decide) (by decide)⟩⟩
theorem main_1_1 : Claimed_1_1 := comes_1 fun _ _ _ _ _ _ h hF => ⟨h.1, hF⟩
theorem main_1_2 : Claimed_1_2 := comes_1 fun _ _ _ _ _ _ h hF => ⟨h.2.1, hF⟩
end Jvm.Pilot.@@N@@
namespace Jvm.Pilot.@@N@@
open Jvm Jvm.ClassFile Sem Op Lib Jvm.Free Jvm.Stand Jvm.Pilot.@@N@@.Jvm.D
/-! MADE BY PROGRAM (witnessworld.py) out of the Statement's table words and the real class files: 20 classes; the members and pool entries that the words name. The judged class is class 1, her method 4. -/
namespace start1
open Jvm.ClassFile
def u (s : String) : CpInfo := .utf8 (stringToUtf16 s)
/-- a pool by its gaps: so many unusable entries, then the entry; so many at the end -/
def gap : Nat → List CpInfo → List CpInfo
  | 0, r => r
  | n + 1, r => .unusable :: gap n r
def poolList (es : List (Nat × CpInfo)) (last : Nat) : List CpInfo := es.foldr (fun e r => gap e.1 (e.2 :: r)) (gap last [])
def pool (es : List (Nat × CpInfo)) (last : Nat) : Array CpInfo := ⟨poolList es last⟩
def fileOf (pool : Array CpInfo) (this : Nat) (attrs : Array Attribute := #[]) (ms : Array MethodInfo := #[]) (fl : Nat := 33) (sup : Nat := 0) (ifs : Array Nat := #[]) (fds : Array FieldInfo := #[]) : ClassFile where
  minorVersion := 0
  majorVersion := 65
  constantPool := pool
  accessFlags := fl
  thisClass := this
  superClass := sup
  interfaces := ifs
  fields := fds
  methods := ms
  attributes := attrs
def plain (name : String) (sup : Option ClassId) : Class where
  name := name
  kind := .ordinary
  loader := none
  accessFlags := 33
  super := sup
  interfaces := #[]
  cf := none
  fields := #[]
  methods := #[]
  instanceTypes := #[]
  staticTypes := #[]
  resolved := #[]
  callSites := []
  init := .initialized
  statics := none
  mirror := none

def pool0 : Array CpInfo := pool [(5, u "<init>"), (0, u "()V"), (1, .class_ 10), (1, u "java/lang/Object")] 113

def k0c0 : Code := { maxStack := 0, maxLocals := 1, code := object_method_1_code, exceptionTable := #[], attributes := #[] }
def k0m0 : Method := { name := "<init>", desc := "()V", sig := { parameters := [], returnType := none }, accessFlags := 1, code := some k0c0 }
/-- java/lang/Object -/
def k0 : Class := { plain "java/lang/Object" none with
  accessFlags := 33
  interfaces := #[]
  cf := some (fileOf pool0 8 #[] #[{ accessFlags := 1, nameIndex := 5, descriptorIndex := 6, attributes := #[] }] 33 0 #[] #[])
  fields := #[]
  methods := #[k0m0]
  instanceTypes := #[]
  staticTypes := #[]
  resolved := Array.replicate 124 none
  statics := none }

def pool1 : Array CpInfo := pool [(2, .class_ 4), (1, u "java/lang/Object"), (0, u "<init>"), (0, u "()V"), (0, .integer 65535), (0, .methodref 9 10), (0, .class_ 11), (0, .nameAndType 12 13), (0, u "com/example/crossbook/crossbook/cli/IntegerTextIsDigitsPinLaw"), (0, u "dig"), (0, u "(C)Z"), (0, .methodref 9 15), (0, .nameAndType 16 17), (0, u "ch"), (0, u "(I)C"), (0, .class_ 19), (0, u "java/lang/String"), (0, .methodref 18 21), (0, .nameAndType 5 22), (0, u "([C)V"), (0, .methodref 9 24), (0, .nameAndType 25 26), (0, u "ok"), (0, u "(IIIC)Z"), (0, .methodref 28 29), (0, .class_ 30), (0, .nameAndType 31 32), (0, u "com/example/crossbook/crossbook/cli/IntegerText"), (0, u "isDigits"), (0, u "(Ljava/lang/String;II)Z"), (3, u "law"), (0, u "(IIIII)Z")] 4

def k1m0 : Method := { name := "<init>", desc := "()V", sig := { parameters := [], returnType := none }, accessFlags := 2, code := none }
def k1c1 : Code := { maxStack := 3, maxLocals := 1, code := method_2_code, exceptionTable := #[], attributes := #[] }
def k1m1 : Method := { name := "ch", desc := "(I)C", sig := { parameters := [.int], returnType := some .char }, accessFlags := 10, code := some k1c1 }
def k1c2 : Code := { maxStack := 2, maxLocals := 1, code := method_3_code, exceptionTable := #[], attributes := #[] }
def k1m2 : Method := { name := "dig", desc := "(C)Z", sig := { parameters := [.char], returnType := some .boolean }, accessFlags := 10, code := some k1c2 }
def k1c3 : Code := { maxStack := 2, maxLocals := 4, code := method_4_code, exceptionTable := #[], attributes := #[] }
def k1m3 : Method := { name := "ok", desc := "(IIIC)Z", sig := { parameters := [.int, .int, .int, .char], returnType := some .boolean }, accessFlags := 10, code := some k1c3 }
def k1c4 : Code := { maxStack := 4, maxLocals := 15, code := code, exceptionTable := #[], attributes := #[] }
def k1m4 : Method := { name := "law", desc := "(IIIII)Z", sig := { parameters := [.int, .int, .int, .int, .int], returnType := some .boolean }, accessFlags := 9, code := some k1c4 }
/-- com/example/crossbook/crossbook/cli/IntegerTextIsDigitsPinLaw -/
def k1 : Class := { plain "com/example/crossbook/crossbook/cli/IntegerTextIsDigitsPinLaw" (some 0) with
  accessFlags := 49
  interfaces := #[]
  cf := some (fileOf pool1 9 #[] #[{ accessFlags := 2, nameIndex := 5, descriptorIndex := 6, attributes := #[] }, { accessFlags := 10, nameIndex := 16, descriptorIndex := 17, attributes := #[] }, { accessFlags := 10, nameIndex := 12, descriptorIndex := 13, attributes := #[] }, { accessFlags := 10, nameIndex := 25, descriptorIndex := 26, attributes := #[] }, { accessFlags := 9, nameIndex := 36, descriptorIndex := 37, attributes := #[] }] 49 2 #[] #[])
  fields := #[]
  methods := #[k1m0, k1m1, k1m2, k1m3, k1m4]
  instanceTypes := #[]
  staticTypes := #[]
  resolved := Array.replicate 42 none
  statics := none }

def pool2 : Array CpInfo := pool [(1, .class_ 2), (0, u "java/io/Serializable"), (0, .class_ 4), (0, u "java/lang/Object")] 2

/-- java/io/Serializable -/
def k2 : Class := { plain "java/io/Serializable" (some 0) with
  accessFlags := 1537
  interfaces := #[]
  cf := some (fileOf pool2 1 #[] #[] 1537 3 #[] #[])
  fields := #[]
  methods := #[]
  instanceTypes := #[]
  staticTypes := #[]
  resolved := Array.replicate 7 none
  statics := none }

def pool3 : Array CpInfo := pool [(1, .class_ 2), (0, u "java/lang/Comparable"), (0, .class_ 4), (0, u "java/lang/Object")] 7

/-- java/lang/Comparable -/
def k3 : Class := { plain "java/lang/Comparable" (some 0) with
  accessFlags := 1537
  interfaces := #[]
  cf := some (fileOf pool3 1 #[] #[] 1537 3 #[] #[])
  fields := #[]
  methods := #[]
  instanceTypes := #[]
  staticTypes := #[]
  resolved := Array.replicate 12 none
  statics := none }

def pool4 : Array CpInfo := pool [(2, .class_ 4), (1, u "java/lang/CharSequence"), (42, .class_ 48), (0, u "java/lang/CharSequence$1CodePointIterator"), (10, .class_ 60), (0, u "java/lang/CharSequence$1CharIterator"), (5, .class_ 67), (0, u "java/lang/Object")] 63

/-- java/lang/CharSequence -/
def k4 : Class := { plain "java/lang/CharSequence" (some 0) with
  accessFlags := 1537
  interfaces := #[]
  cf := some (fileOf pool4 2 #[.nestMembers #[47, 59]] #[] 1537 66 #[] #[])
  fields := #[]
  methods := #[]
  instanceTypes := #[]
  staticTypes := #[]
  resolved := Array.replicate 131 none
  statics := none }

def pool5 : Array CpInfo := pool [(1, .class_ 2), (0, u "java/lang/constant/Constable"), (0, .class_ 4), (0, u "java/lang/Object")] 6

/-- java/lang/constant/Constable -/
def k5 : Class := { plain "java/lang/constant/Constable" (some 0) with
  accessFlags := 1537
  interfaces := #[]
  cf := some (fileOf pool5 1 #[] #[] 1537 3 #[] #[])
  fields := #[]
  methods := #[]
  instanceTypes := #[]
  staticTypes := #[]
  resolved := Array.replicate 11 none
  statics := none }

def pool6 : Array CpInfo := pool [(1, .class_ 2), (0, u "java/lang/constant/ConstantDesc"), (0, .class_ 4), (0, u "java/lang/Object")] 32

/-- java/lang/constant/ConstantDesc -/
def k6 : Class := { plain "java/lang/constant/ConstantDesc" (some 0) with
  accessFlags := 1537
  interfaces := #[]
  cf := some (fileOf pool6 1 #[] #[] 1537 3 #[] #[])
  fields := #[]
  methods := #[]
  instanceTypes := #[]
  staticTypes := #[]
  resolved := Array.replicate 37 none
  statics := none }

def pool7 : Array CpInfo := pool [(1, .methodref 2 3), (0, .class_ 4), (0, .nameAndType 5 6), (0, u "java/lang/Object"), (0, u "<init>"), (0, u "()V"), (2, .fieldref 10 11), (0, .class_ 12), (0, .nameAndType 13 14), (0, u "java/lang/String"), (0, u "value"), (0, u "[B"), (0, .fieldref 10 16), (0, .nameAndType 17 18), (0, u "coder"), (0, u "B"), (2, u "hash"), (0, u "I"), (2, u "hashIsZero"), (0, u "Z"), (0, .methodref 10 28), (0, .nameAndType 5 29), (0, u "([CIILjava/lang/Void;)V"), (8, .fieldref 10 39), (0, .nameAndType 40 26), (0, u "COMPACT_STRINGS"), (1, .class_ 44), (1, u "java/lang/StringUTF16"), (0, u "compress"), (1, .methodref 42 48), (0, .nameAndType 49 50), (0, u "coderFromArrayLen"), (0, u "([BI)B"), (56, .class_ 109), (1, u "java/lang/StringLatin1"), (32, u "()Z"), (34, .methodref 42 178), (0, .nameAndType 45 179), (0, u "([CII)[B"), (183, u "([BI)C"), (27, u "(II)V"), (35, u "(I)C"), (64, .methodref 10 493), (0, .nameAndType 494 142), (0, u "isLatin1"), (0, .methodref 107 496), (0, .nameAndType 497 363), (0, u "charAt"), (0, .methodref 42 496), (2, u "checkIndex"), (73, .class_ 576), (0, u "java/lang/CharSequence"), (22, u "CASE_INSENSITIVE_ORDER"), (0, u "Ljava/util/Comparator;"), (409, u "([C)V"), (42, .fieldref 1054 1055), (0, .class_ 1056), (0, .nameAndType 1057 1058), (0, u "jdk/internal/util/Preconditions"), (0, u "SIOOBE_FORMATTER"), (0, u "Ljava/util/function/BiFunction;"), (0, .methodref 1054 1060), (0, .nameAndType 501 1061), (0, u "(IILjava/util/function/BiFunction;)I"), (39, u "serialPersistentFields"), (0, u "[Ljava/io/ObjectStreamField;"), (0, .class_ 1104), (0, u "java/lang/String$CaseInsensitiveComparator"), (1, .class_ 1107), (0, u "java/io/Serializable"), (0, .class_ 1109), (0, u "java/lang/Comparable"), (0, .class_ 1111), (0, u "java/lang/constant/Constable"), (0, .class_ 1113), (0, u "java/lang/constant/ConstantDesc"), (2, u "serialVersionUID"), (0, u "J"), (3, u "REPL"), (0, u "C"), (2, u "LATIN1"), (1, u "UTF16")] 323

def k7m0 : Method := { name := "<init>", desc := "()V", sig := { parameters := [], returnType := none }, accessFlags := 1, code := none }
def k7c1 : Code := { maxStack := 5, maxLocals := 2, code := jdk_42_method_3_code, exceptionTable := #[], attributes := #[] }
def k7m1 : Method := { name := "<init>", desc := "([C)V", sig := { parameters := [(.array .char)], returnType := none }, accessFlags := 1, code := some k7c1 }
def k7c2 : Code := { maxStack := 2, maxLocals := 2, code := jdk_42_method_56_code, exceptionTable := #[], attributes := #[] }
def k7m2 : Method := { name := "charAt", desc := "(I)C", sig := { parameters := [.int], returnType := some .char }, accessFlags := 1, code := some k7c2 }
def k7c3 : Code := { maxStack := 4, maxLocals := 6, code := jdk_42_method_149_code, exceptionTable := #[], attributes := #[] }
def k7m3 : Method := { name := "<init>", desc := "([CIILjava/lang/Void;)V", sig := { parameters := [(.array .char), .int, .int, (.object "java/lang/Void")], returnType := none }, accessFlags := 2, code := some k7c3 }
def k7c4 : Code := { maxStack := 1, maxLocals := 1, code := jdk_42_method_154_code, exceptionTable := #[], attributes := #[] }
def k7m4 : Method := { name := "isLatin1", desc := "()Z", sig := { parameters := [], returnType := some .boolean }, accessFlags := 0, code := some k7c4 }
def k7c5 : Code := { maxStack := 3, maxLocals := 2, code := jdk_42_method_155_code, exceptionTable := #[], attributes := #[] }
def k7m5 : Method := { name := "checkIndex", desc := "(II)V", sig := { parameters := [.int, .int], returnType := none }, accessFlags := 8, code := some k7c5 }
/-- java/lang/String -/
def k7 : Class := { plain "java/lang/String" (some 0) with
  accessFlags := 49
  interfaces := #[2, 3, 4, 5, 6]
  cf := some (fileOf pool7 10 #[.nestMembers #[1103]] #[{ accessFlags := 1, nameIndex := 5, descriptorIndex := 6, attributes := #[] }, { accessFlags := 1, nameIndex := 5, descriptorIndex := 1010, attributes := #[] }, { accessFlags := 1, nameIndex := 497, descriptorIndex := 427, attributes := #[] }, { accessFlags := 2, nameIndex := 5, descriptorIndex := 29, attributes := #[] }, { accessFlags := 0, nameIndex := 494, descriptorIndex := 142, attributes := #[] }, { accessFlags := 8, nameIndex := 501, descriptorIndex := 391, attributes := #[] }] 49 2 #[1106, 1108, 575, 1110, 1112] #[{ accessFlags := 18, nameIndex := 13, descriptorIndex := 14, attributes := #[] }, { accessFlags := 18, nameIndex := 17, descriptorIndex := 18, attributes := #[] }, { accessFlags := 2, nameIndex := 21, descriptorIndex := 22, attributes := #[] }, { accessFlags := 2, nameIndex := 25, descriptorIndex := 26, attributes := #[] }, { accessFlags := 26, nameIndex := 1116, descriptorIndex := 1117, attributes := #[] }, { accessFlags := 24, nameIndex := 40, descriptorIndex := 26, attributes := #[] }, { accessFlags := 26, nameIndex := 1101, descriptorIndex := 1102, attributes := #[] }, { accessFlags := 26, nameIndex := 1121, descriptorIndex := 1122, attributes := #[] }, { accessFlags := 25, nameIndex := 599, descriptorIndex := 600, attributes := #[] }, { accessFlags := 24, nameIndex := 1125, descriptorIndex := 18, attributes := #[] }, { accessFlags := 24, nameIndex := 1127, descriptorIndex := 18, attributes := #[] }])
  fields := #[{ name := "value", type := (.array .byte), accessFlags := 18, slot := 0, constantValue := 0 }, { name := "coder", type := .byte, accessFlags := 18, slot := 1, constantValue := 0 }, { name := "hash", type := .int, accessFlags := 2, slot := 2, constantValue := 0 }, { name := "hashIsZero", type := .boolean, accessFlags := 2, slot := 3, constantValue := 0 }, { name := "serialVersionUID", type := .long, accessFlags := 26, slot := 0, constantValue := 0 }, { name := "COMPACT_STRINGS", type := .boolean, accessFlags := 24, slot := 1, constantValue := 0 }, { name := "serialPersistentFields", type := (.array (.object "java/io/ObjectStreamField")), accessFlags := 26, slot := 2, constantValue := 0 }, { name := "REPL", type := .char, accessFlags := 26, slot := 3, constantValue := 0 }, { name := "CASE_INSENSITIVE_ORDER", type := (.object "java/util/Comparator"), accessFlags := 25, slot := 4, constantValue := 0 }, { name := "LATIN1", type := .byte, accessFlags := 24, slot := 5, constantValue := 0 }, { name := "UTF16", type := .byte, accessFlags := 24, slot := 6, constantValue := 0 }]
  methods := #[k7m0, k7m1, k7m2, k7m3, k7m4, k7m5]
  instanceTypes := #[(.array .byte), .byte, .int, .boolean]
  staticTypes := #[.long, .boolean, (.array (.object "java/io/ObjectStreamField")), .char, (.object "java/util/Comparator"), .byte, .byte]
  resolved := Array.replicate 1451 none
  statics := some 0 }

def pool8 : Array CpInfo := pool [(3, .class_ 4), (0, u "java/lang/String"), (1, .class_ 8), (1, u "java/lang/Object"), (0, u "<init>"), (0, u "()V"), (0, .methodref 12 13), (0, .class_ 14), (0, .nameAndType 15 16), (0, u "java/lang/StringUTF16"), (0, u "newBytesLength"), (0, u "(I)I"), (3, .integer 1073741823), (23, .fieldref 12 45), (0, .nameAndType 46 47), (0, u "$assertionsDisabled"), (0, u "Z"), (0, .methodref 12 49), (0, .nameAndType 50 51), (0, u "length"), (0, u "([B)I"), (7, .fieldref 12 60), (0, .nameAndType 61 62), (0, u "HI_BYTE_SHIFT"), (0, u "I"), (0, .fieldref 12 64), (0, .nameAndType 65 62), (0, u "LO_BYTE_SHIFT"), (1, .methodref 12 68), (0, .nameAndType 69 70), (0, u "checkIndex"), (0, u "(I[B)V"), (0, .methodref 12 72), (0, .nameAndType 73 74), (0, u "getChar"), (0, u "([BI)C"), (32, .methodref 12 108), (0, .nameAndType 109 110), (0, u "newBytesFor"), (0, u "(I)[B"), (0, .methodref 12 112), (0, .nameAndType 113 114), (0, u "putChar"), (0, u "([BII)V"), (0, .methodref 12 116), (0, .nameAndType 117 118), (0, u "compress"), (0, u "([CI[BII)I"), (0, .methodref 12 120), (0, .nameAndType 121 122), (0, u "toBytes"), (0, u "([CII)[B"), (138, u "coderFromArrayLen"), (0, u "([BI)B"), (106, .class_ 371), (1, u "java/lang/StringUTF16$LinesSpliterator"), (20, u "charAt"), (21, .methodref 3 415), (0, .nameAndType 69 416), (0, u "(II)V"), (13, u "MAX_LENGTH"), (196, .class_ 628), (0, u "java/lang/StringUTF16$CodePointsSpliterator"), (0, .class_ 630), (0, u "java/lang/StringUTF16$CharsSpliterator")] 4

def k8m0 : Method := { name := "<init>", desc := "()V", sig := { parameters := [], returnType := none }, accessFlags := 0, code := none }
def k8c1 : Code := { maxStack := 1, maxLocals := 1, code := jdk_52_method_2_code, exceptionTable := #[], attributes := #[] }
def k8m1 : Method := { name := "newBytesFor", desc := "(I)[B", sig := { parameters := [.int], returnType := some (.array .byte) }, accessFlags := 9, code := some k8c1 }
def k8c2 : Code := { maxStack := 4, maxLocals := 1, code := jdk_52_method_3_code, exceptionTable := #[], attributes := #[] }
def k8m2 : Method := { name := "newBytesLength", desc := "(I)I", sig := { parameters := [.int], returnType := some .int }, accessFlags := 9, code := some k8c2 }
def k8c3 : Code := { maxStack := 4, maxLocals := 3, code := jdk_52_method_4_code, exceptionTable := #[], attributes := #[] }
def k8m3 : Method := { name := "putChar", desc := "([BII)V", sig := { parameters := [(.array .byte), .int, .int], returnType := none }, accessFlags := 8, code := some k8c3 }
def k8c4 : Code := { maxStack := 3, maxLocals := 2, code := jdk_52_method_5_code, exceptionTable := #[], attributes := #[] }
def k8m4 : Method := { name := "getChar", desc := "([BI)C", sig := { parameters := [(.array .byte), .int], returnType := some .char }, accessFlags := 8, code := some k8c4 }
def k8c5 : Code := { maxStack := 2, maxLocals := 1, code := jdk_52_method_6_code, exceptionTable := #[], attributes := #[] }
def k8m5 : Method := { name := "length", desc := "([B)I", sig := { parameters := [(.array .byte)], returnType := some .int }, accessFlags := 9, code := some k8c5 }
def k8c6 : Code := { maxStack := 4, maxLocals := 5, code := jdk_52_method_14_code, exceptionTable := #[], attributes := #[] }
def k8m6 : Method := { name := "toBytes", desc := "([CII)[B", sig := { parameters := [(.array .char), .int, .int], returnType := some (.array .byte) }, accessFlags := 9, code := some k8c6 }
def k8c7 : Code := { maxStack := 2, maxLocals := 2, code := jdk_52_method_15_code, exceptionTable := #[], attributes := #[] }
def k8m7 : Method := { name := "coderFromArrayLen", desc := "([BI)B", sig := { parameters := [(.array .byte), .int], returnType := some .byte }, accessFlags := 8, code := some k8c7 }
def k8c8 : Code := { maxStack := 5, maxLocals := 6, code := jdk_52_method_16_code, exceptionTable := #[], attributes := #[] }
def k8m8 : Method := { name := "compress", desc := "([CII)[B", sig := { parameters := [(.array .char), .int, .int], returnType := some (.array .byte) }, accessFlags := 9, code := some k8c8 }
def k8c9 : Code := { maxStack := 3, maxLocals := 7, code := jdk_52_method_21_code, exceptionTable := #[], attributes := #[] }
def k8m9 : Method := { name := "compress", desc := "([CI[BII)I", sig := { parameters := [(.array .char), .int, (.array .byte), .int, .int], returnType := some .int }, accessFlags := 9, code := some k8c9 }
def k8c10 : Code := { maxStack := 2, maxLocals := 2, code := jdk_52_method_83_code, exceptionTable := #[], attributes := #[] }
def k8m10 : Method := { name := "charAt", desc := "([BI)C", sig := { parameters := [(.array .byte), .int], returnType := some .char }, accessFlags := 9, code := some k8c10 }
def k8c11 : Code := { maxStack := 2, maxLocals := 2, code := jdk_52_method_91_code, exceptionTable := #[], attributes := #[] }
def k8m11 : Method := { name := "checkIndex", desc := "(I[B)V", sig := { parameters := [.int, (.array .byte)], returnType := none }, accessFlags := 9, code := some k8c11 }
/-- java/lang/StringUTF16 -/
def k8 : Class := { plain "java/lang/StringUTF16" (some 0) with
  accessFlags := 48
  interfaces := #[]
  cf := some (fileOf pool8 12 #[.nestMembers #[627, 629, 369]] #[{ accessFlags := 0, nameIndex := 9, descriptorIndex := 10, attributes := #[] }, { accessFlags := 9, nameIndex := 109, descriptorIndex := 110, attributes := #[] }, { accessFlags := 9, nameIndex := 15, descriptorIndex := 16, attributes := #[] }, { accessFlags := 8, nameIndex := 113, descriptorIndex := 114, attributes := #[] }, { accessFlags := 8, nameIndex := 73, descriptorIndex := 74, attributes := #[] }, { accessFlags := 9, nameIndex := 50, descriptorIndex := 51, attributes := #[] }, { accessFlags := 9, nameIndex := 121, descriptorIndex := 122, attributes := #[] }, { accessFlags := 8, nameIndex := 261, descriptorIndex := 262, attributes := #[] }, { accessFlags := 9, nameIndex := 117, descriptorIndex := 122, attributes := #[] }, { accessFlags := 9, nameIndex := 117, descriptorIndex := 118, attributes := #[] }, { accessFlags := 9, nameIndex := 392, descriptorIndex := 74, attributes := #[] }, { accessFlags := 9, nameIndex := 69, descriptorIndex := 70, attributes := #[] }] 48 6 #[] #[{ accessFlags := 26, nameIndex := 61, descriptorIndex := 62, attributes := #[] }, { accessFlags := 26, nameIndex := 65, descriptorIndex := 62, attributes := #[] }, { accessFlags := 24, nameIndex := 430, descriptorIndex := 62, attributes := #[] }, { accessFlags := 4120, nameIndex := 46, descriptorIndex := 47, attributes := #[] }])
  fields := #[{ name := "HI_BYTE_SHIFT", type := .int, accessFlags := 26, slot := 0, constantValue := 0 }, { name := "LO_BYTE_SHIFT", type := .int, accessFlags := 26, slot := 1, constantValue := 0 }, { name := "MAX_LENGTH", type := .int, accessFlags := 24, slot := 2, constantValue := 0 }, { name := "$assertionsDisabled", type := .boolean, accessFlags := 4120, slot := 3, constantValue := 0 }]
  methods := #[k8m0, k8m1, k8m2, k8m3, k8m4, k8m5, k8m6, k8m7, k8m8, k8m9, k8m10, k8m11]
  instanceTypes := #[]
  staticTypes := #[.int, .int, .int, .boolean]
  resolved := Array.replicate 635 none
  statics := some 1 }

def pool9 : Array CpInfo := pool [(2, .class_ 4), (1, u "java/lang/Object"), (0, u "<init>"), (0, u "()V"), (1, .class_ 10), (1, u "java/lang/String"), (7, .class_ 20), (1, u "com/example/crossbook/crossbook/cli/IntegerText"), (0, u "isDigits"), (0, u "(Ljava/lang/String;II)Z"), (19, .methodref 8 43), (0, .nameAndType 44 45), (0, u "charAt"), (0, u "(I)C")] 36

def k9m0 : Method := { name := "<init>", desc := "()V", sig := { parameters := [], returnType := none }, accessFlags := 2, code := none }
def k9c1 : Code := { maxStack := 2, maxLocals := 5, code := prog_22_method_3_code, exceptionTable := #[], attributes := #[] }
def k9m1 : Method := { name := "isDigits", desc := "(Ljava/lang/String;II)Z", sig := { parameters := [(.object "java/lang/String"), .int, .int], returnType := some .boolean }, accessFlags := 8, code := some k9c1 }
/-- com/example/crossbook/crossbook/cli/IntegerText -/
def k9 : Class := { plain "com/example/crossbook/crossbook/cli/IntegerText" (some 0) with
  accessFlags := 33
  interfaces := #[]
  cf := some (fileOf pool9 18 #[] #[{ accessFlags := 2, nameIndex := 5, descriptorIndex := 6, attributes := #[] }, { accessFlags := 8, nameIndex := 21, descriptorIndex := 22, attributes := #[] }] 33 2 #[] #[])
  fields := #[]
  methods := #[k9m0, k9m1]
  instanceTypes := #[]
  staticTypes := #[]
  resolved := Array.replicate 82 none
  statics := none }

def pool10 : Array CpInfo := pool [(2, .class_ 4), (1, u "java/lang/Object"), (0, u "<init>"), (0, u "()V"), (17, .class_ 26), (1, u "jdk/internal/util/Preconditions"), (6, u "checkIndex"), (21, .class_ 56), (0, u "jdk/internal/util/Preconditions$4"), (57, .class_ 115), (0, u "jdk/internal/util/Preconditions$1"), (7, u "SIOOBE_FORMATTER"), (0, u "Ljava/util/function/BiFunction;"), (0, .class_ 126), (0, u "jdk/internal/util/Preconditions$2"), (3, u "AIOOBE_FORMATTER"), (0, .class_ 132), (0, u "jdk/internal/util/Preconditions$3"), (3, u "IOOBE_FORMATTER"), (41, u "(IILjava/util/function/BiFunction;)I")] 15

def k10m0 : Method := { name := "<init>", desc := "()V", sig := { parameters := [], returnType := none }, accessFlags := 1, code := none }
def k10c1 : Code := { maxStack := 3, maxLocals := 3, code := jdk_41_method_11_code, exceptionTable := #[], attributes := #[] }
def k10m1 : Method := { name := "checkIndex", desc := "(IILjava/util/function/BiFunction;)I", sig := { parameters := [.int, .int, (.object "java/util/function/BiFunction")], returnType := some .int }, accessFlags := 9, code := some k10c1 }
/-- jdk/internal/util/Preconditions -/
def k10 : Class := { plain "jdk/internal/util/Preconditions" (some 0) with
  accessFlags := 33
  interfaces := #[]
  cf := some (fileOf pool10 24 #[.nestMembers #[55, 131, 125, 114]] #[{ accessFlags := 1, nameIndex := 5, descriptorIndex := 6, attributes := #[] }, { accessFlags := 9, nameIndex := 33, descriptorIndex := 178, attributes := #[] }] 33 2 #[] #[{ accessFlags := 25, nameIndex := 123, descriptorIndex := 124, attributes := #[] }, { accessFlags := 25, nameIndex := 130, descriptorIndex := 124, attributes := #[] }, { accessFlags := 25, nameIndex := 136, descriptorIndex := 124, attributes := #[] }])
  fields := #[{ name := "SIOOBE_FORMATTER", type := (.object "java/util/function/BiFunction"), accessFlags := 25, slot := 0, constantValue := 0 }, { name := "AIOOBE_FORMATTER", type := (.object "java/util/function/BiFunction"), accessFlags := 25, slot := 1, constantValue := 0 }, { name := "IOOBE_FORMATTER", type := (.object "java/util/function/BiFunction"), accessFlags := 25, slot := 2, constantValue := 0 }]
  methods := #[k10m0, k10m1]
  instanceTypes := #[]
  staticTypes := #[(.object "java/util/function/BiFunction"), (.object "java/util/function/BiFunction"), (.object "java/util/function/BiFunction")]
  resolved := Array.replicate 194 none
  statics := some 2 }

def pool11 : Array CpInfo := pool [(1, .class_ 2), (0, u "java/lang/String"), (1, .class_ 6), (1, u "java/lang/Object"), (0, u "<init>"), (0, u "()V"), (0, .methodref 1 10), (0, .nameAndType 11 12), (0, u "checkIndex"), (0, u "(II)V"), (1, .class_ 16), (1, u "java/lang/StringLatin1"), (36, u "([BI)C"), (67, u "$assertionsDisabled"), (0, u "Z"), (98, .class_ 223), (1, u "java/lang/StringLatin1$LinesSpliterator"), (28, u "charAt"), (137, .class_ 391), (0, u "java/lang/StringLatin1$CharsSpliterator")] 3

def k11m0 : Method := { name := "<init>", desc := "()V", sig := { parameters := [], returnType := none }, accessFlags := 0, code := none }
def k11c1 : Code := { maxStack := 2, maxLocals := 2, code := jdk_43_method_2_code, exceptionTable := #[], attributes := #[] }
def k11m1 : Method := { name := "charAt", desc := "([BI)C", sig := { parameters := [(.array .byte), .int], returnType := some .char }, accessFlags := 9, code := some k11c1 }
/-- java/lang/StringLatin1 -/
def k11 : Class := { plain "java/lang/StringLatin1" (some 0) with
  accessFlags := 48
  interfaces := #[]
  cf := some (fileOf pool11 14 #[.nestMembers #[390, 221]] #[{ accessFlags := 0, nameIndex := 7, descriptorIndex := 8, attributes := #[] }, { accessFlags := 9, nameIndex := 252, descriptorIndex := 53, attributes := #[] }] 48 4 #[] #[{ accessFlags := 4120, nameIndex := 121, descriptorIndex := 122, attributes := #[] }])
  fields := #[{ name := "$assertionsDisabled", type := .boolean, accessFlags := 4120, slot := 0, constantValue := 0 }]
  methods := #[k11m0, k11m1]
  instanceTypes := #[]
  staticTypes := #[.boolean]
  resolved := Array.replicate 395 none
  statics := none }

def pool12 : Array CpInfo := pool [(9, u "<init>"), (6, .class_ 18), (1, u "java/lang/Object"), (0, u "()V"), (1, .class_ 23), (1, u "jdk/internal/util/ArraysSupport"), (0, u "LOG2_ARRAY_LONG_INDEX_SCALE"), (0, u "I"), (2, u "U"), (0, u "Ljdk/internal/misc/Unsafe;"), (8, u "BIG_ENDIAN"), (0, u "Z"), (8, u "LOG2_BYTE_BIT_SIZE"), (4, u "LOG2_ARRAY_INT_INDEX_SCALE"), (54, u "JLA"), (0, u "Ljdk/internal/access/JavaLangAccess;"), (11, u "LOG2_ARRAY_BOOLEAN_INDEX_SCALE"), (9, u "LOG2_ARRAY_BYTE_INDEX_SCALE"), (5, u "LOG2_ARRAY_CHAR_INDEX_SCALE"), (5, u "LOG2_ARRAY_SHORT_INDEX_SCALE"), (18, u "LOG2_ARRAY_FLOAT_INDEX_SCALE"), (24, u "LOG2_ARRAY_DOUBLE_INDEX_SCALE"), (89, u "T_BOOLEAN"), (2, u "T_CHAR"), (1, u "T_FLOAT"), (1, u "T_DOUBLE"), (1, u "T_BYTE"), (1, u "T_SHORT"), (1, u "T_INT"), (1, u "T_LONG"), (1, u "SOFT_MAX_ARRAY_LENGTH")] 83

def k12m0 : Method := { name := "<init>", desc := "()V", sig := { parameters := [], returnType := none }, accessFlags := 2, code := none }
/-- jdk/internal/util/ArraysSupport -/
def k12 : Class := { plain "jdk/internal/util/ArraysSupport" (some 0) with
  accessFlags := 33
  interfaces := #[]
  cf := some (fileOf pool12 21 #[] #[{ accessFlags := 2, nameIndex := 9, descriptorIndex := 19, attributes := #[] }] 33 16 #[] #[{ accessFlags := 24, nameIndex := 28, descriptorIndex := 29, attributes := #[] }, { accessFlags := 26, nameIndex := 38, descriptorIndex := 39, attributes := #[] }, { accessFlags := 25, nameIndex := 121, descriptorIndex := 25, attributes := #[] }, { accessFlags := 25, nameIndex := 131, descriptorIndex := 25, attributes := #[] }, { accessFlags := 25, nameIndex := 137, descriptorIndex := 25, attributes := #[] }, { accessFlags := 25, nameIndex := 143, descriptorIndex := 25, attributes := #[] }, { accessFlags := 25, nameIndex := 53, descriptorIndex := 25, attributes := #[] }, { accessFlags := 25, nameIndex := 24, descriptorIndex := 25, attributes := #[] }, { accessFlags := 25, nameIndex := 162, descriptorIndex := 25, attributes := #[] }, { accessFlags := 25, nameIndex := 187, descriptorIndex := 25, attributes := #[] }, { accessFlags := 26, nameIndex := 48, descriptorIndex := 25, attributes := #[] }, { accessFlags := 25, nameIndex := 277, descriptorIndex := 25, attributes := #[] }, { accessFlags := 25, nameIndex := 280, descriptorIndex := 25, attributes := #[] }, { accessFlags := 25, nameIndex := 282, descriptorIndex := 25, attributes := #[] }, { accessFlags := 25, nameIndex := 284, descriptorIndex := 25, attributes := #[] }, { accessFlags := 25, nameIndex := 286, descriptorIndex := 25, attributes := #[] }, { accessFlags := 25, nameIndex := 288, descriptorIndex := 25, attributes := #[] }, { accessFlags := 25, nameIndex := 290, descriptorIndex := 25, attributes := #[] }, { accessFlags := 25, nameIndex := 292, descriptorIndex := 25, attributes := #[] }, { accessFlags := 26, nameIndex := 108, descriptorIndex := 109, attributes := #[] }, { accessFlags := 25, nameIndex := 294, descriptorIndex := 25, attributes := #[] }])
  fields := #[{ name := "U", type := (.object "jdk/internal/misc/Unsafe"), accessFlags := 24, slot := 0, constantValue := 0 }, { name := "BIG_ENDIAN", type := .boolean, accessFlags := 26, slot := 1, constantValue := 0 }, { name := "LOG2_ARRAY_BOOLEAN_INDEX_SCALE", type := .int, accessFlags := 25, slot := 2, constantValue := 0 }, { name := "LOG2_ARRAY_BYTE_INDEX_SCALE", type := .int, accessFlags := 25, slot := 3, constantValue := 0 }, { name := "LOG2_ARRAY_CHAR_INDEX_SCALE", type := .int, accessFlags := 25, slot := 4, constantValue := 0 }, { name := "LOG2_ARRAY_SHORT_INDEX_SCALE", type := .int, accessFlags := 25, slot := 5, constantValue := 0 }, { name := "LOG2_ARRAY_INT_INDEX_SCALE", type := .int, accessFlags := 25, slot := 6, constantValue := 0 }, { name := "LOG2_ARRAY_LONG_INDEX_SCALE", type := .int, accessFlags := 25, slot := 7, constantValue := 0 }, { name := "LOG2_ARRAY_FLOAT_INDEX_SCALE", type := .int, accessFlags := 25, slot := 8, constantValue := 0 }, { name := "LOG2_ARRAY_DOUBLE_INDEX_SCALE", type := .int, accessFlags := 25, slot := 9, constantValue := 0 }, { name := "LOG2_BYTE_BIT_SIZE", type := .int, accessFlags := 26, slot := 10, constantValue := 0 }, { name := "T_BOOLEAN", type := .int, accessFlags := 25, slot := 11, constantValue := 0 }, { name := "T_CHAR", type := .int, accessFlags := 25, slot := 12, constantValue := 0 }, { name := "T_FLOAT", type := .int, accessFlags := 25, slot := 13, constantValue := 0 }, { name := "T_DOUBLE", type := .int, accessFlags := 25, slot := 14, constantValue := 0 }, { name := "T_BYTE", type := .int, accessFlags := 25, slot := 15, constantValue := 0 }, { name := "T_SHORT", type := .int, accessFlags := 25, slot := 16, constantValue := 0 }, { name := "T_INT", type := .int, accessFlags := 25, slot := 17, constantValue := 0 }, { name := "T_LONG", type := .int, accessFlags := 25, slot := 18, constantValue := 0 }, { name := "JLA", type := (.object "jdk/internal/access/JavaLangAccess"), accessFlags := 26, slot := 19, constantValue := 0 }, { name := "SOFT_MAX_ARRAY_LENGTH", type := .int, accessFlags := 25, slot := 20, constantValue := 0 }]
  methods := #[k12m0]
  instanceTypes := #[]
  staticTypes := #[(.object "jdk/internal/misc/Unsafe"), .boolean, .int, .int, .int, .int, .int, .int, .int, .int, .int, .int, .int, .int, .int, .int, .int, .int, .int, (.object "jdk/internal/access/JavaLangAccess"), .int]
  resolved := Array.replicate 378 none
  statics := none }

def pool13 : Array CpInfo := pool [(1, u "java/lang/Cloneable"), (0, .class_ 1), (0, u "java/lang/Object"), (0, .class_ 3)] 3

/-- java/lang/Cloneable -/
def k13 : Class := { plain "java/lang/Cloneable" (some 0) with
  accessFlags := 1537
  interfaces := #[]
  cf := some (fileOf pool13 2 #[] #[] 1537 4 #[] #[])
  fields := #[]
  methods := #[]
  instanceTypes := #[]
  staticTypes := #[]
  resolved := Array.replicate 8 none
  statics := none }

/-- the primitive byte -/
def k14 : Class := { plain "byte" none with kind := .primitive 'B', accessFlags := 0x411 }
/-- [B -/
def k15 : Class := { plain "[B" (some 0) with kind := .array 14 .byte, interfaces := #[13, 2], accessFlags := 1041 }

/-- the primitive char -/
def k16 : Class := { plain "char" none with kind := .primitive 'C', accessFlags := 0x411 }
/-- [C -/
def k17 : Class := { plain "[C" (some 0) with kind := .array 16 .char, interfaces := #[13, 2], accessFlags := 1041 }

/-- the primitive int -/
def k18 : Class := { plain "int" none with kind := .primitive 'I', accessFlags := 0x411 }
/-- [I -/
def k19 : Class := { plain "[I" (some 0) with kind := .array 18 .int, interfaces := #[13, 2], accessFlags := 1041 }

def heap : Heap := #[{ cls := 7, slots := #[.long 0, .int 1, .null, .int 0, .null, .int 0, .int 0], vm := .statics 7 },
  { cls := 8, slots := #[.int 0, .int 8, .int 0, .int 1], vm := .statics 8 },
  { cls := 10, slots := #[.null, .null, .null], vm := .statics 10 }]
def classes : Array Class := #[k0, k1, k2, k3, k4, k5, k6, k7, k8, k9, k10, k11, k12, k13, k14, k15, k16, k17, k18, k19]
def interned : List (Array UInt16 × Addr) := []
def slotsUsed : Nat := 14
def theMethod : MethodId := ⟨1, 4⟩
def args0 : Array Value := #[.int 5, .int 7, .int 96, .int 98, .int 1024]
def aboutOver (below : List Frame) : State where
  vm := { classes := classes, interned := interned.toArray }
  heap := heap
  slotsUsed := slotsUsed
  threads := #[{ frames := .invoking theMethod args0 :: below }]
def below0 : List Frame := [.native { method := ⟨0, 0⟩, args := #[] }]
def about1 : State := aboutOver below0
def p0 : Program := .bare "" "" ""
def e0 : Env := launch0.env 0 0 0
theorem w_frames : about1.frames = Frame.invoking theMethod args0 :: below0 := rfl
set_option maxRecDepth 65536 in
theorem w_args : argsFit about1.vm theMethod args0 = true := by decide +kernel
set_option maxRecDepth 65536 in
theorem w_heap : heapFits about1 = true := by decide +kernel
set_option maxRecDepth 65536 in
theorem w_runnable : about1.curStatus? = some .runnable := by decide +kernel
set_option maxRecDepth 65536 in
theorem w_alone : about1.alone = true := by decide +kernel
set_option maxRecDepth 65536 in
theorem w_named : about1.methodNamed? x = some theMethod := by decide +kernel
set_option maxRecDepth 65536 in
theorem w_hears : about1.hears theMethod below0 = true := by decide +kernel
set_option maxRecDepth 65536 in
theorem w_ripe : about1.ripe theMethod args0 below0 = true := by decide +kernel
theorem w_running : about1.status = .running := rfl
set_option maxRecDepth 65536 in
theorem w_room : about1.hasRoom e0.platform room_1 = true :=
  launch0.hasRoom_least _ room_1 (by decide +kernel) (by decide +kernel) (by decide +kernel) (by decide +kernel) (by decide +kernel) (by decide +kernel)
theorem allAtoms_all (ts : List Jvm.Cond) (a : Array Jvm.Value) (st : Jvm.State) : (allAtoms ts).before a st = ts.all (fun c => c.before a st) := by
  induction ts with
  | nil => rfl
  | cons c t ih =>
    show (Jvm.Cond.and c (allAtoms t)).before a st = _
    rw [Jvm.Cond.before_and, ih, List.all_cons]
def words1 : List Jvm.Cond := Jvm.Cond.code x code maxLocals ret :: tables_1
/-- a 'code' word, met by the world's own term for the bytes: nothing is compared byte by byte -/
theorem code_word {y : MethodName} {bytes : ByteArray} {mx : Nat} {rt : Option FieldType} {a : Array Value} {s : State} {m : MethodId} {meth : Method} {c : Code} (h1 : s.methodNamed? y = some m) (h2 : s.vm.method? m = some meth) (h3 : meth.code = some c) (h4 : c.code = bytes)
    (h5 : (c.maxLocals == mx && c.exceptionTable.isEmpty && decide (c.maxStack ≤ mostOperands) && decide (meth.sig.returnType = rt) && !meth.locks && decide (parseMethodDescriptor y.desc = some meth.sig)) = true) : (Jvm.Cond.code y bytes mx rt).before a s = true := by
  simp only [Bool.and_eq_true, beq_iff_eq, Bool.not_eq_true', decide_eq_true_eq] at h5
  obtain ⟨⟨⟨⟨⟨g1, g2⟩, g3⟩, g4⟩, g5⟩, g6⟩ := h5
  simp [Cond.before, Cond.holds, Cond.value, h1, h2, h3, h4, g1, g2, g3, g4, g5, g6]
def isCode : Jvm.Cond → Bool
  | .code _ _ _ _ => true
  | _ => false
theorem all_split {L : List Jvm.Cond} {P : Jvm.Cond → Bool} (h1 : L.all (fun c => isCode c || P c) = true) (h2 : ∀ c ∈ L.filter isCode, P c = true) : L.all P = true := by
  refine List.all_eq_true.mpr fun c hc => ?_
  have h := List.all_eq_true.mp h1 c hc
  rcases Bool.eq_false_or_eq_true (isCode c) with hi | hi
  · exact h2 c (List.mem_filter.mpr ⟨hc, hi⟩)
  · simpa [hi] using h
set_option maxRecDepth 65536 in
theorem w_c0 : (Jvm.Cond.code x code maxLocals ret).before args0 about1 = true := code_word (m := ⟨1, 4⟩) (meth := k1m4) (c := k1c4) (by decide +kernel) rfl rfl rfl (by decide +kernel)
set_option maxRecDepth 65536 in
theorem w_c1 : (Jvm.Cond.code ({ cls := "com/example/crossbook/crossbook/cli/IntegerTextIsDigitsPinLaw", name := "ch", desc := "(I)C" } : Jvm.MethodName) method_2_code (1 : Nat) (Option.some Jvm.ClassFile.FieldType.char)).before args0 about1 = true := code_word (m := ⟨1, 1⟩) (meth := k1m1) (c := k1c1) (by decide +kernel) rfl rfl rfl (by decide +kernel)
set_option maxRecDepth 65536 in
theorem w_c2 : (Jvm.Cond.code ({ cls := "java/lang/String", name := "<init>", desc := "([C)V" } : Jvm.MethodName) jdk_42_method_3_code (2 : Nat) (Option.none : Option Jvm.ClassFile.FieldType)).before args0 about1 = true := code_word (m := ⟨7, 1⟩) (meth := k7m1) (c := k7c1) (by decide +kernel) rfl rfl rfl (by decide +kernel)
set_option maxRecDepth 65536 in
theorem w_c3 : (Jvm.Cond.code ({ cls := "java/lang/String", name := "<init>", desc := "([CIILjava/lang/Void;)V" } : Jvm.MethodName) jdk_42_method_149_code (6 : Nat) (Option.none : Option Jvm.ClassFile.FieldType)).before args0 about1 = true := code_word (m := ⟨7, 3⟩) (meth := k7m3) (c := k7c3) (by decide +kernel) rfl rfl rfl (by decide +kernel)
set_option maxRecDepth 65536 in
theorem w_c4 : (Jvm.Cond.code ({ cls := "java/lang/Object", name := "<init>", desc := "()V" } : Jvm.MethodName) object_method_1_code (1 : Nat) (Option.none : Option Jvm.ClassFile.FieldType)).before args0 about1 = true := code_word (m := ⟨0, 0⟩) (meth := k0m0) (c := k0c0) (by decide +kernel) rfl rfl rfl (by decide +kernel)
set_option maxRecDepth 65536 in
theorem w_c5 : (Jvm.Cond.code ({ cls := "java/lang/StringUTF16", name := "compress", desc := "([CII)[B" } : Jvm.MethodName) jdk_52_method_16_code (6 : Nat) (Option.some (Jvm.ClassFile.FieldType.array Jvm.ClassFile.FieldType.byte))).before args0 about1 = true := code_word (m := ⟨8, 8⟩) (meth := k8m8) (c := k8c8) (by decide +kernel) rfl rfl rfl (by decide +kernel)
set_option maxRecDepth 65536 in
theorem w_c6 : (Jvm.Cond.code ({ cls := "java/lang/StringUTF16", name := "compress", desc := "([CI[BII)I" } : Jvm.MethodName) jdk_52_method_21_code (7 : Nat) (Option.some Jvm.ClassFile.FieldType.int)).before args0 about1 = true := code_word (m := ⟨8, 9⟩) (meth := k8m9) (c := k8c9) (by decide +kernel) rfl rfl rfl (by decide +kernel)
set_option maxRecDepth 65536 in
theorem w_c7 : (Jvm.Cond.code ({ cls := "java/lang/StringUTF16", name := "coderFromArrayLen", desc := "([BI)B" } : Jvm.MethodName) jdk_52_method_15_code (2 : Nat) (Option.some Jvm.ClassFile.FieldType.byte)).before args0 about1 = true := code_word (m := ⟨8, 7⟩) (meth := k8m7) (c := k8c7) (by decide +kernel) rfl rfl rfl (by decide +kernel)
set_option maxRecDepth 65536 in
theorem w_c8 : (Jvm.Cond.code ({ cls := "com/example/crossbook/crossbook/cli/IntegerTextIsDigitsPinLaw", name := "ok", desc := "(IIIC)Z" } : Jvm.MethodName) method_4_code (4 : Nat) (Option.some Jvm.ClassFile.FieldType.boolean)).before args0 about1 = true := code_word (m := ⟨1, 3⟩) (meth := k1m3) (c := k1c3) (by decide +kernel) rfl rfl rfl (by decide +kernel)
set_option maxRecDepth 65536 in
theorem w_c9 : (Jvm.Cond.code ({ cls := "com/example/crossbook/crossbook/cli/IntegerText", name := "isDigits", desc := "(Ljava/lang/String;II)Z" } : Jvm.MethodName) prog_22_method_3_code (5 : Nat) (Option.some Jvm.ClassFile.FieldType.boolean)).before args0 about1 = true := code_word (m := ⟨9, 1⟩) (meth := k9m1) (c := k9c1) (by decide +kernel) rfl rfl rfl (by decide +kernel)
set_option maxRecDepth 65536 in
theorem w_c10 : (Jvm.Cond.code ({ cls := "java/lang/StringUTF16", name := "toBytes", desc := "([CII)[B" } : Jvm.MethodName) jdk_52_method_14_code (5 : Nat) (Option.some (Jvm.ClassFile.FieldType.array Jvm.ClassFile.FieldType.byte))).before args0 about1 = true := code_word (m := ⟨8, 6⟩) (meth := k8m6) (c := k8c6) (by decide +kernel) rfl rfl rfl (by decide +kernel)
set_option maxRecDepth 65536 in
theorem w_c11 : (Jvm.Cond.code ({ cls := "java/lang/StringUTF16", name := "newBytesFor", desc := "(I)[B" } : Jvm.MethodName) jdk_52_method_2_code (1 : Nat) (Option.some (Jvm.ClassFile.FieldType.array Jvm.ClassFile.FieldType.byte))).before args0 about1 = true := code_word (m := ⟨8, 1⟩) (meth := k8m1) (c := k8c1) (by decide +kernel) rfl rfl rfl (by decide +kernel)
set_option maxRecDepth 65536 in
theorem w_c12 : (Jvm.Cond.code ({ cls := "java/lang/StringUTF16", name := "newBytesLength", desc := "(I)I" } : Jvm.MethodName) jdk_52_method_3_code (1 : Nat) (Option.some Jvm.ClassFile.FieldType.int)).before args0 about1 = true := code_word (m := ⟨8, 2⟩) (meth := k8m2) (c := k8c2) (by decide +kernel) rfl rfl rfl (by decide +kernel)
set_option maxRecDepth 65536 in
theorem w_c13 : (Jvm.Cond.code ({ cls := "java/lang/StringUTF16", name := "putChar", desc := "([BII)V" } : Jvm.MethodName) jdk_52_method_4_code (3 : Nat) (Option.none : Option Jvm.ClassFile.FieldType)).before args0 about1 = true := code_word (m := ⟨8, 3⟩) (meth := k8m3) (c := k8c3) (by decide +kernel) rfl rfl rfl (by decide +kernel)
set_option maxRecDepth 65536 in
theorem w_c14 : (Jvm.Cond.code ({ cls := "java/lang/StringUTF16", name := "getChar", desc := "([BI)C" } : Jvm.MethodName) jdk_52_method_5_code (2 : Nat) (Option.some Jvm.ClassFile.FieldType.char)).before args0 about1 = true := code_word (m := ⟨8, 4⟩) (meth := k8m4) (c := k8c4) (by decide +kernel) rfl rfl rfl (by decide +kernel)
set_option maxRecDepth 65536 in
theorem w_c15 : (Jvm.Cond.code ({ cls := "com/example/crossbook/crossbook/cli/IntegerTextIsDigitsPinLaw", name := "dig", desc := "(C)Z" } : Jvm.MethodName) method_3_code (1 : Nat) (Option.some Jvm.ClassFile.FieldType.boolean)).before args0 about1 = true := code_word (m := ⟨1, 2⟩) (meth := k1m2) (c := k1c2) (by decide +kernel) rfl rfl rfl (by decide +kernel)
set_option maxRecDepth 65536 in
theorem w_c16 : (Jvm.Cond.code ({ cls := "java/lang/String", name := "charAt", desc := "(I)C" } : Jvm.MethodName) jdk_42_method_56_code (2 : Nat) (Option.some Jvm.ClassFile.FieldType.char)).before args0 about1 = true := code_word (m := ⟨7, 2⟩) (meth := k7m2) (c := k7c2) (by decide +kernel) rfl rfl rfl (by decide +kernel)
set_option maxRecDepth 65536 in
theorem w_c17 : (Jvm.Cond.code ({ cls := "java/lang/String", name := "isLatin1", desc := "()Z" } : Jvm.MethodName) jdk_42_method_154_code (1 : Nat) (Option.some Jvm.ClassFile.FieldType.boolean)).before args0 about1 = true := code_word (m := ⟨7, 4⟩) (meth := k7m4) (c := k7c4) (by decide +kernel) rfl rfl rfl (by decide +kernel)
set_option maxRecDepth 65536 in
theorem w_c18 : (Jvm.Cond.code ({ cls := "java/lang/StringUTF16", name := "charAt", desc := "([BI)C" } : Jvm.MethodName) jdk_52_method_83_code (2 : Nat) (Option.some Jvm.ClassFile.FieldType.char)).before args0 about1 = true := code_word (m := ⟨8, 10⟩) (meth := k8m10) (c := k8c10) (by decide +kernel) rfl rfl rfl (by decide +kernel)
set_option maxRecDepth 65536 in
theorem w_c19 : (Jvm.Cond.code ({ cls := "java/lang/StringUTF16", name := "checkIndex", desc := "(I[B)V" } : Jvm.MethodName) jdk_52_method_91_code (2 : Nat) (Option.none : Option Jvm.ClassFile.FieldType)).before args0 about1 = true := code_word (m := ⟨8, 11⟩) (meth := k8m11) (c := k8c11) (by decide +kernel) rfl rfl rfl (by decide +kernel)
set_option maxRecDepth 65536 in
theorem w_c20 : (Jvm.Cond.code ({ cls := "java/lang/StringUTF16", name := "length", desc := "([B)I" } : Jvm.MethodName) jdk_52_method_6_code (1 : Nat) (Option.some Jvm.ClassFile.FieldType.int)).before args0 about1 = true := code_word (m := ⟨8, 5⟩) (meth := k8m5) (c := k8c5) (by decide +kernel) rfl rfl rfl (by decide +kernel)
set_option maxRecDepth 65536 in
theorem w_c21 : (Jvm.Cond.code ({ cls := "java/lang/String", name := "checkIndex", desc := "(II)V" } : Jvm.MethodName) jdk_42_method_155_code (2 : Nat) (Option.none : Option Jvm.ClassFile.FieldType)).before args0 about1 = true := code_word (m := ⟨7, 5⟩) (meth := k7m5) (c := k7c5) (by decide +kernel) rfl rfl rfl (by decide +kernel)
set_option maxRecDepth 65536 in
theorem w_c22 : (Jvm.Cond.code ({ cls := "jdk/internal/util/Preconditions", name := "checkIndex", desc := "(IILjava/util/function/BiFunction;)I" } : Jvm.MethodName) jdk_41_method_11_code (3 : Nat) (Option.some Jvm.ClassFile.FieldType.int)).before args0 about1 = true := code_word (m := ⟨10, 1⟩) (meth := k10m1) (c := k10c1) (by decide +kernel) rfl rfl rfl (by decide +kernel)
set_option maxRecDepth 65536 in
theorem w_c23 : (Jvm.Cond.code ({ cls := "java/lang/StringLatin1", name := "charAt", desc := "([BI)C" } : Jvm.MethodName) jdk_43_method_2_code (2 : Nat) (Option.some Jvm.ClassFile.FieldType.char)).before args0 about1 = true := code_word (m := ⟨11, 1⟩) (meth := k11m1) (c := k11c1) (by decide +kernel) rfl rfl rfl (by decide +kernel)
def codes1 : List Jvm.Cond := [Jvm.Cond.code x code maxLocals ret, Jvm.Cond.code ({ cls := "com/example/crossbook/crossbook/cli/IntegerTextIsDigitsPinLaw", name := "ch", desc := "(I)C" } : Jvm.MethodName) method_2_code (1 : Nat) (Option.some Jvm.ClassFile.FieldType.char), Jvm.Cond.code ({ cls := "java/lang/String", name := "<init>", desc := "([C)V" } : Jvm.MethodName) jdk_42_method_3_code (2 : Nat) (Option.none : Option Jvm.ClassFile.FieldType), Jvm.Cond.code ({ cls := "java/lang/String", name := "<init>", desc := "([CIILjava/lang/Void;)V" } : Jvm.MethodName) jdk_42_method_149_code (6 : Nat) (Option.none : Option Jvm.ClassFile.FieldType), Jvm.Cond.code ({ cls := "java/lang/Object", name := "<init>", desc := "()V" } : Jvm.MethodName) object_method_1_code (1 : Nat) (Option.none : Option Jvm.ClassFile.FieldType), Jvm.Cond.code ({ cls := "java/lang/StringUTF16", name := "compress", desc := "([CII)[B" } : Jvm.MethodName) jdk_52_method_16_code (6 : Nat) (Option.some (Jvm.ClassFile.FieldType.array Jvm.ClassFile.FieldType.byte)), Jvm.Cond.code ({ cls := "java/lang/StringUTF16", name := "compress", desc := "([CI[BII)I" } : Jvm.MethodName) jdk_52_method_21_code (7 : Nat) (Option.some Jvm.ClassFile.FieldType.int), Jvm.Cond.code ({ cls := "java/lang/StringUTF16", name := "coderFromArrayLen", desc := "([BI)B" } : Jvm.MethodName) jdk_52_method_15_code (2 : Nat) (Option.some Jvm.ClassFile.FieldType.byte), Jvm.Cond.code ({ cls := "com/example/crossbook/crossbook/cli/IntegerTextIsDigitsPinLaw", name := "ok", desc := "(IIIC)Z" } : Jvm.MethodName) method_4_code (4 : Nat) (Option.some Jvm.ClassFile.FieldType.boolean), Jvm.Cond.code ({ cls := "com/example/crossbook/crossbook/cli/IntegerText", name := "isDigits", desc := "(Ljava/lang/String;II)Z" } : Jvm.MethodName) prog_22_method_3_code (5 : Nat) (Option.some Jvm.ClassFile.FieldType.boolean), Jvm.Cond.code ({ cls := "java/lang/StringUTF16", name := "toBytes", desc := "([CII)[B" } : Jvm.MethodName) jdk_52_method_14_code (5 : Nat) (Option.some (Jvm.ClassFile.FieldType.array Jvm.ClassFile.FieldType.byte)), Jvm.Cond.code ({ cls := "java/lang/StringUTF16", name := "newBytesFor", desc := "(I)[B" } : Jvm.MethodName) jdk_52_method_2_code (1 : Nat) (Option.some (Jvm.ClassFile.FieldType.array Jvm.ClassFile.FieldType.byte)), Jvm.Cond.code ({ cls := "java/lang/StringUTF16", name := "newBytesLength", desc := "(I)I" } : Jvm.MethodName) jdk_52_method_3_code (1 : Nat) (Option.some Jvm.ClassFile.FieldType.int), Jvm.Cond.code ({ cls := "java/lang/StringUTF16", name := "putChar", desc := "([BII)V" } : Jvm.MethodName) jdk_52_method_4_code (3 : Nat) (Option.none : Option Jvm.ClassFile.FieldType), Jvm.Cond.code ({ cls := "java/lang/StringUTF16", name := "getChar", desc := "([BI)C" } : Jvm.MethodName) jdk_52_method_5_code (2 : Nat) (Option.some Jvm.ClassFile.FieldType.char), Jvm.Cond.code ({ cls := "com/example/crossbook/crossbook/cli/IntegerTextIsDigitsPinLaw", name := "dig", desc := "(C)Z" } : Jvm.MethodName) method_3_code (1 : Nat) (Option.some Jvm.ClassFile.FieldType.boolean), Jvm.Cond.code ({ cls := "java/lang/String", name := "charAt", desc := "(I)C" } : Jvm.MethodName) jdk_42_method_56_code (2 : Nat) (Option.some Jvm.ClassFile.FieldType.char), Jvm.Cond.code ({ cls := "java/lang/String", name := "isLatin1", desc := "()Z" } : Jvm.MethodName) jdk_42_method_154_code (1 : Nat) (Option.some Jvm.ClassFile.FieldType.boolean), Jvm.Cond.code ({ cls := "java/lang/StringUTF16", name := "charAt", desc := "([BI)C" } : Jvm.MethodName) jdk_52_method_83_code (2 : Nat) (Option.some Jvm.ClassFile.FieldType.char), Jvm.Cond.code ({ cls := "java/lang/StringUTF16", name := "checkIndex", desc := "(I[B)V" } : Jvm.MethodName) jdk_52_method_91_code (2 : Nat) (Option.none : Option Jvm.ClassFile.FieldType), Jvm.Cond.code ({ cls := "java/lang/StringUTF16", name := "length", desc := "([B)I" } : Jvm.MethodName) jdk_52_method_6_code (1 : Nat) (Option.some Jvm.ClassFile.FieldType.int), Jvm.Cond.code ({ cls := "java/lang/String", name := "checkIndex", desc := "(II)V" } : Jvm.MethodName) jdk_42_method_155_code (2 : Nat) (Option.none : Option Jvm.ClassFile.FieldType), Jvm.Cond.code ({ cls := "jdk/internal/util/Preconditions", name := "checkIndex", desc := "(IILjava/util/function/BiFunction;)I" } : Jvm.MethodName) jdk_41_method_11_code (3 : Nat) (Option.some Jvm.ClassFile.FieldType.int), Jvm.Cond.code ({ cls := "java/lang/StringLatin1", name := "charAt", desc := "([BI)C" } : Jvm.MethodName) jdk_43_method_2_code (2 : Nat) (Option.some Jvm.ClassFile.FieldType.char)]
set_option maxRecDepth 65536 in
theorem codes_eq : words1.filter isCode = codes1 := rfl
theorem w_codes : ∀ c ∈ words1.filter isCode, c.before args0 about1 = true := by
  rw [codes_eq]
  intro c hc
  simp only [codes1, List.mem_cons, List.not_mem_nil, or_false] at hc
  rcases hc with rfl | rfl | rfl | rfl | rfl | rfl | rfl | rfl | rfl | rfl | rfl | rfl | rfl | rfl | rfl | rfl | rfl | rfl | rfl | rfl | rfl | rfl | rfl | rfl
  · exact w_c0
  · exact w_c1
  · exact w_c2
  · exact w_c3
  · exact w_c4
  · exact w_c5
  · exact w_c6
  · exact w_c7
  · exact w_c8
  · exact w_c9
  · exact w_c10
  · exact w_c11
  · exact w_c12
  · exact w_c13
  · exact w_c14
  · exact w_c15
  · exact w_c16
  · exact w_c17
  · exact w_c18
  · exact w_c19
  · exact w_c20
  · exact w_c21
  · exact w_c22
  · exact w_c23
set_option maxRecDepth 65536 in
theorem w_t1 : (words1.take 24).all (fun c => isCode c || c.before args0 about1) = true := by decide +kernel
set_option maxRecDepth 65536 in
theorem w_t2 : ((words1.drop 24).take 24).all (fun c => isCode c || c.before args0 about1) = true := by decide +kernel
set_option maxRecDepth 65536 in
theorem w_t3 : (((words1.drop 24).drop 24).take 24).all (fun c => isCode c || c.before args0 about1) = true := by decide +kernel
set_option maxRecDepth 65536 in
theorem w_t4 : ((((words1.drop 24).drop 24).drop 24).take 24).all (fun c => isCode c || c.before args0 about1) = true := by decide +kernel
set_option maxRecDepth 65536 in
theorem w_t5 : ((((words1.drop 24).drop 24).drop 24).drop 24).all (fun c => isCode c || c.before args0 about1) = true := by decide +kernel
theorem w_tables : (allAtoms (Jvm.Cond.code x code maxLocals ret :: tables_1)).before args0 about1 = true := by
  rw [allAtoms_all]
  show words1.all (fun c => c.before args0 about1) = true
  refine all_split ?_ w_codes
  rw [← List.take_append_drop 24 words1, List.all_append, w_t1, ← List.take_append_drop 24 (words1.drop 24), List.all_append, w_t2, ← List.take_append_drop 24 ((words1.drop 24).drop 24), List.all_append, w_t3, ← List.take_append_drop 24 (((words1.drop 24).drop 24).drop 24), List.all_append, w_t4, w_t5]
  rfl
set_option maxRecDepth 65536 in
theorem w_rest : rest_1_c.before args0 about1 = true := by decide +kernel
set_option maxRecDepth 65536 in
theorem w_case : (Jvm.Cond.and given_1 narrow_1).before args0 about1 = true := by decide +kernel
theorem w_applies : (headSpec (Jvm.Cond.code x code maxLocals ret :: tables_1) room_1).applies x e0.platform about1 = true :=
  (Spec.applies_iff w_frames).mpr ⟨w_running, w_runnable, w_alone, w_named, w_hears, w_ripe, w_room, w_tables⟩
theorem atStart : AtStart classFile x code maxLocals ret World_1 tables_1 room_1 Calls_1 rest_1 Pre_1 launch0 p0 e0 about1 theMethod args0 below0 :=
  ⟨lists_1, trivial, launch0.admits_env _ _ _, launch0.least_env, fairChoices_fair.cas, fairChoices_fair.clock, w_frames, w_args, w_heap, w_applies, trivial, w_rest, w_case⟩
end start1
theorem witness_1 : WitnessClaimed_1 := ⟨start1.p0, start1.e0, start1.about1, start1.theMethod, start1.args0, start1.below0, start1.atStart⟩
end Jvm.Pilot.@@N@@
