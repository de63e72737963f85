import JvmDerived
import JvmDerived.Pilot.@@N@@Statement
import JvmDerived.Pilot.@@N@@Code
set_option linter.unusedVariables false
set_option linter.unusedSimpArgs false
@@BLOCK:NumsL.lean.txt@@
namespace Jvm.OwnGo
open Jvm Jvm.ClassFile Sem Op Lib Jvm.Free Jvm.Stand Jvm.LawKit Jvm.RoadKit
/-- from T with the frame g on top the run comes to an end of which En holds -/
def Go (p : Program) (e : Env) (below : List Frame) (En : State → Outcome → Prop) (T : State) (g : JFrame) : Prop :=
  ∃ t o, Steps p.tables e below (T.setTop g) t ∧ t.status = .running ∧ Ended t below o ∧ En t o
/-- it has returned; the value, the heap and the written places meet Q; at most C cells and S slots were made since s -/
def EndN (s : State) (Q : Option Value → Heap → List Loc → Prop) (C S : Nat) : State → Outcome → Prop := fun t o => ∃ v L, o = .returned v ∧ Q v t.heap L ∧ FrameEnd s o t L C S
/-- what a callee's own walk promises -/
def Con (l : Launch) (Z : State) (y : MethodName) (bytes : ByteArray) (maxL : Nat) (ret : Option FieldType) (rm : Room) (as : List Value) (h : Heap) (Q : Option Value → Heap → List Loc → Prop) : Prop :=
  ∀ ws : List Jvm.Cond, MetFree l y (head1 (Jvm.Cond.code y bytes maxL ret :: ws) rm) (fun a U => a = as.toArray ∧ Z.Warmed39 U.vm ∧ U.heap = h) (fun _ _ _ _ _ => True) (fun _ U o U' => ∃ v L, o = .returned v ∧ Q v U'.heap L ∧ FrameEnd U o U' L rm.cells rm.slots)
/-- it returns r and leaves the heap as it was -/
def Ret (r : Option Value) (h : Heap) : Option Value → Heap → List Loc → Prop := fun v h' L => v = r ∧ h' = h ∧ L = []
section Own
variable {p : Program} {l : Launch} {e : Env} {R : Room} {s : State} {m : MethodId} {args : Array Value} {below : List Frame} {meth : Method} {c : Code} {T : State} {locs : List Loc} {cells slots : Nat} {Z : State} {a0 : Array Value} {h : Heap} {Q : Option Value → Heap → List Loc → Prop} {C S : Nat} {En : State → Outcome → Prop} {pc : Nat} {Ls : Array Slot} {st : List Value}
theorem Go.of {T' : State} {g g' : JFrame} (k : ∀ t, Steps p.tables e below (T'.setTop g') t → Steps p.tables e below (T.setTop g) t) (r : Go p e below En T' g') : Go p e below En T g := by
  obtain ⟨t, o, h1, r⟩ := r
  exact ⟨t, o, k t h1, r⟩
theorem Con.of {y : MethodName} {bytes : ByteArray} {maxL : Nat} {ret : Option FieldType} {rm : Room} {as : List Value} {Ls0 : Array Slot} (hp : plainFor y = true) (ef : ∀ m, entryFrame m as.toArray maxL = mkF m 0 Ls0 [])
    (body : ∀ (p : Program) (e : Env) (s : State) (m : MethodId) (below : List Frame) (meth : Method) (c : Code) (T : State), Stand p l e rm s m as.toArray below meth c T [] 0 0 → p.tables.exec = Jvm.exec → Z.Warmed39 s.vm → c.code = bytes → c.maxLocals = maxL → s.vm.findClass y.cls = some m.cls → meth.name = y.name → meth.sig.returnType = ret → meth.locks = false → T.heap = h → Go p e below (EndN s Q rm.cells rm.slots) T (mkF m 0 Ls0 [])) :
    Con l Z y bytes maxL ret rm as h Q := by
  intro ws
  refine MetFree.of_bodySF hp hisR ?_
  intro p e s m args below meth c s₁ Bd hml0 hP hK
  obtain ⟨rfl, hZ, hh⟩ := hP
  have X0 : Stand p l e rm s m as.toArray below meth c s₁ [] 0 0 := Stand.of_body Bd
  have e0 : s₁.heap = h := by rw [← hh, Bd.state]; rfl
  obtain ⟨t, o, h1, r⟩ := body p e s m below meth c s₁ X0 Bd.exec hZ Bd.bytes hml0 (findClass_of_methodNamed Bd.named) (name_of_methodNamed Bd.named Bd.method).1 Bd.returns Bd.notSynchronized e0
  exact ⟨t, o, castTop (ef m) h1, r⟩
theorem iloadN (X : Stand p l e R s m args below meth c T locs cells slots) (hx : p.tables.exec = Jvm.exec) {k : Fin 4} {v : Int32} (hd : decode c.code pc = .ok (.iload_n k, 1)) (hl : Ls[k.val]? = some (.val (.int v))) (r : Go p e below En T (mkF m (pc + 1) Ls (.int v :: st))) : Go p e below En T (mkF m pc Ls st) :=
  Go.of (fun t k => XS.iloadN (g := mkF m pc Ls st) X.here hx rfl hd hl k) r
theorem lloadN (X : Stand p l e R s m args below meth c T locs cells slots) (hx : p.tables.exec = Jvm.exec) {k : Fin 4} {v : Int64} (hd : decode c.code pc = .ok (.lload_n k, 1)) (hl : Ls[k.val]? = some (.val (.long v))) (r : Go p e below En T (mkF m (pc + 1) Ls (.long v :: st))) : Go p e below En T (mkF m pc Ls st) :=
  Go.of (fun t k => XS.lloadN (g := mkF m pc Ls st) X.here hx rfl hd hl k) r
theorem aloadN (X : Stand p l e R s m args below meth c T locs cells slots) (hx : p.tables.exec = Jvm.exec) {k : Fin 4} {v : Value} (hd : decode c.code pc = .ok (.aload_n k, 1)) (hl : Ls[k.val]? = some (.val v)) (hv : v.isRef = true) (r : Go p e below En T (mkF m (pc + 1) Ls (v :: st))) : Go p e below En T (mkF m pc Ls st) :=
  Go.of (fun t k => XS.aloadN (g := mkF m pc Ls st) X.here hx rfl hd hl hv k) r
theorem istoreN (X : Stand p l e R s m args below meth c T locs cells slots) (hx : p.tables.exec = Jvm.exec) {k : Fin 4} {v : Int32} {Ls' : Array Slot} (hd : decode c.code pc = .ok (.istore_n k, 1)) (hl : storeLocals Ls k.val (.int v) = some Ls') (r : Go p e below En T (mkF m (pc + 1) Ls' st)) : Go p e below En T (mkF m pc Ls (.int v :: st)) :=
  Go.of (fun t k => XS.istoreN (g := mkF m pc Ls (.int v :: st)) X.here hx rfl hd rfl hl k) r
theorem lstoreN (X : Stand p l e R s m args below meth c T locs cells slots) (hx : p.tables.exec = Jvm.exec) {k : Fin 4} {v : Int64} {Ls' : Array Slot} (hd : decode c.code pc = .ok (.lstore_n k, 1)) (hl : storeLocals Ls k.val (.long v) = some Ls') (r : Go p e below En T (mkF m (pc + 1) Ls' st)) : Go p e below En T (mkF m pc Ls (.long v :: st)) :=
  Go.of (fun t k => XS.lstoreN (g := mkF m pc Ls (.long v :: st)) X.here hx rfl hd rfl hl k) r
theorem astoreN (X : Stand p l e R s m args below meth c T locs cells slots) (hx : p.tables.exec = Jvm.exec) {k : Fin 4} {v : Value} {Ls' : Array Slot} (hd : decode c.code pc = .ok (.astore_n k, 1)) (hv : v.isRef = true) (hl : storeLocals Ls k.val v = some Ls') (r : Go p e below En T (mkF m (pc + 1) Ls' st)) : Go p e below En T (mkF m pc Ls (v :: st)) :=
  Go.of (fun t k => XS.astoreN (g := mkF m pc Ls (v :: st)) X.here hx rfl hd rfl hv hl k) r
theorem iload (X : Stand p l e R s m args below meth c T locs cells slots) (hx : p.tables.exec = Jvm.exec) {k : Nat} {v : Int32} (hd : decode c.code pc = .ok (.iload k, 2)) (hl : Ls[k]? = some (.val (.int v))) (r : Go p e below En T (mkF m (pc + 2) Ls (.int v :: st))) : Go p e below En T (mkF m pc Ls st) :=
  Go.of (fun t k => XS.iload (g := mkF m pc Ls st) X.here hx rfl hd hl k) r
theorem lload (X : Stand p l e R s m args below meth c T locs cells slots) (hx : p.tables.exec = Jvm.exec) {k : Nat} {v : Int64} (hd : decode c.code pc = .ok (.lload k, 2)) (hl : Ls[k]? = some (.val (.long v))) (r : Go p e below En T (mkF m (pc + 2) Ls (.long v :: st))) : Go p e below En T (mkF m pc Ls st) :=
  Go.of (fun t k => XS.lload (g := mkF m pc Ls st) X.here hx rfl hd hl k) r
theorem aload (X : Stand p l e R s m args below meth c T locs cells slots) (hx : p.tables.exec = Jvm.exec) {k : Nat} {v : Value} (hd : decode c.code pc = .ok (.aload k, 2)) (hl : Ls[k]? = some (.val v)) (hv : v.isRef = true) (r : Go p e below En T (mkF m (pc + 2) Ls (v :: st))) : Go p e below En T (mkF m pc Ls st) :=
  Go.of (fun t k => XS.aload (g := mkF m pc Ls st) X.here hx rfl hd hl hv k) r
theorem istore (X : Stand p l e R s m args below meth c T locs cells slots) (hx : p.tables.exec = Jvm.exec) {k : Nat} {v : Int32} {Ls' : Array Slot} (hd : decode c.code pc = .ok (.istore k, 2)) (hl : storeLocals Ls k (.int v) = some Ls') (r : Go p e below En T (mkF m (pc + 2) Ls' st)) : Go p e below En T (mkF m pc Ls (.int v :: st)) :=
  Go.of (fun t k => XS.istore (g := mkF m pc Ls (.int v :: st)) X.here hx rfl hd rfl hl k) r
theorem lstore (X : Stand p l e R s m args below meth c T locs cells slots) (hx : p.tables.exec = Jvm.exec) {k : Nat} {v : Int64} {Ls' : Array Slot} (hd : decode c.code pc = .ok (.lstore k, 2)) (hl : storeLocals Ls k (.long v) = some Ls') (r : Go p e below En T (mkF m (pc + 2) Ls' st)) : Go p e below En T (mkF m pc Ls (.long v :: st)) :=
  Go.of (fun t k => XS.lstore (g := mkF m pc Ls (.long v :: st)) X.here hx rfl hd rfl hl k) r
theorem astore (X : Stand p l e R s m args below meth c T locs cells slots) (hx : p.tables.exec = Jvm.exec) {k : Nat} {v : Value} {Ls' : Array Slot} (hd : decode c.code pc = .ok (.astore k, 2)) (hv : v.isRef = true) (hl : storeLocals Ls k v = some Ls') (r : Go p e below En T (mkF m (pc + 2) Ls' st)) : Go p e below En T (mkF m pc Ls (v :: st)) :=
  Go.of (fun t k => XS.astore (g := mkF m pc Ls (v :: st)) X.here hx rfl hd rfl hv hl k) r
theorem iconst (X : Stand p l e R s m args below meth c T locs cells slots) (hx : p.tables.exec = Jvm.exec) {i : Int} {z : Int32} (hd : decode c.code pc = .ok (.iconst i, 1)) (hz : Int32.ofInt i = z) (r : Go p e below En T (mkF m (pc + 1) Ls (.int z :: st))) : Go p e below En T (mkF m pc Ls st) :=
  Go.of (fun t k => XS.iconst (g := mkF m pc Ls st) X.here hx rfl hd (by rw [hz]; exact k)) r
theorem bipush (X : Stand p l e R s m args below meth c T locs cells slots) (hx : p.tables.exec = Jvm.exec) {i : Int} {z : Int32} (hd : decode c.code pc = .ok (.bipush i, 2)) (hz : (Int8.ofInt i).toInt32 = z) (r : Go p e below En T (mkF m (pc + 2) Ls (.int z :: st))) : Go p e below En T (mkF m pc Ls st) :=
  Go.of (fun t k => XS.bipush (g := mkF m pc Ls st) X.here hx rfl hd (by rw [hz]; exact k)) r
theorem sipush (X : Stand p l e R s m args below meth c T locs cells slots) (hx : p.tables.exec = Jvm.exec) {i : Int} {z : Int32} (hd : decode c.code pc = .ok (.sipush i, 3)) (hz : (Int16.ofInt i).toInt32 = z) (r : Go p e below En T (mkF m (pc + 3) Ls (.int z :: st))) : Go p e below En T (mkF m pc Ls st) :=
  Go.of (fun t k => XS.sipush (g := mkF m pc Ls st) X.here hx rfl hd (by rw [hz]; exact k)) r
theorem lconst (X : Stand p l e R s m args below meth c T locs cells slots) (hx : p.tables.exec = Jvm.exec) {i : Fin 2} {v : Int64} (hd : decode c.code pc = .ok (.lconst i, 1)) (hv : Int64.ofNat i.val = v) (r : Go p e below En T (mkF m (pc + 1) Ls (.long v :: st))) : Go p e below En T (mkF m pc Ls st) :=
  Go.of (fun t k => XS.lconst (g := mkF m pc Ls st) X.here hx rfl hd (by rw [hv]; exact k)) r
theorem aconstNull (X : Stand p l e R s m args below meth c T locs cells slots) (hx : p.tables.exec = Jvm.exec)  (hd : decode c.code pc = .ok (.aconst_null, 1))  (r : Go p e below En T (mkF m (pc + 1) Ls (.null :: st))) : Go p e below En T (mkF m pc Ls st) :=
  Go.of (fun t k => XS.aconstNull (g := mkF m pc Ls st) X.here hx rfl hd k) r
theorem iadd (X : Stand p l e R s m args below meth c T locs cells slots) (hx : p.tables.exec = Jvm.exec) {x y z : Int32} (hd : decode c.code pc = .ok (.iadd, 1)) (hz : x + y = z) (r : Go p e below En T (mkF m (pc + 1) Ls (.int z :: st))) : Go p e below En T (mkF m pc Ls (.int y :: .int x :: st)) :=
  Go.of (fun t k => XS.iadd (g := mkF m pc Ls (.int y :: .int x :: st)) X.here hx rfl hd rfl (by rw [hz]; exact k)) r
theorem isub (X : Stand p l e R s m args below meth c T locs cells slots) (hx : p.tables.exec = Jvm.exec) {x y z : Int32} (hd : decode c.code pc = .ok (.isub, 1)) (hz : x - y = z) (r : Go p e below En T (mkF m (pc + 1) Ls (.int z :: st))) : Go p e below En T (mkF m pc Ls (.int y :: .int x :: st)) :=
  Go.of (fun t k => XS.isub (g := mkF m pc Ls (.int y :: .int x :: st)) X.here hx rfl hd rfl (by rw [hz]; exact k)) r
theorem imul (X : Stand p l e R s m args below meth c T locs cells slots) (hx : p.tables.exec = Jvm.exec) {x y z : Int32} (hd : decode c.code pc = .ok (.imul, 1)) (hz : x * y = z) (r : Go p e below En T (mkF m (pc + 1) Ls (.int z :: st))) : Go p e below En T (mkF m pc Ls (.int y :: .int x :: st)) :=
  Go.of (fun t k => XS.imul (g := mkF m pc Ls (.int y :: .int x :: st)) X.here hx rfl hd rfl (by rw [hz]; exact k)) r
theorem iand (X : Stand p l e R s m args below meth c T locs cells slots) (hx : p.tables.exec = Jvm.exec) {x y z : Int32} (hd : decode c.code pc = .ok (.iand, 1)) (hz : x &&& y = z) (r : Go p e below En T (mkF m (pc + 1) Ls (.int z :: st))) : Go p e below En T (mkF m pc Ls (.int y :: .int x :: st)) :=
  Go.of (fun t k => XS.iand (g := mkF m pc Ls (.int y :: .int x :: st)) X.here hx rfl hd rfl (by rw [hz]; exact k)) r
theorem ior (X : Stand p l e R s m args below meth c T locs cells slots) (hx : p.tables.exec = Jvm.exec) {x y z : Int32} (hd : decode c.code pc = .ok (.ior, 1)) (hz : x ||| y = z) (r : Go p e below En T (mkF m (pc + 1) Ls (.int z :: st))) : Go p e below En T (mkF m pc Ls (.int y :: .int x :: st)) :=
  Go.of (fun t k => XS.ior (g := mkF m pc Ls (.int y :: .int x :: st)) X.here hx rfl hd rfl (by rw [hz]; exact k)) r
theorem ixor (X : Stand p l e R s m args below meth c T locs cells slots) (hx : p.tables.exec = Jvm.exec) {x y z : Int32} (hd : decode c.code pc = .ok (.ixor, 1)) (hz : x ^^^ y = z) (r : Go p e below En T (mkF m (pc + 1) Ls (.int z :: st))) : Go p e below En T (mkF m pc Ls (.int y :: .int x :: st)) :=
  Go.of (fun t k => XS.ixor (g := mkF m pc Ls (.int y :: .int x :: st)) X.here hx rfl hd rfl (by rw [hz]; exact k)) r
theorem ladd (X : Stand p l e R s m args below meth c T locs cells slots) (hx : p.tables.exec = Jvm.exec) {x y z : Int64} (hd : decode c.code pc = .ok (.ladd, 1)) (hz : x + y = z) (r : Go p e below En T (mkF m (pc + 1) Ls (.long z :: st))) : Go p e below En T (mkF m pc Ls (.long y :: .long x :: st)) :=
  Go.of (fun t k => XS.ladd (g := mkF m pc Ls (.long y :: .long x :: st)) X.here hx rfl hd rfl (by rw [hz]; exact k)) r
theorem lsub (X : Stand p l e R s m args below meth c T locs cells slots) (hx : p.tables.exec = Jvm.exec) {x y z : Int64} (hd : decode c.code pc = .ok (.lsub, 1)) (hz : x - y = z) (r : Go p e below En T (mkF m (pc + 1) Ls (.long z :: st))) : Go p e below En T (mkF m pc Ls (.long y :: .long x :: st)) :=
  Go.of (fun t k => XS.lsub (g := mkF m pc Ls (.long y :: .long x :: st)) X.here hx rfl hd rfl (by rw [hz]; exact k)) r
theorem lmul (X : Stand p l e R s m args below meth c T locs cells slots) (hx : p.tables.exec = Jvm.exec) {x y z : Int64} (hd : decode c.code pc = .ok (.lmul, 1)) (hz : x * y = z) (r : Go p e below En T (mkF m (pc + 1) Ls (.long z :: st))) : Go p e below En T (mkF m pc Ls (.long y :: .long x :: st)) :=
  Go.of (fun t k => XS.lmul (g := mkF m pc Ls (.long y :: .long x :: st)) X.here hx rfl hd rfl (by rw [hz]; exact k)) r
theorem land (X : Stand p l e R s m args below meth c T locs cells slots) (hx : p.tables.exec = Jvm.exec) {x y z : Int64} (hd : decode c.code pc = .ok (.land, 1)) (hz : x &&& y = z) (r : Go p e below En T (mkF m (pc + 1) Ls (.long z :: st))) : Go p e below En T (mkF m pc Ls (.long y :: .long x :: st)) :=
  Go.of (fun t k => XS.land (g := mkF m pc Ls (.long y :: .long x :: st)) X.here hx rfl hd rfl (by rw [hz]; exact k)) r
theorem lor (X : Stand p l e R s m args below meth c T locs cells slots) (hx : p.tables.exec = Jvm.exec) {x y z : Int64} (hd : decode c.code pc = .ok (.lor, 1)) (hz : x ||| y = z) (r : Go p e below En T (mkF m (pc + 1) Ls (.long z :: st))) : Go p e below En T (mkF m pc Ls (.long y :: .long x :: st)) :=
  Go.of (fun t k => XS.lor (g := mkF m pc Ls (.long y :: .long x :: st)) X.here hx rfl hd rfl (by rw [hz]; exact k)) r
theorem lxor (X : Stand p l e R s m args below meth c T locs cells slots) (hx : p.tables.exec = Jvm.exec) {x y z : Int64} (hd : decode c.code pc = .ok (.lxor, 1)) (hz : x ^^^ y = z) (r : Go p e below En T (mkF m (pc + 1) Ls (.long z :: st))) : Go p e below En T (mkF m pc Ls (.long y :: .long x :: st)) :=
  Go.of (fun t k => XS.lxor (g := mkF m pc Ls (.long y :: .long x :: st)) X.here hx rfl hd rfl (by rw [hz]; exact k)) r
theorem iushr (X : Stand p l e R s m args below meth c T locs cells slots) (hx : p.tables.exec = Jvm.exec) {x y z : Int32} (hd : decode c.code pc = .ok (.iushr, 1)) (hz : ((x.toUInt32 >>> (y &&& 31).toUInt32).toInt32) = z) (r : Go p e below En T (mkF m (pc + 1) Ls (.int z :: st))) : Go p e below En T (mkF m pc Ls (.int y :: .int x :: st)) :=
  Go.of (fun t k => XS.iushr (g := mkF m pc Ls (.int y :: .int x :: st)) X.here hx rfl hd rfl (by rw [hz]; exact k)) r
theorem ishr (X : Stand p l e R s m args below meth c T locs cells slots) (hx : p.tables.exec = Jvm.exec) {x y z : Int32} (hd : decode c.code pc = .ok (.ishr, 1)) (hz : (x >>> (y &&& 31)) = z) (r : Go p e below En T (mkF m (pc + 1) Ls (.int z :: st))) : Go p e below En T (mkF m pc Ls (.int y :: .int x :: st)) :=
  Go.of (fun t k => XS.ishr (g := mkF m pc Ls (.int y :: .int x :: st)) X.here hx rfl hd rfl (by rw [hz]; exact k)) r
theorem ishl (X : Stand p l e R s m args below meth c T locs cells slots) (hx : p.tables.exec = Jvm.exec) {x y z : Int32} (hd : decode c.code pc = .ok (.ishl, 1)) (hz : (x <<< (y &&& 31)) = z) (r : Go p e below En T (mkF m (pc + 1) Ls (.int z :: st))) : Go p e below En T (mkF m pc Ls (.int y :: .int x :: st)) :=
  Go.of (fun t k => XS.ishl (g := mkF m pc Ls (.int y :: .int x :: st)) X.here hx rfl hd rfl (by rw [hz]; exact k)) r
theorem irem (X : Stand p l e R s m args below meth c T locs cells slots) (hx : p.tables.exec = Jvm.exec) {x y z : Int32} (hd : decode c.code pc = .ok (.irem, 1)) (hy : y ≠ 0) (hz : x % y = z) (r : Go p e below En T (mkF m (pc + 1) Ls (.int z :: st))) : Go p e below En T (mkF m pc Ls (.int y :: .int x :: st)) :=
  Go.of (fun t k => iremM (g := mkF m pc Ls (.int y :: .int x :: st)) X hx rfl hd rfl hy (by rw [hz]; exact k)) r
theorem i2l (X : Stand p l e R s m args below meth c T locs cells slots) (hx : p.tables.exec = Jvm.exec) {x : Int32} {z : Int64} (hd : decode c.code pc = .ok (.i2l, 1)) (hz : x.toInt64 = z) (r : Go p e below En T (mkF m (pc + 1) Ls (.long z :: st))) : Go p e below En T (mkF m pc Ls (.int x :: st)) :=
  Go.of (fun t k => XS.i2l (g := mkF m pc Ls (.int x :: st)) X.here hx rfl hd rfl (by rw [hz]; exact k)) r
theorem l2i (X : Stand p l e R s m args below meth c T locs cells slots) (hx : p.tables.exec = Jvm.exec) {x : Int64} {z : Int32} (hd : decode c.code pc = .ok (.l2i, 1)) (hz : x.toInt32 = z) (r : Go p e below En T (mkF m (pc + 1) Ls (.int z :: st))) : Go p e below En T (mkF m pc Ls (.long x :: st)) :=
  Go.of (fun t k => XS.l2i (g := mkF m pc Ls (.long x :: st)) X.here hx rfl hd rfl (by rw [hz]; exact k)) r
theorem i2c (X : Stand p l e R s m args below meth c T locs cells slots) (hx : p.tables.exec = Jvm.exec) {x : Int32} {z : Int32} (hd : decode c.code pc = .ok (.i2c, 1)) (hz : (x.toUInt32.toUInt16.toUInt32.toInt32) = z) (r : Go p e below En T (mkF m (pc + 1) Ls (.int z :: st))) : Go p e below En T (mkF m pc Ls (.int x :: st)) :=
  Go.of (fun t k => XS.i2c (g := mkF m pc Ls (.int x :: st)) X.here hx rfl hd rfl (by rw [hz]; exact k)) r
theorem i2b (X : Stand p l e R s m args below meth c T locs cells slots) (hx : p.tables.exec = Jvm.exec) {x : Int32} {z : Int32} (hd : decode c.code pc = .ok (.i2b, 1)) (hz : (x.toInt8.toInt32) = z) (r : Go p e below En T (mkF m (pc + 1) Ls (.int z :: st))) : Go p e below En T (mkF m pc Ls (.int x :: st)) :=
  Go.of (fun t k => XS.i2b (g := mkF m pc Ls (.int x :: st)) X.here hx rfl hd rfl (by rw [hz]; exact k)) r
theorem dup (X : Stand p l e R s m args below meth c T locs cells slots) (hx : p.tables.exec = Jvm.exec) {v : Value} (hd : decode c.code pc = .ok (.dup, 1)) (hc : v.category = 1) (r : Go p e below En T (mkF m (pc + 1) Ls (v :: v :: st))) : Go p e below En T (mkF m pc Ls (v :: st)) :=
  Go.of (fun t k => XS.dup (g := mkF m pc Ls (v :: st)) X.here hx rfl hd rfl hc k) r
theorem pop (X : Stand p l e R s m args below meth c T locs cells slots) (hx : p.tables.exec = Jvm.exec) {v : Value} (hd : decode c.code pc = .ok (.pop, 1)) (hc : v.category = 1) (r : Go p e below En T (mkF m (pc + 1) Ls st)) : Go p e below En T (mkF m pc Ls (v :: st)) :=
  Go.of (fun t k => XS.pop (g := mkF m pc Ls (v :: st)) X.here hx rfl hd rfl hc k) r
theorem iinc (X : Stand p l e R s m args below meth c T locs cells slots) (hx : p.tables.exec = Jvm.exec) {k : Nat} {i : Int} {v z : Int32} {Ls' : Array Slot} (hd : decode c.code pc = .ok (.iinc k i, 3)) (hl : Ls[k]? = some (.val (.int v))) (hz : v + Int32.ofInt i = z) (hl' : storeLocals Ls k (.int z) = some Ls') (r : Go p e below En T (mkF m (pc + 3) Ls' st)) : Go p e below En T (mkF m pc Ls st) :=
  Go.of (fun t k => XS.iinc (g := mkF m pc Ls st) X.here hx rfl hd hl (by rw [hz]; exact hl') k) r
theorem goto (X : Stand p l e R s m args below meth c T locs cells slots) (hx : p.tables.exec = Jvm.exec) {o : Int} {pc' : Nat} (hd : decode c.code pc = .ok (.goto o, 3)) (ho : 0 ≤ (pc : Int) + o) (hp : ((pc : Int) + o).toNat = pc') (r : Go p e below En T (mkF m pc' Ls st)) : Go p e below En T (mkF m pc Ls st) :=
  Go.of (fun t k => XS.goto (g := mkF m pc Ls st) X.here hx rfl rfl hd ho hp k) r
theorem ic_eq (X : Stand p l e R s m args below meth c T locs cells slots) (hx : p.tables.exec = Jvm.exec) {o : Int} {pc' : Nat} {x y : Int32} (hd : decode c.code pc = .ok (.if_icmp .eq o, 3)) (ho : 0 ≤ (pc : Int) + o) (hp : ((pc : Int) + o).toNat = pc') (yes : x = y → Go p e below En T (mkF m pc' Ls st)) (no : ¬ (x = y) → Go p e below En T (mkF m (pc + 3) Ls st)) : Go p e below En T (mkF m pc Ls (.int y :: .int x :: st)) := by
  by_cases q : x = y
  · exact Go.of (fun t k => XS.icmpYes (g := mkF m pc Ls (.int y :: .int x :: st)) X.here hx rfl rfl hd rfl (teq q).1 ho hp k) (yes q)
  · exact Go.of (fun t k => XS.icmpNo (g := mkF m pc Ls (.int y :: .int x :: st)) X.here hx rfl hd rfl (feq q).1 k) (no q)
theorem if_eq (X : Stand p l e R s m args below meth c T locs cells slots) (hx : p.tables.exec = Jvm.exec) {o : Int} {pc' : Nat} {x : Int32} (hd : decode c.code pc = .ok (.ifCond .eq o, 3)) (ho : 0 ≤ (pc : Int) + o) (hp : ((pc : Int) + o).toNat = pc') (yes : x = 0 → Go p e below En T (mkF m pc' Ls st)) (no : ¬ (x = 0) → Go p e below En T (mkF m (pc + 3) Ls st)) : Go p e below En T (mkF m pc Ls (.int x :: st)) := by
  by_cases q : x = 0
  · exact Go.of (fun t k => XS.ifYes (g := mkF m pc Ls (.int x :: st)) X.here hx rfl rfl hd rfl ((if0 _ _).trans (teq q).1) ho hp k) (yes q)
  · exact Go.of (fun t k => XS.ifNo (g := mkF m pc Ls (.int x :: st)) X.here hx rfl hd rfl ((if0 _ _).trans (feq q).1) k) (no q)
theorem ic_ne (X : Stand p l e R s m args below meth c T locs cells slots) (hx : p.tables.exec = Jvm.exec) {o : Int} {pc' : Nat} {x y : Int32} (hd : decode c.code pc = .ok (.if_icmp .ne o, 3)) (ho : 0 ≤ (pc : Int) + o) (hp : ((pc : Int) + o).toNat = pc') (yes : ¬ (x = y) → Go p e below En T (mkF m pc' Ls st)) (no : x = y → Go p e below En T (mkF m (pc + 3) Ls st)) : Go p e below En T (mkF m pc Ls (.int y :: .int x :: st)) := by
  by_cases q : x = y
  · exact Go.of (fun t k => XS.icmpNo (g := mkF m pc Ls (.int y :: .int x :: st)) X.here hx rfl hd rfl (teq q).2 k) (no q)
  · exact Go.of (fun t k => XS.icmpYes (g := mkF m pc Ls (.int y :: .int x :: st)) X.here hx rfl rfl hd rfl (feq q).2 ho hp k) (yes q)
theorem if_ne (X : Stand p l e R s m args below meth c T locs cells slots) (hx : p.tables.exec = Jvm.exec) {o : Int} {pc' : Nat} {x : Int32} (hd : decode c.code pc = .ok (.ifCond .ne o, 3)) (ho : 0 ≤ (pc : Int) + o) (hp : ((pc : Int) + o).toNat = pc') (yes : ¬ (x = 0) → Go p e below En T (mkF m pc' Ls st)) (no : x = 0 → Go p e below En T (mkF m (pc + 3) Ls st)) : Go p e below En T (mkF m pc Ls (.int x :: st)) := by
  by_cases q : x = 0
  · exact Go.of (fun t k => XS.ifNo (g := mkF m pc Ls (.int x :: st)) X.here hx rfl hd rfl ((if0 _ _).trans (teq q).2) k) (no q)
  · exact Go.of (fun t k => XS.ifYes (g := mkF m pc Ls (.int x :: st)) X.here hx rfl rfl hd rfl ((if0 _ _).trans (feq q).2) ho hp k) (yes q)
theorem ic_lt (X : Stand p l e R s m args below meth c T locs cells slots) (hx : p.tables.exec = Jvm.exec) {o : Int} {pc' : Nat} {x y : Int32} (hd : decode c.code pc = .ok (.if_icmp .lt o, 3)) (ho : 0 ≤ (pc : Int) + o) (hp : ((pc : Int) + o).toNat = pc') (yes : x < y → Go p e below En T (mkF m pc' Ls st)) (no : ¬ (x < y) → Go p e below En T (mkF m (pc + 3) Ls st)) : Go p e below En T (mkF m pc Ls (.int y :: .int x :: st)) := by
  by_cases q : x < y
  · exact Go.of (fun t k => XS.icmpYes (g := mkF m pc Ls (.int y :: .int x :: st)) X.here hx rfl rfl hd rfl (tlt q).1 ho hp k) (yes q)
  · exact Go.of (fun t k => XS.icmpNo (g := mkF m pc Ls (.int y :: .int x :: st)) X.here hx rfl hd rfl (flt q).1 k) (no q)
theorem if_lt (X : Stand p l e R s m args below meth c T locs cells slots) (hx : p.tables.exec = Jvm.exec) {o : Int} {pc' : Nat} {x : Int32} (hd : decode c.code pc = .ok (.ifCond .lt o, 3)) (ho : 0 ≤ (pc : Int) + o) (hp : ((pc : Int) + o).toNat = pc') (yes : x < 0 → Go p e below En T (mkF m pc' Ls st)) (no : ¬ (x < 0) → Go p e below En T (mkF m (pc + 3) Ls st)) : Go p e below En T (mkF m pc Ls (.int x :: st)) := by
  by_cases q : x < 0
  · exact Go.of (fun t k => XS.ifYes (g := mkF m pc Ls (.int x :: st)) X.here hx rfl rfl hd rfl ((if0 _ _).trans (tlt q).1) ho hp k) (yes q)
  · exact Go.of (fun t k => XS.ifNo (g := mkF m pc Ls (.int x :: st)) X.here hx rfl hd rfl ((if0 _ _).trans (flt q).1) k) (no q)
theorem ic_ge (X : Stand p l e R s m args below meth c T locs cells slots) (hx : p.tables.exec = Jvm.exec) {o : Int} {pc' : Nat} {x y : Int32} (hd : decode c.code pc = .ok (.if_icmp .ge o, 3)) (ho : 0 ≤ (pc : Int) + o) (hp : ((pc : Int) + o).toNat = pc') (yes : ¬ (x < y) → Go p e below En T (mkF m pc' Ls st)) (no : x < y → Go p e below En T (mkF m (pc + 3) Ls st)) : Go p e below En T (mkF m pc Ls (.int y :: .int x :: st)) := by
  by_cases q : x < y
  · exact Go.of (fun t k => XS.icmpNo (g := mkF m pc Ls (.int y :: .int x :: st)) X.here hx rfl hd rfl (tlt q).2.1 k) (no q)
  · exact Go.of (fun t k => XS.icmpYes (g := mkF m pc Ls (.int y :: .int x :: st)) X.here hx rfl rfl hd rfl (flt q).2.1 ho hp k) (yes q)
theorem if_ge (X : Stand p l e R s m args below meth c T locs cells slots) (hx : p.tables.exec = Jvm.exec) {o : Int} {pc' : Nat} {x : Int32} (hd : decode c.code pc = .ok (.ifCond .ge o, 3)) (ho : 0 ≤ (pc : Int) + o) (hp : ((pc : Int) + o).toNat = pc') (yes : ¬ (x < 0) → Go p e below En T (mkF m pc' Ls st)) (no : x < 0 → Go p e below En T (mkF m (pc + 3) Ls st)) : Go p e below En T (mkF m pc Ls (.int x :: st)) := by
  by_cases q : x < 0
  · exact Go.of (fun t k => XS.ifNo (g := mkF m pc Ls (.int x :: st)) X.here hx rfl hd rfl ((if0 _ _).trans (tlt q).2.1) k) (no q)
  · exact Go.of (fun t k => XS.ifYes (g := mkF m pc Ls (.int x :: st)) X.here hx rfl rfl hd rfl ((if0 _ _).trans (flt q).2.1) ho hp k) (yes q)
theorem ic_gt (X : Stand p l e R s m args below meth c T locs cells slots) (hx : p.tables.exec = Jvm.exec) {o : Int} {pc' : Nat} {x y : Int32} (hd : decode c.code pc = .ok (.if_icmp .gt o, 3)) (ho : 0 ≤ (pc : Int) + o) (hp : ((pc : Int) + o).toNat = pc') (yes : y < x → Go p e below En T (mkF m pc' Ls st)) (no : ¬ (y < x) → Go p e below En T (mkF m (pc + 3) Ls st)) : Go p e below En T (mkF m pc Ls (.int y :: .int x :: st)) := by
  by_cases q : y < x
  · exact Go.of (fun t k => XS.icmpYes (g := mkF m pc Ls (.int y :: .int x :: st)) X.here hx rfl rfl hd rfl (tlt q).2.2.1 ho hp k) (yes q)
  · exact Go.of (fun t k => XS.icmpNo (g := mkF m pc Ls (.int y :: .int x :: st)) X.here hx rfl hd rfl (flt q).2.2.1 k) (no q)
theorem if_gt (X : Stand p l e R s m args below meth c T locs cells slots) (hx : p.tables.exec = Jvm.exec) {o : Int} {pc' : Nat} {x : Int32} (hd : decode c.code pc = .ok (.ifCond .gt o, 3)) (ho : 0 ≤ (pc : Int) + o) (hp : ((pc : Int) + o).toNat = pc') (yes : 0 < x → Go p e below En T (mkF m pc' Ls st)) (no : ¬ (0 < x) → Go p e below En T (mkF m (pc + 3) Ls st)) : Go p e below En T (mkF m pc Ls (.int x :: st)) := by
  by_cases q : 0 < x
  · exact Go.of (fun t k => XS.ifYes (g := mkF m pc Ls (.int x :: st)) X.here hx rfl rfl hd rfl ((if0 _ _).trans (tlt q).2.2.1) ho hp k) (yes q)
  · exact Go.of (fun t k => XS.ifNo (g := mkF m pc Ls (.int x :: st)) X.here hx rfl hd rfl ((if0 _ _).trans (flt q).2.2.1) k) (no q)
theorem ic_le (X : Stand p l e R s m args below meth c T locs cells slots) (hx : p.tables.exec = Jvm.exec) {o : Int} {pc' : Nat} {x y : Int32} (hd : decode c.code pc = .ok (.if_icmp .le o, 3)) (ho : 0 ≤ (pc : Int) + o) (hp : ((pc : Int) + o).toNat = pc') (yes : ¬ (y < x) → Go p e below En T (mkF m pc' Ls st)) (no : y < x → Go p e below En T (mkF m (pc + 3) Ls st)) : Go p e below En T (mkF m pc Ls (.int y :: .int x :: st)) := by
  by_cases q : y < x
  · exact Go.of (fun t k => XS.icmpNo (g := mkF m pc Ls (.int y :: .int x :: st)) X.here hx rfl hd rfl (tlt q).2.2.2 k) (no q)
  · exact Go.of (fun t k => XS.icmpYes (g := mkF m pc Ls (.int y :: .int x :: st)) X.here hx rfl rfl hd rfl (flt q).2.2.2 ho hp k) (yes q)
theorem if_le (X : Stand p l e R s m args below meth c T locs cells slots) (hx : p.tables.exec = Jvm.exec) {o : Int} {pc' : Nat} {x : Int32} (hd : decode c.code pc = .ok (.ifCond .le o, 3)) (ho : 0 ≤ (pc : Int) + o) (hp : ((pc : Int) + o).toNat = pc') (yes : ¬ (0 < x) → Go p e below En T (mkF m pc' Ls st)) (no : 0 < x → Go p e below En T (mkF m (pc + 3) Ls st)) : Go p e below En T (mkF m pc Ls (.int x :: st)) := by
  by_cases q : 0 < x
  · exact Go.of (fun t k => XS.ifNo (g := mkF m pc Ls (.int x :: st)) X.here hx rfl hd rfl ((if0 _ _).trans (tlt q).2.2.2) k) (no q)
  · exact Go.of (fun t k => XS.ifYes (g := mkF m pc Ls (.int x :: st)) X.here hx rfl rfl hd rfl ((if0 _ _).trans (flt q).2.2.2) ho hp k) (yes q)
theorem own_lc_eq (x y : Int64) : (lcmpW x y = 0) = (x = y) := by rw [lcW]; exact propext (Jvm.RoadKit.lc_eq x y)
theorem own_lc_lt (x y : Int64) : (lcmpW x y < 0) = (x < y) := by rw [lcW]; exact propext (Jvm.RoadKit.lc_lt x y)
theorem own_lc_gt (x y : Int64) : (0 < lcmpW x y) = (y < x) := by rw [lcW]; exact propext (Jvm.RoadKit.lc_gt x y)
theorem lcmp (X : Stand p l e R s m args below meth c T locs cells slots) (hx : p.tables.exec = Jvm.exec) {x y : Int64} (hd : decode c.code pc = .ok (.lcmp, 1))  (r : Go p e below En T (mkF m (pc + 1) Ls (.int (lcmpW x y) :: st))) : Go p e below En T (mkF m pc Ls (.long y :: .long x :: st)) :=
  Go.of (fun t k => XS.lcmp (g := mkF m pc Ls (.long y :: .long x :: st)) X.here hx rfl hd rfl k) r
theorem lc_eq_ (X : Stand p l e R s m args below meth c T locs cells slots) (hx : p.tables.exec = Jvm.exec) {o : Int} {pc' : Nat} {x y : Int64} (hd : decode c.code pc = .ok (.lcmp, 1)) (hd' : decode c.code (pc + 1) = .ok (.ifCond .eq o, 3)) (ho : 0 ≤ ((pc + 1 : Nat) : Int) + o) (hp : (((pc + 1 : Nat) : Int) + o).toNat = pc') (yes : x = y → Go p e below En T (mkF m pc' Ls st)) (no : ¬ (x = y) → Go p e below En T (mkF m (pc + 4) Ls st)) : Go p e below En T (mkF m pc Ls (.long y :: .long x :: st)) :=
  lcmp X hx hd (if_eq X hx hd' ho hp (fun q => yes (by rw [own_lc_eq] at q; exact q)) (fun q => no (by rw [own_lc_eq] at q; exact q)))
theorem lc_ne_ (X : Stand p l e R s m args below meth c T locs cells slots) (hx : p.tables.exec = Jvm.exec) {o : Int} {pc' : Nat} {x y : Int64} (hd : decode c.code pc = .ok (.lcmp, 1)) (hd' : decode c.code (pc + 1) = .ok (.ifCond .ne o, 3)) (ho : 0 ≤ ((pc + 1 : Nat) : Int) + o) (hp : (((pc + 1 : Nat) : Int) + o).toNat = pc') (yes : ¬ (x = y) → Go p e below En T (mkF m pc' Ls st)) (no : x = y → Go p e below En T (mkF m (pc + 4) Ls st)) : Go p e below En T (mkF m pc Ls (.long y :: .long x :: st)) :=
  lcmp X hx hd (if_ne X hx hd' ho hp (fun q => yes (by rw [own_lc_eq] at q; exact q)) (fun q => no (by rw [own_lc_eq] at q; exact q)))
theorem lc_lt_ (X : Stand p l e R s m args below meth c T locs cells slots) (hx : p.tables.exec = Jvm.exec) {o : Int} {pc' : Nat} {x y : Int64} (hd : decode c.code pc = .ok (.lcmp, 1)) (hd' : decode c.code (pc + 1) = .ok (.ifCond .lt o, 3)) (ho : 0 ≤ ((pc + 1 : Nat) : Int) + o) (hp : (((pc + 1 : Nat) : Int) + o).toNat = pc') (yes : x < y → Go p e below En T (mkF m pc' Ls st)) (no : ¬ (x < y) → Go p e below En T (mkF m (pc + 4) Ls st)) : Go p e below En T (mkF m pc Ls (.long y :: .long x :: st)) :=
  lcmp X hx hd (if_lt X hx hd' ho hp (fun q => yes (by rw [own_lc_lt] at q; exact q)) (fun q => no (by rw [own_lc_lt] at q; exact q)))
theorem lc_ge_ (X : Stand p l e R s m args below meth c T locs cells slots) (hx : p.tables.exec = Jvm.exec) {o : Int} {pc' : Nat} {x y : Int64} (hd : decode c.code pc = .ok (.lcmp, 1)) (hd' : decode c.code (pc + 1) = .ok (.ifCond .ge o, 3)) (ho : 0 ≤ ((pc + 1 : Nat) : Int) + o) (hp : (((pc + 1 : Nat) : Int) + o).toNat = pc') (yes : ¬ (x < y) → Go p e below En T (mkF m pc' Ls st)) (no : x < y → Go p e below En T (mkF m (pc + 4) Ls st)) : Go p e below En T (mkF m pc Ls (.long y :: .long x :: st)) :=
  lcmp X hx hd (if_ge X hx hd' ho hp (fun q => yes (by rw [own_lc_lt] at q; exact q)) (fun q => no (by rw [own_lc_lt] at q; exact q)))
theorem lc_gt_ (X : Stand p l e R s m args below meth c T locs cells slots) (hx : p.tables.exec = Jvm.exec) {o : Int} {pc' : Nat} {x y : Int64} (hd : decode c.code pc = .ok (.lcmp, 1)) (hd' : decode c.code (pc + 1) = .ok (.ifCond .gt o, 3)) (ho : 0 ≤ ((pc + 1 : Nat) : Int) + o) (hp : (((pc + 1 : Nat) : Int) + o).toNat = pc') (yes : y < x → Go p e below En T (mkF m pc' Ls st)) (no : ¬ (y < x) → Go p e below En T (mkF m (pc + 4) Ls st)) : Go p e below En T (mkF m pc Ls (.long y :: .long x :: st)) :=
  lcmp X hx hd (if_gt X hx hd' ho hp (fun q => yes (by rw [own_lc_gt] at q; exact q)) (fun q => no (by rw [own_lc_gt] at q; exact q)))
theorem lc_le_ (X : Stand p l e R s m args below meth c T locs cells slots) (hx : p.tables.exec = Jvm.exec) {o : Int} {pc' : Nat} {x y : Int64} (hd : decode c.code pc = .ok (.lcmp, 1)) (hd' : decode c.code (pc + 1) = .ok (.ifCond .le o, 3)) (ho : 0 ≤ ((pc + 1 : Nat) : Int) + o) (hp : (((pc + 1 : Nat) : Int) + o).toNat = pc') (yes : ¬ (y < x) → Go p e below En T (mkF m pc' Ls st)) (no : y < x → Go p e below En T (mkF m (pc + 4) Ls st)) : Go p e below En T (mkF m pc Ls (.long y :: .long x :: st)) :=
  lcmp X hx hd (if_le X hx hd' ho hp (fun q => yes (by rw [own_lc_gt] at q; exact q)) (fun q => no (by rw [own_lc_gt] at q; exact q)))
theorem ac_eq (X : Stand p l e R s m args below meth c T locs cells slots) (hx : p.tables.exec = Jvm.exec) {o : Int} {pc' : Nat} {x y : Value} (hx1 : x.isRef = true) (hy1 : y.isRef = true) (hd : decode c.code pc = .ok (.if_acmp .eq o, 3)) (ho : 0 ≤ (pc : Int) + o) (hp : ((pc : Int) + o).toNat = pc') (yes : x = y → Go p e below En T (mkF m pc' Ls st)) (no : ¬ (x = y) → Go p e below En T (mkF m (pc + 3) Ls st)) : Go p e below En T (mkF m pc Ls (y :: x :: st)) := by
  by_cases q : x = y
  · exact Go.of (fun t k => Jvm.RoadKit.acmp (g := mkF m pc Ls (y :: x :: st)) X hx rfl hx1 hy1 (pc0 := pc) (pc' := pc') (same := true) rfl hd rfl (decide_eq_true q) ho (hp.symm) k) (yes q)
  · exact Go.of (fun t k => Jvm.RoadKit.acmp (g := mkF m pc Ls (y :: x :: st)) X hx rfl hx1 hy1 (pc0 := pc) (pc' := pc + 3) (same := false) rfl hd rfl (decide_eq_false q) ho (rfl) k) (no q)
theorem ac_ne (X : Stand p l e R s m args below meth c T locs cells slots) (hx : p.tables.exec = Jvm.exec) {o : Int} {pc' : Nat} {x y : Value} (hx1 : x.isRef = true) (hy1 : y.isRef = true) (hd : decode c.code pc = .ok (.if_acmp .ne o, 3)) (ho : 0 ≤ (pc : Int) + o) (hp : ((pc : Int) + o).toNat = pc') (yes : ¬ (x = y) → Go p e below En T (mkF m pc' Ls st)) (no : x = y → Go p e below En T (mkF m (pc + 3) Ls st)) : Go p e below En T (mkF m pc Ls (y :: x :: st)) := by
  by_cases q : x = y
  · exact Go.of (fun t k => Jvm.RoadKit.acmp (g := mkF m pc Ls (y :: x :: st)) X hx rfl hx1 hy1 (pc0 := pc) (pc' := pc + 3) (same := true) rfl hd rfl (decide_eq_true q) ho (rfl) k) (no q)
  · exact Go.of (fun t k => Jvm.RoadKit.acmp (g := mkF m pc Ls (y :: x :: st)) X hx rfl hx1 hy1 (pc0 := pc) (pc' := pc') (same := false) rfl hd rfl (decide_eq_false q) ho (hp.symm) k) (yes q)
theorem ifnull_y (X : Stand p l e R s m args below meth c T locs cells slots) (hx : p.tables.exec = Jvm.exec) {o : Int} {pc' : Nat} (hd : decode c.code pc = .ok (.ifnull o, 3)) (ho : 0 ≤ (pc : Int) + o) (hp : ((pc : Int) + o).toNat = pc') (r : Go p e below En T (mkF m pc' Ls st)) : Go p e below En T (mkF m pc Ls (.null :: st)) :=
  Go.of (fun t k => XS.ifnullYes (g := mkF m pc Ls (.null :: st)) X.here hx rfl rfl hd rfl ho hp k) r
theorem ifnull_n (X : Stand p l e R s m args below meth c T locs cells slots) (hx : p.tables.exec = Jvm.exec) {o : Int} {b : Addr} (hd : decode c.code pc = .ok (.ifnull o, 3))  (r : Go p e below En T (mkF m (pc + 3) Ls st)) : Go p e below En T (mkF m pc Ls (.ref b :: st)) :=
  Go.of (fun t k => XS.ifnullNo (g := mkF m pc Ls (.ref b :: st)) X.here hx rfl hd rfl k) r
theorem ifnonnull_y (X : Stand p l e R s m args below meth c T locs cells slots) (hx : p.tables.exec = Jvm.exec) {o : Int} {pc' : Nat} {b : Addr} (hd : decode c.code pc = .ok (.ifnonnull o, 3)) (ho : 0 ≤ (pc : Int) + o) (hp : ((pc : Int) + o).toNat = pc') (r : Go p e below En T (mkF m pc' Ls st)) : Go p e below En T (mkF m pc Ls (.ref b :: st)) :=
  Go.of (fun t k => XS.ifnonnullYes (g := mkF m pc Ls (.ref b :: st)) X.here hx rfl rfl hd rfl ho hp k) r
theorem ifnonnull_n (X : Stand p l e R s m args below meth c T locs cells slots) (hx : p.tables.exec = Jvm.exec) {o : Int} (hd : decode c.code pc = .ok (.ifnonnull o, 3))  (r : Go p e below En T (mkF m (pc + 3) Ls st)) : Go p e below En T (mkF m pc Ls (.null :: st)) :=
  Go.of (fun t k => XS.ifnonnullNo (g := mkF m pc Ls (.null :: st)) X.here hx rfl hd rfl k) r
theorem ldcInt (X : Stand p l e R s m args below meth c T locs cells slots) (hx : p.tables.exec = Jvm.exec) (hZ : Z.Warmed39 s.vm) {own : String} {index : Nat} (hown : s.vm.findClass own = some m.cls) {v : Int32} (w : (Cond.constant own index v).before a0 Z = true) (hd : decode c.code pc = .ok (.ldc index, 2)) (r : Go p e below En T (mkF m (pc + 2) Ls (.int v :: st))) : Go p e below En T (mkF m pc Ls st) :=
  Go.of (fun t k => X.ldcInt hx hown (mvT hZ w) (g := mkF m pc Ls st) rfl hd _ k) r
theorem ldc2Long (X : Stand p l e R s m args below meth c T locs cells slots) (hx : p.tables.exec = Jvm.exec) (hZ : Z.Warmed39 s.vm) {own : String} {index : Nat} (hown : s.vm.findClass own = some m.cls) {v : Int64} (w : (Cond.constantLong own index v).before a0 Z = true) (hd : decode c.code pc = .ok (.ldc2_w index, 3)) (r : Go p e below En T (mkF m (pc + 3) Ls (.long v :: st))) : Go p e below En T (mkF m pc Ls st) :=
  Go.of (fun t k => X.ldc2Long hx hown (mvT hZ w) (g := mkF m pc Ls st) rfl hd _ k) r
theorem getS (X : Stand p l e R s m args below meth c T locs cells slots) (hx : p.tables.exec = Jvm.exec) (hZ : Z.Warmed39 s.vm) {own : String} {index : Nat} (hown : s.vm.findClass own = some m.cls) {R0 O n d host : String} (w : (Cond.fieldLink own index R0 n d).before a0 Z = true ∨ (Cond.fieldLinkNest own index R0 n d host).before a0 Z = true) (via : Via Z R0 O n d) (eT : T.heap = h) {v : Value} (F : Sta Z h O n d v) (hd : decode c.code pc = .ok (.getstatic index, 3)) (r : ∀ T', Stand p l e R s m args below meth c T' locs cells slots → T'.heap = h → Go p e below En T' (mkF m (pc + 3) Ls (v :: st))) : Go p e below En T (mkF m pc Ls st) := by
  obtain ⟨T', X', e', k⟩ := getS2 X hx hZ hown w via eT F (g := mkF m pc Ls st) rfl hd
  exact Go.of k (r T' X' e')
theorem getF (X : Stand p l e R s m args below meth c T locs cells slots) (hx : p.tables.exec = Jvm.exec) (hZ : Z.Warmed39 s.vm) {own : String} {index : Nat} (hown : s.vm.findClass own = some m.cls) {R0 O n d host : String} (w : (Cond.fieldLink own index R0 n d).before a0 Z = true ∨ (Cond.fieldLinkNest own index R0 n d host).before a0 Z = true) (via : Via Z R0 O n d) (eT : T.heap = h) {a : Addr} {v : Value} (F : Fld Z h a O n d v) (hd : decode c.code pc = .ok (.getfield index, 3)) (r : ∀ T', Stand p l e R s m args below meth c T' locs cells slots → T'.heap = h → Go p e below En T' (mkF m (pc + 3) Ls (v :: st))) : Go p e below En T (mkF m pc Ls (.ref a :: st)) := by
  obtain ⟨T', X', e', k⟩ := Jvm.RoadKit.getF X hx hZ hown w via eT F (g := mkF m pc Ls (.ref a :: st)) rfl rfl hd
  exact Go.of k (r T' X' e')
theorem newO (X : Stand p l e R s m args below meth c T locs cells slots) (hx : p.tables.exec = Jvm.exec) (hZ : Z.Warmed39 s.vm) {own : String} {index : Nat} (hown : s.vm.findClass own = some m.cls) {C0 : String} {n : Nat} (w : (Cond.classLink own index C0).before a0 Z = true) (wi : (Cond.instantiable C0 n).before a0 Z = true) (wz : (Cond.initialized C0).before a0 Z = true) (eT : T.heap = h) (hd : decode c.code pc = .ok (.new index, 3)) (hc : cells + 1 ≤ R.cells) (hl : slots + n ≤ R.slots) (r : ∀ T' h' a, a = h.size → Stand p l e R s m args below meth c T' locs (cells + 1) (slots + n) → T'.heap = h' → Ext h h' → Exa Z h' a C0 → (∀ {O nm d : String} {ty : FieldType}, Laid Z a0 C0 O nm d → parseFieldDescriptor d = some ty → Fld Z h' a O nm d (defaultValue ty)) → Go p e below En T' (mkF m (pc + 3) Ls (.ref a :: st))) : Go p e below En T (mkF m pc Ls st) := by
  obtain ⟨T', h', X', e', E', A', D', -, k⟩ := Jvm.RoadKit.newO X hx hZ hown w wi wz eT (g := mkF m pc Ls st) rfl hd hc hl
  exact Go.of k (r T' h' h.size rfl X' e' E' A' D')
theorem initO (X : Stand p l e R s m args below meth c T locs cells slots) (hx : p.tables.exec = Jvm.exec) (hZ : Z.Warmed39 s.vm) {own : String} {index : Nat} (hown : s.vm.findClass own = some m.cls) (w1 : (Cond.methodLink own index Lib.objectInit).before a0 Z = true) (w2 : (Cond.instanceMethod Lib.objectInit).before a0 Z = true) (w3 : (Cond.code Lib.objectInit ⟨#[0xb1]⟩ 1 none).before a0 Z = true) (eT : T.heap = h) (hsize : Ls.size = c.maxLocals) {a : Addr} (hd : decode c.code pc = .ok (.invokespecial index, 3)) (hf : 1 ≤ R.frames) (W : Nat) (hW : (st.map fun v => v.category).sum = W) (hl : W + 12 ≤ R.locals) (r : ∀ T', Stand p l e R s m args below meth c T' locs cells slots → T'.heap = h → Go p e below En T' (mkF m (pc + 3) Ls st)) : Go p e below En T (mkF m pc Ls (.ref a :: st)) := by
  obtain ⟨T', X', e', k⟩ := Jvm.RoadKit.initO X hx hZ hown w1 w2 w3 eT (g := mkF m pc Ls (.ref a :: st)) rfl hsize rfl hd hf (W := W) (by show 2 * 0 + _ ≤ _; rw [hW]; omega) hl
  exact Go.of k (r T' X' e')
theorem putF (X : Stand p l e R s m args below meth c T locs cells slots) (hx : p.tables.exec = Jvm.exec) (hZ : Z.Warmed39 s.vm) {own : String} {index : Nat} (hown : s.vm.findClass own = some m.cls) {R0 O n d host C0 : String} {kk : Nat} {ty : FieldType} (w : (Cond.fieldLink own index R0 n d).before a0 Z = true ∨ (Cond.fieldLinkNest own index R0 n d host).before a0 Z = true) (via : Via Z R0 O n d) (eT : T.heap = h) {a : Addr} {v old : Value} (F : Fld Z h a O n d old) (E : Exa Z h a C0) (L : (Cond.lays C0 O n d).before a0 Z = true ∨ ((Cond.laysFinal C0 O n d).before a0 Z = true ∧ own = O ∧ meth.name = "<init>")) (wi : (Cond.instantiable C0 kk).before a0 Z = true) (hty : parseFieldDescriptor d = some ty) (hn : narrow ty v = v) (hf : fits ty v = true) (hd : decode c.code pc = .ok (.putfield index, 3)) (r : ∀ T' h', Stand p l e R s m args below meth c T' (locs ++ [⟨a, Jvm.RoadKit.slotOf Z O n d⟩]) cells slots → T'.heap = h' → Wr h h' a (Jvm.RoadKit.slotOf Z O n d) v → Go p e below En T' (mkF m (pc + 3) Ls st)) : Go p e below En T (mkF m pc Ls (v :: .ref a :: st)) := by
  obtain ⟨T', h', X', e', W', k⟩ := Jvm.RoadKit.putF X hx hZ hown w via eT F E L wi hty hn hf (g := mkF m pc Ls (v :: .ref a :: st)) rfl rfl hd
  exact Go.of k (r T' h' X' e' W')
theorem newP (X : Stand p l e R s m args below meth c T locs cells slots) (hx : p.tables.exec = Jvm.exec) (hZ : Z.Warmed39 s.vm) {aty : ArrayType} (w : (Cond.arrayClass (newarray.typeOf aty)).before a0 Z = true) (eT : T.heap = h) (hd : decode c.code pc = .ok (.newarray aty, 2)) {n : Int32} (hn : ¬ n < 0) (cap : Nat) (hcap : n.toNatClampNeg ≤ cap) (hb : cap * 8 ≤ 536870912) (hc : cells + 1 ≤ R.cells) (hl : slots + cap ≤ R.slots) (r : ∀ T' h' k a, a = h.size → Stand p l e R s m args below meth c T' locs (cells + 1) (slots + cap) → T'.heap = h' → Ext h h' → Arr Z h' a (newA k (newarray.typeOf aty) n) (newarray.typeOf aty) → Go p e below En T' (mkF m (pc + 2) Ls (.ref a :: st))) : Go p e below En T (mkF m pc Ls (.int n :: st)) := by
  obtain ⟨T', h', k', X', e', E', A', k⟩ := Jvm.RoadKit.newP X hx hZ w eT (g := mkF m pc Ls (.int n :: st)) rfl hd rfl hn hcap hb hc hl
  exact Go.of k (r T' h' k' h.size rfl X' e' E' A')
theorem newR (X : Stand p l e R s m args below meth c T locs cells slots) (hx : p.tables.exec = Jvm.exec) (hZ : Z.Warmed39 s.vm) {own : String} {index : Nat} (hown : s.vm.findClass own = some m.cls) {C0 : String} (w1 : (Cond.classLink own index C0).before a0 Z = true) (w2 : (Cond.arrayOver (.object C0)).before a0 Z = true) (eT : T.heap = h) (hd : decode c.code pc = .ok (.anewarray index, 3)) {n : Int32} (hn : ¬ n < 0) (cap : Nat) (hcap : n.toNatClampNeg ≤ cap) (hb : cap * 8 ≤ 536870912) (hc : cells + 1 ≤ R.cells) (hl : slots + cap ≤ R.slots) (r : ∀ T' h' k a, a = h.size → Stand p l e R s m args below meth c T' locs (cells + 1) (slots + cap) → T'.heap = h' → Ext h h' → Arr Z h' a (newA k (.object C0) n) (.object C0) → Ovr Z k C0 → Go p e below En T' (mkF m (pc + 3) Ls (.ref a :: st))) : Go p e below En T (mkF m pc Ls (.int n :: st)) := by
  obtain ⟨T', h', k', X', e', E', A', O', k⟩ := Jvm.RoadKit.newR X hx hZ hown w1 w2 eT (g := mkF m pc Ls (.int n :: st)) rfl hd rfl hn hcap hb hc hl
  exact Go.of k (r T' h' k' h.size rfl X' e' E' A' O')
theorem stI (X : Stand p l e R s m args below meth c T locs cells slots) (hx : p.tables.exec = Jvm.exec) (hZ : Z.Warmed39 s.vm) (eT : T.heap = h) {a : Addr} {cl : Cell} (A : Arr Z h a cl .int) {j x : Int32} (hj : ¬ (j < 0 ∨ cl.slots.size ≤ j.toNatClampNeg)) (hd : decode c.code pc = .ok (.iastore, 1)) (r : ∀ T' h', Stand p l e R s m args below meth c T' (locs ++ [⟨a, j.toNatClampNeg⟩]) cells slots → T'.heap = h' → Wr h h' a j.toNatClampNeg (.int x) → Go p e below En T' (mkF m (pc + 1) Ls st)) : Go p e below En T (mkF m pc Ls ((.int x) :: .int j :: .ref a :: st)) := by
  obtain ⟨T', h', X', e', W', k⟩ := Jvm.RoadKit.stI X hx hZ eT A hj (g := mkF m pc Ls ((.int x) :: .int j :: .ref a :: st)) rfl rfl hd
  exact Go.of k (r T' h' X' e' W')
theorem stC (X : Stand p l e R s m args below meth c T locs cells slots) (hx : p.tables.exec = Jvm.exec) (hZ : Z.Warmed39 s.vm) (eT : T.heap = h) {a : Addr} {cl : Cell} (A : Arr Z h a cl .char) {j x : Int32} (hj : ¬ (j < 0 ∨ cl.slots.size ≤ j.toNatClampNeg)) (hd : decode c.code pc = .ok (.castore, 1)) (r : ∀ T' h', Stand p l e R s m args below meth c T' (locs ++ [⟨a, j.toNatClampNeg⟩]) cells slots → T'.heap = h' → Wr h h' a j.toNatClampNeg (.int (nar .char x)) → Go p e below En T' (mkF m (pc + 1) Ls st)) : Go p e below En T (mkF m pc Ls ((.int x) :: .int j :: .ref a :: st)) := by
  obtain ⟨T', h', X', e', W', k⟩ := Jvm.RoadKit.stC X hx hZ eT A hj (g := mkF m pc Ls ((.int x) :: .int j :: .ref a :: st)) rfl rfl hd
  exact Go.of k (r T' h' X' e' W')
theorem stR (X : Stand p l e R s m args below meth c T locs cells slots) (hx : p.tables.exec = Jvm.exec) (hZ : Z.Warmed39 s.vm) (eT : T.heap = h) {a : Addr} {cl : Cell} {ty : FieldType} (A : Arr Z h a cl ty) {j : Int32} {v : Value} (hj : ¬ (j < 0 ∨ cl.slots.size ≤ j.toNatClampNeg)) (hty : ty.isReference = true) (F : Sto Z h a v) (hd : decode c.code pc = .ok (.aastore, 1)) (r : ∀ T' h', Stand p l e R s m args below meth c T' (locs ++ [⟨a, j.toNatClampNeg⟩]) cells slots → T'.heap = h' → Wr h h' a j.toNatClampNeg v → Go p e below En T' (mkF m (pc + 1) Ls st)) : Go p e below En T (mkF m pc Ls (v :: .int j :: .ref a :: st)) := by
  obtain ⟨T', h', X', e', W', k⟩ := Jvm.RoadKit.stR X hx hZ eT A hj hty F (g := mkF m pc Ls (v :: .int j :: .ref a :: st)) rfl rfl hd
  exact Go.of k (r T' h' X' e' W')
theorem iaload (X : Stand p l e R s m args below meth c T locs cells slots) (hx : p.tables.exec = Jvm.exec) (hZ : Z.Warmed39 s.vm) (eT : T.heap = h) {a : Addr} {cl : Cell} (A : Arr Z h a cl .int) {j : Int32} {v : Value} (hj : ¬ (j < 0 ∨ cl.slots.size ≤ j.toNatClampNeg)) (hv : cl.slots[j.toNatClampNeg]? = some v) (hd : decode c.code pc = .ok (.iaload, 1)) (r : Go p e below En T (mkF m (pc + 1) Ls (v :: st))) : Go p e below En T (mkF m pc Ls (.int j :: .ref a :: st)) :=
  Go.of (fun t k => X.iaload hx (by rw [eT]; exact A.1) (State.isArrayOf_alike hZ.alike A.2.1) A.2.2 hj hv (g := mkF m pc Ls (.int j :: .ref a :: st)) rfl rfl hd t k) r
theorem caload (X : Stand p l e R s m args below meth c T locs cells slots) (hx : p.tables.exec = Jvm.exec) (hZ : Z.Warmed39 s.vm) (eT : T.heap = h) {a : Addr} {cl : Cell} (A : Arr Z h a cl .char) {j : Int32} {v : Value} (hj : ¬ (j < 0 ∨ cl.slots.size ≤ j.toNatClampNeg)) (hv : cl.slots[j.toNatClampNeg]? = some v) (hd : decode c.code pc = .ok (.caload, 1)) (r : Go p e below En T (mkF m (pc + 1) Ls (v :: st))) : Go p e below En T (mkF m pc Ls (.int j :: .ref a :: st)) :=
  Go.of (fun t k => X.caload hx (by rw [eT]; exact A.1) (State.isArrayOf_alike hZ.alike A.2.1) A.2.2 hj hv (g := mkF m pc Ls (.int j :: .ref a :: st)) rfl rfl hd t k) r
theorem aaload (X : Stand p l e R s m args below meth c T locs cells slots) (hx : p.tables.exec = Jvm.exec) (hZ : Z.Warmed39 s.vm) (eT : T.heap = h) {a : Addr} {cl : Cell} {ty : FieldType} (A : Arr Z h a cl ty) (hty : ty.isReference = true) {j : Int32} {v : Value} (hj : ¬ (j < 0 ∨ cl.slots.size ≤ j.toNatClampNeg)) (hv : cl.slots[j.toNatClampNeg]? = some v) (hd : decode c.code pc = .ok (.aaload, 1)) (r : Go p e below En T (mkF m (pc + 1) Ls (v :: st))) : Go p e below En T (mkF m pc Ls (.int j :: .ref a :: st)) :=
  Go.of (fun t k => X.aaload hx (by rw [eT]; exact A.1) (State.isArrayOf_alike hZ.alike A.2.1) hty A.2.2 hj hv (g := mkF m pc Ls (.int j :: .ref a :: st)) rfl rfl hd t k) r
theorem arraylength (X : Stand p l e R s m args below meth c T locs cells slots) (hx : p.tables.exec = Jvm.exec) (hZ : Z.Warmed39 s.vm) (eT : T.heap = h) {a : Addr} {cl : Cell} {ty : FieldType} (A : Arr Z h a cl ty) {n : Int32} (hn : cl.slots.size.toInt32 = n) (hd : decode c.code pc = .ok (.arraylength, 1)) (r : Go p e below En T (mkF m (pc + 1) Ls (.int n :: st))) : Go p e below En T (mkF m pc Ls (.ref a :: st)) := by
  subst hn
  exact Go.of (fun t k => X.arraylength hx (by rw [eT]; exact A.1) (State.isArrayOf_alike hZ.alike A.2.1) (g := mkF m pc Ls (.ref a :: st)) rfl rfl hd t k) r
theorem retB (X : Stand p l e R s m args below meth c T locs cells slots) (hx : p.tables.exec = Jvm.exec) (hlk : meth.locks = false) {z z' : Int32} (hret : meth.sig.returnType = some .boolean) (hd : decode c.code pc = .ok (.ireturn, 1)) (hz : nar .boolean z = z') (hq : Q (some (.int z')) T.heap locs) (hC : cells ≤ C) (hS : slots ≤ S) : Go p e below (EndN s Q C S) T (mkF m pc Ls (.int z :: st)) := by
  obtain ⟨fs, hr, hrun, hended, hW, hsame⟩ := X.leave (v := (some (.int z'))) (fun h => by rw [hret] at h; cases h) hlk
  exact ⟨_, _, (by subst hz; exact retN X hx (t := .boolean) hret (by simp) hd hr), hrun, hended, _, _, rfl, hq, ⟨_, rfl⟩, hW, hsame.mono hC hS⟩
theorem retC (X : Stand p l e R s m args below meth c T locs cells slots) (hx : p.tables.exec = Jvm.exec) (hlk : meth.locks = false) {z z' : Int32} (hret : meth.sig.returnType = some .char) (hd : decode c.code pc = .ok (.ireturn, 1)) (hz : nar .char z = z') (hq : Q (some (.int z')) T.heap locs) (hC : cells ≤ C) (hS : slots ≤ S) : Go p e below (EndN s Q C S) T (mkF m pc Ls (.int z :: st)) := by
  obtain ⟨fs, hr, hrun, hended, hW, hsame⟩ := X.leave (v := (some (.int z'))) (fun h => by rw [hret] at h; cases h) hlk
  exact ⟨_, _, (by subst hz; exact retN X hx (t := .char) hret (by simp) hd hr), hrun, hended, _, _, rfl, hq, ⟨_, rfl⟩, hW, hsame.mono hC hS⟩
theorem own_retI (X : Stand p l e R s m args below meth c T locs cells slots) (hx : p.tables.exec = Jvm.exec) {z : Int32} {rest : List Value} (hret : meth.sig.returnType = some .int) (hd : decode c.code pc = .ok (.ireturn, 1)) {fs : List Frame}
    (hl : ∀ (f : JFrame) (acts : List Action), f.method = m → f.locked = none → f.entered = [] → (doReturn e (T.setTop f) acts (some (.int z))).1 = T.setFrames fs) : Steps p.tables e below (T.setTop (mkF m pc Ls (.int z :: rest))) (T.setFrames fs) := by
  have hm' : T.vm.method? m = some meth := X.method'
  have hn : narrow .int (.int z) = .int z := rfl
  show Steps p.tables e below (T.setTop { method := m, pc := pc, locals := Ls, stack := _ :: rest, locked := none }) _
  jvm_step X.here [X.here.top, hx, hd, hm', hret, hn]
  first | (intro acts; rw [hl _ acts rfl rfl rfl]) | rw [hl _ _ rfl rfl rfl]
  exact Steps.refl _
theorem own_retJ (X : Stand p l e R s m args below meth c T locs cells slots) (hx : p.tables.exec = Jvm.exec) {z : Int64} {rest : List Value} (hret : meth.sig.returnType = some .long) (hd : decode c.code pc = .ok (.lreturn, 1)) {fs : List Frame}
    (hl : ∀ (f : JFrame) (acts : List Action), f.method = m → f.locked = none → f.entered = [] → (doReturn e (T.setTop f) acts (some (.long z))).1 = T.setFrames fs) : Steps p.tables e below (T.setTop (mkF m pc Ls (.long z :: rest))) (T.setFrames fs) := by
  have hm' : T.vm.method? m = some meth := X.method'
  show Steps p.tables e below (T.setTop { method := m, pc := pc, locals := Ls, stack := _ :: rest, locked := none }) _
  jvm_step X.here [X.here.top, hx, hd, hm', hret, narrow]
  first | (intro acts; rw [hl _ acts rfl rfl rfl]) | rw [hl _ _ rfl rfl rfl]
  exact Steps.refl _
theorem own_retA (X : Stand p l e R s m args below meth c T locs cells slots) (hx : p.tables.exec = Jvm.exec) {z : Value} (hz : z.isRef = true) {t : FieldType} (ht : t.isReference = true) {rest : List Value} (hret : meth.sig.returnType = some t) (hd : decode c.code pc = .ok (.areturn, 1)) {fs : List Frame}
    (hl : ∀ (f : JFrame) (acts : List Action), f.method = m → f.locked = none → f.entered = [] → (doReturn e (T.setTop f) acts (some z)).1 = T.setFrames fs) : Steps p.tables e below (T.setTop (mkF m pc Ls (z :: rest))) (T.setFrames fs) := by
  have hm' : T.vm.method? m = some meth := X.method'
  show Steps p.tables e below (T.setTop { method := m, pc := pc, locals := Ls, stack := _ :: rest, locked := none }) _
  rcases ref_cases hz with rfl | ⟨b, rfl⟩
  all_goals
    jvm_step X.here [X.here.top, hx, hd, hm', hret, ht, Value.isRef]
    first | (intro acts; rw [hl _ acts rfl rfl rfl]) | rw [hl _ _ rfl rfl rfl]
    exact Steps.refl _
theorem retI (X : Stand p l e R s m args below meth c T locs cells slots) (hx : p.tables.exec = Jvm.exec) (hlk : meth.locks = false) {z : Int32} (hret : meth.sig.returnType = some .int) (hd : decode c.code pc = .ok (.ireturn, 1)) (hq : Q (some (.int z)) T.heap locs) (hC : cells ≤ C) (hS : slots ≤ S) : Go p e below (EndN s Q C S) T (mkF m pc Ls (.int z :: st)) := by
  obtain ⟨fs, hr, hrun, hended, hW, hsame⟩ := X.leave (v := (some (.int z))) (fun h => by rw [hret] at h; cases h) hlk
  exact ⟨_, _, own_retI X hx hret hd hr, hrun, hended, _, _, rfl, hq, ⟨_, rfl⟩, hW, hsame.mono hC hS⟩
theorem retJ (X : Stand p l e R s m args below meth c T locs cells slots) (hx : p.tables.exec = Jvm.exec) (hlk : meth.locks = false) {z : Int64} (hret : meth.sig.returnType = some .long) (hd : decode c.code pc = .ok (.lreturn, 1)) (hq : Q (some (.long z)) T.heap locs) (hC : cells ≤ C) (hS : slots ≤ S) : Go p e below (EndN s Q C S) T (mkF m pc Ls (.long z :: st)) := by
  obtain ⟨fs, hr, hrun, hended, hW, hsame⟩ := X.leave (v := (some (.long z))) (fun h => by rw [hret] at h; cases h) hlk
  exact ⟨_, _, own_retJ X hx hret hd hr, hrun, hended, _, _, rfl, hq, ⟨_, rfl⟩, hW, hsame.mono hC hS⟩
theorem retA (X : Stand p l e R s m args below meth c T locs cells slots) (hx : p.tables.exec = Jvm.exec) (hlk : meth.locks = false) {z : Value} {t : FieldType} (hz : z.isRef = true) (ht : t.isReference = true) (hret : meth.sig.returnType = some t) (hd : decode c.code pc = .ok (.areturn, 1)) (hq : Q (some z) T.heap locs) (hC : cells ≤ C) (hS : slots ≤ S) : Go p e below (EndN s Q C S) T (mkF m pc Ls (z :: st)) := by
  obtain ⟨fs, hr, hrun, hended, hW, hsame⟩ := X.leave (v := (some z)) (fun h => by rw [hret] at h; cases h) hlk
  exact ⟨_, _, own_retA X hx hz ht hret hd hr, hrun, hended, _, _, rfl, hq, ⟨_, rfl⟩, hW, hsame.mono hC hS⟩
theorem retV (X : Stand p l e R s m args below meth c T locs cells slots) (hx : p.tables.exec = Jvm.exec) (hlk : meth.locks = false)  (hret : meth.sig.returnType = none) (hd : decode c.code pc = .ok (.return_, 1)) (hq : Q none T.heap locs) (hC : cells ≤ C) (hS : slots ≤ S) : Go p e below (EndN s Q C S) T (mkF m pc Ls []) := by
  obtain ⟨fs, hr, hrun, hended, hW, hsame⟩ := X.leave (v := none) (fun _ => rfl) hlk
  exact ⟨_, _, X.returnOut hx hret hd hr, hrun, hended, _, _, rfl, hq, ⟨_, rfl⟩, hW, hsame.mono hC hS⟩
theorem callS (X : Stand p l e R s m args below meth c T locs cells slots) (hx : p.tables.exec = Jvm.exec) (hZ : Z.Warmed39 s.vm) {own : String} {index : Nat} (hown : s.vm.findClass own = some m.cls) {y : MethodName} {bytes : ByteArray} {maxL : Nat} {ret : Option FieldType} {rm : Room} {as : List Value} {Qc : Option Value → Heap → List Loc → Prop} (w1 : (Cond.methodLink own index y).before a0 Z = true) (w2 : (Cond.static y).before a0 Z = true) (w3 : (Cond.initialized y.cls).before a0 Z = true) (w4 : (Cond.code y bytes maxL ret).before a0 Z = true) (hy : y.cls ≠ "java/lang/invoke/MethodHandle" ∧ y.cls ≠ "java/lang/invoke/VarHandle") (eT : T.heap = h) (hM : Con l Z y bytes maxL ret rm as h Qc) {rest : List Value} (W : Nat) (hf : rm.frames + 1 ≤ R.frames) (hlo : W + (maxL + 11) + rm.locals ≤ R.locals) (hc : cells + rm.cells ≤ R.cells) (hs : slots + rm.slots ≤ R.slots) (hsize : Ls.size = c.maxLocals) (hlen : ∀ sig, parseMethodDescriptor y.desc = some sig → as.length = sig.parameters.length) (hst : st = as.reverse ++ rest) (hW : (rest.map fun v => v.category).sum = W) (hd : decode c.code pc = .ok (.invokestatic index, 3)) (r : ∀ v T' L, Stand p l e R s m args below meth c T' (locs ++ L) (cells + rm.cells) (slots + rm.slots) → Qc v T'.heap L → Go p e below En T' (mkF m (pc + 3) Ls (v.toList ++ rest))) : Go p e below En T (mkF m pc Ls st) := by
  obtain ⟨v, _, ⟨T', L', k', n'⟩, -, X', ⟨Lc, hq, e1, e2, e3⟩, k⟩ := Jvm.LawKit.callS X hx hown (mvT hZ w1) (mvT hZ w2) (mvT hZ w3) (mvT hZ w4) hy (backOf (W := W) (len := 3) (hM []) hZ w4 w3 hf hlo) (g := mkF m pc Ls st) rfl hsize (argsL := as) (rest := rest) hlen hst (by show 2 * 0 + _ ≤ _; rw [hW]; omega) hd (fun _ _ => ⟨rfl, eT, hc, hs⟩)
  dsimp only [Pt.U, Pt.locs, Pt.cells, Pt.slots] at X' e1 e2 e3 k hq
  subst e1 e2 e3
  exact Go.of k (r v T' Lc X' hq)
theorem callV (X : Stand p l e R s m args below meth c T locs cells slots) (hx : p.tables.exec = Jvm.exec) (hZ : Z.Warmed39 s.vm) {own : String} {index : Nat} (hown : s.vm.findClass own = some m.cls) {y : MethodName} {bytes : ByteArray} {maxL : Nat} {ret : Option FieldType} {rm : Room} {as : List Value} {Qc : Option Value → Heap → List Loc → Prop} {z : MethodName} {C0 : String} (w1 : (Cond.methodLink own index y).before a0 Z = true) (wd : (Cond.declares y).before a0 Z = true) (nf : NotFace s y) (ws : (Cond.selects C0 y z).before a0 Z = true) (wi : (Cond.instanceMethod z).before a0 Z = true) (w3 : (Cond.initialized z.cls).before a0 Z = true) (w4 : (Cond.code z bytes maxL ret).before a0 Z = true) (hy : y.cls ≠ "java/lang/invoke/MethodHandle" ∧ y.cls ≠ "java/lang/invoke/VarHandle") (eT : T.heap = h) {b : Addr} (E : Exa Z h b C0) (hM : Con l Z z bytes maxL ret rm (.ref b :: as) h Qc) {rest : List Value} (W : Nat) (hf : rm.frames + 1 ≤ R.frames) (hlo : W + (maxL + 11) + rm.locals ≤ R.locals) (hc : cells + rm.cells ≤ R.cells) (hs : slots + rm.slots ≤ R.slots) (hsize : Ls.size = c.maxLocals) (hlen : ∀ sig, parseMethodDescriptor y.desc = some sig → as.length = sig.parameters.length) (hst : st = as.reverse ++ .ref b :: rest) (hW : (rest.map fun v => v.category).sum = W) (hd : decode c.code pc = .ok (.invokevirtual index, 3)) (r : ∀ v T' L, Stand p l e R s m args below meth c T' (locs ++ L) (cells + rm.cells) (slots + rm.slots) → Qc v T'.heap L → Go p e below En T' (mkF m (pc + 3) Ls (v.toList ++ rest))) : Go p e below En T (mkF m pc Ls st) := by
  obtain ⟨cB, kB, q1, -, q3⟩ := isOf hZ eT E
  obtain ⟨v, _, ⟨T', L', k', n'⟩, -, X', ⟨Lc, hq, e1, e2, e3⟩, k⟩ := X.virtualBack hx hown (mvT hZ w1) (mvT hZ wd) nf (mvT hZ ws) (mvT hZ wi) hy (backOf (W := W) (len := 3) (hM []) hZ w4 w3 hf hlo) q1 q3 (g := mkF m pc Ls st) rfl hsize (Steps.refl _) (argsL := as) (rest := rest) hlen hst (by show 2 * 0 + _ ≤ _; rw [hW]; omega) hd (fun _ _ => ⟨rfl, eT, hc, hs⟩)
  dsimp only [Pt.U, Pt.locs, Pt.cells, Pt.slots] at X' e1 e2 e3 k hq
  subst e1 e2 e3
  exact Go.of (fun t q => k.trans q) (r v T' Lc X' hq)
theorem callI (X : Stand p l e R s m args below meth c T locs cells slots) (hx : p.tables.exec = Jvm.exec) (hZ : Z.Warmed39 s.vm) {own : String} {index : Nat} (hown : s.vm.findClass own = some m.cls) {y : MethodName} {bytes : ByteArray} {maxL : Nat} {rm : Room} {as : List Value} {Qc : Option Value → Heap → List Loc → Prop} (hn : y.name = "<init>") (w1 : (Cond.methodLink own index y).before a0 Z = true) (wi : (Cond.instanceMethod y).before a0 Z = true) (w3 : (Cond.initialized y.cls).before a0 Z = true) (w4 : (Cond.code y bytes maxL none).before a0 Z = true) (hy : y.cls ≠ "java/lang/invoke/MethodHandle" ∧ y.cls ≠ "java/lang/invoke/VarHandle") (eT : T.heap = h) {b : Addr} (hM : Con l Z y bytes maxL none rm (.ref b :: as) h Qc) {rest : List Value} (W : Nat) (hf : rm.frames + 1 ≤ R.frames) (hlo : W + (maxL + 11) + rm.locals ≤ R.locals) (hc : cells + rm.cells ≤ R.cells) (hs : slots + rm.slots ≤ R.slots) (hsize : Ls.size = c.maxLocals) (hlen : ∀ sig, parseMethodDescriptor y.desc = some sig → as.length = sig.parameters.length) (hst : st = as.reverse ++ .ref b :: rest) (hW : (rest.map fun v => v.category).sum = W) (hd : decode c.code pc = .ok (.invokespecial index, 3)) (r : ∀ v T' L, Stand p l e R s m args below meth c T' (locs ++ L) (cells + rm.cells) (slots + rm.slots) → Qc v T'.heap L → Go p e below En T' (mkF m (pc + 3) Ls (v.toList ++ rest))) : Go p e below En T (mkF m pc Ls st) := by
  obtain ⟨v, _, ⟨T', L', k', n'⟩, -, X', ⟨Lc, hq, e1, e2, e3⟩, k⟩ := X.specialBack hx hn hown (mvT hZ w1) (mvT hZ wi) (mvT hZ w4) hy (backOf (W := W) (len := 3) (hM []) hZ w4 w3 hf hlo) (g := mkF m pc Ls st) rfl hsize (Steps.refl _) (a := b) (argsL := as) (rest := rest) hlen hst (by show 2 * 0 + _ ≤ _; rw [hW]; omega) hd (fun _ _ => ⟨rfl, eT, hc, hs⟩)
  dsimp only [Pt.U, Pt.locs, Pt.cells, Pt.slots] at X' e1 e2 e3 k hq
  subst e1 e2 e3
  exact Go.of (fun t q => k.trans q) (r v T' Lc X' hq)
end Own
end Jvm.OwnGo
namespace Jvm.Pilot.@@N@@
open Jvm Jvm.ClassFile Sem Op Lib Jvm.Free Jvm.Stand Jvm.LawKit Jvm.RoadKit Bundle Jvm.Pilot.@@N@@.Jvm.D
open Jvm.OwnGo (Go Con Ret)
theorem own_pd0 : parseMethodDescriptor "()V" = some ⟨[], none⟩ := by decide +kernel
theorem own_pd1 : parseMethodDescriptor "(JJ)I" = some ⟨[.long, .long], some .int⟩ := by decide +kernel
theorem own_pd2 : parseMethodDescriptor "(J)V" = some ⟨[.long], none⟩ := by decide +kernel
theorem own_pd3 : parseMethodDescriptor "(Lcom/example/crossbook/crossbook/Price;)I" = some ⟨[(.object "com/example/crossbook/crossbook/Price")], some .int⟩ := by decide +kernel
theorem own_pd4 : parseMethodDescriptor "(IJJ)Z" = some ⟨[.int, .long, .long], some .boolean⟩ := by decide +kernel
theorem own_pn0 : plainName "java/lang/Long" = true := by first | (simp [plainName, overriddenIn]; done) | decide +kernel
theorem own_pn1 : plainName "com/example/crossbook/crossbook/PriceCompareToPinLaw" = true := by first | (simp [plainName, overriddenIn]; done) | decide +kernel
theorem own_pn2 : plainName "java/lang/Record" = true := by first | (simp [plainName, overriddenIn]; done) | decide +kernel
theorem own_pn3 : plainName "com/example/crossbook/crossbook/Price" = true := by first | (simp [plainName, overriddenIn]; done) | decide +kernel
def own_cmp (a b : Int64) : Int32 := if a < b then -1 else if a = b then 0 else 1
theorem own_s1 (a b : Int64) : own_cmp a b < 0 ↔ a < b := by
  unfold own_cmp; by_cases h1 : a < b
  · simp [h1]
  · by_cases h2 : a = b <;> simp [h1, h2]
theorem own_s2 (a b : Int64) : own_cmp a b = 0 ↔ a = b := by
  unfold own_cmp; by_cases h1 : a < b
  · have : ¬ a = b := fun q => by subst q; rw [Int64.lt_iff_toInt_lt] at h1; omega
    simp [h1, this]
  · by_cases h2 : a = b <;> simp [h1, h2]
theorem own_s3 (a b : Int64) : 0 < own_cmp a b ↔ b < a := by
  unfold own_cmp; by_cases h1 : a < b
  · have : ¬ b < a := fun q => by rw [Int64.lt_iff_toInt_lt] at h1 q; omega
    simp [h1, this]
  · by_cases h2 : a = b
    · subst h2; simp [h1]
    · have : b < a := by rw [Int64.lt_iff_toInt_lt] at h1 ⊢; rw [← Int64.toInt_inj] at h2; omega
      simp [h1, h2, this]
theorem own_msk (x : Int64) : ¬ (x &&& 9223372036854775807) < 0 := by
  have e : (x &&& 9223372036854775807).toInt = x.toInt % 2 ^ 63 := Jvm.Kit.i64_mask x 9223372036854775807 (k := 63) (by decide) (by decide)
  rw [Int64.lt_iff_toInt_lt, e]
  have : (0 : Int64).toInt = 0 := rfl
  omega
theorem own_inc {a : Int64} (h : ¬ a < 0) (h2 : ¬ a = 9223372036854775807) : ¬ (a + 1) < 0 := by
  rw [Int64.lt_iff_toInt_lt] at h ⊢
  rw [← Int64.toInt_inj] at h2
  have e0 : (0 : Int64).toInt = 0 := rfl
  have e1 : (1 : Int64).toInt = 1 := rfl
  have e2 : (9223372036854775807 : Int64).toInt = 9223372036854775807 := by decide
  have l := Int64.toInt_lt a
  rw [Jvm.Kit.i64_add] <;> rw [e1] <;> omega
theorem own_dec {a : Int64} (h : ¬ a < 0) (h2 : ¬ a = 0) : ¬ (a - 1) < 0 := by
  rw [Int64.lt_iff_toInt_lt] at h ⊢
  rw [← Int64.toInt_inj] at h2
  have e0 : (0 : Int64).toInt = 0 := rfl
  have e1 : (1 : Int64).toInt = 1 := rfl
  have l := Int64.toInt_lt a
  rw [Jvm.Kit.i64_sub] <;> rw [e1] <;> omega
theorem d5_0 : decode jdk_35_method_42_code 0 = .ok (.lload_n 0, 1) := by decide +kernel
theorem d5_1 : decode jdk_35_method_42_code 1 = .ok (.lload_n 2, 1) := by decide +kernel
theorem d5_2 : decode jdk_35_method_42_code 2 = .ok (.lcmp, 1) := by decide +kernel
theorem d5_3 : decode jdk_35_method_42_code 3 = .ok (.ifCond .ge 7, 3) := by decide +kernel
theorem d5_6 : decode jdk_35_method_42_code 6 = .ok (.iconst (-1), 1) := by decide +kernel
theorem d5_7 : decode jdk_35_method_42_code 7 = .ok (.goto 14, 3) := by decide +kernel
theorem d5_10 : decode jdk_35_method_42_code 10 = .ok (.lload_n 0, 1) := by decide +kernel
theorem d5_11 : decode jdk_35_method_42_code 11 = .ok (.lload_n 2, 1) := by decide +kernel
theorem d5_12 : decode jdk_35_method_42_code 12 = .ok (.lcmp, 1) := by decide +kernel
theorem d5_13 : decode jdk_35_method_42_code 13 = .ok (.ifCond .ne 7, 3) := by decide +kernel
theorem d5_16 : decode jdk_35_method_42_code 16 = .ok (.iconst 0, 1) := by decide +kernel
theorem d5_17 : decode jdk_35_method_42_code 17 = .ok (.goto 4, 3) := by decide +kernel
theorem d5_20 : decode jdk_35_method_42_code 20 = .ok (.iconst 1, 1) := by decide +kernel
theorem d5_21 : decode jdk_35_method_42_code 21 = .ok (.ireturn, 1) := by decide +kernel
theorem own_ef_rmL (m : MethodId) (x0 : Int64) (x1 : Int64) : entryFrame m [(.long x0), (.long x1)].toArray 4 = mkF m 0 #[.val (.long x0), .second, .val (.long x1), .second] [] := by first | (simp [entryFrame, mkF, argsToLocals, Value.category]; done) | rfl
set_option maxRecDepth 65536 in
set_option maxHeartbeats 40000000 in
theorem rmL (l : Launch) (Z : State) (a0 : Array Value) (hw : ∀ d ∈ tables_1, d.before a0 Z = true) (p1 p2 : Int64) (h0 : Heap)  :
    Con l Z (⟨"java/lang/Long", "compare", "(JJ)I"⟩ : MethodName) jdk_35_method_42_code 4 (some .int) ({ frames := 0, cells := 0, slots := 0, locals := 0 } : Room) [(.long p1), (.long p2)] h0 (Ret (some (.int (own_cmp p1 p2))) h0) := by
  refine Con.of (plainFor_of_name own_pn0) (Ls0 := #[.val (.long p1), .second, .val (.long p2), .second]) (fun m => own_ef_rmL m p1 p2) ?_
  intro p e s m below meth c T0 X0 hx hZ hby hml hown hnm hret hlk e0
  show Go p e below _ T0 (mkF m 0 #[.val (.long p1), .second, .val (.long p2), .second] [])
  refine OwnGo.lloadN X0 hx (hb hby d5_0) rfl ?_
  show Go p e below _ T0 (mkF m 1 #[.val (.long p1), .second, .val (.long p2), .second] [(.long p1)])
  refine OwnGo.lloadN X0 hx (hb hby d5_1) rfl ?_
  show Go p e below _ T0 (mkF m 2 #[.val (.long p1), .second, .val (.long p2), .second] [(.long p2), (.long p1)])
  refine OwnGo.lc_ge_ X0 hx (pc' := 10) (hb hby d5_2) (hb hby d5_3) (by decide) (by decide) (fun h2 => ?_) (fun h2 => ?_)
  ·
    show Go p e below _ T0 (mkF m 10 #[.val (.long p1), .second, .val (.long p2), .second] [])
    refine OwnGo.lloadN X0 hx (hb hby d5_10) rfl ?_
    show Go p e below _ T0 (mkF m 11 #[.val (.long p1), .second, .val (.long p2), .second] [(.long p1)])
    refine OwnGo.lloadN X0 hx (hb hby d5_11) rfl ?_
    show Go p e below _ T0 (mkF m 12 #[.val (.long p1), .second, .val (.long p2), .second] [(.long p2), (.long p1)])
    refine OwnGo.lc_ne_ X0 hx (pc' := 20) (hb hby d5_12) (hb hby d5_13) (by decide) (by decide) (fun h12 => ?_) (fun h12 => ?_)
    ·
      show Go p e below _ T0 (mkF m 20 #[.val (.long p1), .second, .val (.long p2), .second] [])
      refine OwnGo.iconst X0 hx (z := (1 : Int32)) (hb hby d5_20) (by decide) ?_
      show Go p e below _ T0 (mkF m 21 #[.val (.long p1), .second, .val (.long p2), .second] [(.int (1 : Int32))])
      exact OwnGo.retI X0 hx hlk hret (hb hby d5_21) ⟨by unfold own_cmp; (try first | rw [if_pos h2] | rw [if_neg h2]); (try first | rw [if_pos h12] | rw [if_neg h12]); try rfl, e0, rfl⟩ (by decide) (by decide)
    ·
      show Go p e below _ T0 (mkF m 16 #[.val (.long p1), .second, .val (.long p2), .second] [])
      refine OwnGo.iconst X0 hx (z := (0 : Int32)) (hb hby d5_16) (by decide) ?_
      show Go p e below _ T0 (mkF m 17 #[.val (.long p1), .second, .val (.long p2), .second] [(.int (0 : Int32))])
      refine OwnGo.goto X0 hx (pc' := 21) (hb hby d5_17) (by decide) (by decide) ?_
      show Go p e below _ T0 (mkF m 21 #[.val (.long p1), .second, .val (.long p2), .second] [(.int (0 : Int32))])
      exact OwnGo.retI X0 hx hlk hret (hb hby d5_21) ⟨by unfold own_cmp; (try first | rw [if_pos h2] | rw [if_neg h2]); (try first | rw [if_pos h12] | rw [if_neg h12]); try rfl, e0, rfl⟩ (by decide) (by decide)
  ·
    show Go p e below _ T0 (mkF m 6 #[.val (.long p1), .second, .val (.long p2), .second] [])
    refine OwnGo.iconst X0 hx (z := (-1 : Int32)) (hb hby d5_6) (by decide) ?_
    show Go p e below _ T0 (mkF m 7 #[.val (.long p1), .second, .val (.long p2), .second] [(.int (-1 : Int32))])
    refine OwnGo.goto X0 hx (pc' := 21) (hb hby d5_7) (by decide) (by decide) ?_
    show Go p e below _ T0 (mkF m 21 #[.val (.long p1), .second, .val (.long p2), .second] [(.int (-1 : Int32))])
    exact OwnGo.retI X0 hx hlk hret (hb hby d5_21) ⟨by unfold own_cmp; (try first | rw [if_pos h2] | rw [if_neg h2]); try rfl, e0, rfl⟩ (by decide) (by decide)
theorem d6_0 : decode method_2_code 0 = .ok (.iload_n 0, 1) := by decide +kernel
theorem d6_1 : decode method_2_code 1 = .ok (.ifCond .ge 7, 3) := by decide +kernel
theorem d6_4 : decode method_2_code 4 = .ok (.iconst 1, 1) := by decide +kernel
theorem d6_5 : decode method_2_code 5 = .ok (.goto 4, 3) := by decide +kernel
theorem d6_8 : decode method_2_code 8 = .ok (.iconst 0, 1) := by decide +kernel
theorem d6_9 : decode method_2_code 9 = .ok (.lload_n 1, 1) := by decide +kernel
theorem d6_10 : decode method_2_code 10 = .ok (.lload_n 3, 1) := by decide +kernel
theorem d6_11 : decode method_2_code 11 = .ok (.lcmp, 1) := by decide +kernel
theorem d6_12 : decode method_2_code 12 = .ok (.ifCond .ge 7, 3) := by decide +kernel
theorem d6_15 : decode method_2_code 15 = .ok (.iconst 1, 1) := by decide +kernel
theorem d6_16 : decode method_2_code 16 = .ok (.goto 4, 3) := by decide +kernel
theorem d6_19 : decode method_2_code 19 = .ok (.iconst 0, 1) := by decide +kernel
theorem d6_20 : decode method_2_code 20 = .ok (.if_icmp .ne 53, 3) := by decide +kernel
theorem d6_23 : decode method_2_code 23 = .ok (.iload_n 0, 1) := by decide +kernel
theorem d6_24 : decode method_2_code 24 = .ok (.ifCond .ne 7, 3) := by decide +kernel
theorem d6_27 : decode method_2_code 27 = .ok (.iconst 1, 1) := by decide +kernel
theorem d6_28 : decode method_2_code 28 = .ok (.goto 4, 3) := by decide +kernel
theorem d6_31 : decode method_2_code 31 = .ok (.iconst 0, 1) := by decide +kernel
theorem d6_32 : decode method_2_code 32 = .ok (.lload_n 1, 1) := by decide +kernel
theorem d6_33 : decode method_2_code 33 = .ok (.lload_n 3, 1) := by decide +kernel
theorem d6_34 : decode method_2_code 34 = .ok (.lcmp, 1) := by decide +kernel
theorem d6_35 : decode method_2_code 35 = .ok (.ifCond .ne 7, 3) := by decide +kernel
theorem d6_38 : decode method_2_code 38 = .ok (.iconst 1, 1) := by decide +kernel
theorem d6_39 : decode method_2_code 39 = .ok (.goto 4, 3) := by decide +kernel
theorem d6_42 : decode method_2_code 42 = .ok (.iconst 0, 1) := by decide +kernel
theorem d6_43 : decode method_2_code 43 = .ok (.if_icmp .ne 30, 3) := by decide +kernel
theorem d6_46 : decode method_2_code 46 = .ok (.iload_n 0, 1) := by decide +kernel
theorem d6_47 : decode method_2_code 47 = .ok (.ifCond .le 7, 3) := by decide +kernel
theorem d6_50 : decode method_2_code 50 = .ok (.iconst 1, 1) := by decide +kernel
theorem d6_51 : decode method_2_code 51 = .ok (.goto 4, 3) := by decide +kernel
theorem d6_54 : decode method_2_code 54 = .ok (.iconst 0, 1) := by decide +kernel
theorem d6_55 : decode method_2_code 55 = .ok (.lload_n 1, 1) := by decide +kernel
theorem d6_56 : decode method_2_code 56 = .ok (.lload_n 3, 1) := by decide +kernel
theorem d6_57 : decode method_2_code 57 = .ok (.lcmp, 1) := by decide +kernel
theorem d6_58 : decode method_2_code 58 = .ok (.ifCond .le 7, 3) := by decide +kernel
theorem d6_61 : decode method_2_code 61 = .ok (.iconst 1, 1) := by decide +kernel
theorem d6_62 : decode method_2_code 62 = .ok (.goto 4, 3) := by decide +kernel
theorem d6_65 : decode method_2_code 65 = .ok (.iconst 0, 1) := by decide +kernel
theorem d6_66 : decode method_2_code 66 = .ok (.if_icmp .ne 7, 3) := by decide +kernel
theorem d6_69 : decode method_2_code 69 = .ok (.iconst 1, 1) := by decide +kernel
theorem d6_70 : decode method_2_code 70 = .ok (.goto 4, 3) := by decide +kernel
theorem d6_74 : decode method_2_code 74 = .ok (.ireturn, 1) := by decide +kernel
theorem own_ef_rmS (m : MethodId) (x0 : Int32) (x1 : Int64) (x2 : Int64) : entryFrame m [(.int x0), (.long x1), (.long x2)].toArray 5 = mkF m 0 #[.val (.int x0), .val (.long x1), .second, .val (.long x2), .second] [] := by first | (simp [entryFrame, mkF, argsToLocals, Value.category]; done) | rfl
set_option maxRecDepth 65536 in
set_option maxHeartbeats 40000000 in
theorem rmS (l : Launch) (Z : State) (a0 : Array Value) (hw : ∀ d ∈ tables_1, d.before a0 Z = true) (r : Int32) (p1 p2 : Int64) (h0 : Heap) (s1 : r < 0 ↔ p1 < p2) (s2 : r = 0 ↔ p1 = p2) (s3 : 0 < r ↔ p2 < p1) :
    Con l Z (⟨"com/example/crossbook/crossbook/PriceCompareToPinLaw", "signMatches", "(IJJ)Z"⟩ : MethodName) method_2_code 5 (some .boolean) ({ frames := 0, cells := 0, slots := 0, locals := 0 } : Room) [(.int r), (.long p1), (.long p2)] h0 (Ret (some (.int 1)) h0) := by
  refine Con.of (plainFor_of_name own_pn1) (Ls0 := #[.val (.int r), .val (.long p1), .second, .val (.long p2), .second]) (fun m => own_ef_rmS m r p1 p2) ?_
  intro p e s m below meth c T0 X0 hx hZ hby hml hown hnm hret hlk e0
  show Go p e below _ T0 (mkF m 0 #[.val (.int r), .val (.long p1), .second, .val (.long p2), .second] [])
  refine OwnGo.iloadN X0 hx (hb hby d6_0) rfl ?_
  show Go p e below _ T0 (mkF m 1 #[.val (.int r), .val (.long p1), .second, .val (.long p2), .second] [(.int r)])
  refine OwnGo.if_ge X0 hx (pc' := 8) (hb hby d6_1) (by decide) (by decide) (fun h1 => ?_) (fun h1 => ?_)
  ·
    show Go p e below _ T0 (mkF m 8 #[.val (.int r), .val (.long p1), .second, .val (.long p2), .second] [])
    refine OwnGo.iconst X0 hx (z := (0 : Int32)) (hb hby d6_8) (by decide) ?_
    show Go p e below _ T0 (mkF m 9 #[.val (.int r), .val (.long p1), .second, .val (.long p2), .second] [(.int (0 : Int32))])
    refine OwnGo.lloadN X0 hx (hb hby d6_9) rfl ?_
    show Go p e below _ T0 (mkF m 10 #[.val (.int r), .val (.long p1), .second, .val (.long p2), .second] [(.long p1), (.int (0 : Int32))])
    refine OwnGo.lloadN X0 hx (hb hby d6_10) rfl ?_
    show Go p e below _ T0 (mkF m 11 #[.val (.int r), .val (.long p1), .second, .val (.long p2), .second] [(.long p2), (.long p1), (.int (0 : Int32))])
    refine OwnGo.lc_ge_ X0 hx (pc' := 19) (hb hby d6_11) (hb hby d6_12) (by decide) (by decide) (fun h11 => ?_) (fun h11 => (by first | exact absurd (s1.mp h1) h11 | exact absurd (s1.mpr h11) h1 | exact absurd h11 (fun q => h1 (s1.mpr q))))
    show Go p e below _ T0 (mkF m 19 #[.val (.int r), .val (.long p1), .second, .val (.long p2), .second] [(.int (0 : Int32))])
    refine OwnGo.iconst X0 hx (z := (0 : Int32)) (hb hby d6_19) (by decide) ?_
    show Go p e below _ T0 (mkF m 20 #[.val (.int r), .val (.long p1), .second, .val (.long p2), .second] [(.int (0 : Int32)), (.int (0 : Int32))])
    refine OwnGo.ic_ne X0 hx (pc' := 73) (hb hby d6_20) (by decide) (by decide) (fun q => absurd q (by decide)) (fun _ => ?_)
    show Go p e below _ T0 (mkF m 23 #[.val (.int r), .val (.long p1), .second, .val (.long p2), .second] [])
    refine OwnGo.iloadN X0 hx (hb hby d6_23) rfl ?_
    show Go p e below _ T0 (mkF m 24 #[.val (.int r), .val (.long p1), .second, .val (.long p2), .second] [(.int r)])
    refine OwnGo.if_ne X0 hx (pc' := 31) (hb hby d6_24) (by decide) (by decide) (fun h24 => ?_) (fun h24 => ?_)
    ·
      show Go p e below _ T0 (mkF m 31 #[.val (.int r), .val (.long p1), .second, .val (.long p2), .second] [])
      refine OwnGo.iconst X0 hx (z := (0 : Int32)) (hb hby d6_31) (by decide) ?_
      show Go p e below _ T0 (mkF m 32 #[.val (.int r), .val (.long p1), .second, .val (.long p2), .second] [(.int (0 : Int32))])
      refine OwnGo.lloadN X0 hx (hb hby d6_32) rfl ?_
      show Go p e below _ T0 (mkF m 33 #[.val (.int r), .val (.long p1), .second, .val (.long p2), .second] [(.long p1), (.int (0 : Int32))])
      refine OwnGo.lloadN X0 hx (hb hby d6_33) rfl ?_
      show Go p e below _ T0 (mkF m 34 #[.val (.int r), .val (.long p1), .second, .val (.long p2), .second] [(.long p2), (.long p1), (.int (0 : Int32))])
      refine OwnGo.lc_ne_ X0 hx (pc' := 42) (hb hby d6_34) (hb hby d6_35) (by decide) (by decide) (fun h34 => ?_) (fun h34 => (by first | exact absurd (s2.mp h24) h34 | exact absurd (s2.mpr h34) h24 | exact absurd h34 (fun q => h24 (s2.mpr q))))
      show Go p e below _ T0 (mkF m 42 #[.val (.int r), .val (.long p1), .second, .val (.long p2), .second] [(.int (0 : Int32))])
      refine OwnGo.iconst X0 hx (z := (0 : Int32)) (hb hby d6_42) (by decide) ?_
      show Go p e below _ T0 (mkF m 43 #[.val (.int r), .val (.long p1), .second, .val (.long p2), .second] [(.int (0 : Int32)), (.int (0 : Int32))])
      refine OwnGo.ic_ne X0 hx (pc' := 73) (hb hby d6_43) (by decide) (by decide) (fun q => absurd q (by decide)) (fun _ => ?_)
      show Go p e below _ T0 (mkF m 46 #[.val (.int r), .val (.long p1), .second, .val (.long p2), .second] [])
      refine OwnGo.iloadN X0 hx (hb hby d6_46) rfl ?_
      show Go p e below _ T0 (mkF m 47 #[.val (.int r), .val (.long p1), .second, .val (.long p2), .second] [(.int r)])
      refine OwnGo.if_le X0 hx (pc' := 54) (hb hby d6_47) (by decide) (by decide) (fun h47 => ?_) (fun h47 => ?_)
      ·
        show Go p e below _ T0 (mkF m 54 #[.val (.int r), .val (.long p1), .second, .val (.long p2), .second] [])
        refine OwnGo.iconst X0 hx (z := (0 : Int32)) (hb hby d6_54) (by decide) ?_
        show Go p e below _ T0 (mkF m 55 #[.val (.int r), .val (.long p1), .second, .val (.long p2), .second] [(.int (0 : Int32))])
        refine OwnGo.lloadN X0 hx (hb hby d6_55) rfl ?_
        show Go p e below _ T0 (mkF m 56 #[.val (.int r), .val (.long p1), .second, .val (.long p2), .second] [(.long p1), (.int (0 : Int32))])
        refine OwnGo.lloadN X0 hx (hb hby d6_56) rfl ?_
        show Go p e below _ T0 (mkF m 57 #[.val (.int r), .val (.long p1), .second, .val (.long p2), .second] [(.long p2), (.long p1), (.int (0 : Int32))])
        refine OwnGo.lc_le_ X0 hx (pc' := 65) (hb hby d6_57) (hb hby d6_58) (by decide) (by decide) (fun h57 => ?_) (fun h57 => (by first | exact absurd (s3.mp h47) h57 | exact absurd (s3.mpr h57) h47 | exact absurd h57 (fun q => h47 (s3.mpr q))))
        show Go p e below _ T0 (mkF m 65 #[.val (.int r), .val (.long p1), .second, .val (.long p2), .second] [(.int (0 : Int32))])
        refine OwnGo.iconst X0 hx (z := (0 : Int32)) (hb hby d6_65) (by decide) ?_
        show Go p e below _ T0 (mkF m 66 #[.val (.int r), .val (.long p1), .second, .val (.long p2), .second] [(.int (0 : Int32)), (.int (0 : Int32))])
        refine OwnGo.ic_ne X0 hx (pc' := 73) (hb hby d6_66) (by decide) (by decide) (fun q => absurd q (by decide)) (fun _ => ?_)
        show Go p e below _ T0 (mkF m 69 #[.val (.int r), .val (.long p1), .second, .val (.long p2), .second] [])
        refine OwnGo.iconst X0 hx (z := (1 : Int32)) (hb hby d6_69) (by decide) ?_
        show Go p e below _ T0 (mkF m 70 #[.val (.int r), .val (.long p1), .second, .val (.long p2), .second] [(.int (1 : Int32))])
        refine OwnGo.goto X0 hx (pc' := 74) (hb hby d6_70) (by decide) (by decide) ?_
        show Go p e below _ T0 (mkF m 74 #[.val (.int r), .val (.long p1), .second, .val (.long p2), .second] [(.int (1 : Int32))])
        exact OwnGo.retB X0 hx hlk (z' := (1 : Int32)) hret (hb hby d6_74) rfl ⟨rfl, e0, rfl⟩ (by decide) (by decide)
      ·
        show Go p e below _ T0 (mkF m 50 #[.val (.int r), .val (.long p1), .second, .val (.long p2), .second] [])
        refine OwnGo.iconst X0 hx (z := (1 : Int32)) (hb hby d6_50) (by decide) ?_
        show Go p e below _ T0 (mkF m 51 #[.val (.int r), .val (.long p1), .second, .val (.long p2), .second] [(.int (1 : Int32))])
        refine OwnGo.goto X0 hx (pc' := 55) (hb hby d6_51) (by decide) (by decide) ?_
        show Go p e below _ T0 (mkF m 55 #[.val (.int r), .val (.long p1), .second, .val (.long p2), .second] [(.int (1 : Int32))])
        refine OwnGo.lloadN X0 hx (hb hby d6_55) rfl ?_
        show Go p e below _ T0 (mkF m 56 #[.val (.int r), .val (.long p1), .second, .val (.long p2), .second] [(.long p1), (.int (1 : Int32))])
        refine OwnGo.lloadN X0 hx (hb hby d6_56) rfl ?_
        show Go p e below _ T0 (mkF m 57 #[.val (.int r), .val (.long p1), .second, .val (.long p2), .second] [(.long p2), (.long p1), (.int (1 : Int32))])
        refine OwnGo.lc_le_ X0 hx (pc' := 65) (hb hby d6_57) (hb hby d6_58) (by decide) (by decide) (fun h57 => (by first | exact absurd (s3.mp h47) h57 | exact absurd (s3.mpr h57) h47 | exact absurd h57 (fun q => h47 (s3.mpr q)))) (fun h57 => ?_)
        show Go p e below _ T0 (mkF m 61 #[.val (.int r), .val (.long p1), .second, .val (.long p2), .second] [(.int (1 : Int32))])
        refine OwnGo.iconst X0 hx (z := (1 : Int32)) (hb hby d6_61) (by decide) ?_
        show Go p e below _ T0 (mkF m 62 #[.val (.int r), .val (.long p1), .second, .val (.long p2), .second] [(.int (1 : Int32)), (.int (1 : Int32))])
        refine OwnGo.goto X0 hx (pc' := 66) (hb hby d6_62) (by decide) (by decide) ?_
        show Go p e below _ T0 (mkF m 66 #[.val (.int r), .val (.long p1), .second, .val (.long p2), .second] [(.int (1 : Int32)), (.int (1 : Int32))])
        refine OwnGo.ic_ne X0 hx (pc' := 73) (hb hby d6_66) (by decide) (by decide) (fun q => absurd q (by decide)) (fun _ => ?_)
        show Go p e below _ T0 (mkF m 69 #[.val (.int r), .val (.long p1), .second, .val (.long p2), .second] [])
        refine OwnGo.iconst X0 hx (z := (1 : Int32)) (hb hby d6_69) (by decide) ?_
        show Go p e below _ T0 (mkF m 70 #[.val (.int r), .val (.long p1), .second, .val (.long p2), .second] [(.int (1 : Int32))])
        refine OwnGo.goto X0 hx (pc' := 74) (hb hby d6_70) (by decide) (by decide) ?_
        show Go p e below _ T0 (mkF m 74 #[.val (.int r), .val (.long p1), .second, .val (.long p2), .second] [(.int (1 : Int32))])
        exact OwnGo.retB X0 hx hlk (z' := (1 : Int32)) hret (hb hby d6_74) rfl ⟨rfl, e0, rfl⟩ (by decide) (by decide)
    ·
      show Go p e below _ T0 (mkF m 27 #[.val (.int r), .val (.long p1), .second, .val (.long p2), .second] [])
      refine OwnGo.iconst X0 hx (z := (1 : Int32)) (hb hby d6_27) (by decide) ?_
      show Go p e below _ T0 (mkF m 28 #[.val (.int r), .val (.long p1), .second, .val (.long p2), .second] [(.int (1 : Int32))])
      refine OwnGo.goto X0 hx (pc' := 32) (hb hby d6_28) (by decide) (by decide) ?_
      show Go p e below _ T0 (mkF m 32 #[.val (.int r), .val (.long p1), .second, .val (.long p2), .second] [(.int (1 : Int32))])
      refine OwnGo.lloadN X0 hx (hb hby d6_32) rfl ?_
      show Go p e below _ T0 (mkF m 33 #[.val (.int r), .val (.long p1), .second, .val (.long p2), .second] [(.long p1), (.int (1 : Int32))])
      refine OwnGo.lloadN X0 hx (hb hby d6_33) rfl ?_
      show Go p e below _ T0 (mkF m 34 #[.val (.int r), .val (.long p1), .second, .val (.long p2), .second] [(.long p2), (.long p1), (.int (1 : Int32))])
      refine OwnGo.lc_ne_ X0 hx (pc' := 42) (hb hby d6_34) (hb hby d6_35) (by decide) (by decide) (fun h34 => (by first | exact absurd (s2.mp h24) h34 | exact absurd (s2.mpr h34) h24 | exact absurd h34 (fun q => h24 (s2.mpr q)))) (fun h34 => ?_)
      show Go p e below _ T0 (mkF m 38 #[.val (.int r), .val (.long p1), .second, .val (.long p2), .second] [(.int (1 : Int32))])
      refine OwnGo.iconst X0 hx (z := (1 : Int32)) (hb hby d6_38) (by decide) ?_
      show Go p e below _ T0 (mkF m 39 #[.val (.int r), .val (.long p1), .second, .val (.long p2), .second] [(.int (1 : Int32)), (.int (1 : Int32))])
      refine OwnGo.goto X0 hx (pc' := 43) (hb hby d6_39) (by decide) (by decide) ?_
      show Go p e below _ T0 (mkF m 43 #[.val (.int r), .val (.long p1), .second, .val (.long p2), .second] [(.int (1 : Int32)), (.int (1 : Int32))])
      refine OwnGo.ic_ne X0 hx (pc' := 73) (hb hby d6_43) (by decide) (by decide) (fun q => absurd q (by decide)) (fun _ => ?_)
      show Go p e below _ T0 (mkF m 46 #[.val (.int r), .val (.long p1), .second, .val (.long p2), .second] [])
      refine OwnGo.iloadN X0 hx (hb hby d6_46) rfl ?_
      show Go p e below _ T0 (mkF m 47 #[.val (.int r), .val (.long p1), .second, .val (.long p2), .second] [(.int r)])
      refine OwnGo.if_le X0 hx (pc' := 54) (hb hby d6_47) (by decide) (by decide) (fun h47 => ?_) (fun h47 => ?_)
      ·
        show Go p e below _ T0 (mkF m 54 #[.val (.int r), .val (.long p1), .second, .val (.long p2), .second] [])
        refine OwnGo.iconst X0 hx (z := (0 : Int32)) (hb hby d6_54) (by decide) ?_
        show Go p e below _ T0 (mkF m 55 #[.val (.int r), .val (.long p1), .second, .val (.long p2), .second] [(.int (0 : Int32))])
        refine OwnGo.lloadN X0 hx (hb hby d6_55) rfl ?_
        show Go p e below _ T0 (mkF m 56 #[.val (.int r), .val (.long p1), .second, .val (.long p2), .second] [(.long p1), (.int (0 : Int32))])
        refine OwnGo.lloadN X0 hx (hb hby d6_56) rfl ?_
        show Go p e below _ T0 (mkF m 57 #[.val (.int r), .val (.long p1), .second, .val (.long p2), .second] [(.long p2), (.long p1), (.int (0 : Int32))])
        refine OwnGo.lc_le_ X0 hx (pc' := 65) (hb hby d6_57) (hb hby d6_58) (by decide) (by decide) (fun h57 => ?_) (fun h57 => (by first | exact absurd (s3.mp h47) h57 | exact absurd (s3.mpr h57) h47 | exact absurd h57 (fun q => h47 (s3.mpr q))))
        show Go p e below _ T0 (mkF m 65 #[.val (.int r), .val (.long p1), .second, .val (.long p2), .second] [(.int (0 : Int32))])
        refine OwnGo.iconst X0 hx (z := (0 : Int32)) (hb hby d6_65) (by decide) ?_
        show Go p e below _ T0 (mkF m 66 #[.val (.int r), .val (.long p1), .second, .val (.long p2), .second] [(.int (0 : Int32)), (.int (0 : Int32))])
        refine OwnGo.ic_ne X0 hx (pc' := 73) (hb hby d6_66) (by decide) (by decide) (fun q => absurd q (by decide)) (fun _ => ?_)
        show Go p e below _ T0 (mkF m 69 #[.val (.int r), .val (.long p1), .second, .val (.long p2), .second] [])
        refine OwnGo.iconst X0 hx (z := (1 : Int32)) (hb hby d6_69) (by decide) ?_
        show Go p e below _ T0 (mkF m 70 #[.val (.int r), .val (.long p1), .second, .val (.long p2), .second] [(.int (1 : Int32))])
        refine OwnGo.goto X0 hx (pc' := 74) (hb hby d6_70) (by decide) (by decide) ?_
        show Go p e below _ T0 (mkF m 74 #[.val (.int r), .val (.long p1), .second, .val (.long p2), .second] [(.int (1 : Int32))])
        exact OwnGo.retB X0 hx hlk (z' := (1 : Int32)) hret (hb hby d6_74) rfl ⟨rfl, e0, rfl⟩ (by decide) (by decide)
      ·
        show Go p e below _ T0 (mkF m 50 #[.val (.int r), .val (.long p1), .second, .val (.long p2), .second] [])
        refine OwnGo.iconst X0 hx (z := (1 : Int32)) (hb hby d6_50) (by decide) ?_
        show Go p e below _ T0 (mkF m 51 #[.val (.int r), .val (.long p1), .second, .val (.long p2), .second] [(.int (1 : Int32))])
        refine OwnGo.goto X0 hx (pc' := 55) (hb hby d6_51) (by decide) (by decide) ?_
        show Go p e below _ T0 (mkF m 55 #[.val (.int r), .val (.long p1), .second, .val (.long p2), .second] [(.int (1 : Int32))])
        refine OwnGo.lloadN X0 hx (hb hby d6_55) rfl ?_
        show Go p e below _ T0 (mkF m 56 #[.val (.int r), .val (.long p1), .second, .val (.long p2), .second] [(.long p1), (.int (1 : Int32))])
        refine OwnGo.lloadN X0 hx (hb hby d6_56) rfl ?_
        show Go p e below _ T0 (mkF m 57 #[.val (.int r), .val (.long p1), .second, .val (.long p2), .second] [(.long p2), (.long p1), (.int (1 : Int32))])
        refine OwnGo.lc_le_ X0 hx (pc' := 65) (hb hby d6_57) (hb hby d6_58) (by decide) (by decide) (fun h57 => (by first | exact absurd (s3.mp h47) h57 | exact absurd (s3.mpr h57) h47 | exact absurd h57 (fun q => h47 (s3.mpr q)))) (fun h57 => ?_)
        show Go p e below _ T0 (mkF m 61 #[.val (.int r), .val (.long p1), .second, .val (.long p2), .second] [(.int (1 : Int32))])
        refine OwnGo.iconst X0 hx (z := (1 : Int32)) (hb hby d6_61) (by decide) ?_
        show Go p e below _ T0 (mkF m 62 #[.val (.int r), .val (.long p1), .second, .val (.long p2), .second] [(.int (1 : Int32)), (.int (1 : Int32))])
        refine OwnGo.goto X0 hx (pc' := 66) (hb hby d6_62) (by decide) (by decide) ?_
        show Go p e below _ T0 (mkF m 66 #[.val (.int r), .val (.long p1), .second, .val (.long p2), .second] [(.int (1 : Int32)), (.int (1 : Int32))])
        refine OwnGo.ic_ne X0 hx (pc' := 73) (hb hby d6_66) (by decide) (by decide) (fun q => absurd q (by decide)) (fun _ => ?_)
        show Go p e below _ T0 (mkF m 69 #[.val (.int r), .val (.long p1), .second, .val (.long p2), .second] [])
        refine OwnGo.iconst X0 hx (z := (1 : Int32)) (hb hby d6_69) (by decide) ?_
        show Go p e below _ T0 (mkF m 70 #[.val (.int r), .val (.long p1), .second, .val (.long p2), .second] [(.int (1 : Int32))])
        refine OwnGo.goto X0 hx (pc' := 74) (hb hby d6_70) (by decide) (by decide) ?_
        show Go p e below _ T0 (mkF m 74 #[.val (.int r), .val (.long p1), .second, .val (.long p2), .second] [(.int (1 : Int32))])
        exact OwnGo.retB X0 hx hlk (z' := (1 : Int32)) hret (hb hby d6_74) rfl ⟨rfl, e0, rfl⟩ (by decide) (by decide)
  ·
    show Go p e below _ T0 (mkF m 4 #[.val (.int r), .val (.long p1), .second, .val (.long p2), .second] [])
    refine OwnGo.iconst X0 hx (z := (1 : Int32)) (hb hby d6_4) (by decide) ?_
    show Go p e below _ T0 (mkF m 5 #[.val (.int r), .val (.long p1), .second, .val (.long p2), .second] [(.int (1 : Int32))])
    refine OwnGo.goto X0 hx (pc' := 9) (hb hby d6_5) (by decide) (by decide) ?_
    show Go p e below _ T0 (mkF m 9 #[.val (.int r), .val (.long p1), .second, .val (.long p2), .second] [(.int (1 : Int32))])
    refine OwnGo.lloadN X0 hx (hb hby d6_9) rfl ?_
    show Go p e below _ T0 (mkF m 10 #[.val (.int r), .val (.long p1), .second, .val (.long p2), .second] [(.long p1), (.int (1 : Int32))])
    refine OwnGo.lloadN X0 hx (hb hby d6_10) rfl ?_
    show Go p e below _ T0 (mkF m 11 #[.val (.int r), .val (.long p1), .second, .val (.long p2), .second] [(.long p2), (.long p1), (.int (1 : Int32))])
    refine OwnGo.lc_ge_ X0 hx (pc' := 19) (hb hby d6_11) (hb hby d6_12) (by decide) (by decide) (fun h11 => (by first | exact absurd (s1.mp h1) h11 | exact absurd (s1.mpr h11) h1 | exact absurd h11 (fun q => h1 (s1.mpr q)))) (fun h11 => ?_)
    show Go p e below _ T0 (mkF m 15 #[.val (.int r), .val (.long p1), .second, .val (.long p2), .second] [(.int (1 : Int32))])
    refine OwnGo.iconst X0 hx (z := (1 : Int32)) (hb hby d6_15) (by decide) ?_
    show Go p e below _ T0 (mkF m 16 #[.val (.int r), .val (.long p1), .second, .val (.long p2), .second] [(.int (1 : Int32)), (.int (1 : Int32))])
    refine OwnGo.goto X0 hx (pc' := 20) (hb hby d6_16) (by decide) (by decide) ?_
    show Go p e below _ T0 (mkF m 20 #[.val (.int r), .val (.long p1), .second, .val (.long p2), .second] [(.int (1 : Int32)), (.int (1 : Int32))])
    refine OwnGo.ic_ne X0 hx (pc' := 73) (hb hby d6_20) (by decide) (by decide) (fun q => absurd q (by decide)) (fun _ => ?_)
    show Go p e below _ T0 (mkF m 23 #[.val (.int r), .val (.long p1), .second, .val (.long p2), .second] [])
    refine OwnGo.iloadN X0 hx (hb hby d6_23) rfl ?_
    show Go p e below _ T0 (mkF m 24 #[.val (.int r), .val (.long p1), .second, .val (.long p2), .second] [(.int r)])
    refine OwnGo.if_ne X0 hx (pc' := 31) (hb hby d6_24) (by decide) (by decide) (fun h24 => ?_) (fun h24 => ?_)
    ·
      show Go p e below _ T0 (mkF m 31 #[.val (.int r), .val (.long p1), .second, .val (.long p2), .second] [])
      refine OwnGo.iconst X0 hx (z := (0 : Int32)) (hb hby d6_31) (by decide) ?_
      show Go p e below _ T0 (mkF m 32 #[.val (.int r), .val (.long p1), .second, .val (.long p2), .second] [(.int (0 : Int32))])
      refine OwnGo.lloadN X0 hx (hb hby d6_32) rfl ?_
      show Go p e below _ T0 (mkF m 33 #[.val (.int r), .val (.long p1), .second, .val (.long p2), .second] [(.long p1), (.int (0 : Int32))])
      refine OwnGo.lloadN X0 hx (hb hby d6_33) rfl ?_
      show Go p e below _ T0 (mkF m 34 #[.val (.int r), .val (.long p1), .second, .val (.long p2), .second] [(.long p2), (.long p1), (.int (0 : Int32))])
      refine OwnGo.lc_ne_ X0 hx (pc' := 42) (hb hby d6_34) (hb hby d6_35) (by decide) (by decide) (fun h34 => ?_) (fun h34 => (by first | exact absurd (s2.mp h24) h34 | exact absurd (s2.mpr h34) h24 | exact absurd h34 (fun q => h24 (s2.mpr q))))
      show Go p e below _ T0 (mkF m 42 #[.val (.int r), .val (.long p1), .second, .val (.long p2), .second] [(.int (0 : Int32))])
      refine OwnGo.iconst X0 hx (z := (0 : Int32)) (hb hby d6_42) (by decide) ?_
      show Go p e below _ T0 (mkF m 43 #[.val (.int r), .val (.long p1), .second, .val (.long p2), .second] [(.int (0 : Int32)), (.int (0 : Int32))])
      refine OwnGo.ic_ne X0 hx (pc' := 73) (hb hby d6_43) (by decide) (by decide) (fun q => absurd q (by decide)) (fun _ => ?_)
      show Go p e below _ T0 (mkF m 46 #[.val (.int r), .val (.long p1), .second, .val (.long p2), .second] [])
      refine OwnGo.iloadN X0 hx (hb hby d6_46) rfl ?_
      show Go p e below _ T0 (mkF m 47 #[.val (.int r), .val (.long p1), .second, .val (.long p2), .second] [(.int r)])
      refine OwnGo.if_le X0 hx (pc' := 54) (hb hby d6_47) (by decide) (by decide) (fun h47 => ?_) (fun h47 => ?_)
      ·
        show Go p e below _ T0 (mkF m 54 #[.val (.int r), .val (.long p1), .second, .val (.long p2), .second] [])
        refine OwnGo.iconst X0 hx (z := (0 : Int32)) (hb hby d6_54) (by decide) ?_
        show Go p e below _ T0 (mkF m 55 #[.val (.int r), .val (.long p1), .second, .val (.long p2), .second] [(.int (0 : Int32))])
        refine OwnGo.lloadN X0 hx (hb hby d6_55) rfl ?_
        show Go p e below _ T0 (mkF m 56 #[.val (.int r), .val (.long p1), .second, .val (.long p2), .second] [(.long p1), (.int (0 : Int32))])
        refine OwnGo.lloadN X0 hx (hb hby d6_56) rfl ?_
        show Go p e below _ T0 (mkF m 57 #[.val (.int r), .val (.long p1), .second, .val (.long p2), .second] [(.long p2), (.long p1), (.int (0 : Int32))])
        refine OwnGo.lc_le_ X0 hx (pc' := 65) (hb hby d6_57) (hb hby d6_58) (by decide) (by decide) (fun h57 => ?_) (fun h57 => (by first | exact absurd (s3.mp h47) h57 | exact absurd (s3.mpr h57) h47 | exact absurd h57 (fun q => h47 (s3.mpr q))))
        show Go p e below _ T0 (mkF m 65 #[.val (.int r), .val (.long p1), .second, .val (.long p2), .second] [(.int (0 : Int32))])
        refine OwnGo.iconst X0 hx (z := (0 : Int32)) (hb hby d6_65) (by decide) ?_
        show Go p e below _ T0 (mkF m 66 #[.val (.int r), .val (.long p1), .second, .val (.long p2), .second] [(.int (0 : Int32)), (.int (0 : Int32))])
        refine OwnGo.ic_ne X0 hx (pc' := 73) (hb hby d6_66) (by decide) (by decide) (fun q => absurd q (by decide)) (fun _ => ?_)
        show Go p e below _ T0 (mkF m 69 #[.val (.int r), .val (.long p1), .second, .val (.long p2), .second] [])
        refine OwnGo.iconst X0 hx (z := (1 : Int32)) (hb hby d6_69) (by decide) ?_
        show Go p e below _ T0 (mkF m 70 #[.val (.int r), .val (.long p1), .second, .val (.long p2), .second] [(.int (1 : Int32))])
        refine OwnGo.goto X0 hx (pc' := 74) (hb hby d6_70) (by decide) (by decide) ?_
        show Go p e below _ T0 (mkF m 74 #[.val (.int r), .val (.long p1), .second, .val (.long p2), .second] [(.int (1 : Int32))])
        exact OwnGo.retB X0 hx hlk (z' := (1 : Int32)) hret (hb hby d6_74) rfl ⟨rfl, e0, rfl⟩ (by decide) (by decide)
      ·
        show Go p e below _ T0 (mkF m 50 #[.val (.int r), .val (.long p1), .second, .val (.long p2), .second] [])
        refine OwnGo.iconst X0 hx (z := (1 : Int32)) (hb hby d6_50) (by decide) ?_
        show Go p e below _ T0 (mkF m 51 #[.val (.int r), .val (.long p1), .second, .val (.long p2), .second] [(.int (1 : Int32))])
        refine OwnGo.goto X0 hx (pc' := 55) (hb hby d6_51) (by decide) (by decide) ?_
        show Go p e below _ T0 (mkF m 55 #[.val (.int r), .val (.long p1), .second, .val (.long p2), .second] [(.int (1 : Int32))])
        refine OwnGo.lloadN X0 hx (hb hby d6_55) rfl ?_
        show Go p e below _ T0 (mkF m 56 #[.val (.int r), .val (.long p1), .second, .val (.long p2), .second] [(.long p1), (.int (1 : Int32))])
        refine OwnGo.lloadN X0 hx (hb hby d6_56) rfl ?_
        show Go p e below _ T0 (mkF m 57 #[.val (.int r), .val (.long p1), .second, .val (.long p2), .second] [(.long p2), (.long p1), (.int (1 : Int32))])
        refine OwnGo.lc_le_ X0 hx (pc' := 65) (hb hby d6_57) (hb hby d6_58) (by decide) (by decide) (fun h57 => (by first | exact absurd (s3.mp h47) h57 | exact absurd (s3.mpr h57) h47 | exact absurd h57 (fun q => h47 (s3.mpr q)))) (fun h57 => ?_)
        show Go p e below _ T0 (mkF m 61 #[.val (.int r), .val (.long p1), .second, .val (.long p2), .second] [(.int (1 : Int32))])
        refine OwnGo.iconst X0 hx (z := (1 : Int32)) (hb hby d6_61) (by decide) ?_
        show Go p e below _ T0 (mkF m 62 #[.val (.int r), .val (.long p1), .second, .val (.long p2), .second] [(.int (1 : Int32)), (.int (1 : Int32))])
        refine OwnGo.goto X0 hx (pc' := 66) (hb hby d6_62) (by decide) (by decide) ?_
        show Go p e below _ T0 (mkF m 66 #[.val (.int r), .val (.long p1), .second, .val (.long p2), .second] [(.int (1 : Int32)), (.int (1 : Int32))])
        refine OwnGo.ic_ne X0 hx (pc' := 73) (hb hby d6_66) (by decide) (by decide) (fun q => absurd q (by decide)) (fun _ => ?_)
        show Go p e below _ T0 (mkF m 69 #[.val (.int r), .val (.long p1), .second, .val (.long p2), .second] [])
        refine OwnGo.iconst X0 hx (z := (1 : Int32)) (hb hby d6_69) (by decide) ?_
        show Go p e below _ T0 (mkF m 70 #[.val (.int r), .val (.long p1), .second, .val (.long p2), .second] [(.int (1 : Int32))])
        refine OwnGo.goto X0 hx (pc' := 74) (hb hby d6_70) (by decide) (by decide) ?_
        show Go p e below _ T0 (mkF m 74 #[.val (.int r), .val (.long p1), .second, .val (.long p2), .second] [(.int (1 : Int32))])
        exact OwnGo.retB X0 hx hlk (z' := (1 : Int32)) hret (hb hby d6_74) rfl ⟨rfl, e0, rfl⟩ (by decide) (by decide)
    ·
      show Go p e below _ T0 (mkF m 27 #[.val (.int r), .val (.long p1), .second, .val (.long p2), .second] [])
      refine OwnGo.iconst X0 hx (z := (1 : Int32)) (hb hby d6_27) (by decide) ?_
      show Go p e below _ T0 (mkF m 28 #[.val (.int r), .val (.long p1), .second, .val (.long p2), .second] [(.int (1 : Int32))])
      refine OwnGo.goto X0 hx (pc' := 32) (hb hby d6_28) (by decide) (by decide) ?_
      show Go p e below _ T0 (mkF m 32 #[.val (.int r), .val (.long p1), .second, .val (.long p2), .second] [(.int (1 : Int32))])
      refine OwnGo.lloadN X0 hx (hb hby d6_32) rfl ?_
      show Go p e below _ T0 (mkF m 33 #[.val (.int r), .val (.long p1), .second, .val (.long p2), .second] [(.long p1), (.int (1 : Int32))])
      refine OwnGo.lloadN X0 hx (hb hby d6_33) rfl ?_
      show Go p e below _ T0 (mkF m 34 #[.val (.int r), .val (.long p1), .second, .val (.long p2), .second] [(.long p2), (.long p1), (.int (1 : Int32))])
      refine OwnGo.lc_ne_ X0 hx (pc' := 42) (hb hby d6_34) (hb hby d6_35) (by decide) (by decide) (fun h34 => (by first | exact absurd (s2.mp h24) h34 | exact absurd (s2.mpr h34) h24 | exact absurd h34 (fun q => h24 (s2.mpr q)))) (fun h34 => ?_)
      show Go p e below _ T0 (mkF m 38 #[.val (.int r), .val (.long p1), .second, .val (.long p2), .second] [(.int (1 : Int32))])
      refine OwnGo.iconst X0 hx (z := (1 : Int32)) (hb hby d6_38) (by decide) ?_
      show Go p e below _ T0 (mkF m 39 #[.val (.int r), .val (.long p1), .second, .val (.long p2), .second] [(.int (1 : Int32)), (.int (1 : Int32))])
      refine OwnGo.goto X0 hx (pc' := 43) (hb hby d6_39) (by decide) (by decide) ?_
      show Go p e below _ T0 (mkF m 43 #[.val (.int r), .val (.long p1), .second, .val (.long p2), .second] [(.int (1 : Int32)), (.int (1 : Int32))])
      refine OwnGo.ic_ne X0 hx (pc' := 73) (hb hby d6_43) (by decide) (by decide) (fun q => absurd q (by decide)) (fun _ => ?_)
      show Go p e below _ T0 (mkF m 46 #[.val (.int r), .val (.long p1), .second, .val (.long p2), .second] [])
      refine OwnGo.iloadN X0 hx (hb hby d6_46) rfl ?_
      show Go p e below _ T0 (mkF m 47 #[.val (.int r), .val (.long p1), .second, .val (.long p2), .second] [(.int r)])
      refine OwnGo.if_le X0 hx (pc' := 54) (hb hby d6_47) (by decide) (by decide) (fun h47 => ?_) (fun h47 => ?_)
      ·
        show Go p e below _ T0 (mkF m 54 #[.val (.int r), .val (.long p1), .second, .val (.long p2), .second] [])
        refine OwnGo.iconst X0 hx (z := (0 : Int32)) (hb hby d6_54) (by decide) ?_
        show Go p e below _ T0 (mkF m 55 #[.val (.int r), .val (.long p1), .second, .val (.long p2), .second] [(.int (0 : Int32))])
        refine OwnGo.lloadN X0 hx (hb hby d6_55) rfl ?_
        show Go p e below _ T0 (mkF m 56 #[.val (.int r), .val (.long p1), .second, .val (.long p2), .second] [(.long p1), (.int (0 : Int32))])
        refine OwnGo.lloadN X0 hx (hb hby d6_56) rfl ?_
        show Go p e below _ T0 (mkF m 57 #[.val (.int r), .val (.long p1), .second, .val (.long p2), .second] [(.long p2), (.long p1), (.int (0 : Int32))])
        refine OwnGo.lc_le_ X0 hx (pc' := 65) (hb hby d6_57) (hb hby d6_58) (by decide) (by decide) (fun h57 => ?_) (fun h57 => (by first | exact absurd (s3.mp h47) h57 | exact absurd (s3.mpr h57) h47 | exact absurd h57 (fun q => h47 (s3.mpr q))))
        show Go p e below _ T0 (mkF m 65 #[.val (.int r), .val (.long p1), .second, .val (.long p2), .second] [(.int (0 : Int32))])
        refine OwnGo.iconst X0 hx (z := (0 : Int32)) (hb hby d6_65) (by decide) ?_
        show Go p e below _ T0 (mkF m 66 #[.val (.int r), .val (.long p1), .second, .val (.long p2), .second] [(.int (0 : Int32)), (.int (0 : Int32))])
        refine OwnGo.ic_ne X0 hx (pc' := 73) (hb hby d6_66) (by decide) (by decide) (fun q => absurd q (by decide)) (fun _ => ?_)
        show Go p e below _ T0 (mkF m 69 #[.val (.int r), .val (.long p1), .second, .val (.long p2), .second] [])
        refine OwnGo.iconst X0 hx (z := (1 : Int32)) (hb hby d6_69) (by decide) ?_
        show Go p e below _ T0 (mkF m 70 #[.val (.int r), .val (.long p1), .second, .val (.long p2), .second] [(.int (1 : Int32))])
        refine OwnGo.goto X0 hx (pc' := 74) (hb hby d6_70) (by decide) (by decide) ?_
        show Go p e below _ T0 (mkF m 74 #[.val (.int r), .val (.long p1), .second, .val (.long p2), .second] [(.int (1 : Int32))])
        exact OwnGo.retB X0 hx hlk (z' := (1 : Int32)) hret (hb hby d6_74) rfl ⟨rfl, e0, rfl⟩ (by decide) (by decide)
      ·
        show Go p e below _ T0 (mkF m 50 #[.val (.int r), .val (.long p1), .second, .val (.long p2), .second] [])
        refine OwnGo.iconst X0 hx (z := (1 : Int32)) (hb hby d6_50) (by decide) ?_
        show Go p e below _ T0 (mkF m 51 #[.val (.int r), .val (.long p1), .second, .val (.long p2), .second] [(.int (1 : Int32))])
        refine OwnGo.goto X0 hx (pc' := 55) (hb hby d6_51) (by decide) (by decide) ?_
        show Go p e below _ T0 (mkF m 55 #[.val (.int r), .val (.long p1), .second, .val (.long p2), .second] [(.int (1 : Int32))])
        refine OwnGo.lloadN X0 hx (hb hby d6_55) rfl ?_
        show Go p e below _ T0 (mkF m 56 #[.val (.int r), .val (.long p1), .second, .val (.long p2), .second] [(.long p1), (.int (1 : Int32))])
        refine OwnGo.lloadN X0 hx (hb hby d6_56) rfl ?_
        show Go p e below _ T0 (mkF m 57 #[.val (.int r), .val (.long p1), .second, .val (.long p2), .second] [(.long p2), (.long p1), (.int (1 : Int32))])
        refine OwnGo.lc_le_ X0 hx (pc' := 65) (hb hby d6_57) (hb hby d6_58) (by decide) (by decide) (fun h57 => (by first | exact absurd (s3.mp h47) h57 | exact absurd (s3.mpr h57) h47 | exact absurd h57 (fun q => h47 (s3.mpr q)))) (fun h57 => ?_)
        show Go p e below _ T0 (mkF m 61 #[.val (.int r), .val (.long p1), .second, .val (.long p2), .second] [(.int (1 : Int32))])
        refine OwnGo.iconst X0 hx (z := (1 : Int32)) (hb hby d6_61) (by decide) ?_
        show Go p e below _ T0 (mkF m 62 #[.val (.int r), .val (.long p1), .second, .val (.long p2), .second] [(.int (1 : Int32)), (.int (1 : Int32))])
        refine OwnGo.goto X0 hx (pc' := 66) (hb hby d6_62) (by decide) (by decide) ?_
        show Go p e below _ T0 (mkF m 66 #[.val (.int r), .val (.long p1), .second, .val (.long p2), .second] [(.int (1 : Int32)), (.int (1 : Int32))])
        refine OwnGo.ic_ne X0 hx (pc' := 73) (hb hby d6_66) (by decide) (by decide) (fun q => absurd q (by decide)) (fun _ => ?_)
        show Go p e below _ T0 (mkF m 69 #[.val (.int r), .val (.long p1), .second, .val (.long p2), .second] [])
        refine OwnGo.iconst X0 hx (z := (1 : Int32)) (hb hby d6_69) (by decide) ?_
        show Go p e below _ T0 (mkF m 70 #[.val (.int r), .val (.long p1), .second, .val (.long p2), .second] [(.int (1 : Int32))])
        refine OwnGo.goto X0 hx (pc' := 74) (hb hby d6_70) (by decide) (by decide) ?_
        show Go p e below _ T0 (mkF m 74 #[.val (.int r), .val (.long p1), .second, .val (.long p2), .second] [(.int (1 : Int32))])
        exact OwnGo.retB X0 hx hlk (z' := (1 : Int32)) hret (hb hby d6_74) rfl ⟨rfl, e0, rfl⟩ (by decide) (by decide)
theorem d2_0 : decode jdk_30_method_1_code 0 = .ok (.aload_n 0, 1) := by decide +kernel
theorem d2_1 : decode jdk_30_method_1_code 1 = .ok (.invokespecial 1, 3) := by decide +kernel
theorem d2_4 : decode jdk_30_method_1_code 4 = .ok (.return_, 1) := by decide +kernel
theorem own_ef_rmR (m : MethodId) (x0 : Addr) : entryFrame m [(.ref x0)].toArray 1 = mkF m 0 #[.val (.ref x0)] [] := by first | (simp [entryFrame, mkF, argsToLocals, Value.category]; done) | rfl
set_option maxRecDepth 65536 in
set_option maxHeartbeats 40000000 in
theorem rmR (l : Launch) (Z : State) (a0 : Array Value) (hw : ∀ d ∈ tables_1, d.before a0 Z = true) (a1 : Addr) (h0 : Heap)  :
    Con l Z (⟨"java/lang/Record", "<init>", "()V"⟩ : MethodName) jdk_30_method_1_code 1 none ({ frames := 1, cells := 0, slots := 0, locals := 12 } : Room) [(.ref a1)] h0 (Ret none h0) := by
  refine Con.of (plainFor_of_name own_pn2) (Ls0 := #[.val (.ref a1)]) (fun m => own_ef_rmR m a1) ?_
  intro p e s m below meth c T0 X0 hx hZ hby hml hown hnm hret hlk e0
  show Go p e below _ T0 (mkF m 0 #[.val (.ref a1)] [])
  refine OwnGo.aloadN X0 hx (hb hby d2_0) rfl rfl ?_
  show Go p e below _ T0 (mkF m 1 #[.val (.ref a1)] [(.ref a1)])
  refine OwnGo.initO X0 hx hZ hown (hw _ (List.mem_of_getElem? (i := 12) rfl)) (hw _ (List.mem_of_getElem? (i := 13) rfl)) (hw _ (List.mem_of_getElem? (i := 14) rfl)) e0 (by rw [hml]; rfl) (hb hby d2_1) (by decide) (W := 0) rfl (by decide) fun T1 X1 e1 => ?_
  show Go p e below _ T1 (mkF m 4 #[.val (.ref a1)] [])
  exact OwnGo.retV X1 hx hlk hret (hb hby d2_4) ⟨rfl, e1, rfl⟩ (by decide) (by decide)
theorem d1_0 : decode prog_11_method_1_code 0 = .ok (.aload_n 0, 1) := by decide +kernel
theorem d1_1 : decode prog_11_method_1_code 1 = .ok (.invokespecial 1, 3) := by decide +kernel
theorem d1_4 : decode prog_11_method_1_code 4 = .ok (.lload_n 1, 1) := by decide +kernel
theorem d1_5 : decode prog_11_method_1_code 5 = .ok (.lconst 0, 1) := by decide +kernel
theorem d1_6 : decode prog_11_method_1_code 6 = .ok (.lcmp, 1) := by decide +kernel
theorem d1_7 : decode prog_11_method_1_code 7 = .ok (.ifCond .ge 17, 3) := by decide +kernel
theorem d1_24 : decode prog_11_method_1_code 24 = .ok (.aload_n 0, 1) := by decide +kernel
theorem d1_25 : decode prog_11_method_1_code 25 = .ok (.lload_n 1, 1) := by decide +kernel
theorem d1_26 : decode prog_11_method_1_code 26 = .ok (.putfield 16, 3) := by decide +kernel
theorem d1_29 : decode prog_11_method_1_code 29 = .ok (.return_, 1) := by decide +kernel
theorem own_ef_rmI (m : MethodId) (x0 : Addr) (x1 : Int64) : entryFrame m [(.ref x0), (.long x1)].toArray 3 = mkF m 0 #[.val (.ref x0), .val (.long x1), .second] [] := by first | (simp [entryFrame, mkF, argsToLocals, Value.category]; done) | rfl
set_option maxRecDepth 65536 in
set_option maxHeartbeats 40000000 in
theorem rmI (l : Launch) (Z : State) (a0 : Array Value) (hw : ∀ d ∈ tables_1, d.before a0 Z = true) (a1 : Addr) (p1 : Int64) (h0 : Heap) (n0 : Nat) (Z0 : n0 ≤ h0.size) (ga : n0 ≤ a1) (hp : ¬ p1 < 0) (E1 : Exa Z h0 a1 "com/example/crossbook/crossbook/Price") (F1 : Fld Z h0 a1 "com/example/crossbook/crossbook/Price" "ticks" "J" (.long 0)) :
    Con l Z (⟨"com/example/crossbook/crossbook/Price", "<init>", "(J)V"⟩ : MethodName) prog_11_method_1_code 3 none ({ frames := 2, cells := 0, slots := 0, locals := 24 } : Room) [(.ref a1), (.long p1)] h0 (fun v h L => v = none ∧ Fr n0 L ∧ Keep h0 h [a1] ∧ Exa Z h a1 "com/example/crossbook/crossbook/Price" ∧ Fld Z h a1 "com/example/crossbook/crossbook/Price" "ticks" "J" (.long p1)) := by
  refine Con.of (plainFor_of_name own_pn3) (Ls0 := #[.val (.ref a1), .val (.long p1), .second]) (fun m => own_ef_rmI m a1 p1) ?_
  intro p e s m below meth c T0 X0 hx hZ hby hml hown hnm hret hlk e0
  show Go p e below _ T0 (mkF m 0 #[.val (.ref a1), .val (.long p1), .second] [])
  refine OwnGo.aloadN X0 hx (hb hby d1_0) rfl rfl ?_
  show Go p e below _ T0 (mkF m 1 #[.val (.ref a1), .val (.long p1), .second] [(.ref a1)])
  refine OwnGo.callI X0 hx hZ hown (y := (⟨"java/lang/Record", "<init>", "()V"⟩ : MethodName)) rfl (hw _ (List.mem_of_getElem? (i := 7) rfl)) (hw _ (List.mem_of_getElem? (i := 8) rfl)) (hw _ (List.mem_of_getElem? (i := 10) rfl)) (hw _ (List.mem_of_getElem? (i := 11) rfl)) (by decide) e0 (as := []) (rmR l Z a0 hw a1 h0) (W := 0) (by decide) (by decide) (by decide) (by decide) (by rw [hml]; rfl) (lenOf own_pd0 rfl) (rest := []) rfl rfl (hb hby d1_1) fun v1 T1 L1 X1 q1 => ?_
  obtain ⟨rfl, e1, rfl⟩ := q1
  rw [List.append_nil] at X1
  show Go p e below _ T1 (mkF m 4 #[.val (.ref a1), .val (.long p1), .second] [])
  refine OwnGo.lloadN X1 hx (hb hby d1_4) rfl ?_
  show Go p e below _ T1 (mkF m 5 #[.val (.ref a1), .val (.long p1), .second] [(.long p1)])
  refine OwnGo.lconst X1 hx (v := (0 : Int64)) (hb hby d1_5) rfl ?_
  show Go p e below _ T1 (mkF m 6 #[.val (.ref a1), .val (.long p1), .second] [(.long (0 : Int64)), (.long p1)])
  refine OwnGo.lc_ge_ X1 hx (pc' := 24) (hb hby d1_6) (hb hby d1_7) (by decide) (by decide) (fun h6 => ?_) (fun h6 => (by first | exact absurd h6 (by assumption) | exact absurd (by assumption) h6 | exact absurd (Value.ref.inj h6) (by assumption) | exact absurd (Value.ref.inj h6).symm (by assumption)))
  show Go p e below _ T1 (mkF m 24 #[.val (.ref a1), .val (.long p1), .second] [])
  refine OwnGo.aloadN X1 hx (hb hby d1_24) rfl rfl ?_
  show Go p e below _ T1 (mkF m 25 #[.val (.ref a1), .val (.long p1), .second] [(.ref a1)])
  refine OwnGo.lloadN X1 hx (hb hby d1_25) rfl ?_
  show Go p e below _ T1 (mkF m 26 #[.val (.ref a1), .val (.long p1), .second] [(.long p1), (.ref a1)])
  refine OwnGo.putF X1 hx hZ hown (host := "") (Or.inl (hw _ (List.mem_of_getElem? (i := 15) rfl))) Via.refl e1 F1 E1 (Or.inr ⟨(hw _ (List.mem_of_getElem? (i := 16) rfl)), rfl, hnm⟩) (hw _ (List.mem_of_getElem? (i := 2) rfl)) (ty := .long) (by decide) rfl rfl (hb hby d1_26) fun T2 h2 X2 e2 W2 => ?_
  have E1_c2 := E1.wr W2
  have F1_c2 := F1.same W2
  have Z2 := Nat.le_trans Z0 (Keep.of_wr W2).1
  have K2_ := (Keep.refl h0 [a1]).wr W2 (Or.inl (List.mem_of_getElem? (i := 0) rfl))
  have N2_ := Fr.snoc X2 (Fr.nil n0) ga
  show Go p e below _ T2 (mkF m 29 #[.val (.ref a1), .val (.long p1), .second] [])
  refine OwnGo.retV X2 hx hlk hret (hb hby d1_29) ?_ (by decide) (by decide)
  rw [e2]
  exact ⟨rfl, N2_, K2_, E1_c2, F1_c2⟩
theorem d4_0 : decode prog_11_method_2_code 0 = .ok (.aload_n 0, 1) := by decide +kernel
theorem d4_1 : decode prog_11_method_2_code 1 = .ok (.getfield 16, 3) := by decide +kernel
theorem d4_4 : decode prog_11_method_2_code 4 = .ok (.aload_n 1, 1) := by decide +kernel
theorem d4_5 : decode prog_11_method_2_code 5 = .ok (.getfield 16, 3) := by decide +kernel
theorem d4_8 : decode prog_11_method_2_code 8 = .ok (.invokestatic 22, 3) := by decide +kernel
theorem d4_11 : decode prog_11_method_2_code 11 = .ok (.ireturn, 1) := by decide +kernel
theorem own_ef_rmC (m : MethodId) (x0 : Addr) (x1 : Addr) : entryFrame m [(.ref x0), (.ref x1)].toArray 2 = mkF m 0 #[.val (.ref x0), .val (.ref x1)] [] := by first | (simp [entryFrame, mkF, argsToLocals, Value.category]; done) | rfl
set_option maxRecDepth 65536 in
set_option maxHeartbeats 40000000 in
theorem rmC (l : Launch) (Z : State) (a0 : Array Value) (hw : ∀ d ∈ tables_1, d.before a0 Z = true) (a1 a2 : Addr) (p1 p2 : Int64) (h0 : Heap) (F1 : Fld Z h0 a1 "com/example/crossbook/crossbook/Price" "ticks" "J" (.long p1)) (F2 : Fld Z h0 a2 "com/example/crossbook/crossbook/Price" "ticks" "J" (.long p2)) :
    Con l Z (⟨"com/example/crossbook/crossbook/Price", "compareTo", "(Lcom/example/crossbook/crossbook/Price;)I"⟩ : MethodName) prog_11_method_2_code 2 (some .int) ({ frames := 1, cells := 0, slots := 0, locals := 15 } : Room) [(.ref a1), (.ref a2)] h0 (Ret (some (.int (own_cmp p1 p2))) h0) := by
  refine Con.of (plainFor_of_name own_pn3) (Ls0 := #[.val (.ref a1), .val (.ref a2)]) (fun m => own_ef_rmC m a1 a2) ?_
  intro p e s m below meth c T0 X0 hx hZ hby hml hown hnm hret hlk e0
  show Go p e below _ T0 (mkF m 0 #[.val (.ref a1), .val (.ref a2)] [])
  refine OwnGo.aloadN X0 hx (hb hby d4_0) rfl rfl ?_
  show Go p e below _ T0 (mkF m 1 #[.val (.ref a1), .val (.ref a2)] [(.ref a1)])
  refine OwnGo.getF X0 hx hZ hown (host := "") (Or.inl (hw _ (List.mem_of_getElem? (i := 15) rfl))) Via.refl e0 F1 (hb hby d4_1) fun T1 X1 e1 => ?_
  show Go p e below _ T1 (mkF m 4 #[.val (.ref a1), .val (.ref a2)] [(.long p1)])
  refine OwnGo.aloadN X1 hx (hb hby d4_4) rfl rfl ?_
  show Go p e below _ T1 (mkF m 5 #[.val (.ref a1), .val (.ref a2)] [(.ref a2), (.long p1)])
  refine OwnGo.getF X1 hx hZ hown (host := "") (Or.inl (hw _ (List.mem_of_getElem? (i := 15) rfl))) Via.refl e1 F2 (hb hby d4_5) fun T2 X2 e2 => ?_
  show Go p e below _ T2 (mkF m 8 #[.val (.ref a1), .val (.ref a2)] [(.long p2), (.long p1)])
  refine OwnGo.callS X2 hx hZ hown (y := (⟨"java/lang/Long", "compare", "(JJ)I"⟩ : MethodName)) (hw _ (List.mem_of_getElem? (i := 22) rfl)) (hw _ (List.mem_of_getElem? (i := 23) rfl)) (hw _ (List.mem_of_getElem? (i := 24) rfl)) (hw _ (List.mem_of_getElem? (i := 25) rfl)) (by decide) e2 (as := [(.long p1), (.long p2)]) (rmL l Z a0 hw p1 p2 h0) (W := 0) (by decide) (by decide) (by decide) (by decide) (by rw [hml]; rfl) (lenOf own_pd1 rfl) (rest := []) rfl rfl (hb hby d4_8) fun v3 T3 L3 X3 q3 => ?_
  obtain ⟨rfl, e3, rfl⟩ := q3
  rw [List.append_nil] at X3
  show Go p e below _ T3 (mkF m 11 #[.val (.ref a1), .val (.ref a2)] [(.int (own_cmp p1 p2))])
  exact OwnGo.retI X3 hx hlk hret (hb hby d4_11) ⟨rfl, e3, rfl⟩ (by decide) (by decide)
theorem own_ef_rm0 (m : MethodId) (x0 : Int64) (x1 : Int64) (x2 : Int32) : entryFrame m [(.long x0), (.long x1), (.int x2)].toArray maxLocals = mkF m 0 #[.val (.long x0), .second, .val (.long x1), .second, .val (.int x2), .unset, .unset, .unset, .unset, .unset, .unset, .unset, .unset, .unset] [] := by first | (simp [entryFrame, mkF, argsToLocals, Value.category, maxLocals]; done) | rfl
set_option maxRecDepth 65536 in
set_option maxHeartbeats 40000000 in
theorem rm0 (l : Launch) (Z : State) (a0 : Array Value) (hw : ∀ d ∈ tables_1, d.before a0 Z = true) (p1 p2 : Int64) (p3 : Int32) (h0 : Heap) (n0 : Nat) (Z0 : n0 ≤ h0.size) :
    Con l Z x code maxLocals ret room_1 [(.long p1), (.long p2), (.int p3)] h0 (fun v _ L => v = some (.int 1) ∧ Fr n0 L) := by
  refine Con.of (plainFor_of_name own_pn1) (Ls0 := #[.val (.long p1), .second, .val (.long p2), .second, .val (.int p3), .unset, .unset, .unset, .unset, .unset, .unset, .unset, .unset, .unset]) (fun m => own_ef_rm0 m p1 p2 p3) ?_
  intro p e s m below meth c T0 X0 hx hZ hby hml hown hnm hret hlk e0
  have hml : c.maxLocals = 14 := hml
  show Go p e below _ T0 (mkF m 0 #[.val (.long p1), .second, .val (.long p2), .second, .val (.int p3), .unset, .unset, .unset, .unset, .unset, .unset, .unset, .unset, .unset] [])
  refine OwnGo.lloadN X0 hx (hb hby at_0) rfl ?_
  show Go p e below _ T0 (mkF m 1 #[.val (.long p1), .second, .val (.long p2), .second, .val (.int p3), .unset, .unset, .unset, .unset, .unset, .unset, .unset, .unset, .unset] [(.long p1)])
  refine OwnGo.ldc2Long X0 hx hZ hown (v := (9223372036854775807 : Int64)) (hw _ (List.mem_of_getElem? (i := 0) rfl)) (hb hby at_1) ?_
  show Go p e below _ T0 (mkF m 4 #[.val (.long p1), .second, .val (.long p2), .second, .val (.int p3), .unset, .unset, .unset, .unset, .unset, .unset, .unset, .unset, .unset] [(.long (9223372036854775807 : Int64)), (.long p1)])
  refine OwnGo.land X0 hx (hb hby at_4) rfl ?_
  show Go p e below _ T0 (mkF m 5 #[.val (.long p1), .second, .val (.long p2), .second, .val (.int p3), .unset, .unset, .unset, .unset, .unset, .unset, .unset, .unset, .unset] [(.long (p1 &&& (9223372036854775807 : Int64)))])
  refine OwnGo.lstore X0 hx (hb hby at_5) (Ls' := #[.val (.long p1), .second, .val (.long p2), .second, .val (.int p3), .val (.long (p1 &&& (9223372036854775807 : Int64))), .second, .unset, .unset, .unset, .unset, .unset, .unset, .unset]) rfl ?_
  obtain ⟨va, hva⟩ : ∃ z, z = p1 &&& (9223372036854775807 : Int64) := ⟨_, rfl⟩
  have ha : ¬ va < 0 := by rw [hva]; exact own_msk _
  rw [← hva]
  show Go p e below _ T0 (mkF m 7 #[.val (.long p1), .second, .val (.long p2), .second, .val (.int p3), .val (.long va), .second, .unset, .unset, .unset, .unset, .unset, .unset, .unset] [])
  refine OwnGo.iload X0 hx (hb hby at_7) rfl ?_
  show Go p e below _ T0 (mkF m 9 #[.val (.long p1), .second, .val (.long p2), .second, .val (.int p3), .val (.long va), .second, .unset, .unset, .unset, .unset, .unset, .unset, .unset] [(.int p3)])
  refine OwnGo.iconst X0 hx (z := (3 : Int32)) (hb hby at_9) (by decide) ?_
  show Go p e below _ T0 (mkF m 10 #[.val (.long p1), .second, .val (.long p2), .second, .val (.int p3), .val (.long va), .second, .unset, .unset, .unset, .unset, .unset, .unset, .unset] [(.int (3 : Int32)), (.int p3)])
  refine OwnGo.iand X0 hx (hb hby at_10) rfl ?_
  show Go p e below _ T0 (mkF m 11 #[.val (.long p1), .second, .val (.long p2), .second, .val (.int p3), .val (.long va), .second, .unset, .unset, .unset, .unset, .unset, .unset, .unset] [(.int (p3 &&& (3 : Int32)))])
  refine OwnGo.istore X0 hx (hb hby at_11) (Ls' := #[.val (.long p1), .second, .val (.long p2), .second, .val (.int p3), .val (.long va), .second, .unset, .unset, .val (.int (p3 &&& (3 : Int32))), .unset, .unset, .unset, .unset]) rfl ?_
  have J92 : ∀ (vb : Int64) (hb0 : ¬ vb < 0) (T' : State), Stand p l e room_1 s m #[(.long p1), (.long p2), (.int p3)] below meth c T' [] 0 0 → T'.heap = h0 → Go p e below (OwnGo.EndN s (fun v _ L => v = some (.int 1) ∧ Fr n0 L) room_1.cells room_1.slots) T' (mkF m 92 #[.val (.long p1), .second, .val (.long p2), .second, .val (.int p3), .val (.long va), .second, .val (.long vb), .second, .val (.int (p3 &&& (3 : Int32))), .unset, .unset, .unset, .unset] []) := by
    intro vb hb0 T1 X1 e1
    show Go p e below _ T1 (mkF m 92 #[.val (.long p1), .second, .val (.long p2), .second, .val (.int p3), .val (.long va), .second, .val (.long vb), .second, .val (.int (p3 &&& (3 : Int32))), .unset, .unset, .unset, .unset] [])
    refine OwnGo.newO X1 hx hZ hown (hw _ (List.mem_of_getElem? (i := 1) rfl)) (hw _ (List.mem_of_getElem? (i := 2) rfl)) (hw _ (List.mem_of_getElem? (i := 3) rfl)) e1 (hb hby at_92) (by decide) (by decide) fun T2 h2 b2 g2 X2 e2 E2 A2 D2 => ?_
    have gb2 : n0 ≤ b2 := Nat.le_trans Z0 (Nat.le_of_eq g2.symm)
    have gz2 : h0.size ≤ b2 := Nat.le_trans (Keep.refl h0 []).1 (Nat.le_of_eq g2.symm)
    have Z2 := Nat.le_trans Z0 E2.1
    have K2_ := (Keep.refl h0 []).ext E2
    have F2_ticks : Fld Z h2 b2 "com/example/crossbook/crossbook/Price" "ticks" "J" (.long (0 : Int64)) := D2 (Or.inr (hw _ (List.mem_of_getElem? (i := 16) rfl))) (ty := .long) (by decide)
    show Go p e below _ T2 (mkF m 95 #[.val (.long p1), .second, .val (.long p2), .second, .val (.int p3), .val (.long va), .second, .val (.long vb), .second, .val (.int (p3 &&& (3 : Int32))), .unset, .unset, .unset, .unset] [(.ref b2)])
    refine OwnGo.dup X2 hx (hb hby at_95) rfl ?_
    show Go p e below _ T2 (mkF m 96 #[.val (.long p1), .second, .val (.long p2), .second, .val (.int p3), .val (.long va), .second, .val (.long vb), .second, .val (.int (p3 &&& (3 : Int32))), .unset, .unset, .unset, .unset] [(.ref b2), (.ref b2)])
    refine OwnGo.lload X2 hx (hb hby at_96) rfl ?_
    show Go p e below _ T2 (mkF m 98 #[.val (.long p1), .second, .val (.long p2), .second, .val (.int p3), .val (.long va), .second, .val (.long vb), .second, .val (.int (p3 &&& (3 : Int32))), .unset, .unset, .unset, .unset] [(.long va), (.ref b2), (.ref b2)])
    refine OwnGo.callI X2 hx hZ hown (y := (⟨"com/example/crossbook/crossbook/Price", "<init>", "(J)V"⟩ : MethodName)) rfl (hw _ (List.mem_of_getElem? (i := 4) rfl)) (hw _ (List.mem_of_getElem? (i := 5) rfl)) (hw _ (List.mem_of_getElem? (i := 3) rfl)) (hw _ (List.mem_of_getElem? (i := 6) rfl)) (by decide) e2 (as := [(.long va)]) (rmI l Z a0 hw b2 va h2 n0 Z2 gb2 ha A2 F2_ticks) (W := 1) (by decide) (by decide) (by decide) (by decide) (by rw [hml]; rfl) (lenOf own_pd2 rfl) (rest := [(.ref b2)]) rfl rfl (hb hby at_98) fun v3 T3 L3 X3 q3 => ?_
    obtain ⟨rfl, N3, K3, E3, F3⟩ := q3
    have A2_c3 := A2.keep K3
    have Z3 := Nat.le_trans Z2 K3.1
    have K3_ := K2_.trans K3 (allS (Or.inr gz2) all0)
    show Go p e below _ T3 (mkF m 101 #[.val (.long p1), .second, .val (.long p2), .second, .val (.int p3), .val (.long va), .second, .val (.long vb), .second, .val (.int (p3 &&& (3 : Int32))), .unset, .unset, .unset, .unset] [(.ref b2)])
    refine OwnGo.astore X3 hx (hb hby at_101) rfl (Ls' := #[.val (.long p1), .second, .val (.long p2), .second, .val (.int p3), .val (.long va), .second, .val (.long vb), .second, .val (.int (p3 &&& (3 : Int32))), .val (.ref b2), .unset, .unset, .unset]) rfl ?_
    show Go p e below _ T3 (mkF m 103 #[.val (.long p1), .second, .val (.long p2), .second, .val (.int p3), .val (.long va), .second, .val (.long vb), .second, .val (.int (p3 &&& (3 : Int32))), .val (.ref b2), .unset, .unset, .unset] [])
    refine OwnGo.newO X3 hx hZ hown (hw _ (List.mem_of_getElem? (i := 1) rfl)) (hw _ (List.mem_of_getElem? (i := 2) rfl)) (hw _ (List.mem_of_getElem? (i := 3) rfl)) rfl (hb hby at_103) (by decide) (by decide) fun T4 h4 b4 g4 X4 e4 E4 A4 D4 => ?_
    have gb4 : n0 ≤ b4 := Nat.le_trans Z3 (Nat.le_of_eq g4.symm)
    have gz4 : h0.size ≤ b4 := Nat.le_trans K3_.1 (Nat.le_of_eq g4.symm)
    have ne_b2_b4 : b2 ≠ b4 := Nat.ne_of_lt (Nat.lt_of_lt_of_le E3.lt (Nat.le_of_eq g4.symm))
    have E3_c4 := E3.ext E4
    have F3_c4 := F3.ext E4
    have Z4 := Nat.le_trans Z3 E4.1
    have K4_ := K3_.ext E4
    have F4_ticks : Fld Z h4 b4 "com/example/crossbook/crossbook/Price" "ticks" "J" (.long (0 : Int64)) := D4 (Or.inr (hw _ (List.mem_of_getElem? (i := 16) rfl))) (ty := .long) (by decide)
    show Go p e below _ T4 (mkF m 106 #[.val (.long p1), .second, .val (.long p2), .second, .val (.int p3), .val (.long va), .second, .val (.long vb), .second, .val (.int (p3 &&& (3 : Int32))), .val (.ref b2), .unset, .unset, .unset] [(.ref b4)])
    refine OwnGo.dup X4 hx (hb hby at_106) rfl ?_
    show Go p e below _ T4 (mkF m 107 #[.val (.long p1), .second, .val (.long p2), .second, .val (.int p3), .val (.long va), .second, .val (.long vb), .second, .val (.int (p3 &&& (3 : Int32))), .val (.ref b2), .unset, .unset, .unset] [(.ref b4), (.ref b4)])
    refine OwnGo.lload X4 hx (hb hby at_107) rfl ?_
    show Go p e below _ T4 (mkF m 109 #[.val (.long p1), .second, .val (.long p2), .second, .val (.int p3), .val (.long va), .second, .val (.long vb), .second, .val (.int (p3 &&& (3 : Int32))), .val (.ref b2), .unset, .unset, .unset] [(.long vb), (.ref b4), (.ref b4)])
    refine OwnGo.callI X4 hx hZ hown (y := (⟨"com/example/crossbook/crossbook/Price", "<init>", "(J)V"⟩ : MethodName)) rfl (hw _ (List.mem_of_getElem? (i := 4) rfl)) (hw _ (List.mem_of_getElem? (i := 5) rfl)) (hw _ (List.mem_of_getElem? (i := 3) rfl)) (hw _ (List.mem_of_getElem? (i := 6) rfl)) (by decide) e4 (as := [(.long vb)]) (rmI l Z a0 hw b4 vb h4 n0 Z4 gb4 hb0 A4 F4_ticks) (W := 1) (by decide) (by decide) (by decide) (by decide) (by rw [hml]; rfl) (lenOf own_pd2 rfl) (rest := [(.ref b4)]) rfl rfl (hb hby at_109) fun v5 T5 L5 X5 q5 => ?_
    obtain ⟨rfl, N5, K5, E5, F5⟩ := q5
    have E3_c5 := E3_c4.keep K5
    have F3_c5 := F3_c4.keep K5 (ninS ne_b2_b4 nin0)
    have A4_c5 := A4.keep K5
    have Z5 := Nat.le_trans Z4 K5.1
    have K5_ := K4_.trans K5 (allS (Or.inr gz4) all0)
    show Go p e below _ T5 (mkF m 112 #[.val (.long p1), .second, .val (.long p2), .second, .val (.int p3), .val (.long va), .second, .val (.long vb), .second, .val (.int (p3 &&& (3 : Int32))), .val (.ref b2), .unset, .unset, .unset] [(.ref b4)])
    refine OwnGo.astore X5 hx (hb hby at_112) rfl (Ls' := #[.val (.long p1), .second, .val (.long p2), .second, .val (.int p3), .val (.long va), .second, .val (.long vb), .second, .val (.int (p3 &&& (3 : Int32))), .val (.ref b2), .val (.ref b4), .unset, .unset]) rfl ?_
    show Go p e below _ T5 (mkF m 114 #[.val (.long p1), .second, .val (.long p2), .second, .val (.int p3), .val (.long va), .second, .val (.long vb), .second, .val (.int (p3 &&& (3 : Int32))), .val (.ref b2), .val (.ref b4), .unset, .unset] [])
    refine OwnGo.aload X5 hx (hb hby at_114) rfl rfl ?_
    show Go p e below _ T5 (mkF m 116 #[.val (.long p1), .second, .val (.long p2), .second, .val (.int p3), .val (.long va), .second, .val (.long vb), .second, .val (.int (p3 &&& (3 : Int32))), .val (.ref b2), .val (.ref b4), .unset, .unset] [(.ref b2)])
    refine OwnGo.aload X5 hx (hb hby at_116) rfl rfl ?_
    show Go p e below _ T5 (mkF m 118 #[.val (.long p1), .second, .val (.long p2), .second, .val (.int p3), .val (.long va), .second, .val (.long vb), .second, .val (.int (p3 &&& (3 : Int32))), .val (.ref b2), .val (.ref b4), .unset, .unset] [(.ref b4), (.ref b2)])
    refine OwnGo.callV X5 hx hZ hown (y := (⟨"com/example/crossbook/crossbook/Price", "compareTo", "(Lcom/example/crossbook/crossbook/Price;)I"⟩ : MethodName)) (z := (⟨"com/example/crossbook/crossbook/Price", "compareTo", "(Lcom/example/crossbook/crossbook/Price;)I"⟩ : MethodName)) (hw _ (List.mem_of_getElem? (i := 17) rfl)) (hw _ (List.mem_of_getElem? (i := 18) rfl)) (notFace_of_selects (args := #[]) (mvT hZ (hw _ (List.mem_of_getElem? (i := 20) rfl)))) (hw _ (List.mem_of_getElem? (i := 20) rfl)) (hw _ (List.mem_of_getElem? (i := 19) rfl)) (hw _ (List.mem_of_getElem? (i := 3) rfl)) (hw _ (List.mem_of_getElem? (i := 21) rfl)) (by decide) rfl E3_c5 (as := [(.ref b4)]) (rmC l Z a0 hw b2 b4 va vb T5.heap F3_c5 F5) (W := 0) (by decide) (by decide) (by decide) (by decide) (by rw [hml]; rfl) (lenOf own_pd3 rfl) (rest := []) rfl rfl (hb hby at_118) fun v6 T6 L6 X6 q6 => ?_
    obtain ⟨rfl, e6, rfl⟩ := q6
    rw [List.append_nil] at X6
    show Go p e below _ T6 (mkF m 121 #[.val (.long p1), .second, .val (.long p2), .second, .val (.int p3), .val (.long va), .second, .val (.long vb), .second, .val (.int (p3 &&& (3 : Int32))), .val (.ref b2), .val (.ref b4), .unset, .unset] [(.int (own_cmp va vb))])
    refine OwnGo.istore X6 hx (hb hby at_121) (Ls' := #[.val (.long p1), .second, .val (.long p2), .second, .val (.int p3), .val (.long va), .second, .val (.long vb), .second, .val (.int (p3 &&& (3 : Int32))), .val (.ref b2), .val (.ref b4), .val (.int (own_cmp va vb)), .unset]) rfl ?_
    show Go p e below _ T6 (mkF m 123 #[.val (.long p1), .second, .val (.long p2), .second, .val (.int p3), .val (.long va), .second, .val (.long vb), .second, .val (.int (p3 &&& (3 : Int32))), .val (.ref b2), .val (.ref b4), .val (.int (own_cmp va vb)), .unset] [])
    refine OwnGo.aload X6 hx (hb hby at_123) rfl rfl ?_
    show Go p e below _ T6 (mkF m 125 #[.val (.long p1), .second, .val (.long p2), .second, .val (.int p3), .val (.long va), .second, .val (.long vb), .second, .val (.int (p3 &&& (3 : Int32))), .val (.ref b2), .val (.ref b4), .val (.int (own_cmp va vb)), .unset] [(.ref b4)])
    refine OwnGo.aload X6 hx (hb hby at_125) rfl rfl ?_
    show Go p e below _ T6 (mkF m 127 #[.val (.long p1), .second, .val (.long p2), .second, .val (.int p3), .val (.long va), .second, .val (.long vb), .second, .val (.int (p3 &&& (3 : Int32))), .val (.ref b2), .val (.ref b4), .val (.int (own_cmp va vb)), .unset] [(.ref b2), (.ref b4)])
    refine OwnGo.callV X6 hx hZ hown (y := (⟨"com/example/crossbook/crossbook/Price", "compareTo", "(Lcom/example/crossbook/crossbook/Price;)I"⟩ : MethodName)) (z := (⟨"com/example/crossbook/crossbook/Price", "compareTo", "(Lcom/example/crossbook/crossbook/Price;)I"⟩ : MethodName)) (hw _ (List.mem_of_getElem? (i := 17) rfl)) (hw _ (List.mem_of_getElem? (i := 18) rfl)) (notFace_of_selects (args := #[]) (mvT hZ (hw _ (List.mem_of_getElem? (i := 20) rfl)))) (hw _ (List.mem_of_getElem? (i := 20) rfl)) (hw _ (List.mem_of_getElem? (i := 19) rfl)) (hw _ (List.mem_of_getElem? (i := 3) rfl)) (hw _ (List.mem_of_getElem? (i := 21) rfl)) (by decide) e6 E5 (as := [(.ref b2)]) (rmC l Z a0 hw b4 b2 vb va T5.heap F5 F3_c5) (W := 0) (by decide) (by decide) (by decide) (by decide) (by rw [hml]; rfl) (lenOf own_pd3 rfl) (rest := []) rfl rfl (hb hby at_127) fun v7 T7 L7 X7 q7 => ?_
    obtain ⟨rfl, e7, rfl⟩ := q7
    rw [List.append_nil] at X7
    show Go p e below _ T7 (mkF m 130 #[.val (.long p1), .second, .val (.long p2), .second, .val (.int p3), .val (.long va), .second, .val (.long vb), .second, .val (.int (p3 &&& (3 : Int32))), .val (.ref b2), .val (.ref b4), .val (.int (own_cmp va vb)), .unset] [(.int (own_cmp vb va))])
    refine OwnGo.istore X7 hx (hb hby at_130) (Ls' := #[.val (.long p1), .second, .val (.long p2), .second, .val (.int p3), .val (.long va), .second, .val (.long vb), .second, .val (.int (p3 &&& (3 : Int32))), .val (.ref b2), .val (.ref b4), .val (.int (own_cmp va vb)), .val (.int (own_cmp vb va))]) rfl ?_
    show Go p e below _ T7 (mkF m 132 #[.val (.long p1), .second, .val (.long p2), .second, .val (.int p3), .val (.long va), .second, .val (.long vb), .second, .val (.int (p3 &&& (3 : Int32))), .val (.ref b2), .val (.ref b4), .val (.int (own_cmp va vb)), .val (.int (own_cmp vb va))] [])
    refine OwnGo.iload X7 hx (hb hby at_132) rfl ?_
    show Go p e below _ T7 (mkF m 134 #[.val (.long p1), .second, .val (.long p2), .second, .val (.int p3), .val (.long va), .second, .val (.long vb), .second, .val (.int (p3 &&& (3 : Int32))), .val (.ref b2), .val (.ref b4), .val (.int (own_cmp va vb)), .val (.int (own_cmp vb va))] [(.int (own_cmp va vb))])
    refine OwnGo.lload X7 hx (hb hby at_134) rfl ?_
    show Go p e below _ T7 (mkF m 136 #[.val (.long p1), .second, .val (.long p2), .second, .val (.int p3), .val (.long va), .second, .val (.long vb), .second, .val (.int (p3 &&& (3 : Int32))), .val (.ref b2), .val (.ref b4), .val (.int (own_cmp va vb)), .val (.int (own_cmp vb va))] [(.long va), (.int (own_cmp va vb))])
    refine OwnGo.lload X7 hx (hb hby at_136) rfl ?_
    show Go p e below _ T7 (mkF m 138 #[.val (.long p1), .second, .val (.long p2), .second, .val (.int p3), .val (.long va), .second, .val (.long vb), .second, .val (.int (p3 &&& (3 : Int32))), .val (.ref b2), .val (.ref b4), .val (.int (own_cmp va vb)), .val (.int (own_cmp vb va))] [(.long vb), (.long va), (.int (own_cmp va vb))])
    refine OwnGo.callS X7 hx hZ hown (y := (⟨"com/example/crossbook/crossbook/PriceCompareToPinLaw", "signMatches", "(IJJ)Z"⟩ : MethodName)) (hw _ (List.mem_of_getElem? (i := 26) rfl)) (hw _ (List.mem_of_getElem? (i := 27) rfl)) (hw _ (List.mem_of_getElem? (i := 28) rfl)) (hw _ (List.mem_of_getElem? (i := 29) rfl)) (by decide) e7 (as := [(.int (own_cmp va vb)), (.long va), (.long vb)]) (rmS l Z a0 hw (own_cmp va vb) va vb T5.heap (own_s1 _ _) (own_s2 _ _) (own_s3 _ _)) (W := 0) (by decide) (by decide) (by decide) (by decide) (by rw [hml]; rfl) (lenOf own_pd4 rfl) (rest := []) rfl rfl (hb hby at_138) fun v8 T8 L8 X8 q8 => ?_
    obtain ⟨rfl, e8, rfl⟩ := q8
    rw [List.append_nil] at X8
    show Go p e below _ T8 (mkF m 141 #[.val (.long p1), .second, .val (.long p2), .second, .val (.int p3), .val (.long va), .second, .val (.long vb), .second, .val (.int (p3 &&& (3 : Int32))), .val (.ref b2), .val (.ref b4), .val (.int (own_cmp va vb)), .val (.int (own_cmp vb va))] [(.int (1 : Int32))])
    refine OwnGo.if_eq X8 hx (pc' := 160) (hb hby at_141) (by decide) (by decide) (fun q => absurd q (by decide)) (fun _ => ?_)
    show Go p e below _ T8 (mkF m 144 #[.val (.long p1), .second, .val (.long p2), .second, .val (.int p3), .val (.long va), .second, .val (.long vb), .second, .val (.int (p3 &&& (3 : Int32))), .val (.ref b2), .val (.ref b4), .val (.int (own_cmp va vb)), .val (.int (own_cmp vb va))] [])
    refine OwnGo.iload X8 hx (hb hby at_144) rfl ?_
    show Go p e below _ T8 (mkF m 146 #[.val (.long p1), .second, .val (.long p2), .second, .val (.int p3), .val (.long va), .second, .val (.long vb), .second, .val (.int (p3 &&& (3 : Int32))), .val (.ref b2), .val (.ref b4), .val (.int (own_cmp va vb)), .val (.int (own_cmp vb va))] [(.int (own_cmp vb va))])
    refine OwnGo.lload X8 hx (hb hby at_146) rfl ?_
    show Go p e below _ T8 (mkF m 148 #[.val (.long p1), .second, .val (.long p2), .second, .val (.int p3), .val (.long va), .second, .val (.long vb), .second, .val (.int (p3 &&& (3 : Int32))), .val (.ref b2), .val (.ref b4), .val (.int (own_cmp va vb)), .val (.int (own_cmp vb va))] [(.long vb), (.int (own_cmp vb va))])
    refine OwnGo.lload X8 hx (hb hby at_148) rfl ?_
    show Go p e below _ T8 (mkF m 150 #[.val (.long p1), .second, .val (.long p2), .second, .val (.int p3), .val (.long va), .second, .val (.long vb), .second, .val (.int (p3 &&& (3 : Int32))), .val (.ref b2), .val (.ref b4), .val (.int (own_cmp va vb)), .val (.int (own_cmp vb va))] [(.long va), (.long vb), (.int (own_cmp vb va))])
    refine OwnGo.callS X8 hx hZ hown (y := (⟨"com/example/crossbook/crossbook/PriceCompareToPinLaw", "signMatches", "(IJJ)Z"⟩ : MethodName)) (hw _ (List.mem_of_getElem? (i := 26) rfl)) (hw _ (List.mem_of_getElem? (i := 27) rfl)) (hw _ (List.mem_of_getElem? (i := 28) rfl)) (hw _ (List.mem_of_getElem? (i := 29) rfl)) (by decide) e8 (as := [(.int (own_cmp vb va)), (.long vb), (.long va)]) (rmS l Z a0 hw (own_cmp vb va) vb va T5.heap (own_s1 _ _) (own_s2 _ _) (own_s3 _ _)) (W := 0) (by decide) (by decide) (by decide) (by decide) (by rw [hml]; rfl) (lenOf own_pd4 rfl) (rest := []) rfl rfl (hb hby at_150) fun v9 T9 L9 X9 q9 => ?_
    obtain ⟨rfl, e9, rfl⟩ := q9
    rw [List.append_nil] at X9
    show Go p e below _ T9 (mkF m 153 #[.val (.long p1), .second, .val (.long p2), .second, .val (.int p3), .val (.long va), .second, .val (.long vb), .second, .val (.int (p3 &&& (3 : Int32))), .val (.ref b2), .val (.ref b4), .val (.int (own_cmp va vb)), .val (.int (own_cmp vb va))] [(.int (1 : Int32))])
    refine OwnGo.if_eq X9 hx (pc' := 160) (hb hby at_153) (by decide) (by decide) (fun q => absurd q (by decide)) (fun _ => ?_)
    show Go p e below _ T9 (mkF m 156 #[.val (.long p1), .second, .val (.long p2), .second, .val (.int p3), .val (.long va), .second, .val (.long vb), .second, .val (.int (p3 &&& (3 : Int32))), .val (.ref b2), .val (.ref b4), .val (.int (own_cmp va vb)), .val (.int (own_cmp vb va))] [])
    refine OwnGo.iconst X9 hx (z := (1 : Int32)) (hb hby at_156) (by decide) ?_
    show Go p e below _ T9 (mkF m 157 #[.val (.long p1), .second, .val (.long p2), .second, .val (.int p3), .val (.long va), .second, .val (.long vb), .second, .val (.int (p3 &&& (3 : Int32))), .val (.ref b2), .val (.ref b4), .val (.int (own_cmp va vb)), .val (.int (own_cmp vb va))] [(.int (1 : Int32))])
    refine OwnGo.goto X9 hx (pc' := 161) (hb hby at_157) (by decide) (by decide) ?_
    show Go p e below _ T9 (mkF m 161 #[.val (.long p1), .second, .val (.long p2), .second, .val (.int p3), .val (.long va), .second, .val (.long vb), .second, .val (.int (p3 &&& (3 : Int32))), .val (.ref b2), .val (.ref b4), .val (.int (own_cmp va vb)), .val (.int (own_cmp vb va))] [(.int (1 : Int32))])
    exact OwnGo.retB X9 hx hlk (z' := (1 : Int32)) hret (hb hby at_161) rfl ⟨rfl, (Fr.app (Fr.app (Fr.nil n0) N3) N5)⟩ (by decide) (by decide)
  show Go p e below _ T0 (mkF m 13 #[.val (.long p1), .second, .val (.long p2), .second, .val (.int p3), .val (.long va), .second, .unset, .unset, .val (.int (p3 &&& (3 : Int32))), .unset, .unset, .unset, .unset] [])
  refine OwnGo.iload X0 hx (hb hby at_13) rfl ?_
  show Go p e below _ T0 (mkF m 15 #[.val (.long p1), .second, .val (.long p2), .second, .val (.int p3), .val (.long va), .second, .unset, .unset, .val (.int (p3 &&& (3 : Int32))), .unset, .unset, .unset, .unset] [(.int (p3 &&& (3 : Int32)))])
  refine OwnGo.if_ne X0 hx (pc' := 28) (hb hby at_15) (by decide) (by decide) (fun h15 => ?_) (fun h15 => ?_)
  ·
    show Go p e below _ T0 (mkF m 28 #[.val (.long p1), .second, .val (.long p2), .second, .val (.int p3), .val (.long va), .second, .unset, .unset, .val (.int (p3 &&& (3 : Int32))), .unset, .unset, .unset, .unset] [])
    refine OwnGo.iload X0 hx (hb hby at_28) rfl ?_
    show Go p e below _ T0 (mkF m 30 #[.val (.long p1), .second, .val (.long p2), .second, .val (.int p3), .val (.long va), .second, .unset, .unset, .val (.int (p3 &&& (3 : Int32))), .unset, .unset, .unset, .unset] [(.int (p3 &&& (3 : Int32)))])
    refine OwnGo.iconst X0 hx (z := (1 : Int32)) (hb hby at_30) (by decide) ?_
    show Go p e below _ T0 (mkF m 31 #[.val (.long p1), .second, .val (.long p2), .second, .val (.int p3), .val (.long va), .second, .unset, .unset, .val (.int (p3 &&& (3 : Int32))), .unset, .unset, .unset, .unset] [(.int (1 : Int32)), (.int (p3 &&& (3 : Int32)))])
    refine OwnGo.ic_ne X0 hx (pc' := 41) (hb hby at_31) (by decide) (by decide) (fun h31 => ?_) (fun h31 => ?_)
    ·
      show Go p e below _ T0 (mkF m 41 #[.val (.long p1), .second, .val (.long p2), .second, .val (.int p3), .val (.long va), .second, .unset, .unset, .val (.int (p3 &&& (3 : Int32))), .unset, .unset, .unset, .unset] [])
      refine OwnGo.iload X0 hx (hb hby at_41) rfl ?_
      show Go p e below _ T0 (mkF m 43 #[.val (.long p1), .second, .val (.long p2), .second, .val (.int p3), .val (.long va), .second, .unset, .unset, .val (.int (p3 &&& (3 : Int32))), .unset, .unset, .unset, .unset] [(.int (p3 &&& (3 : Int32)))])
      refine OwnGo.iconst X0 hx (z := (2 : Int32)) (hb hby at_43) (by decide) ?_
      show Go p e below _ T0 (mkF m 44 #[.val (.long p1), .second, .val (.long p2), .second, .val (.int p3), .val (.long va), .second, .unset, .unset, .val (.int (p3 &&& (3 : Int32))), .unset, .unset, .unset, .unset] [(.int (2 : Int32)), (.int (p3 &&& (3 : Int32)))])
      refine OwnGo.ic_ne X0 hx (pc' := 72) (hb hby at_44) (by decide) (by decide) (fun h44 => ?_) (fun h44 => ?_)
      ·
        show Go p e below _ T0 (mkF m 72 #[.val (.long p1), .second, .val (.long p2), .second, .val (.int p3), .val (.long va), .second, .unset, .unset, .val (.int (p3 &&& (3 : Int32))), .unset, .unset, .unset, .unset] [])
        refine OwnGo.lload X0 hx (hb hby at_72) rfl ?_
        show Go p e below _ T0 (mkF m 74 #[.val (.long p1), .second, .val (.long p2), .second, .val (.int p3), .val (.long va), .second, .unset, .unset, .val (.int (p3 &&& (3 : Int32))), .unset, .unset, .unset, .unset] [(.long va)])
        refine OwnGo.lconst X0 hx (v := (0 : Int64)) (hb hby at_74) rfl ?_
        show Go p e below _ T0 (mkF m 75 #[.val (.long p1), .second, .val (.long p2), .second, .val (.int p3), .val (.long va), .second, .unset, .unset, .val (.int (p3 &&& (3 : Int32))), .unset, .unset, .unset, .unset] [(.long (0 : Int64)), (.long va)])
        refine OwnGo.lc_ne_ X0 hx (pc' := 86) (hb hby at_75) (hb hby at_76) (by decide) (by decide) (fun h75 => ?_) (fun h75 => ?_)
        ·
          show Go p e below _ T0 (mkF m 86 #[.val (.long p1), .second, .val (.long p2), .second, .val (.int p3), .val (.long va), .second, .unset, .unset, .val (.int (p3 &&& (3 : Int32))), .unset, .unset, .unset, .unset] [])
          refine OwnGo.lload X0 hx (hb hby at_86) rfl ?_
          show Go p e below _ T0 (mkF m 88 #[.val (.long p1), .second, .val (.long p2), .second, .val (.int p3), .val (.long va), .second, .unset, .unset, .val (.int (p3 &&& (3 : Int32))), .unset, .unset, .unset, .unset] [(.long va)])
          refine OwnGo.lconst X0 hx (v := (1 : Int64)) (hb hby at_88) rfl ?_
          show Go p e below _ T0 (mkF m 89 #[.val (.long p1), .second, .val (.long p2), .second, .val (.int p3), .val (.long va), .second, .unset, .unset, .val (.int (p3 &&& (3 : Int32))), .unset, .unset, .unset, .unset] [(.long (1 : Int64)), (.long va)])
          refine OwnGo.lsub X0 hx (hb hby at_89) rfl ?_
          show Go p e below _ T0 (mkF m 90 #[.val (.long p1), .second, .val (.long p2), .second, .val (.int p3), .val (.long va), .second, .unset, .unset, .val (.int (p3 &&& (3 : Int32))), .unset, .unset, .unset, .unset] [(.long (va - (1 : Int64)))])
          refine OwnGo.lstore X0 hx (hb hby at_90) (Ls' := #[.val (.long p1), .second, .val (.long p2), .second, .val (.int p3), .val (.long va), .second, .val (.long (va - (1 : Int64))), .second, .val (.int (p3 &&& (3 : Int32))), .unset, .unset, .unset, .unset]) rfl ?_
          exact J92 (va - (1 : Int64)) (own_dec ha h75) T0 X0 e0
        ·
          show Go p e below _ T0 (mkF m 79 #[.val (.long p1), .second, .val (.long p2), .second, .val (.int p3), .val (.long va), .second, .unset, .unset, .val (.int (p3 &&& (3 : Int32))), .unset, .unset, .unset, .unset] [])
          refine OwnGo.lload X0 hx (hb hby at_79) rfl ?_
          show Go p e below _ T0 (mkF m 81 #[.val (.long p1), .second, .val (.long p2), .second, .val (.int p3), .val (.long va), .second, .unset, .unset, .val (.int (p3 &&& (3 : Int32))), .unset, .unset, .unset, .unset] [(.long va)])
          refine OwnGo.lstore X0 hx (hb hby at_81) (Ls' := #[.val (.long p1), .second, .val (.long p2), .second, .val (.int p3), .val (.long va), .second, .val (.long va), .second, .val (.int (p3 &&& (3 : Int32))), .unset, .unset, .unset, .unset]) rfl ?_
          show Go p e below _ T0 (mkF m 83 #[.val (.long p1), .second, .val (.long p2), .second, .val (.int p3), .val (.long va), .second, .val (.long va), .second, .val (.int (p3 &&& (3 : Int32))), .unset, .unset, .unset, .unset] [])
          refine OwnGo.goto X0 hx (pc' := 92) (hb hby at_83) (by decide) (by decide) ?_
          exact J92 va ha T0 X0 e0
      ·
        show Go p e below _ T0 (mkF m 47 #[.val (.long p1), .second, .val (.long p2), .second, .val (.int p3), .val (.long va), .second, .unset, .unset, .val (.int (p3 &&& (3 : Int32))), .unset, .unset, .unset, .unset] [])
        refine OwnGo.lload X0 hx (hb hby at_47) rfl ?_
        show Go p e below _ T0 (mkF m 49 #[.val (.long p1), .second, .val (.long p2), .second, .val (.int p3), .val (.long va), .second, .unset, .unset, .val (.int (p3 &&& (3 : Int32))), .unset, .unset, .unset, .unset] [(.long va)])
        refine OwnGo.ldc2Long X0 hx hZ hown (v := (9223372036854775807 : Int64)) (hw _ (List.mem_of_getElem? (i := 0) rfl)) (hb hby at_49) ?_
        show Go p e below _ T0 (mkF m 52 #[.val (.long p1), .second, .val (.long p2), .second, .val (.int p3), .val (.long va), .second, .unset, .unset, .val (.int (p3 &&& (3 : Int32))), .unset, .unset, .unset, .unset] [(.long (9223372036854775807 : Int64)), (.long va)])
        refine OwnGo.lc_ne_ X0 hx (pc' := 63) (hb hby at_52) (hb hby at_53) (by decide) (by decide) (fun h52 => ?_) (fun h52 => ?_)
        ·
          show Go p e below _ T0 (mkF m 63 #[.val (.long p1), .second, .val (.long p2), .second, .val (.int p3), .val (.long va), .second, .unset, .unset, .val (.int (p3 &&& (3 : Int32))), .unset, .unset, .unset, .unset] [])
          refine OwnGo.lload X0 hx (hb hby at_63) rfl ?_
          show Go p e below _ T0 (mkF m 65 #[.val (.long p1), .second, .val (.long p2), .second, .val (.int p3), .val (.long va), .second, .unset, .unset, .val (.int (p3 &&& (3 : Int32))), .unset, .unset, .unset, .unset] [(.long va)])
          refine OwnGo.lconst X0 hx (v := (1 : Int64)) (hb hby at_65) rfl ?_
          show Go p e below _ T0 (mkF m 66 #[.val (.long p1), .second, .val (.long p2), .second, .val (.int p3), .val (.long va), .second, .unset, .unset, .val (.int (p3 &&& (3 : Int32))), .unset, .unset, .unset, .unset] [(.long (1 : Int64)), (.long va)])
          refine OwnGo.ladd X0 hx (hb hby at_66) rfl ?_
          show Go p e below _ T0 (mkF m 67 #[.val (.long p1), .second, .val (.long p2), .second, .val (.int p3), .val (.long va), .second, .unset, .unset, .val (.int (p3 &&& (3 : Int32))), .unset, .unset, .unset, .unset] [(.long (va + (1 : Int64)))])
          refine OwnGo.lstore X0 hx (hb hby at_67) (Ls' := #[.val (.long p1), .second, .val (.long p2), .second, .val (.int p3), .val (.long va), .second, .val (.long (va + (1 : Int64))), .second, .val (.int (p3 &&& (3 : Int32))), .unset, .unset, .unset, .unset]) rfl ?_
          show Go p e below _ T0 (mkF m 69 #[.val (.long p1), .second, .val (.long p2), .second, .val (.int p3), .val (.long va), .second, .val (.long (va + (1 : Int64))), .second, .val (.int (p3 &&& (3 : Int32))), .unset, .unset, .unset, .unset] [])
          refine OwnGo.goto X0 hx (pc' := 92) (hb hby at_69) (by decide) (by decide) ?_
          exact J92 (va + (1 : Int64)) (own_inc ha h52) T0 X0 e0
        ·
          show Go p e below _ T0 (mkF m 56 #[.val (.long p1), .second, .val (.long p2), .second, .val (.int p3), .val (.long va), .second, .unset, .unset, .val (.int (p3 &&& (3 : Int32))), .unset, .unset, .unset, .unset] [])
          refine OwnGo.lload X0 hx (hb hby at_56) rfl ?_
          show Go p e below _ T0 (mkF m 58 #[.val (.long p1), .second, .val (.long p2), .second, .val (.int p3), .val (.long va), .second, .unset, .unset, .val (.int (p3 &&& (3 : Int32))), .unset, .unset, .unset, .unset] [(.long va)])
          refine OwnGo.lstore X0 hx (hb hby at_58) (Ls' := #[.val (.long p1), .second, .val (.long p2), .second, .val (.int p3), .val (.long va), .second, .val (.long va), .second, .val (.int (p3 &&& (3 : Int32))), .unset, .unset, .unset, .unset]) rfl ?_
          show Go p e below _ T0 (mkF m 60 #[.val (.long p1), .second, .val (.long p2), .second, .val (.int p3), .val (.long va), .second, .val (.long va), .second, .val (.int (p3 &&& (3 : Int32))), .unset, .unset, .unset, .unset] [])
          refine OwnGo.goto X0 hx (pc' := 92) (hb hby at_60) (by decide) (by decide) ?_
          exact J92 va ha T0 X0 e0
    ·
      show Go p e below _ T0 (mkF m 34 #[.val (.long p1), .second, .val (.long p2), .second, .val (.int p3), .val (.long va), .second, .unset, .unset, .val (.int (p3 &&& (3 : Int32))), .unset, .unset, .unset, .unset] [])
      refine OwnGo.lload X0 hx (hb hby at_34) rfl ?_
      show Go p e below _ T0 (mkF m 36 #[.val (.long p1), .second, .val (.long p2), .second, .val (.int p3), .val (.long va), .second, .unset, .unset, .val (.int (p3 &&& (3 : Int32))), .unset, .unset, .unset, .unset] [(.long va)])
      refine OwnGo.lstore X0 hx (hb hby at_36) (Ls' := #[.val (.long p1), .second, .val (.long p2), .second, .val (.int p3), .val (.long va), .second, .val (.long va), .second, .val (.int (p3 &&& (3 : Int32))), .unset, .unset, .unset, .unset]) rfl ?_
      show Go p e below _ T0 (mkF m 38 #[.val (.long p1), .second, .val (.long p2), .second, .val (.int p3), .val (.long va), .second, .val (.long va), .second, .val (.int (p3 &&& (3 : Int32))), .unset, .unset, .unset, .unset] [])
      refine OwnGo.goto X0 hx (pc' := 92) (hb hby at_38) (by decide) (by decide) ?_
      exact J92 va ha T0 X0 e0
  ·
    show Go p e below _ T0 (mkF m 18 #[.val (.long p1), .second, .val (.long p2), .second, .val (.int p3), .val (.long va), .second, .unset, .unset, .val (.int (p3 &&& (3 : Int32))), .unset, .unset, .unset, .unset] [])
    refine OwnGo.lloadN X0 hx (hb hby at_18) rfl ?_
    show Go p e below _ T0 (mkF m 19 #[.val (.long p1), .second, .val (.long p2), .second, .val (.int p3), .val (.long va), .second, .unset, .unset, .val (.int (p3 &&& (3 : Int32))), .unset, .unset, .unset, .unset] [(.long p2)])
    refine OwnGo.ldc2Long X0 hx hZ hown (v := (9223372036854775807 : Int64)) (hw _ (List.mem_of_getElem? (i := 0) rfl)) (hb hby at_19) ?_
    show Go p e below _ T0 (mkF m 22 #[.val (.long p1), .second, .val (.long p2), .second, .val (.int p3), .val (.long va), .second, .unset, .unset, .val (.int (p3 &&& (3 : Int32))), .unset, .unset, .unset, .unset] [(.long (9223372036854775807 : Int64)), (.long p2)])
    refine OwnGo.land X0 hx (hb hby at_22) rfl ?_
    show Go p e below _ T0 (mkF m 23 #[.val (.long p1), .second, .val (.long p2), .second, .val (.int p3), .val (.long va), .second, .unset, .unset, .val (.int (p3 &&& (3 : Int32))), .unset, .unset, .unset, .unset] [(.long (p2 &&& (9223372036854775807 : Int64)))])
    refine OwnGo.lstore X0 hx (hb hby at_23) (Ls' := #[.val (.long p1), .second, .val (.long p2), .second, .val (.int p3), .val (.long va), .second, .val (.long (p2 &&& (9223372036854775807 : Int64))), .second, .val (.int (p3 &&& (3 : Int32))), .unset, .unset, .unset, .unset]) rfl ?_
    show Go p e below _ T0 (mkF m 25 #[.val (.long p1), .second, .val (.long p2), .second, .val (.int p3), .val (.long va), .second, .val (.long (p2 &&& (9223372036854775807 : Int64))), .second, .val (.int (p3 &&& (3 : Int32))), .unset, .unset, .unset, .unset] [])
    refine OwnGo.goto X0 hx (pc' := 92) (hb hby at_25) (by decide) (by decide) ?_
    exact J92 (p2 &&& (9223372036854775807 : Int64)) (own_msk _) T0 X0 e0
set_option maxRecDepth 65536 in
set_option maxHeartbeats 40000000 in
theorem comes_1 {Post : Tables → Env → Array Value → State → Outcome → State → Prop} (hpost : ∀ tb e args s v u, (limb_1_1.after args s (.returned v) u = true ∧ limb_1_2.after args s (.returned v) u = true ∧ True) → FrameEnd s (.returned v) u (Jvm.fieldLocs frame_1_writes args s ++ Jvm.arrayLocs frame_1_arrays args s ++ Jvm.staticLocs frame_1_statics s) 16 128 → Post tb e args s (.returned v) u) :
    ArmFor flags0 classFile x code maxLocals ret World_1 tables_1 room_1 Calls_1 rest_1 Pre_1 Post := by
  intro l hfl _ _ p e ha hc hk s m args below hf hA hF happ hP
  obtain ⟨hcalls, hrest, hpre⟩ := hP
  obtain ⟨-, -, -, hnamed, -, -, -, hat⟩ := (Spec.applies_iff hf).mp happ
  obtain ⟨hg, hn⟩ := and_e (Cond.before_iff.mp (show (Jvm.Cond.and given_1 narrow_1).before args s = true from hpre))
  obtain ⟨gc0, gr0⟩ := and_e hg
  obtain ⟨gc1, gr1⟩ := and_e gr0
  obtain ⟨gc2, gr2⟩ := and_e gr1
  obtain ⟨w0, w1, w2, rfl⟩ : ∃ w0 w1 w2 : Value, args = #[w0, w1, w2] := by
    have hs : args.size = 3 := by simpa [Cond.value, given_1] using gc0
    obtain ⟨L⟩ := args
    match L, hs with
    | [w0, w1, w2], _ => exact ⟨w0, w1, w2, rfl⟩
  have hw := fun d (hd : d ∈ tables_1) => atoms_spec (ws := Jvm.Cond.code x code maxLocals ret :: tables_1) hat d (List.mem_cons_of_mem _ hd)
  obtain ⟨i0, ei0⟩ := isL_v gc1
  obtain rfl : w0 = (.long i0) := Option.some.inj ei0
  obtain ⟨i1, ei1⟩ := isL_v gc2
  obtain rfl : w1 = (.long i1) := Option.some.inj ei1
  obtain ⟨i2, ei2⟩ := is_v gr2
  obtain rfl : w2 = (.int i2) := Option.some.inj ei2
  obtain ⟨n, o, h1, h2, h3, _, L, rfl, ⟨rfl, N⟩, hq⟩ := rm0 l s _ hw i0 i1 i2 s.heap s.heap.size (Nat.le_refl _) tables_1 p e ha hc hk s m _ below hf ((Spec.applies_iff_loose hf).mp happ).1 ⟨rfl, State.Warmed39.refl s, rfl⟩ trivial
  refine ⟨n, _, h1, h2, h3, hpost _ _ _ _ _ _ ⟨Cond.after_iff.mpr rfl, Cond.after_iff.mpr (eq_i res_at (Term.int_eval (1)) rfl), trivial⟩ ⟨hq.1, hq.2.1, (hq.2.2.sift fun y hy => Or.inr (N y hy)).mono (by decide) (by decide)⟩⟩
theorem main_1_1 : Claimed_1_1 := comes_1 fun _ _ _ _ _ _ h hF => ⟨h.1, hF⟩
theorem main_1_2 : Claimed_1_2 := comes_1 fun _ _ _ _ _ _ h hF => ⟨h.2.1, hF⟩
end Jvm.Pilot.@@N@@
namespace Jvm.Pilot.@@N@@
open Jvm Jvm.ClassFile Sem Op Lib Jvm.Free Jvm.Stand Jvm.Pilot.@@N@@.Jvm.D
/-! MADE BY PROGRAM (witnessworld.py) out of the Statement's table words and the real class files: 15 classes; the members and pool entries that the words name. The judged class is class 1, her method 2. -/
namespace start1
open Jvm.ClassFile
def u (s : String) : CpInfo := .utf8 (stringToUtf16 s)
/-- a pool by its gaps: so many unusable entries, then the entry; so many at the end -/
def gap : Nat → List CpInfo → List CpInfo
  | 0, r => r
  | n + 1, r => .unusable :: gap n r
def poolList (es : List (Nat × CpInfo)) (last : Nat) : List CpInfo := es.foldr (fun e r => gap e.1 (e.2 :: r)) (gap last [])
def pool (es : List (Nat × CpInfo)) (last : Nat) : Array CpInfo := ⟨poolList es last⟩
def fileOf (pool : Array CpInfo) (this : Nat) (attrs : Array Attribute := #[]) (ms : Array MethodInfo := #[]) (fl : Nat := 33) (sup : Nat := 0) (ifs : Array Nat := #[]) (fds : Array FieldInfo := #[]) : ClassFile where
  minorVersion := 0
  majorVersion := 65
  constantPool := pool
  accessFlags := fl
  thisClass := this
  superClass := sup
  interfaces := ifs
  fields := fds
  methods := ms
  attributes := attrs
def plain (name : String) (sup : Option ClassId) : Class where
  name := name
  kind := .ordinary
  loader := none
  accessFlags := 33
  super := sup
  interfaces := #[]
  cf := none
  fields := #[]
  methods := #[]
  instanceTypes := #[]
  staticTypes := #[]
  resolved := #[]
  callSites := []
  init := .initialized
  statics := none
  mirror := none

def pool0 : Array CpInfo := pool [(5, u "<init>"), (0, u "()V"), (1, .class_ 10), (1, u "java/lang/Object")] 113

def k0c0 : Code := { maxStack := 0, maxLocals := 1, code := object_method_1_code, exceptionTable := #[], attributes := #[] }
def k0m0 : Method := { name := "<init>", desc := "()V", sig := { parameters := [], returnType := none }, accessFlags := 1, code := some k0c0 }
/-- java/lang/Object -/
def k0 : Class := { plain "java/lang/Object" none with
  accessFlags := 33
  interfaces := #[]
  cf := some (fileOf pool0 8 #[] #[{ accessFlags := 1, nameIndex := 5, descriptorIndex := 6, attributes := #[] }] 33 0 #[] #[])
  fields := #[]
  methods := #[k0m0]
  instanceTypes := #[]
  staticTypes := #[]
  resolved := Array.replicate 124 none
  statics := none }

def pool1 : Array CpInfo := pool [(2, .class_ 4), (1, u "java/lang/Object"), (0, u "<init>"), (0, u "()V"), (2, .long 9223372036854775807), (1, .class_ 12), (0, u "com/example/crossbook/crossbook/Price"), (0, .methodref 11 14), (0, .nameAndType 5 15), (0, u "(J)V"), (0, .methodref 11 17), (0, .nameAndType 18 19), (0, u "compareTo"), (0, u "(Lcom/example/crossbook/crossbook/Price;)I"), (0, .methodref 21 22), (0, .class_ 23), (0, .nameAndType 24 25), (0, u "com/example/crossbook/crossbook/PriceCompareToPinLaw"), (0, u "signMatches"), (0, u "(IJJ)Z"), (3, u "law"), (0, u "(JJI)Z")] 2

def k1m0 : Method := { name := "<init>", desc := "()V", sig := { parameters := [], returnType := none }, accessFlags := 1, code := none }
def k1c1 : Code := { maxStack := 5, maxLocals := 5, code := method_2_code, exceptionTable := #[], attributes := #[] }
def k1m1 : Method := { name := "signMatches", desc := "(IJJ)Z", sig := { parameters := [.int, .long, .long], returnType := some .boolean }, accessFlags := 10, code := some k1c1 }
def k1c2 : Code := { maxStack := 5, maxLocals := 14, code := code, exceptionTable := #[], attributes := #[] }
def k1m2 : Method := { name := "law", desc := "(JJI)Z", sig := { parameters := [.long, .long, .int], returnType := some .boolean }, accessFlags := 9, code := some k1c2 }
/-- com/example/crossbook/crossbook/PriceCompareToPinLaw -/
def k1 : Class := { plain "com/example/crossbook/crossbook/PriceCompareToPinLaw" (some 0) with
  accessFlags := 49
  interfaces := #[]
  cf := some (fileOf pool1 21 #[] #[{ accessFlags := 1, nameIndex := 5, descriptorIndex := 6, attributes := #[] }, { accessFlags := 10, nameIndex := 24, descriptorIndex := 25, attributes := #[] }, { accessFlags := 9, nameIndex := 29, descriptorIndex := 30, attributes := #[] }] 49 2 #[] #[])
  fields := #[]
  methods := #[k1m0, k1m1, k1m2]
  instanceTypes := #[]
  staticTypes := #[]
  resolved := Array.replicate 33 none
  statics := none }

def pool2 : Array CpInfo := pool [(1, .methodref 2 3), (0, .class_ 4), (0, .nameAndType 5 6), (0, u "java/lang/Object"), (0, u "<init>"), (0, u "()V"), (0, .class_ 8), (0, u "java/lang/Record")] 13

def k2c0 : Code := { maxStack := 1, maxLocals := 1, code := jdk_30_method_1_code, exceptionTable := #[], attributes := #[] }
def k2m0 : Method := { name := "<init>", desc := "()V", sig := { parameters := [], returnType := none }, accessFlags := 4, code := some k2c0 }
/-- java/lang/Record -/
def k2 : Class := { plain "java/lang/Record" (some 0) with
  accessFlags := 1057
  interfaces := #[]
  cf := some (fileOf pool2 7 #[] #[{ accessFlags := 4, nameIndex := 5, descriptorIndex := 6, attributes := #[] }] 1057 2 #[] #[])
  fields := #[]
  methods := #[k2m0]
  instanceTypes := #[]
  staticTypes := #[]
  resolved := Array.replicate 22 none
  statics := none }

def pool3 : Array CpInfo := pool [(1, .class_ 2), (0, u "java/lang/Comparable"), (0, .class_ 4), (0, u "java/lang/Object")] 7

/-- java/lang/Comparable -/
def k3 : Class := { plain "java/lang/Comparable" (some 0) with
  accessFlags := 1537
  interfaces := #[]
  cf := some (fileOf pool3 1 #[] #[] 1537 3 #[] #[])
  fields := #[]
  methods := #[]
  instanceTypes := #[]
  staticTypes := #[]
  resolved := Array.replicate 12 none
  statics := none }

def pool4 : Array CpInfo := pool [(1, .methodref 2 3), (0, .class_ 4), (0, .nameAndType 5 6), (0, u "java/lang/Record"), (0, u "<init>"), (0, u "()V"), (9, .fieldref 17 18), (0, .class_ 19), (0, .nameAndType 20 21), (0, u "com/example/crossbook/crossbook/Price"), (0, u "ticks"), (0, u "J"), (0, .methodref 23 24), (0, .class_ 25), (0, .nameAndType 26 27), (0, u "java/lang/Long"), (0, u "compare"), (0, u "(JJ)I"), (2, u "compareTo"), (0, u "(Lcom/example/crossbook/crossbook/Price;)I"), (11, .class_ 44), (0, u "java/lang/Comparable"), (0, u "DECIMALS"), (0, u "I"), (2, u "TICKS_PER_UNIT"), (2, u "(J)V")] 38

def k4c0 : Code := { maxStack := 4, maxLocals := 3, code := prog_11_method_1_code, exceptionTable := #[], attributes := #[] }
def k4m0 : Method := { name := "<init>", desc := "(J)V", sig := { parameters := [.long], returnType := none }, accessFlags := 1, code := some k4c0 }
def k4c1 : Code := { maxStack := 4, maxLocals := 2, code := prog_11_method_2_code, exceptionTable := #[], attributes := #[] }
def k4m1 : Method := { name := "compareTo", desc := "(Lcom/example/crossbook/crossbook/Price;)I", sig := { parameters := [(.object "com/example/crossbook/crossbook/Price")], returnType := some .int }, accessFlags := 1, code := some k4c1 }
/-- com/example/crossbook/crossbook/Price -/
def k4 : Class := { plain "com/example/crossbook/crossbook/Price" (some 2) with
  accessFlags := 49
  interfaces := #[3]
  cf := some (fileOf pool4 17 #[] #[{ accessFlags := 1, nameIndex := 5, descriptorIndex := 52, attributes := #[] }, { accessFlags := 1, nameIndex := 30, descriptorIndex := 31, attributes := #[] }] 49 2 #[43] #[{ accessFlags := 18, nameIndex := 20, descriptorIndex := 21, attributes := #[] }, { accessFlags := 25, nameIndex := 45, descriptorIndex := 46, attributes := #[] }, { accessFlags := 25, nameIndex := 49, descriptorIndex := 21, attributes := #[] }])
  fields := #[{ name := "ticks", type := .long, accessFlags := 18, slot := 0, constantValue := 0 }, { name := "DECIMALS", type := .int, accessFlags := 25, slot := 0, constantValue := 0 }, { name := "TICKS_PER_UNIT", type := .long, accessFlags := 25, slot := 1, constantValue := 0 }]
  methods := #[k4m0, k4m1]
  instanceTypes := #[.long]
  staticTypes := #[.int, .long]
  resolved := Array.replicate 91 none
  statics := none }

def pool5 : Array CpInfo := pool [(1, .class_ 2), (0, u "java/io/Serializable"), (0, .class_ 4), (0, u "java/lang/Object")] 2

/-- java/io/Serializable -/
def k5 : Class := { plain "java/io/Serializable" (some 0) with
  accessFlags := 1537
  interfaces := #[]
  cf := some (fileOf pool5 1 #[] #[] 1537 3 #[] #[])
  fields := #[]
  methods := #[]
  instanceTypes := #[]
  staticTypes := #[]
  resolved := Array.replicate 7 none
  statics := none }

def pool6 : Array CpInfo := pool [(2, .class_ 4), (1, u "java/lang/Object"), (0, u "<init>"), (0, u "()V"), (1, .class_ 10), (1, u "java/lang/Number"), (2, .class_ 14), (0, u "java/io/Serializable"), (0, u "serialVersionUID"), (0, u "J")] 20

def k6m0 : Method := { name := "<init>", desc := "()V", sig := { parameters := [], returnType := none }, accessFlags := 1, code := none }
/-- java/lang/Number -/
def k6 : Class := { plain "java/lang/Number" (some 0) with
  accessFlags := 1057
  interfaces := #[5]
  cf := some (fileOf pool6 8 #[] #[{ accessFlags := 1, nameIndex := 5, descriptorIndex := 6, attributes := #[] }] 1057 2 #[13] #[{ accessFlags := 26, nameIndex := 15, descriptorIndex := 16, attributes := #[] }])
  fields := #[{ name := "serialVersionUID", type := .long, accessFlags := 26, slot := 0, constantValue := 0 }]
  methods := #[k6m0]
  instanceTypes := #[]
  staticTypes := #[.long]
  resolved := Array.replicate 37 none
  statics := none }

def pool7 : Array CpInfo := pool [(1, .class_ 2), (0, u "java/lang/constant/Constable"), (0, .class_ 4), (0, u "java/lang/Object")] 6

/-- java/lang/constant/Constable -/
def k7 : Class := { plain "java/lang/constant/Constable" (some 0) with
  accessFlags := 1537
  interfaces := #[]
  cf := some (fileOf pool7 1 #[] #[] 1537 3 #[] #[])
  fields := #[]
  methods := #[]
  instanceTypes := #[]
  staticTypes := #[]
  resolved := Array.replicate 11 none
  statics := none }

def pool8 : Array CpInfo := pool [(1, .class_ 2), (0, u "java/lang/constant/ConstantDesc"), (0, .class_ 4), (0, u "java/lang/Object")] 32

/-- java/lang/constant/ConstantDesc -/
def k8 : Class := { plain "java/lang/constant/ConstantDesc" (some 0) with
  accessFlags := 1537
  interfaces := #[]
  cf := some (fileOf pool8 1 #[] #[] 1537 3 #[] #[])
  fields := #[]
  methods := #[]
  instanceTypes := #[]
  staticTypes := #[]
  resolved := Array.replicate 37 none
  statics := none }

def pool9 : Array CpInfo := pool [(1, .class_ 2), (0, u "java/lang/Long"), (232, .class_ 237), (1, u "java/lang/Long$LongCache"), (33, .class_ 272), (0, u "java/lang/Number"), (2, u "value"), (0, u "J"), (27, u "compare"), (0, u "(JJ)I"), (55, u "TYPE"), (0, u "Ljava/lang/Class;"), (0, .class_ 364), (0, u "java/lang/Comparable"), (0, .class_ 366), (0, u "java/lang/constant/Constable"), (0, .class_ 368), (0, u "java/lang/constant/ConstantDesc"), (0, u "MIN_VALUE"), (1, u "MAX_VALUE"), (4, u "SIZE"), (0, u "I"), (1, u "BYTES"), (1, u "serialVersionUID")] 142

def k9c0 : Code := { maxStack := 4, maxLocals := 4, code := jdk_35_method_42_code, exceptionTable := #[], attributes := #[] }
def k9m0 : Method := { name := "compare", desc := "(JJ)I", sig := { parameters := [.long, .long], returnType := some .int }, accessFlags := 9, code := some k9c0 }
/-- java/lang/Long -/
def k9 : Class := { plain "java/lang/Long" (some 6) with
  accessFlags := 49
  interfaces := #[3, 7, 8]
  cf := some (fileOf pool9 1 #[.nestMembers #[235]] #[{ accessFlags := 9, nameIndex := 304, descriptorIndex := 305, attributes := #[] }] 49 271 #[363, 365, 367] #[{ accessFlags := 25, nameIndex := 369, descriptorIndex := 276, attributes := #[] }, { accessFlags := 25, nameIndex := 371, descriptorIndex := 276, attributes := #[] }, { accessFlags := 25, nameIndex := 361, descriptorIndex := 362, attributes := #[] }, { accessFlags := 18, nameIndex := 275, descriptorIndex := 276, attributes := #[] }, { accessFlags := 25, nameIndex := 376, descriptorIndex := 377, attributes := #[] }, { accessFlags := 25, nameIndex := 379, descriptorIndex := 377, attributes := #[] }, { accessFlags := 26, nameIndex := 381, descriptorIndex := 276, attributes := #[] }])
  fields := #[{ name := "MIN_VALUE", type := .long, accessFlags := 25, slot := 0, constantValue := 0 }, { name := "MAX_VALUE", type := .long, accessFlags := 25, slot := 1, constantValue := 0 }, { name := "TYPE", type := (.object "java/lang/Class"), accessFlags := 25, slot := 2, constantValue := 0 }, { name := "value", type := .long, accessFlags := 18, slot := 0, constantValue := 0 }, { name := "SIZE", type := .int, accessFlags := 25, slot := 3, constantValue := 0 }, { name := "BYTES", type := .int, accessFlags := 25, slot := 4, constantValue := 0 }, { name := "serialVersionUID", type := .long, accessFlags := 26, slot := 5, constantValue := 0 }]
  methods := #[k9m0]
  instanceTypes := #[.long]
  staticTypes := #[.long, .long, (.object "java/lang/Class"), .int, .int, .long]
  resolved := Array.replicate 524 none
  statics := none }

def pool10 : Array CpInfo := pool [(1, u "java/lang/Cloneable"), (0, .class_ 1), (0, u "java/lang/Object"), (0, .class_ 3)] 3

/-- java/lang/Cloneable -/
def k10 : Class := { plain "java/lang/Cloneable" (some 0) with
  accessFlags := 1537
  interfaces := #[]
  cf := some (fileOf pool10 2 #[] #[] 1537 4 #[] #[])
  fields := #[]
  methods := #[]
  instanceTypes := #[]
  staticTypes := #[]
  resolved := Array.replicate 8 none
  statics := none }

/-- the primitive byte -/
def k11 : Class := { plain "byte" none with kind := .primitive 'B', accessFlags := 0x411 }
/-- [B -/
def k12 : Class := { plain "[B" (some 0) with kind := .array 11 .byte, interfaces := #[10, 5], accessFlags := 1041 }

/-- the primitive int -/
def k13 : Class := { plain "int" none with kind := .primitive 'I', accessFlags := 0x411 }
/-- [I -/
def k14 : Class := { plain "[I" (some 0) with kind := .array 13 .int, interfaces := #[10, 5], accessFlags := 1041 }

def heap : Heap := #[]
def classes : Array Class := #[k0, k1, k2, k3, k4, k5, k6, k7, k8, k9, k10, k11, k12, k13, k14]
def interned : List (Array UInt16 × Addr) := []
def slotsUsed : Nat := 0
def theMethod : MethodId := ⟨1, 2⟩
def args0 : Array Value := #[.long 5, .long 7, .int 6]
def aboutOver (below : List Frame) : State where
  vm := { classes := classes, interned := interned.toArray }
  heap := heap
  slotsUsed := slotsUsed
  threads := #[{ frames := .invoking theMethod args0 :: below }]
def below0 : List Frame := [.native { method := ⟨0, 0⟩, args := #[] }]
def about1 : State := aboutOver below0
def p0 : Program := .bare "" "" ""
def e0 : Env := launch0.env 0 0 0
theorem w_frames : about1.frames = Frame.invoking theMethod args0 :: below0 := rfl
set_option maxRecDepth 65536 in
theorem w_args : argsFit about1.vm theMethod args0 = true := by decide +kernel
set_option maxRecDepth 65536 in
theorem w_heap : heapFits about1 = true := by decide +kernel
set_option maxRecDepth 65536 in
theorem w_runnable : about1.curStatus? = some .runnable := by decide +kernel
set_option maxRecDepth 65536 in
theorem w_alone : about1.alone = true := by decide +kernel
set_option maxRecDepth 65536 in
theorem w_named : about1.methodNamed? x = some theMethod := by decide +kernel
set_option maxRecDepth 65536 in
theorem w_hears : about1.hears theMethod below0 = true := by decide +kernel
set_option maxRecDepth 65536 in
theorem w_ripe : about1.ripe theMethod args0 below0 = true := by decide +kernel
theorem w_running : about1.status = .running := rfl
set_option maxRecDepth 65536 in
theorem w_room : about1.hasRoom e0.platform room_1 = true :=
  launch0.hasRoom_least _ room_1 (by decide +kernel) (by decide +kernel) (by decide +kernel) (by decide +kernel) (by decide +kernel) (by decide +kernel)
theorem allAtoms_all (ts : List Jvm.Cond) (a : Array Jvm.Value) (st : Jvm.State) : (allAtoms ts).before a st = ts.all (fun c => c.before a st) := by
  induction ts with
  | nil => rfl
  | cons c t ih =>
    show (Jvm.Cond.and c (allAtoms t)).before a st = _
    rw [Jvm.Cond.before_and, ih, List.all_cons]
def words1 : List Jvm.Cond := Jvm.Cond.code x code maxLocals ret :: tables_1
/-- a 'code' word, met by the world's own term for the bytes: nothing is compared byte by byte -/
theorem code_word {y : MethodName} {bytes : ByteArray} {mx : Nat} {rt : Option FieldType} {a : Array Value} {s : State} {m : MethodId} {meth : Method} {c : Code} (h1 : s.methodNamed? y = some m) (h2 : s.vm.method? m = some meth) (h3 : meth.code = some c) (h4 : c.code = bytes)
    (h5 : (c.maxLocals == mx && c.exceptionTable.isEmpty && decide (c.maxStack ≤ mostOperands) && decide (meth.sig.returnType = rt) && !meth.locks && decide (parseMethodDescriptor y.desc = some meth.sig)) = true) : (Jvm.Cond.code y bytes mx rt).before a s = true := by
  simp only [Bool.and_eq_true, beq_iff_eq, Bool.not_eq_true', decide_eq_true_eq] at h5
  obtain ⟨⟨⟨⟨⟨g1, g2⟩, g3⟩, g4⟩, g5⟩, g6⟩ := h5
  simp [Cond.before, Cond.holds, Cond.value, h1, h2, h3, h4, g1, g2, g3, g4, g5, g6]
def isCode : Jvm.Cond → Bool
  | .code _ _ _ _ => true
  | _ => false
theorem all_split {L : List Jvm.Cond} {P : Jvm.Cond → Bool} (h1 : L.all (fun c => isCode c || P c) = true) (h2 : ∀ c ∈ L.filter isCode, P c = true) : L.all P = true := by
  refine List.all_eq_true.mpr fun c hc => ?_
  have h := List.all_eq_true.mp h1 c hc
  rcases Bool.eq_false_or_eq_true (isCode c) with hi | hi
  · exact h2 c (List.mem_filter.mpr ⟨hc, hi⟩)
  · simpa [hi] using h
set_option maxRecDepth 65536 in
theorem w_c0 : (Jvm.Cond.code x code maxLocals ret).before args0 about1 = true := code_word (m := ⟨1, 2⟩) (meth := k1m2) (c := k1c2) (by decide +kernel) rfl rfl rfl (by decide +kernel)
set_option maxRecDepth 65536 in
theorem w_c1 : (Jvm.Cond.code ({ cls := "com/example/crossbook/crossbook/Price", name := "<init>", desc := "(J)V" } : Jvm.MethodName) prog_11_method_1_code (3 : Nat) (Option.none : Option Jvm.ClassFile.FieldType)).before args0 about1 = true := code_word (m := ⟨4, 0⟩) (meth := k4m0) (c := k4c0) (by decide +kernel) rfl rfl rfl (by decide +kernel)
set_option maxRecDepth 65536 in
theorem w_c2 : (Jvm.Cond.code ({ cls := "java/lang/Record", name := "<init>", desc := "()V" } : Jvm.MethodName) jdk_30_method_1_code (1 : Nat) (Option.none : Option Jvm.ClassFile.FieldType)).before args0 about1 = true := code_word (m := ⟨2, 0⟩) (meth := k2m0) (c := k2c0) (by decide +kernel) rfl rfl rfl (by decide +kernel)
set_option maxRecDepth 65536 in
theorem w_c3 : (Jvm.Cond.code ({ cls := "java/lang/Object", name := "<init>", desc := "()V" } : Jvm.MethodName) object_method_1_code (1 : Nat) (Option.none : Option Jvm.ClassFile.FieldType)).before args0 about1 = true := code_word (m := ⟨0, 0⟩) (meth := k0m0) (c := k0c0) (by decide +kernel) rfl rfl rfl (by decide +kernel)
set_option maxRecDepth 65536 in
theorem w_c4 : (Jvm.Cond.code ({ cls := "com/example/crossbook/crossbook/Price", name := "compareTo", desc := "(Lcom/example/crossbook/crossbook/Price;)I" } : Jvm.MethodName) prog_11_method_2_code (2 : Nat) (Option.some Jvm.ClassFile.FieldType.int)).before args0 about1 = true := code_word (m := ⟨4, 1⟩) (meth := k4m1) (c := k4c1) (by decide +kernel) rfl rfl rfl (by decide +kernel)
set_option maxRecDepth 65536 in
theorem w_c5 : (Jvm.Cond.code ({ cls := "java/lang/Long", name := "compare", desc := "(JJ)I" } : Jvm.MethodName) jdk_35_method_42_code (4 : Nat) (Option.some Jvm.ClassFile.FieldType.int)).before args0 about1 = true := code_word (m := ⟨9, 0⟩) (meth := k9m0) (c := k9c0) (by decide +kernel) rfl rfl rfl (by decide +kernel)
set_option maxRecDepth 65536 in
theorem w_c6 : (Jvm.Cond.code ({ cls := "com/example/crossbook/crossbook/PriceCompareToPinLaw", name := "signMatches", desc := "(IJJ)Z" } : Jvm.MethodName) method_2_code (5 : Nat) (Option.some Jvm.ClassFile.FieldType.boolean)).before args0 about1 = true := code_word (m := ⟨1, 1⟩) (meth := k1m1) (c := k1c1) (by decide +kernel) rfl rfl rfl (by decide +kernel)
def codes1 : List Jvm.Cond := [Jvm.Cond.code x code maxLocals ret, Jvm.Cond.code ({ cls := "com/example/crossbook/crossbook/Price", name := "<init>", desc := "(J)V" } : Jvm.MethodName) prog_11_method_1_code (3 : Nat) (Option.none : Option Jvm.ClassFile.FieldType), Jvm.Cond.code ({ cls := "java/lang/Record", name := "<init>", desc := "()V" } : Jvm.MethodName) jdk_30_method_1_code (1 : Nat) (Option.none : Option Jvm.ClassFile.FieldType), Jvm.Cond.code ({ cls := "java/lang/Object", name := "<init>", desc := "()V" } : Jvm.MethodName) object_method_1_code (1 : Nat) (Option.none : Option Jvm.ClassFile.FieldType), Jvm.Cond.code ({ cls := "com/example/crossbook/crossbook/Price", name := "compareTo", desc := "(Lcom/example/crossbook/crossbook/Price;)I" } : Jvm.MethodName) prog_11_method_2_code (2 : Nat) (Option.some Jvm.ClassFile.FieldType.int), Jvm.Cond.code ({ cls := "java/lang/Long", name := "compare", desc := "(JJ)I" } : Jvm.MethodName) jdk_35_method_42_code (4 : Nat) (Option.some Jvm.ClassFile.FieldType.int), Jvm.Cond.code ({ cls := "com/example/crossbook/crossbook/PriceCompareToPinLaw", name := "signMatches", desc := "(IJJ)Z" } : Jvm.MethodName) method_2_code (5 : Nat) (Option.some Jvm.ClassFile.FieldType.boolean)]
set_option maxRecDepth 65536 in
theorem codes_eq : words1.filter isCode = codes1 := rfl
theorem w_codes : ∀ c ∈ words1.filter isCode, c.before args0 about1 = true := by
  rw [codes_eq]
  intro c hc
  simp only [codes1, List.mem_cons, List.not_mem_nil, or_false] at hc
  rcases hc with rfl | rfl | rfl | rfl | rfl | rfl | rfl
  · exact w_c0
  · exact w_c1
  · exact w_c2
  · exact w_c3
  · exact w_c4
  · exact w_c5
  · exact w_c6
set_option maxRecDepth 65536 in
theorem w_t1 : (words1.take 24).all (fun c => isCode c || c.before args0 about1) = true := by decide +kernel
set_option maxRecDepth 65536 in
theorem w_t2 : (words1.drop 24).all (fun c => isCode c || c.before args0 about1) = true := by decide +kernel
theorem w_tables : (allAtoms (Jvm.Cond.code x code maxLocals ret :: tables_1)).before args0 about1 = true := by
  rw [allAtoms_all]
  show words1.all (fun c => c.before args0 about1) = true
  refine all_split ?_ w_codes
  rw [← List.take_append_drop 24 words1, List.all_append, w_t1, w_t2]
  rfl
set_option maxRecDepth 65536 in
theorem w_case : (Jvm.Cond.and given_1 narrow_1).before args0 about1 = true := by decide +kernel
theorem w_applies : (headSpec (Jvm.Cond.code x code maxLocals ret :: tables_1) room_1).applies x e0.platform about1 = true :=
  (Spec.applies_iff w_frames).mpr ⟨w_running, w_runnable, w_alone, w_named, w_hears, w_ripe, w_room, w_tables⟩
theorem atStart : AtStart classFile x code maxLocals ret World_1 tables_1 room_1 Calls_1 rest_1 Pre_1 launch0 p0 e0 about1 theMethod args0 below0 :=
  ⟨lists_1, trivial, launch0.admits_env _ _ _, launch0.least_env, fairChoices_fair.cas, fairChoices_fair.clock, w_frames, w_args, w_heap, w_applies, trivial, trivial, w_case⟩
end start1
theorem witness_1 : WitnessClaimed_1 := ⟨start1.p0, start1.e0, start1.about1, start1.theMethod, start1.args0, start1.below0, start1.atStart⟩
end Jvm.Pilot.@@N@@
