import JvmDerived
import JvmDerived.Pilot.@@N@@Statement
import JvmDerived.Pilot.@@N@@Code
set_option linter.unusedVariables false
set_option linter.unusedSimpArgs false
@@BLOCK:NumsL.lean.txt@@
namespace Jvm.OwnGo
open Jvm Jvm.ClassFile Sem Op Lib Jvm.Free Jvm.Stand Jvm.LawKit Jvm.RoadKit
/-- from T with the frame g on top the run comes to an end of which En holds -/
def Go (p : Program) (e : Env) (below : List Frame) (En : State → Outcome → Prop) (T : State) (g : JFrame) : Prop :=
  ∃ t o, Steps p.tables e below (T.setTop g) t ∧ t.status = .running ∧ Ended t below o ∧ En t o
/-- it has returned; the value, the heap and the written places meet Q; at most C cells and S slots were made since s -/
def EndN (s : State) (Q : Option Value → Heap → List Loc → Prop) (C S : Nat) : State → Outcome → Prop := fun t o => ∃ v L, o = .returned v ∧ Q v t.heap L ∧ FrameEnd s o t L C S
/-- what a callee's own walk promises -/
def Con (l : Launch) (Z : State) (y : MethodName) (bytes : ByteArray) (maxL : Nat) (ret : Option FieldType) (rm : Room) (as : List Value) (h : Heap) (Q : Option Value → Heap → List Loc → Prop) : Prop :=
  ∀ ws : List Jvm.Cond, MetFree l y (head1 (Jvm.Cond.code y bytes maxL ret :: ws) rm) (fun a U => a = as.toArray ∧ Z.Warmed39 U.vm ∧ U.heap = h) (fun _ _ _ _ _ => True) (fun _ U o U' => ∃ v L, o = .returned v ∧ Q v U'.heap L ∧ FrameEnd U o U' L rm.cells rm.slots)
/-- it returns r and leaves the heap as it was -/
def Ret (r : Option Value) (h : Heap) : Option Value → Heap → List Loc → Prop := fun v h' L => v = r ∧ h' = h ∧ L = []
section Own
variable {p : Program} {l : Launch} {e : Env} {R : Room} {s : State} {m : MethodId} {args : Array Value} {below : List Frame} {meth : Method} {c : Code} {T : State} {locs : List Loc} {cells slots : Nat} {Z : State} {a0 : Array Value} {h : Heap} {Q : Option Value → Heap → List Loc → Prop} {C S : Nat} {En : State → Outcome → Prop} {pc : Nat} {Ls : Array Slot} {st : List Value}
theorem Go.of {T' : State} {g g' : JFrame} (k : ∀ t, Steps p.tables e below (T'.setTop g') t → Steps p.tables e below (T.setTop g) t) (r : Go p e below En T' g') : Go p e below En T g := by
  obtain ⟨t, o, h1, r⟩ := r
  exact ⟨t, o, k t h1, r⟩
theorem Con.of {y : MethodName} {bytes : ByteArray} {maxL : Nat} {ret : Option FieldType} {rm : Room} {as : List Value} {Ls0 : Array Slot} (hp : plainFor y = true) (ef : ∀ m, entryFrame m as.toArray maxL = mkF m 0 Ls0 [])
    (body : ∀ (p : Program) (e : Env) (s : State) (m : MethodId) (below : List Frame) (meth : Method) (c : Code) (T : State), Stand p l e rm s m as.toArray below meth c T [] 0 0 → p.tables.exec = Jvm.exec → Z.Warmed39 s.vm → c.code = bytes → c.maxLocals = maxL → s.vm.findClass y.cls = some m.cls → meth.name = y.name → meth.sig.returnType = ret → meth.locks = false → T.heap = h → Go p e below (EndN s Q rm.cells rm.slots) T (mkF m 0 Ls0 [])) :
    Con l Z y bytes maxL ret rm as h Q := by
  intro ws
  refine MetFree.of_bodySF hp hisR ?_
  intro p e s m args below meth c s₁ Bd hml0 hP hK
  obtain ⟨rfl, hZ, hh⟩ := hP
  have X0 : Stand p l e rm s m as.toArray below meth c s₁ [] 0 0 := Stand.of_body Bd
  have e0 : s₁.heap = h := by rw [← hh, Bd.state]; rfl
  obtain ⟨t, o, h1, r⟩ := body p e s m below meth c s₁ X0 Bd.exec hZ Bd.bytes hml0 (findClass_of_methodNamed Bd.named) (name_of_methodNamed Bd.named Bd.method).1 Bd.returns Bd.notSynchronized e0
  exact ⟨t, o, castTop (ef m) h1, r⟩
theorem iloadN (X : Stand p l e R s m args below meth c T locs cells slots) (hx : p.tables.exec = Jvm.exec) {k : Fin 4} {v : Int32} (hd : decode c.code pc = .ok (.iload_n k, 1)) (hl : Ls[k.val]? = some (.val (.int v))) (r : Go p e below En T (mkF m (pc + 1) Ls (.int v :: st))) : Go p e below En T (mkF m pc Ls st) :=
  Go.of (fun t k => XS.iloadN (g := mkF m pc Ls st) X.here hx rfl hd hl k) r
theorem lloadN (X : Stand p l e R s m args below meth c T locs cells slots) (hx : p.tables.exec = Jvm.exec) {k : Fin 4} {v : Int64} (hd : decode c.code pc = .ok (.lload_n k, 1)) (hl : Ls[k.val]? = some (.val (.long v))) (r : Go p e below En T (mkF m (pc + 1) Ls (.long v :: st))) : Go p e below En T (mkF m pc Ls st) :=
  Go.of (fun t k => XS.lloadN (g := mkF m pc Ls st) X.here hx rfl hd hl k) r
theorem aloadN (X : Stand p l e R s m args below meth c T locs cells slots) (hx : p.tables.exec = Jvm.exec) {k : Fin 4} {v : Value} (hd : decode c.code pc = .ok (.aload_n k, 1)) (hl : Ls[k.val]? = some (.val v)) (hv : v.isRef = true) (r : Go p e below En T (mkF m (pc + 1) Ls (v :: st))) : Go p e below En T (mkF m pc Ls st) :=
  Go.of (fun t k => XS.aloadN (g := mkF m pc Ls st) X.here hx rfl hd hl hv k) r
theorem istoreN (X : Stand p l e R s m args below meth c T locs cells slots) (hx : p.tables.exec = Jvm.exec) {k : Fin 4} {v : Int32} {Ls' : Array Slot} (hd : decode c.code pc = .ok (.istore_n k, 1)) (hl : storeLocals Ls k.val (.int v) = some Ls') (r : Go p e below En T (mkF m (pc + 1) Ls' st)) : Go p e below En T (mkF m pc Ls (.int v :: st)) :=
  Go.of (fun t k => XS.istoreN (g := mkF m pc Ls (.int v :: st)) X.here hx rfl hd rfl hl k) r
theorem lstoreN (X : Stand p l e R s m args below meth c T locs cells slots) (hx : p.tables.exec = Jvm.exec) {k : Fin 4} {v : Int64} {Ls' : Array Slot} (hd : decode c.code pc = .ok (.lstore_n k, 1)) (hl : storeLocals Ls k.val (.long v) = some Ls') (r : Go p e below En T (mkF m (pc + 1) Ls' st)) : Go p e below En T (mkF m pc Ls (.long v :: st)) :=
  Go.of (fun t k => XS.lstoreN (g := mkF m pc Ls (.long v :: st)) X.here hx rfl hd rfl hl k) r
theorem astoreN (X : Stand p l e R s m args below meth c T locs cells slots) (hx : p.tables.exec = Jvm.exec) {k : Fin 4} {v : Value} {Ls' : Array Slot} (hd : decode c.code pc = .ok (.astore_n k, 1)) (hv : v.isRef = true) (hl : storeLocals Ls k.val v = some Ls') (r : Go p e below En T (mkF m (pc + 1) Ls' st)) : Go p e below En T (mkF m pc Ls (v :: st)) :=
  Go.of (fun t k => XS.astoreN (g := mkF m pc Ls (v :: st)) X.here hx rfl hd rfl hv hl k) r
theorem iload (X : Stand p l e R s m args below meth c T locs cells slots) (hx : p.tables.exec = Jvm.exec) {k : Nat} {v : Int32} (hd : decode c.code pc = .ok (.iload k, 2)) (hl : Ls[k]? = some (.val (.int v))) (r : Go p e below En T (mkF m (pc + 2) Ls (.int v :: st))) : Go p e below En T (mkF m pc Ls st) :=
  Go.of (fun t k => XS.iload (g := mkF m pc Ls st) X.here hx rfl hd hl k) r
theorem lload (X : Stand p l e R s m args below meth c T locs cells slots) (hx : p.tables.exec = Jvm.exec) {k : Nat} {v : Int64} (hd : decode c.code pc = .ok (.lload k, 2)) (hl : Ls[k]? = some (.val (.long v))) (r : Go p e below En T (mkF m (pc + 2) Ls (.long v :: st))) : Go p e below En T (mkF m pc Ls st) :=
  Go.of (fun t k => XS.lload (g := mkF m pc Ls st) X.here hx rfl hd hl k) r
theorem aload (X : Stand p l e R s m args below meth c T locs cells slots) (hx : p.tables.exec = Jvm.exec) {k : Nat} {v : Value} (hd : decode c.code pc = .ok (.aload k, 2)) (hl : Ls[k]? = some (.val v)) (hv : v.isRef = true) (r : Go p e below En T (mkF m (pc + 2) Ls (v :: st))) : Go p e below En T (mkF m pc Ls st) :=
  Go.of (fun t k => XS.aload (g := mkF m pc Ls st) X.here hx rfl hd hl hv k) r
theorem istore (X : Stand p l e R s m args below meth c T locs cells slots) (hx : p.tables.exec = Jvm.exec) {k : Nat} {v : Int32} {Ls' : Array Slot} (hd : decode c.code pc = .ok (.istore k, 2)) (hl : storeLocals Ls k (.int v) = some Ls') (r : Go p e below En T (mkF m (pc + 2) Ls' st)) : Go p e below En T (mkF m pc Ls (.int v :: st)) :=
  Go.of (fun t k => XS.istore (g := mkF m pc Ls (.int v :: st)) X.here hx rfl hd rfl hl k) r
theorem lstore (X : Stand p l e R s m args below meth c T locs cells slots) (hx : p.tables.exec = Jvm.exec) {k : Nat} {v : Int64} {Ls' : Array Slot} (hd : decode c.code pc = .ok (.lstore k, 2)) (hl : storeLocals Ls k (.long v) = some Ls') (r : Go p e below En T (mkF m (pc + 2) Ls' st)) : Go p e below En T (mkF m pc Ls (.long v :: st)) :=
  Go.of (fun t k => XS.lstore (g := mkF m pc Ls (.long v :: st)) X.here hx rfl hd rfl hl k) r
theorem astore (X : Stand p l e R s m args below meth c T locs cells slots) (hx : p.tables.exec = Jvm.exec) {k : Nat} {v : Value} {Ls' : Array Slot} (hd : decode c.code pc = .ok (.astore k, 2)) (hv : v.isRef = true) (hl : storeLocals Ls k v = some Ls') (r : Go p e below En T (mkF m (pc + 2) Ls' st)) : Go p e below En T (mkF m pc Ls (v :: st)) :=
  Go.of (fun t k => XS.astore (g := mkF m pc Ls (v :: st)) X.here hx rfl hd rfl hv hl k) r
theorem iconst (X : Stand p l e R s m args below meth c T locs cells slots) (hx : p.tables.exec = Jvm.exec) {i : Int} {z : Int32} (hd : decode c.code pc = .ok (.iconst i, 1)) (hz : Int32.ofInt i = z) (r : Go p e below En T (mkF m (pc + 1) Ls (.int z :: st))) : Go p e below En T (mkF m pc Ls st) :=
  Go.of (fun t k => XS.iconst (g := mkF m pc Ls st) X.here hx rfl hd (by rw [hz]; exact k)) r
theorem bipush (X : Stand p l e R s m args below meth c T locs cells slots) (hx : p.tables.exec = Jvm.exec) {i : Int} {z : Int32} (hd : decode c.code pc = .ok (.bipush i, 2)) (hz : (Int8.ofInt i).toInt32 = z) (r : Go p e below En T (mkF m (pc + 2) Ls (.int z :: st))) : Go p e below En T (mkF m pc Ls st) :=
  Go.of (fun t k => XS.bipush (g := mkF m pc Ls st) X.here hx rfl hd (by rw [hz]; exact k)) r
theorem sipush (X : Stand p l e R s m args below meth c T locs cells slots) (hx : p.tables.exec = Jvm.exec) {i : Int} {z : Int32} (hd : decode c.code pc = .ok (.sipush i, 3)) (hz : (Int16.ofInt i).toInt32 = z) (r : Go p e below En T (mkF m (pc + 3) Ls (.int z :: st))) : Go p e below En T (mkF m pc Ls st) :=
  Go.of (fun t k => XS.sipush (g := mkF m pc Ls st) X.here hx rfl hd (by rw [hz]; exact k)) r
theorem lconst (X : Stand p l e R s m args below meth c T locs cells slots) (hx : p.tables.exec = Jvm.exec) {i : Fin 2} {v : Int64} (hd : decode c.code pc = .ok (.lconst i, 1)) (hv : Int64.ofNat i.val = v) (r : Go p e below En T (mkF m (pc + 1) Ls (.long v :: st))) : Go p e below En T (mkF m pc Ls st) :=
  Go.of (fun t k => XS.lconst (g := mkF m pc Ls st) X.here hx rfl hd (by rw [hv]; exact k)) r
theorem aconstNull (X : Stand p l e R s m args below meth c T locs cells slots) (hx : p.tables.exec = Jvm.exec)  (hd : decode c.code pc = .ok (.aconst_null, 1))  (r : Go p e below En T (mkF m (pc + 1) Ls (.null :: st))) : Go p e below En T (mkF m pc Ls st) :=
  Go.of (fun t k => XS.aconstNull (g := mkF m pc Ls st) X.here hx rfl hd k) r
theorem iadd (X : Stand p l e R s m args below meth c T locs cells slots) (hx : p.tables.exec = Jvm.exec) {x y z : Int32} (hd : decode c.code pc = .ok (.iadd, 1)) (hz : x + y = z) (r : Go p e below En T (mkF m (pc + 1) Ls (.int z :: st))) : Go p e below En T (mkF m pc Ls (.int y :: .int x :: st)) :=
  Go.of (fun t k => XS.iadd (g := mkF m pc Ls (.int y :: .int x :: st)) X.here hx rfl hd rfl (by rw [hz]; exact k)) r
theorem isub (X : Stand p l e R s m args below meth c T locs cells slots) (hx : p.tables.exec = Jvm.exec) {x y z : Int32} (hd : decode c.code pc = .ok (.isub, 1)) (hz : x - y = z) (r : Go p e below En T (mkF m (pc + 1) Ls (.int z :: st))) : Go p e below En T (mkF m pc Ls (.int y :: .int x :: st)) :=
  Go.of (fun t k => XS.isub (g := mkF m pc Ls (.int y :: .int x :: st)) X.here hx rfl hd rfl (by rw [hz]; exact k)) r
theorem imul (X : Stand p l e R s m args below meth c T locs cells slots) (hx : p.tables.exec = Jvm.exec) {x y z : Int32} (hd : decode c.code pc = .ok (.imul, 1)) (hz : x * y = z) (r : Go p e below En T (mkF m (pc + 1) Ls (.int z :: st))) : Go p e below En T (mkF m pc Ls (.int y :: .int x :: st)) :=
  Go.of (fun t k => XS.imul (g := mkF m pc Ls (.int y :: .int x :: st)) X.here hx rfl hd rfl (by rw [hz]; exact k)) r
theorem iand (X : Stand p l e R s m args below meth c T locs cells slots) (hx : p.tables.exec = Jvm.exec) {x y z : Int32} (hd : decode c.code pc = .ok (.iand, 1)) (hz : x &&& y = z) (r : Go p e below En T (mkF m (pc + 1) Ls (.int z :: st))) : Go p e below En T (mkF m pc Ls (.int y :: .int x :: st)) :=
  Go.of (fun t k => XS.iand (g := mkF m pc Ls (.int y :: .int x :: st)) X.here hx rfl hd rfl (by rw [hz]; exact k)) r
theorem ior (X : Stand p l e R s m args below meth c T locs cells slots) (hx : p.tables.exec = Jvm.exec) {x y z : Int32} (hd : decode c.code pc = .ok (.ior, 1)) (hz : x ||| y = z) (r : Go p e below En T (mkF m (pc + 1) Ls (.int z :: st))) : Go p e below En T (mkF m pc Ls (.int y :: .int x :: st)) :=
  Go.of (fun t k => XS.ior (g := mkF m pc Ls (.int y :: .int x :: st)) X.here hx rfl hd rfl (by rw [hz]; exact k)) r
theorem ixor (X : Stand p l e R s m args below meth c T locs cells slots) (hx : p.tables.exec = Jvm.exec) {x y z : Int32} (hd : decode c.code pc = .ok (.ixor, 1)) (hz : x ^^^ y = z) (r : Go p e below En T (mkF m (pc + 1) Ls (.int z :: st))) : Go p e below En T (mkF m pc Ls (.int y :: .int x :: st)) :=
  Go.of (fun t k => XS.ixor (g := mkF m pc Ls (.int y :: .int x :: st)) X.here hx rfl hd rfl (by rw [hz]; exact k)) r
theorem ladd (X : Stand p l e R s m args below meth c T locs cells slots) (hx : p.tables.exec = Jvm.exec) {x y z : Int64} (hd : decode c.code pc = .ok (.ladd, 1)) (hz : x + y = z) (r : Go p e below En T (mkF m (pc + 1) Ls (.long z :: st))) : Go p e below En T (mkF m pc Ls (.long y :: .long x :: st)) :=
  Go.of (fun t k => XS.ladd (g := mkF m pc Ls (.long y :: .long x :: st)) X.here hx rfl hd rfl (by rw [hz]; exact k)) r
theorem lsub (X : Stand p l e R s m args below meth c T locs cells slots) (hx : p.tables.exec = Jvm.exec) {x y z : Int64} (hd : decode c.code pc = .ok (.lsub, 1)) (hz : x - y = z) (r : Go p e below En T (mkF m (pc + 1) Ls (.long z :: st))) : Go p e below En T (mkF m pc Ls (.long y :: .long x :: st)) :=
  Go.of (fun t k => XS.lsub (g := mkF m pc Ls (.long y :: .long x :: st)) X.here hx rfl hd rfl (by rw [hz]; exact k)) r
theorem lmul (X : Stand p l e R s m args below meth c T locs cells slots) (hx : p.tables.exec = Jvm.exec) {x y z : Int64} (hd : decode c.code pc = .ok (.lmul, 1)) (hz : x * y = z) (r : Go p e below En T (mkF m (pc + 1) Ls (.long z :: st))) : Go p e below En T (mkF m pc Ls (.long y :: .long x :: st)) :=
  Go.of (fun t k => XS.lmul (g := mkF m pc Ls (.long y :: .long x :: st)) X.here hx rfl hd rfl (by rw [hz]; exact k)) r
theorem land (X : Stand p l e R s m args below meth c T locs cells slots) (hx : p.tables.exec = Jvm.exec) {x y z : Int64} (hd : decode c.code pc = .ok (.land, 1)) (hz : x &&& y = z) (r : Go p e below En T (mkF m (pc + 1) Ls (.long z :: st))) : Go p e below En T (mkF m pc Ls (.long y :: .long x :: st)) :=
  Go.of (fun t k => XS.land (g := mkF m pc Ls (.long y :: .long x :: st)) X.here hx rfl hd rfl (by rw [hz]; exact k)) r
theorem lor (X : Stand p l e R s m args below meth c T locs cells slots) (hx : p.tables.exec = Jvm.exec) {x y z : Int64} (hd : decode c.code pc = .ok (.lor, 1)) (hz : x ||| y = z) (r : Go p e below En T (mkF m (pc + 1) Ls (.long z :: st))) : Go p e below En T (mkF m pc Ls (.long y :: .long x :: st)) :=
  Go.of (fun t k => XS.lor (g := mkF m pc Ls (.long y :: .long x :: st)) X.here hx rfl hd rfl (by rw [hz]; exact k)) r
theorem lxor (X : Stand p l e R s m args below meth c T locs cells slots) (hx : p.tables.exec = Jvm.exec) {x y z : Int64} (hd : decode c.code pc = .ok (.lxor, 1)) (hz : x ^^^ y = z) (r : Go p e below En T (mkF m (pc + 1) Ls (.long z :: st))) : Go p e below En T (mkF m pc Ls (.long y :: .long x :: st)) :=
  Go.of (fun t k => XS.lxor (g := mkF m pc Ls (.long y :: .long x :: st)) X.here hx rfl hd rfl (by rw [hz]; exact k)) r
theorem iushr (X : Stand p l e R s m args below meth c T locs cells slots) (hx : p.tables.exec = Jvm.exec) {x y z : Int32} (hd : decode c.code pc = .ok (.iushr, 1)) (hz : ((x.toUInt32 >>> (y &&& 31).toUInt32).toInt32) = z) (r : Go p e below En T (mkF m (pc + 1) Ls (.int z :: st))) : Go p e below En T (mkF m pc Ls (.int y :: .int x :: st)) :=
  Go.of (fun t k => XS.iushr (g := mkF m pc Ls (.int y :: .int x :: st)) X.here hx rfl hd rfl (by rw [hz]; exact k)) r
theorem ishr (X : Stand p l e R s m args below meth c T locs cells slots) (hx : p.tables.exec = Jvm.exec) {x y z : Int32} (hd : decode c.code pc = .ok (.ishr, 1)) (hz : (x >>> (y &&& 31)) = z) (r : Go p e below En T (mkF m (pc + 1) Ls (.int z :: st))) : Go p e below En T (mkF m pc Ls (.int y :: .int x :: st)) :=
  Go.of (fun t k => XS.ishr (g := mkF m pc Ls (.int y :: .int x :: st)) X.here hx rfl hd rfl (by rw [hz]; exact k)) r
theorem ishl (X : Stand p l e R s m args below meth c T locs cells slots) (hx : p.tables.exec = Jvm.exec) {x y z : Int32} (hd : decode c.code pc = .ok (.ishl, 1)) (hz : (x <<< (y &&& 31)) = z) (r : Go p e below En T (mkF m (pc + 1) Ls (.int z :: st))) : Go p e below En T (mkF m pc Ls (.int y :: .int x :: st)) :=
  Go.of (fun t k => XS.ishl (g := mkF m pc Ls (.int y :: .int x :: st)) X.here hx rfl hd rfl (by rw [hz]; exact k)) r
theorem irem (X : Stand p l e R s m args below meth c T locs cells slots) (hx : p.tables.exec = Jvm.exec) {x y z : Int32} (hd : decode c.code pc = .ok (.irem, 1)) (hy : y ≠ 0) (hz : x % y = z) (r : Go p e below En T (mkF m (pc + 1) Ls (.int z :: st))) : Go p e below En T (mkF m pc Ls (.int y :: .int x :: st)) :=
  Go.of (fun t k => iremM (g := mkF m pc Ls (.int y :: .int x :: st)) X hx rfl hd rfl hy (by rw [hz]; exact k)) r
theorem i2l (X : Stand p l e R s m args below meth c T locs cells slots) (hx : p.tables.exec = Jvm.exec) {x : Int32} {z : Int64} (hd : decode c.code pc = .ok (.i2l, 1)) (hz : x.toInt64 = z) (r : Go p e below En T (mkF m (pc + 1) Ls (.long z :: st))) : Go p e below En T (mkF m pc Ls (.int x :: st)) :=
  Go.of (fun t k => XS.i2l (g := mkF m pc Ls (.int x :: st)) X.here hx rfl hd rfl (by rw [hz]; exact k)) r
theorem l2i (X : Stand p l e R s m args below meth c T locs cells slots) (hx : p.tables.exec = Jvm.exec) {x : Int64} {z : Int32} (hd : decode c.code pc = .ok (.l2i, 1)) (hz : x.toInt32 = z) (r : Go p e below En T (mkF m (pc + 1) Ls (.int z :: st))) : Go p e below En T (mkF m pc Ls (.long x :: st)) :=
  Go.of (fun t k => XS.l2i (g := mkF m pc Ls (.long x :: st)) X.here hx rfl hd rfl (by rw [hz]; exact k)) r
theorem i2c (X : Stand p l e R s m args below meth c T locs cells slots) (hx : p.tables.exec = Jvm.exec) {x : Int32} {z : Int32} (hd : decode c.code pc = .ok (.i2c, 1)) (hz : (x.toUInt32.toUInt16.toUInt32.toInt32) = z) (r : Go p e below En T (mkF m (pc + 1) Ls (.int z :: st))) : Go p e below En T (mkF m pc Ls (.int x :: st)) :=
  Go.of (fun t k => XS.i2c (g := mkF m pc Ls (.int x :: st)) X.here hx rfl hd rfl (by rw [hz]; exact k)) r
theorem i2b (X : Stand p l e R s m args below meth c T locs cells slots) (hx : p.tables.exec = Jvm.exec) {x : Int32} {z : Int32} (hd : decode c.code pc = .ok (.i2b, 1)) (hz : (x.toInt8.toInt32) = z) (r : Go p e below En T (mkF m (pc + 1) Ls (.int z :: st))) : Go p e below En T (mkF m pc Ls (.int x :: st)) :=
  Go.of (fun t k => XS.i2b (g := mkF m pc Ls (.int x :: st)) X.here hx rfl hd rfl (by rw [hz]; exact k)) r
theorem dup (X : Stand p l e R s m args below meth c T locs cells slots) (hx : p.tables.exec = Jvm.exec) {v : Value} (hd : decode c.code pc = .ok (.dup, 1)) (hc : v.category = 1) (r : Go p e below En T (mkF m (pc + 1) Ls (v :: v :: st))) : Go p e below En T (mkF m pc Ls (v :: st)) :=
  Go.of (fun t k => XS.dup (g := mkF m pc Ls (v :: st)) X.here hx rfl hd rfl hc k) r
theorem pop (X : Stand p l e R s m args below meth c T locs cells slots) (hx : p.tables.exec = Jvm.exec) {v : Value} (hd : decode c.code pc = .ok (.pop, 1)) (hc : v.category = 1) (r : Go p e below En T (mkF m (pc + 1) Ls st)) : Go p e below En T (mkF m pc Ls (v :: st)) :=
  Go.of (fun t k => XS.pop (g := mkF m pc Ls (v :: st)) X.here hx rfl hd rfl hc k) r
theorem iinc (X : Stand p l e R s m args below meth c T locs cells slots) (hx : p.tables.exec = Jvm.exec) {k : Nat} {i : Int} {v z : Int32} {Ls' : Array Slot} (hd : decode c.code pc = .ok (.iinc k i, 3)) (hl : Ls[k]? = some (.val (.int v))) (hz : v + Int32.ofInt i = z) (hl' : storeLocals Ls k (.int z) = some Ls') (r : Go p e below En T (mkF m (pc + 3) Ls' st)) : Go p e below En T (mkF m pc Ls st) :=
  Go.of (fun t k => XS.iinc (g := mkF m pc Ls st) X.here hx rfl hd hl (by rw [hz]; exact hl') k) r
theorem goto (X : Stand p l e R s m args below meth c T locs cells slots) (hx : p.tables.exec = Jvm.exec) {o : Int} {pc' : Nat} (hd : decode c.code pc = .ok (.goto o, 3)) (ho : 0 ≤ (pc : Int) + o) (hp : ((pc : Int) + o).toNat = pc') (r : Go p e below En T (mkF m pc' Ls st)) : Go p e below En T (mkF m pc Ls st) :=
  Go.of (fun t k => XS.goto (g := mkF m pc Ls st) X.here hx rfl rfl hd ho hp k) r
theorem ic_eq (X : Stand p l e R s m args below meth c T locs cells slots) (hx : p.tables.exec = Jvm.exec) {o : Int} {pc' : Nat} {x y : Int32} (hd : decode c.code pc = .ok (.if_icmp .eq o, 3)) (ho : 0 ≤ (pc : Int) + o) (hp : ((pc : Int) + o).toNat = pc') (yes : x = y → Go p e below En T (mkF m pc' Ls st)) (no : ¬ (x = y) → Go p e below En T (mkF m (pc + 3) Ls st)) : Go p e below En T (mkF m pc Ls (.int y :: .int x :: st)) := by
  by_cases q : x = y
  · exact Go.of (fun t k => XS.icmpYes (g := mkF m pc Ls (.int y :: .int x :: st)) X.here hx rfl rfl hd rfl (teq q).1 ho hp k) (yes q)
  · exact Go.of (fun t k => XS.icmpNo (g := mkF m pc Ls (.int y :: .int x :: st)) X.here hx rfl hd rfl (feq q).1 k) (no q)
theorem if_eq (X : Stand p l e R s m args below meth c T locs cells slots) (hx : p.tables.exec = Jvm.exec) {o : Int} {pc' : Nat} {x : Int32} (hd : decode c.code pc = .ok (.ifCond .eq o, 3)) (ho : 0 ≤ (pc : Int) + o) (hp : ((pc : Int) + o).toNat = pc') (yes : x = 0 → Go p e below En T (mkF m pc' Ls st)) (no : ¬ (x = 0) → Go p e below En T (mkF m (pc + 3) Ls st)) : Go p e below En T (mkF m pc Ls (.int x :: st)) := by
  by_cases q : x = 0
  · exact Go.of (fun t k => XS.ifYes (g := mkF m pc Ls (.int x :: st)) X.here hx rfl rfl hd rfl ((if0 _ _).trans (teq q).1) ho hp k) (yes q)
  · exact Go.of (fun t k => XS.ifNo (g := mkF m pc Ls (.int x :: st)) X.here hx rfl hd rfl ((if0 _ _).trans (feq q).1) k) (no q)
theorem ic_ne (X : Stand p l e R s m args below meth c T locs cells slots) (hx : p.tables.exec = Jvm.exec) {o : Int} {pc' : Nat} {x y : Int32} (hd : decode c.code pc = .ok (.if_icmp .ne o, 3)) (ho : 0 ≤ (pc : Int) + o) (hp : ((pc : Int) + o).toNat = pc') (yes : ¬ (x = y) → Go p e below En T (mkF m pc' Ls st)) (no : x = y → Go p e below En T (mkF m (pc + 3) Ls st)) : Go p e below En T (mkF m pc Ls (.int y :: .int x :: st)) := by
  by_cases q : x = y
  · exact Go.of (fun t k => XS.icmpNo (g := mkF m pc Ls (.int y :: .int x :: st)) X.here hx rfl hd rfl (teq q).2 k) (no q)
  · exact Go.of (fun t k => XS.icmpYes (g := mkF m pc Ls (.int y :: .int x :: st)) X.here hx rfl rfl hd rfl (feq q).2 ho hp k) (yes q)
theorem if_ne (X : Stand p l e R s m args below meth c T locs cells slots) (hx : p.tables.exec = Jvm.exec) {o : Int} {pc' : Nat} {x : Int32} (hd : decode c.code pc = .ok (.ifCond .ne o, 3)) (ho : 0 ≤ (pc : Int) + o) (hp : ((pc : Int) + o).toNat = pc') (yes : ¬ (x = 0) → Go p e below En T (mkF m pc' Ls st)) (no : x = 0 → Go p e below En T (mkF m (pc + 3) Ls st)) : Go p e below En T (mkF m pc Ls (.int x :: st)) := by
  by_cases q : x = 0
  · exact Go.of (fun t k => XS.ifNo (g := mkF m pc Ls (.int x :: st)) X.here hx rfl hd rfl ((if0 _ _).trans (teq q).2) k) (no q)
  · exact Go.of (fun t k => XS.ifYes (g := mkF m pc Ls (.int x :: st)) X.here hx rfl rfl hd rfl ((if0 _ _).trans (feq q).2) ho hp k) (yes q)
theorem ic_lt (X : Stand p l e R s m args below meth c T locs cells slots) (hx : p.tables.exec = Jvm.exec) {o : Int} {pc' : Nat} {x y : Int32} (hd : decode c.code pc = .ok (.if_icmp .lt o, 3)) (ho : 0 ≤ (pc : Int) + o) (hp : ((pc : Int) + o).toNat = pc') (yes : x < y → Go p e below En T (mkF m pc' Ls st)) (no : ¬ (x < y) → Go p e below En T (mkF m (pc + 3) Ls st)) : Go p e below En T (mkF m pc Ls (.int y :: .int x :: st)) := by
  by_cases q : x < y
  · exact Go.of (fun t k => XS.icmpYes (g := mkF m pc Ls (.int y :: .int x :: st)) X.here hx rfl rfl hd rfl (tlt q).1 ho hp k) (yes q)
  · exact Go.of (fun t k => XS.icmpNo (g := mkF m pc Ls (.int y :: .int x :: st)) X.here hx rfl hd rfl (flt q).1 k) (no q)
theorem if_lt (X : Stand p l e R s m args below meth c T locs cells slots) (hx : p.tables.exec = Jvm.exec) {o : Int} {pc' : Nat} {x : Int32} (hd : decode c.code pc = .ok (.ifCond .lt o, 3)) (ho : 0 ≤ (pc : Int) + o) (hp : ((pc : Int) + o).toNat = pc') (yes : x < 0 → Go p e below En T (mkF m pc' Ls st)) (no : ¬ (x < 0) → Go p e below En T (mkF m (pc + 3) Ls st)) : Go p e below En T (mkF m pc Ls (.int x :: st)) := by
  by_cases q : x < 0
  · exact Go.of (fun t k => XS.ifYes (g := mkF m pc Ls (.int x :: st)) X.here hx rfl rfl hd rfl ((if0 _ _).trans (tlt q).1) ho hp k) (yes q)
  · exact Go.of (fun t k => XS.ifNo (g := mkF m pc Ls (.int x :: st)) X.here hx rfl hd rfl ((if0 _ _).trans (flt q).1) k) (no q)
theorem ic_ge (X : Stand p l e R s m args below meth c T locs cells slots) (hx : p.tables.exec = Jvm.exec) {o : Int} {pc' : Nat} {x y : Int32} (hd : decode c.code pc = .ok (.if_icmp .ge o, 3)) (ho : 0 ≤ (pc : Int) + o) (hp : ((pc : Int) + o).toNat = pc') (yes : ¬ (x < y) → Go p e below En T (mkF m pc' Ls st)) (no : x < y → Go p e below En T (mkF m (pc + 3) Ls st)) : Go p e below En T (mkF m pc Ls (.int y :: .int x :: st)) := by
  by_cases q : x < y
  · exact Go.of (fun t k => XS.icmpNo (g := mkF m pc Ls (.int y :: .int x :: st)) X.here hx rfl hd rfl (tlt q).2.1 k) (no q)
  · exact Go.of (fun t k => XS.icmpYes (g := mkF m pc Ls (.int y :: .int x :: st)) X.here hx rfl rfl hd rfl (flt q).2.1 ho hp k) (yes q)
theorem if_ge (X : Stand p l e R s m args below meth c T locs cells slots) (hx : p.tables.exec = Jvm.exec) {o : Int} {pc' : Nat} {x : Int32} (hd : decode c.code pc = .ok (.ifCond .ge o, 3)) (ho : 0 ≤ (pc : Int) + o) (hp : ((pc : Int) + o).toNat = pc') (yes : ¬ (x < 0) → Go p e below En T (mkF m pc' Ls st)) (no : x < 0 → Go p e below En T (mkF m (pc + 3) Ls st)) : Go p e below En T (mkF m pc Ls (.int x :: st)) := by
  by_cases q : x < 0
  · exact Go.of (fun t k => XS.ifNo (g := mkF m pc Ls (.int x :: st)) X.here hx rfl hd rfl ((if0 _ _).trans (tlt q).2.1) k) (no q)
  · exact Go.of (fun t k => XS.ifYes (g := mkF m pc Ls (.int x :: st)) X.here hx rfl rfl hd rfl ((if0 _ _).trans (flt q).2.1) ho hp k) (yes q)
theorem ic_gt (X : Stand p l e R s m args below meth c T locs cells slots) (hx : p.tables.exec = Jvm.exec) {o : Int} {pc' : Nat} {x y : Int32} (hd : decode c.code pc = .ok (.if_icmp .gt o, 3)) (ho : 0 ≤ (pc : Int) + o) (hp : ((pc : Int) + o).toNat = pc') (yes : y < x → Go p e below En T (mkF m pc' Ls st)) (no : ¬ (y < x) → Go p e below En T (mkF m (pc + 3) Ls st)) : Go p e below En T (mkF m pc Ls (.int y :: .int x :: st)) := by
  by_cases q : y < x
  · exact Go.of (fun t k => XS.icmpYes (g := mkF m pc Ls (.int y :: .int x :: st)) X.here hx rfl rfl hd rfl (tlt q).2.2.1 ho hp k) (yes q)
  · exact Go.of (fun t k => XS.icmpNo (g := mkF m pc Ls (.int y :: .int x :: st)) X.here hx rfl hd rfl (flt q).2.2.1 k) (no q)
theorem if_gt (X : Stand p l e R s m args below meth c T locs cells slots) (hx : p.tables.exec = Jvm.exec) {o : Int} {pc' : Nat} {x : Int32} (hd : decode c.code pc = .ok (.ifCond .gt o, 3)) (ho : 0 ≤ (pc : Int) + o) (hp : ((pc : Int) + o).toNat = pc') (yes : 0 < x → Go p e below En T (mkF m pc' Ls st)) (no : ¬ (0 < x) → Go p e below En T (mkF m (pc + 3) Ls st)) : Go p e below En T (mkF m pc Ls (.int x :: st)) := by
  by_cases q : 0 < x
  · exact Go.of (fun t k => XS.ifYes (g := mkF m pc Ls (.int x :: st)) X.here hx rfl rfl hd rfl ((if0 _ _).trans (tlt q).2.2.1) ho hp k) (yes q)
  · exact Go.of (fun t k => XS.ifNo (g := mkF m pc Ls (.int x :: st)) X.here hx rfl hd rfl ((if0 _ _).trans (flt q).2.2.1) k) (no q)
theorem ic_le (X : Stand p l e R s m args below meth c T locs cells slots) (hx : p.tables.exec = Jvm.exec) {o : Int} {pc' : Nat} {x y : Int32} (hd : decode c.code pc = .ok (.if_icmp .le o, 3)) (ho : 0 ≤ (pc : Int) + o) (hp : ((pc : Int) + o).toNat = pc') (yes : ¬ (y < x) → Go p e below En T (mkF m pc' Ls st)) (no : y < x → Go p e below En T (mkF m (pc + 3) Ls st)) : Go p e below En T (mkF m pc Ls (.int y :: .int x :: st)) := by
  by_cases q : y < x
  · exact Go.of (fun t k => XS.icmpNo (g := mkF m pc Ls (.int y :: .int x :: st)) X.here hx rfl hd rfl (tlt q).2.2.2 k) (no q)
  · exact Go.of (fun t k => XS.icmpYes (g := mkF m pc Ls (.int y :: .int x :: st)) X.here hx rfl rfl hd rfl (flt q).2.2.2 ho hp k) (yes q)
theorem if_le (X : Stand p l e R s m args below meth c T locs cells slots) (hx : p.tables.exec = Jvm.exec) {o : Int} {pc' : Nat} {x : Int32} (hd : decode c.code pc = .ok (.ifCond .le o, 3)) (ho : 0 ≤ (pc : Int) + o) (hp : ((pc : Int) + o).toNat = pc') (yes : ¬ (0 < x) → Go p e below En T (mkF m pc' Ls st)) (no : 0 < x → Go p e below En T (mkF m (pc + 3) Ls st)) : Go p e below En T (mkF m pc Ls (.int x :: st)) := by
  by_cases q : 0 < x
  · exact Go.of (fun t k => XS.ifNo (g := mkF m pc Ls (.int x :: st)) X.here hx rfl hd rfl ((if0 _ _).trans (tlt q).2.2.2) k) (no q)
  · exact Go.of (fun t k => XS.ifYes (g := mkF m pc Ls (.int x :: st)) X.here hx rfl rfl hd rfl ((if0 _ _).trans (flt q).2.2.2) ho hp k) (yes q)
theorem own_lc_eq (x y : Int64) : (lcmpW x y = 0) = (x = y) := by rw [lcW]; exact propext (Jvm.RoadKit.lc_eq x y)
theorem own_lc_lt (x y : Int64) : (lcmpW x y < 0) = (x < y) := by rw [lcW]; exact propext (Jvm.RoadKit.lc_lt x y)
theorem own_lc_gt (x y : Int64) : (0 < lcmpW x y) = (y < x) := by rw [lcW]; exact propext (Jvm.RoadKit.lc_gt x y)
theorem lcmp (X : Stand p l e R s m args below meth c T locs cells slots) (hx : p.tables.exec = Jvm.exec) {x y : Int64} (hd : decode c.code pc = .ok (.lcmp, 1))  (r : Go p e below En T (mkF m (pc + 1) Ls (.int (lcmpW x y) :: st))) : Go p e below En T (mkF m pc Ls (.long y :: .long x :: st)) :=
  Go.of (fun t k => XS.lcmp (g := mkF m pc Ls (.long y :: .long x :: st)) X.here hx rfl hd rfl k) r
theorem lc_eq_ (X : Stand p l e R s m args below meth c T locs cells slots) (hx : p.tables.exec = Jvm.exec) {o : Int} {pc' : Nat} {x y : Int64} (hd : decode c.code pc = .ok (.lcmp, 1)) (hd' : decode c.code (pc + 1) = .ok (.ifCond .eq o, 3)) (ho : 0 ≤ ((pc + 1 : Nat) : Int) + o) (hp : (((pc + 1 : Nat) : Int) + o).toNat = pc') (yes : x = y → Go p e below En T (mkF m pc' Ls st)) (no : ¬ (x = y) → Go p e below En T (mkF m (pc + 4) Ls st)) : Go p e below En T (mkF m pc Ls (.long y :: .long x :: st)) :=
  lcmp X hx hd (if_eq X hx hd' ho hp (fun q => yes (by rw [own_lc_eq] at q; exact q)) (fun q => no (by rw [own_lc_eq] at q; exact q)))
theorem lc_ne_ (X : Stand p l e R s m args below meth c T locs cells slots) (hx : p.tables.exec = Jvm.exec) {o : Int} {pc' : Nat} {x y : Int64} (hd : decode c.code pc = .ok (.lcmp, 1)) (hd' : decode c.code (pc + 1) = .ok (.ifCond .ne o, 3)) (ho : 0 ≤ ((pc + 1 : Nat) : Int) + o) (hp : (((pc + 1 : Nat) : Int) + o).toNat = pc') (yes : ¬ (x = y) → Go p e below En T (mkF m pc' Ls st)) (no : x = y → Go p e below En T (mkF m (pc + 4) Ls st)) : Go p e below En T (mkF m pc Ls (.long y :: .long x :: st)) :=
  lcmp X hx hd (if_ne X hx hd' ho hp (fun q => yes (by rw [own_lc_eq] at q; exact q)) (fun q => no (by rw [own_lc_eq] at q; exact q)))
theorem lc_lt_ (X : Stand p l e R s m args below meth c T locs cells slots) (hx : p.tables.exec = Jvm.exec) {o : Int} {pc' : Nat} {x y : Int64} (hd : decode c.code pc = .ok (.lcmp, 1)) (hd' : decode c.code (pc + 1) = .ok (.ifCond .lt o, 3)) (ho : 0 ≤ ((pc + 1 : Nat) : Int) + o) (hp : (((pc + 1 : Nat) : Int) + o).toNat = pc') (yes : x < y → Go p e below En T (mkF m pc' Ls st)) (no : ¬ (x < y) → Go p e below En T (mkF m (pc + 4) Ls st)) : Go p e below En T (mkF m pc Ls (.long y :: .long x :: st)) :=
  lcmp X hx hd (if_lt X hx hd' ho hp (fun q => yes (by rw [own_lc_lt] at q; exact q)) (fun q => no (by rw [own_lc_lt] at q; exact q)))
theorem lc_ge_ (X : Stand p l e R s m args below meth c T locs cells slots) (hx : p.tables.exec = Jvm.exec) {o : Int} {pc' : Nat} {x y : Int64} (hd : decode c.code pc = .ok (.lcmp, 1)) (hd' : decode c.code (pc + 1) = .ok (.ifCond .ge o, 3)) (ho : 0 ≤ ((pc + 1 : Nat) : Int) + o) (hp : (((pc + 1 : Nat) : Int) + o).toNat = pc') (yes : ¬ (x < y) → Go p e below En T (mkF m pc' Ls st)) (no : x < y → Go p e below En T (mkF m (pc + 4) Ls st)) : Go p e below En T (mkF m pc Ls (.long y :: .long x :: st)) :=
  lcmp X hx hd (if_ge X hx hd' ho hp (fun q => yes (by rw [own_lc_lt] at q; exact q)) (fun q => no (by rw [own_lc_lt] at q; exact q)))
theorem lc_gt_ (X : Stand p l e R s m args below meth c T locs cells slots) (hx : p.tables.exec = Jvm.exec) {o : Int} {pc' : Nat} {x y : Int64} (hd : decode c.code pc = .ok (.lcmp, 1)) (hd' : decode c.code (pc + 1) = .ok (.ifCond .gt o, 3)) (ho : 0 ≤ ((pc + 1 : Nat) : Int) + o) (hp : (((pc + 1 : Nat) : Int) + o).toNat = pc') (yes : y < x → Go p e below En T (mkF m pc' Ls st)) (no : ¬ (y < x) → Go p e below En T (mkF m (pc + 4) Ls st)) : Go p e below En T (mkF m pc Ls (.long y :: .long x :: st)) :=
  lcmp X hx hd (if_gt X hx hd' ho hp (fun q => yes (by rw [own_lc_gt] at q; exact q)) (fun q => no (by rw [own_lc_gt] at q; exact q)))
theorem lc_le_ (X : Stand p l e R s m args below meth c T locs cells slots) (hx : p.tables.exec = Jvm.exec) {o : Int} {pc' : Nat} {x y : Int64} (hd : decode c.code pc = .ok (.lcmp, 1)) (hd' : decode c.code (pc + 1) = .ok (.ifCond .le o, 3)) (ho : 0 ≤ ((pc + 1 : Nat) : Int) + o) (hp : (((pc + 1 : Nat) : Int) + o).toNat = pc') (yes : ¬ (y < x) → Go p e below En T (mkF m pc' Ls st)) (no : y < x → Go p e below En T (mkF m (pc + 4) Ls st)) : Go p e below En T (mkF m pc Ls (.long y :: .long x :: st)) :=
  lcmp X hx hd (if_le X hx hd' ho hp (fun q => yes (by rw [own_lc_gt] at q; exact q)) (fun q => no (by rw [own_lc_gt] at q; exact q)))
theorem ac_eq (X : Stand p l e R s m args below meth c T locs cells slots) (hx : p.tables.exec = Jvm.exec) {o : Int} {pc' : Nat} {x y : Value} (hx1 : x.isRef = true) (hy1 : y.isRef = true) (hd : decode c.code pc = .ok (.if_acmp .eq o, 3)) (ho : 0 ≤ (pc : Int) + o) (hp : ((pc : Int) + o).toNat = pc') (yes : x = y → Go p e below En T (mkF m pc' Ls st)) (no : ¬ (x = y) → Go p e below En T (mkF m (pc + 3) Ls st)) : Go p e below En T (mkF m pc Ls (y :: x :: st)) := by
  by_cases q : x = y
  · exact Go.of (fun t k => Jvm.RoadKit.acmp (g := mkF m pc Ls (y :: x :: st)) X hx rfl hx1 hy1 (pc0 := pc) (pc' := pc') (same := true) rfl hd rfl (decide_eq_true q) ho (hp.symm) k) (yes q)
  · exact Go.of (fun t k => Jvm.RoadKit.acmp (g := mkF m pc Ls (y :: x :: st)) X hx rfl hx1 hy1 (pc0 := pc) (pc' := pc + 3) (same := false) rfl hd rfl (decide_eq_false q) ho (rfl) k) (no q)
theorem ac_ne (X : Stand p l e R s m args below meth c T locs cells slots) (hx : p.tables.exec = Jvm.exec) {o : Int} {pc' : Nat} {x y : Value} (hx1 : x.isRef = true) (hy1 : y.isRef = true) (hd : decode c.code pc = .ok (.if_acmp .ne o, 3)) (ho : 0 ≤ (pc : Int) + o) (hp : ((pc : Int) + o).toNat = pc') (yes : ¬ (x = y) → Go p e below En T (mkF m pc' Ls st)) (no : x = y → Go p e below En T (mkF m (pc + 3) Ls st)) : Go p e below En T (mkF m pc Ls (y :: x :: st)) := by
  by_cases q : x = y
  · exact Go.of (fun t k => Jvm.RoadKit.acmp (g := mkF m pc Ls (y :: x :: st)) X hx rfl hx1 hy1 (pc0 := pc) (pc' := pc + 3) (same := true) rfl hd rfl (decide_eq_true q) ho (rfl) k) (no q)
  · exact Go.of (fun t k => Jvm.RoadKit.acmp (g := mkF m pc Ls (y :: x :: st)) X hx rfl hx1 hy1 (pc0 := pc) (pc' := pc') (same := false) rfl hd rfl (decide_eq_false q) ho (hp.symm) k) (yes q)
theorem ifnull_y (X : Stand p l e R s m args below meth c T locs cells slots) (hx : p.tables.exec = Jvm.exec) {o : Int} {pc' : Nat} (hd : decode c.code pc = .ok (.ifnull o, 3)) (ho : 0 ≤ (pc : Int) + o) (hp : ((pc : Int) + o).toNat = pc') (r : Go p e below En T (mkF m pc' Ls st)) : Go p e below En T (mkF m pc Ls (.null :: st)) :=
  Go.of (fun t k => XS.ifnullYes (g := mkF m pc Ls (.null :: st)) X.here hx rfl rfl hd rfl ho hp k) r
theorem ifnull_n (X : Stand p l e R s m args below meth c T locs cells slots) (hx : p.tables.exec = Jvm.exec) {o : Int} {b : Addr} (hd : decode c.code pc = .ok (.ifnull o, 3))  (r : Go p e below En T (mkF m (pc + 3) Ls st)) : Go p e below En T (mkF m pc Ls (.ref b :: st)) :=
  Go.of (fun t k => XS.ifnullNo (g := mkF m pc Ls (.ref b :: st)) X.here hx rfl hd rfl k) r
theorem ifnonnull_y (X : Stand p l e R s m args below meth c T locs cells slots) (hx : p.tables.exec = Jvm.exec) {o : Int} {pc' : Nat} {b : Addr} (hd : decode c.code pc = .ok (.ifnonnull o, 3)) (ho : 0 ≤ (pc : Int) + o) (hp : ((pc : Int) + o).toNat = pc') (r : Go p e below En T (mkF m pc' Ls st)) : Go p e below En T (mkF m pc Ls (.ref b :: st)) :=
  Go.of (fun t k => XS.ifnonnullYes (g := mkF m pc Ls (.ref b :: st)) X.here hx rfl rfl hd rfl ho hp k) r
theorem ifnonnull_n (X : Stand p l e R s m args below meth c T locs cells slots) (hx : p.tables.exec = Jvm.exec) {o : Int} (hd : decode c.code pc = .ok (.ifnonnull o, 3))  (r : Go p e below En T (mkF m (pc + 3) Ls st)) : Go p e below En T (mkF m pc Ls (.null :: st)) :=
  Go.of (fun t k => XS.ifnonnullNo (g := mkF m pc Ls (.null :: st)) X.here hx rfl hd rfl k) r
theorem ldcInt (X : Stand p l e R s m args below meth c T locs cells slots) (hx : p.tables.exec = Jvm.exec) (hZ : Z.Warmed39 s.vm) {own : String} {index : Nat} (hown : s.vm.findClass own = some m.cls) {v : Int32} (w : (Cond.constant own index v).before a0 Z = true) (hd : decode c.code pc = .ok (.ldc index, 2)) (r : Go p e below En T (mkF m (pc + 2) Ls (.int v :: st))) : Go p e below En T (mkF m pc Ls st) :=
  Go.of (fun t k => X.ldcInt hx hown (mvT hZ w) (g := mkF m pc Ls st) rfl hd _ k) r
theorem ldc2Long (X : Stand p l e R s m args below meth c T locs cells slots) (hx : p.tables.exec = Jvm.exec) (hZ : Z.Warmed39 s.vm) {own : String} {index : Nat} (hown : s.vm.findClass own = some m.cls) {v : Int64} (w : (Cond.constantLong own index v).before a0 Z = true) (hd : decode c.code pc = .ok (.ldc2_w index, 3)) (r : Go p e below En T (mkF m (pc + 3) Ls (.long v :: st))) : Go p e below En T (mkF m pc Ls st) :=
  Go.of (fun t k => X.ldc2Long hx hown (mvT hZ w) (g := mkF m pc Ls st) rfl hd _ k) r
theorem getS (X : Stand p l e R s m args below meth c T locs cells slots) (hx : p.tables.exec = Jvm.exec) (hZ : Z.Warmed39 s.vm) {own : String} {index : Nat} (hown : s.vm.findClass own = some m.cls) {R0 O n d host : String} (w : (Cond.fieldLink own index R0 n d).before a0 Z = true ∨ (Cond.fieldLinkNest own index R0 n d host).before a0 Z = true) (via : Via Z R0 O n d) (eT : T.heap = h) {v : Value} (F : Sta Z h O n d v) (hd : decode c.code pc = .ok (.getstatic index, 3)) (r : ∀ T', Stand p l e R s m args below meth c T' locs cells slots → T'.heap = h → Go p e below En T' (mkF m (pc + 3) Ls (v :: st))) : Go p e below En T (mkF m pc Ls st) := by
  obtain ⟨T', X', e', k⟩ := getS2 X hx hZ hown w via eT F (g := mkF m pc Ls st) rfl hd
  exact Go.of k (r T' X' e')
theorem getF (X : Stand p l e R s m args below meth c T locs cells slots) (hx : p.tables.exec = Jvm.exec) (hZ : Z.Warmed39 s.vm) {own : String} {index : Nat} (hown : s.vm.findClass own = some m.cls) {R0 O n d host : String} (w : (Cond.fieldLink own index R0 n d).before a0 Z = true ∨ (Cond.fieldLinkNest own index R0 n d host).before a0 Z = true) (via : Via Z R0 O n d) (eT : T.heap = h) {a : Addr} {v : Value} (F : Fld Z h a O n d v) (hd : decode c.code pc = .ok (.getfield index, 3)) (r : ∀ T', Stand p l e R s m args below meth c T' locs cells slots → T'.heap = h → Go p e below En T' (mkF m (pc + 3) Ls (v :: st))) : Go p e below En T (mkF m pc Ls (.ref a :: st)) := by
  obtain ⟨T', X', e', k⟩ := Jvm.RoadKit.getF X hx hZ hown w via eT F (g := mkF m pc Ls (.ref a :: st)) rfl rfl hd
  exact Go.of k (r T' X' e')
theorem newO (X : Stand p l e R s m args below meth c T locs cells slots) (hx : p.tables.exec = Jvm.exec) (hZ : Z.Warmed39 s.vm) {own : String} {index : Nat} (hown : s.vm.findClass own = some m.cls) {C0 : String} {n : Nat} (w : (Cond.classLink own index C0).before a0 Z = true) (wi : (Cond.instantiable C0 n).before a0 Z = true) (wz : (Cond.initialized C0).before a0 Z = true) (eT : T.heap = h) (hd : decode c.code pc = .ok (.new index, 3)) (hc : cells + 1 ≤ R.cells) (hl : slots + n ≤ R.slots) (r : ∀ T' h' a, a = h.size → Stand p l e R s m args below meth c T' locs (cells + 1) (slots + n) → T'.heap = h' → Ext h h' → Exa Z h' a C0 → (∀ {O nm d : String} {ty : FieldType}, Laid Z a0 C0 O nm d → parseFieldDescriptor d = some ty → Fld Z h' a O nm d (defaultValue ty)) → Go p e below En T' (mkF m (pc + 3) Ls (.ref a :: st))) : Go p e below En T (mkF m pc Ls st) := by
  obtain ⟨T', h', X', e', E', A', D', -, k⟩ := Jvm.RoadKit.newO X hx hZ hown w wi wz eT (g := mkF m pc Ls st) rfl hd hc hl
  exact Go.of k (r T' h' h.size rfl X' e' E' A' D')
theorem initO (X : Stand p l e R s m args below meth c T locs cells slots) (hx : p.tables.exec = Jvm.exec) (hZ : Z.Warmed39 s.vm) {own : String} {index : Nat} (hown : s.vm.findClass own = some m.cls) (w1 : (Cond.methodLink own index Lib.objectInit).before a0 Z = true) (w2 : (Cond.instanceMethod Lib.objectInit).before a0 Z = true) (w3 : (Cond.code Lib.objectInit ⟨#[0xb1]⟩ 1 none).before a0 Z = true) (eT : T.heap = h) (hsize : Ls.size = c.maxLocals) {a : Addr} (hd : decode c.code pc = .ok (.invokespecial index, 3)) (hf : 1 ≤ R.frames) (W : Nat) (hW : (st.map fun v => v.category).sum = W) (hl : W + 12 ≤ R.locals) (r : ∀ T', Stand p l e R s m args below meth c T' locs cells slots → T'.heap = h → Go p e below En T' (mkF m (pc + 3) Ls st)) : Go p e below En T (mkF m pc Ls (.ref a :: st)) := by
  obtain ⟨T', X', e', k⟩ := Jvm.RoadKit.initO X hx hZ hown w1 w2 w3 eT (g := mkF m pc Ls (.ref a :: st)) rfl hsize rfl hd hf (W := W) (by show 2 * 0 + _ ≤ _; rw [hW]; omega) hl
  exact Go.of k (r T' X' e')
theorem putF (X : Stand p l e R s m args below meth c T locs cells slots) (hx : p.tables.exec = Jvm.exec) (hZ : Z.Warmed39 s.vm) {own : String} {index : Nat} (hown : s.vm.findClass own = some m.cls) {R0 O n d host C0 : String} {kk : Nat} {ty : FieldType} (w : (Cond.fieldLink own index R0 n d).before a0 Z = true ∨ (Cond.fieldLinkNest own index R0 n d host).before a0 Z = true) (via : Via Z R0 O n d) (eT : T.heap = h) {a : Addr} {v old : Value} (F : Fld Z h a O n d old) (E : Exa Z h a C0) (L : (Cond.lays C0 O n d).before a0 Z = true ∨ ((Cond.laysFinal C0 O n d).before a0 Z = true ∧ own = O ∧ meth.name = "<init>")) (wi : (Cond.instantiable C0 kk).before a0 Z = true) (hty : parseFieldDescriptor d = some ty) (hn : narrow ty v = v) (hf : fits ty v = true) (hd : decode c.code pc = .ok (.putfield index, 3)) (r : ∀ T' h', Stand p l e R s m args below meth c T' (locs ++ [⟨a, Jvm.RoadKit.slotOf Z O n d⟩]) cells slots → T'.heap = h' → Wr h h' a (Jvm.RoadKit.slotOf Z O n d) v → Go p e below En T' (mkF m (pc + 3) Ls st)) : Go p e below En T (mkF m pc Ls (v :: .ref a :: st)) := by
  obtain ⟨T', h', X', e', W', k⟩ := Jvm.RoadKit.putF X hx hZ hown w via eT F E L wi hty hn hf (g := mkF m pc Ls (v :: .ref a :: st)) rfl rfl hd
  exact Go.of k (r T' h' X' e' W')
theorem newP (X : Stand p l e R s m args below meth c T locs cells slots) (hx : p.tables.exec = Jvm.exec) (hZ : Z.Warmed39 s.vm) {aty : ArrayType} (w : (Cond.arrayClass (newarray.typeOf aty)).before a0 Z = true) (eT : T.heap = h) (hd : decode c.code pc = .ok (.newarray aty, 2)) {n : Int32} (hn : ¬ n < 0) (cap : Nat) (hcap : n.toNatClampNeg ≤ cap) (hb : cap * 8 ≤ 536870912) (hc : cells + 1 ≤ R.cells) (hl : slots + cap ≤ R.slots) (r : ∀ T' h' k a, a = h.size → Stand p l e R s m args below meth c T' locs (cells + 1) (slots + cap) → T'.heap = h' → Ext h h' → Arr Z h' a (newA k (newarray.typeOf aty) n) (newarray.typeOf aty) → Go p e below En T' (mkF m (pc + 2) Ls (.ref a :: st))) : Go p e below En T (mkF m pc Ls (.int n :: st)) := by
  obtain ⟨T', h', k', X', e', E', A', k⟩ := Jvm.RoadKit.newP X hx hZ w eT (g := mkF m pc Ls (.int n :: st)) rfl hd rfl hn hcap hb hc hl
  exact Go.of k (r T' h' k' h.size rfl X' e' E' A')
theorem newR (X : Stand p l e R s m args below meth c T locs cells slots) (hx : p.tables.exec = Jvm.exec) (hZ : Z.Warmed39 s.vm) {own : String} {index : Nat} (hown : s.vm.findClass own = some m.cls) {C0 : String} (w1 : (Cond.classLink own index C0).before a0 Z = true) (w2 : (Cond.arrayOver (.object C0)).before a0 Z = true) (eT : T.heap = h) (hd : decode c.code pc = .ok (.anewarray index, 3)) {n : Int32} (hn : ¬ n < 0) (cap : Nat) (hcap : n.toNatClampNeg ≤ cap) (hb : cap * 8 ≤ 536870912) (hc : cells + 1 ≤ R.cells) (hl : slots + cap ≤ R.slots) (r : ∀ T' h' k a, a = h.size → Stand p l e R s m args below meth c T' locs (cells + 1) (slots + cap) → T'.heap = h' → Ext h h' → Arr Z h' a (newA k (.object C0) n) (.object C0) → Ovr Z k C0 → Go p e below En T' (mkF m (pc + 3) Ls (.ref a :: st))) : Go p e below En T (mkF m pc Ls (.int n :: st)) := by
  obtain ⟨T', h', k', X', e', E', A', O', k⟩ := Jvm.RoadKit.newR X hx hZ hown w1 w2 eT (g := mkF m pc Ls (.int n :: st)) rfl hd rfl hn hcap hb hc hl
  exact Go.of k (r T' h' k' h.size rfl X' e' E' A' O')
theorem stI (X : Stand p l e R s m args below meth c T locs cells slots) (hx : p.tables.exec = Jvm.exec) (hZ : Z.Warmed39 s.vm) (eT : T.heap = h) {a : Addr} {cl : Cell} (A : Arr Z h a cl .int) {j x : Int32} (hj : ¬ (j < 0 ∨ cl.slots.size ≤ j.toNatClampNeg)) (hd : decode c.code pc = .ok (.iastore, 1)) (r : ∀ T' h', Stand p l e R s m args below meth c T' (locs ++ [⟨a, j.toNatClampNeg⟩]) cells slots → T'.heap = h' → Wr h h' a j.toNatClampNeg (.int x) → Go p e below En T' (mkF m (pc + 1) Ls st)) : Go p e below En T (mkF m pc Ls ((.int x) :: .int j :: .ref a :: st)) := by
  obtain ⟨T', h', X', e', W', k⟩ := Jvm.RoadKit.stI X hx hZ eT A hj (g := mkF m pc Ls ((.int x) :: .int j :: .ref a :: st)) rfl rfl hd
  exact Go.of k (r T' h' X' e' W')
theorem stC (X : Stand p l e R s m args below meth c T locs cells slots) (hx : p.tables.exec = Jvm.exec) (hZ : Z.Warmed39 s.vm) (eT : T.heap = h) {a : Addr} {cl : Cell} (A : Arr Z h a cl .char) {j x : Int32} (hj : ¬ (j < 0 ∨ cl.slots.size ≤ j.toNatClampNeg)) (hd : decode c.code pc = .ok (.castore, 1)) (r : ∀ T' h', Stand p l e R s m args below meth c T' (locs ++ [⟨a, j.toNatClampNeg⟩]) cells slots → T'.heap = h' → Wr h h' a j.toNatClampNeg (.int (nar .char x)) → Go p e below En T' (mkF m (pc + 1) Ls st)) : Go p e below En T (mkF m pc Ls ((.int x) :: .int j :: .ref a :: st)) := by
  obtain ⟨T', h', X', e', W', k⟩ := Jvm.RoadKit.stC X hx hZ eT A hj (g := mkF m pc Ls ((.int x) :: .int j :: .ref a :: st)) rfl rfl hd
  exact Go.of k (r T' h' X' e' W')
theorem stR (X : Stand p l e R s m args below meth c T locs cells slots) (hx : p.tables.exec = Jvm.exec) (hZ : Z.Warmed39 s.vm) (eT : T.heap = h) {a : Addr} {cl : Cell} {ty : FieldType} (A : Arr Z h a cl ty) {j : Int32} {v : Value} (hj : ¬ (j < 0 ∨ cl.slots.size ≤ j.toNatClampNeg)) (hty : ty.isReference = true) (F : Sto Z h a v) (hd : decode c.code pc = .ok (.aastore, 1)) (r : ∀ T' h', Stand p l e R s m args below meth c T' (locs ++ [⟨a, j.toNatClampNeg⟩]) cells slots → T'.heap = h' → Wr h h' a j.toNatClampNeg v → Go p e below En T' (mkF m (pc + 1) Ls st)) : Go p e below En T (mkF m pc Ls (v :: .int j :: .ref a :: st)) := by
  obtain ⟨T', h', X', e', W', k⟩ := Jvm.RoadKit.stR X hx hZ eT A hj hty F (g := mkF m pc Ls (v :: .int j :: .ref a :: st)) rfl rfl hd
  exact Go.of k (r T' h' X' e' W')
theorem iaload (X : Stand p l e R s m args below meth c T locs cells slots) (hx : p.tables.exec = Jvm.exec) (hZ : Z.Warmed39 s.vm) (eT : T.heap = h) {a : Addr} {cl : Cell} (A : Arr Z h a cl .int) {j : Int32} {v : Value} (hj : ¬ (j < 0 ∨ cl.slots.size ≤ j.toNatClampNeg)) (hv : cl.slots[j.toNatClampNeg]? = some v) (hd : decode c.code pc = .ok (.iaload, 1)) (r : Go p e below En T (mkF m (pc + 1) Ls (v :: st))) : Go p e below En T (mkF m pc Ls (.int j :: .ref a :: st)) :=
  Go.of (fun t k => X.iaload hx (by rw [eT]; exact A.1) (State.isArrayOf_alike hZ.alike A.2.1) A.2.2 hj hv (g := mkF m pc Ls (.int j :: .ref a :: st)) rfl rfl hd t k) r
theorem caload (X : Stand p l e R s m args below meth c T locs cells slots) (hx : p.tables.exec = Jvm.exec) (hZ : Z.Warmed39 s.vm) (eT : T.heap = h) {a : Addr} {cl : Cell} (A : Arr Z h a cl .char) {j : Int32} {v : Value} (hj : ¬ (j < 0 ∨ cl.slots.size ≤ j.toNatClampNeg)) (hv : cl.slots[j.toNatClampNeg]? = some v) (hd : decode c.code pc = .ok (.caload, 1)) (r : Go p e below En T (mkF m (pc + 1) Ls (v :: st))) : Go p e below En T (mkF m pc Ls (.int j :: .ref a :: st)) :=
  Go.of (fun t k => X.caload hx (by rw [eT]; exact A.1) (State.isArrayOf_alike hZ.alike A.2.1) A.2.2 hj hv (g := mkF m pc Ls (.int j :: .ref a :: st)) rfl rfl hd t k) r
theorem aaload (X : Stand p l e R s m args below meth c T locs cells slots) (hx : p.tables.exec = Jvm.exec) (hZ : Z.Warmed39 s.vm) (eT : T.heap = h) {a : Addr} {cl : Cell} {ty : FieldType} (A : Arr Z h a cl ty) (hty : ty.isReference = true) {j : Int32} {v : Value} (hj : ¬ (j < 0 ∨ cl.slots.size ≤ j.toNatClampNeg)) (hv : cl.slots[j.toNatClampNeg]? = some v) (hd : decode c.code pc = .ok (.aaload, 1)) (r : Go p e below En T (mkF m (pc + 1) Ls (v :: st))) : Go p e below En T (mkF m pc Ls (.int j :: .ref a :: st)) :=
  Go.of (fun t k => X.aaload hx (by rw [eT]; exact A.1) (State.isArrayOf_alike hZ.alike A.2.1) hty A.2.2 hj hv (g := mkF m pc Ls (.int j :: .ref a :: st)) rfl rfl hd t k) r
theorem arraylength (X : Stand p l e R s m args below meth c T locs cells slots) (hx : p.tables.exec = Jvm.exec) (hZ : Z.Warmed39 s.vm) (eT : T.heap = h) {a : Addr} {cl : Cell} {ty : FieldType} (A : Arr Z h a cl ty) {n : Int32} (hn : cl.slots.size.toInt32 = n) (hd : decode c.code pc = .ok (.arraylength, 1)) (r : Go p e below En T (mkF m (pc + 1) Ls (.int n :: st))) : Go p e below En T (mkF m pc Ls (.ref a :: st)) := by
  subst hn
  exact Go.of (fun t k => X.arraylength hx (by rw [eT]; exact A.1) (State.isArrayOf_alike hZ.alike A.2.1) (g := mkF m pc Ls (.ref a :: st)) rfl rfl hd t k) r
theorem retB (X : Stand p l e R s m args below meth c T locs cells slots) (hx : p.tables.exec = Jvm.exec) (hlk : meth.locks = false) {z z' : Int32} (hret : meth.sig.returnType = some .boolean) (hd : decode c.code pc = .ok (.ireturn, 1)) (hz : nar .boolean z = z') (hq : Q (some (.int z')) T.heap locs) (hC : cells ≤ C) (hS : slots ≤ S) : Go p e below (EndN s Q C S) T (mkF m pc Ls (.int z :: st)) := by
  obtain ⟨fs, hr, hrun, hended, hW, hsame⟩ := X.leave (v := (some (.int z'))) (fun h => by rw [hret] at h; cases h) hlk
  exact ⟨_, _, (by subst hz; exact retN X hx (t := .boolean) hret (by simp) hd hr), hrun, hended, _, _, rfl, hq, ⟨_, rfl⟩, hW, hsame.mono hC hS⟩
theorem retC (X : Stand p l e R s m args below meth c T locs cells slots) (hx : p.tables.exec = Jvm.exec) (hlk : meth.locks = false) {z z' : Int32} (hret : meth.sig.returnType = some .char) (hd : decode c.code pc = .ok (.ireturn, 1)) (hz : nar .char z = z') (hq : Q (some (.int z')) T.heap locs) (hC : cells ≤ C) (hS : slots ≤ S) : Go p e below (EndN s Q C S) T (mkF m pc Ls (.int z :: st)) := by
  obtain ⟨fs, hr, hrun, hended, hW, hsame⟩ := X.leave (v := (some (.int z'))) (fun h => by rw [hret] at h; cases h) hlk
  exact ⟨_, _, (by subst hz; exact retN X hx (t := .char) hret (by simp) hd hr), hrun, hended, _, _, rfl, hq, ⟨_, rfl⟩, hW, hsame.mono hC hS⟩
theorem own_retI (X : Stand p l e R s m args below meth c T locs cells slots) (hx : p.tables.exec = Jvm.exec) {z : Int32} {rest : List Value} (hret : meth.sig.returnType = some .int) (hd : decode c.code pc = .ok (.ireturn, 1)) {fs : List Frame}
    (hl : ∀ (f : JFrame) (acts : List Action), f.method = m → f.locked = none → f.entered = [] → (doReturn e (T.setTop f) acts (some (.int z))).1 = T.setFrames fs) : Steps p.tables e below (T.setTop (mkF m pc Ls (.int z :: rest))) (T.setFrames fs) := by
  have hm' : T.vm.method? m = some meth := X.method'
  have hn : narrow .int (.int z) = .int z := rfl
  show Steps p.tables e below (T.setTop { method := m, pc := pc, locals := Ls, stack := _ :: rest, locked := none }) _
  jvm_step X.here [X.here.top, hx, hd, hm', hret, hn]
  first | (intro acts; rw [hl _ acts rfl rfl rfl]) | rw [hl _ _ rfl rfl rfl]
  exact Steps.refl _
theorem own_retJ (X : Stand p l e R s m args below meth c T locs cells slots) (hx : p.tables.exec = Jvm.exec) {z : Int64} {rest : List Value} (hret : meth.sig.returnType = some .long) (hd : decode c.code pc = .ok (.lreturn, 1)) {fs : List Frame}
    (hl : ∀ (f : JFrame) (acts : List Action), f.method = m → f.locked = none → f.entered = [] → (doReturn e (T.setTop f) acts (some (.long z))).1 = T.setFrames fs) : Steps p.tables e below (T.setTop (mkF m pc Ls (.long z :: rest))) (T.setFrames fs) := by
  have hm' : T.vm.method? m = some meth := X.method'
  show Steps p.tables e below (T.setTop { method := m, pc := pc, locals := Ls, stack := _ :: rest, locked := none }) _
  jvm_step X.here [X.here.top, hx, hd, hm', hret, narrow]
  first | (intro acts; rw [hl _ acts rfl rfl rfl]) | rw [hl _ _ rfl rfl rfl]
  exact Steps.refl _
theorem own_retA (X : Stand p l e R s m args below meth c T locs cells slots) (hx : p.tables.exec = Jvm.exec) {z : Value} (hz : z.isRef = true) {t : FieldType} (ht : t.isReference = true) {rest : List Value} (hret : meth.sig.returnType = some t) (hd : decode c.code pc = .ok (.areturn, 1)) {fs : List Frame}
    (hl : ∀ (f : JFrame) (acts : List Action), f.method = m → f.locked = none → f.entered = [] → (doReturn e (T.setTop f) acts (some z)).1 = T.setFrames fs) : Steps p.tables e below (T.setTop (mkF m pc Ls (z :: rest))) (T.setFrames fs) := by
  have hm' : T.vm.method? m = some meth := X.method'
  show Steps p.tables e below (T.setTop { method := m, pc := pc, locals := Ls, stack := _ :: rest, locked := none }) _
  rcases ref_cases hz with rfl | ⟨b, rfl⟩
  all_goals
    jvm_step X.here [X.here.top, hx, hd, hm', hret, ht, Value.isRef]
    first | (intro acts; rw [hl _ acts rfl rfl rfl]) | rw [hl _ _ rfl rfl rfl]
    exact Steps.refl _
theorem retI (X : Stand p l e R s m args below meth c T locs cells slots) (hx : p.tables.exec = Jvm.exec) (hlk : meth.locks = false) {z : Int32} (hret : meth.sig.returnType = some .int) (hd : decode c.code pc = .ok (.ireturn, 1)) (hq : Q (some (.int z)) T.heap locs) (hC : cells ≤ C) (hS : slots ≤ S) : Go p e below (EndN s Q C S) T (mkF m pc Ls (.int z :: st)) := by
  obtain ⟨fs, hr, hrun, hended, hW, hsame⟩ := X.leave (v := (some (.int z))) (fun h => by rw [hret] at h; cases h) hlk
  exact ⟨_, _, own_retI X hx hret hd hr, hrun, hended, _, _, rfl, hq, ⟨_, rfl⟩, hW, hsame.mono hC hS⟩
theorem retJ (X : Stand p l e R s m args below meth c T locs cells slots) (hx : p.tables.exec = Jvm.exec) (hlk : meth.locks = false) {z : Int64} (hret : meth.sig.returnType = some .long) (hd : decode c.code pc = .ok (.lreturn, 1)) (hq : Q (some (.long z)) T.heap locs) (hC : cells ≤ C) (hS : slots ≤ S) : Go p e below (EndN s Q C S) T (mkF m pc Ls (.long z :: st)) := by
  obtain ⟨fs, hr, hrun, hended, hW, hsame⟩ := X.leave (v := (some (.long z))) (fun h => by rw [hret] at h; cases h) hlk
  exact ⟨_, _, own_retJ X hx hret hd hr, hrun, hended, _, _, rfl, hq, ⟨_, rfl⟩, hW, hsame.mono hC hS⟩
theorem retA (X : Stand p l e R s m args below meth c T locs cells slots) (hx : p.tables.exec = Jvm.exec) (hlk : meth.locks = false) {z : Value} {t : FieldType} (hz : z.isRef = true) (ht : t.isReference = true) (hret : meth.sig.returnType = some t) (hd : decode c.code pc = .ok (.areturn, 1)) (hq : Q (some z) T.heap locs) (hC : cells ≤ C) (hS : slots ≤ S) : Go p e below (EndN s Q C S) T (mkF m pc Ls (z :: st)) := by
  obtain ⟨fs, hr, hrun, hended, hW, hsame⟩ := X.leave (v := (some z)) (fun h => by rw [hret] at h; cases h) hlk
  exact ⟨_, _, own_retA X hx hz ht hret hd hr, hrun, hended, _, _, rfl, hq, ⟨_, rfl⟩, hW, hsame.mono hC hS⟩
theorem retV (X : Stand p l e R s m args below meth c T locs cells slots) (hx : p.tables.exec = Jvm.exec) (hlk : meth.locks = false)  (hret : meth.sig.returnType = none) (hd : decode c.code pc = .ok (.return_, 1)) (hq : Q none T.heap locs) (hC : cells ≤ C) (hS : slots ≤ S) : Go p e below (EndN s Q C S) T (mkF m pc Ls []) := by
  obtain ⟨fs, hr, hrun, hended, hW, hsame⟩ := X.leave (v := none) (fun _ => rfl) hlk
  exact ⟨_, _, X.returnOut hx hret hd hr, hrun, hended, _, _, rfl, hq, ⟨_, rfl⟩, hW, hsame.mono hC hS⟩
theorem callS (X : Stand p l e R s m args below meth c T locs cells slots) (hx : p.tables.exec = Jvm.exec) (hZ : Z.Warmed39 s.vm) {own : String} {index : Nat} (hown : s.vm.findClass own = some m.cls) {y : MethodName} {bytes : ByteArray} {maxL : Nat} {ret : Option FieldType} {rm : Room} {as : List Value} {Qc : Option Value → Heap → List Loc → Prop} (w1 : (Cond.methodLink own index y).before a0 Z = true) (w2 : (Cond.static y).before a0 Z = true) (w3 : (Cond.initialized y.cls).before a0 Z = true) (w4 : (Cond.code y bytes maxL ret).before a0 Z = true) (hy : y.cls ≠ "java/lang/invoke/MethodHandle" ∧ y.cls ≠ "java/lang/invoke/VarHandle") (eT : T.heap = h) (hM : Con l Z y bytes maxL ret rm as h Qc) {rest : List Value} (W : Nat) (hf : rm.frames + 1 ≤ R.frames) (hlo : W + (maxL + 11) + rm.locals ≤ R.locals) (hc : cells + rm.cells ≤ R.cells) (hs : slots + rm.slots ≤ R.slots) (hsize : Ls.size = c.maxLocals) (hlen : ∀ sig, parseMethodDescriptor y.desc = some sig → as.length = sig.parameters.length) (hst : st = as.reverse ++ rest) (hW : (rest.map fun v => v.category).sum = W) (hd : decode c.code pc = .ok (.invokestatic index, 3)) (r : ∀ v T' L, Stand p l e R s m args below meth c T' (locs ++ L) (cells + rm.cells) (slots + rm.slots) → Qc v T'.heap L → Go p e below En T' (mkF m (pc + 3) Ls (v.toList ++ rest))) : Go p e below En T (mkF m pc Ls st) := by
  obtain ⟨v, _, ⟨T', L', k', n'⟩, -, X', ⟨Lc, hq, e1, e2, e3⟩, k⟩ := Jvm.LawKit.callS X hx hown (mvT hZ w1) (mvT hZ w2) (mvT hZ w3) (mvT hZ w4) hy (backOf (W := W) (len := 3) (hM []) hZ w4 w3 hf hlo) (g := mkF m pc Ls st) rfl hsize (argsL := as) (rest := rest) hlen hst (by show 2 * 0 + _ ≤ _; rw [hW]; omega) hd (fun _ _ => ⟨rfl, eT, hc, hs⟩)
  dsimp only [Pt.U, Pt.locs, Pt.cells, Pt.slots] at X' e1 e2 e3 k hq
  subst e1 e2 e3
  exact Go.of k (r v T' Lc X' hq)
theorem callV (X : Stand p l e R s m args below meth c T locs cells slots) (hx : p.tables.exec = Jvm.exec) (hZ : Z.Warmed39 s.vm) {own : String} {index : Nat} (hown : s.vm.findClass own = some m.cls) {y : MethodName} {bytes : ByteArray} {maxL : Nat} {ret : Option FieldType} {rm : Room} {as : List Value} {Qc : Option Value → Heap → List Loc → Prop} {z : MethodName} {C0 : String} (w1 : (Cond.methodLink own index y).before a0 Z = true) (wd : (Cond.declares y).before a0 Z = true) (nf : NotFace s y) (ws : (Cond.selects C0 y z).before a0 Z = true) (wi : (Cond.instanceMethod z).before a0 Z = true) (w3 : (Cond.initialized z.cls).before a0 Z = true) (w4 : (Cond.code z bytes maxL ret).before a0 Z = true) (hy : y.cls ≠ "java/lang/invoke/MethodHandle" ∧ y.cls ≠ "java/lang/invoke/VarHandle") (eT : T.heap = h) {b : Addr} (E : Exa Z h b C0) (hM : Con l Z z bytes maxL ret rm (.ref b :: as) h Qc) {rest : List Value} (W : Nat) (hf : rm.frames + 1 ≤ R.frames) (hlo : W + (maxL + 11) + rm.locals ≤ R.locals) (hc : cells + rm.cells ≤ R.cells) (hs : slots + rm.slots ≤ R.slots) (hsize : Ls.size = c.maxLocals) (hlen : ∀ sig, parseMethodDescriptor y.desc = some sig → as.length = sig.parameters.length) (hst : st = as.reverse ++ .ref b :: rest) (hW : (rest.map fun v => v.category).sum = W) (hd : decode c.code pc = .ok (.invokevirtual index, 3)) (r : ∀ v T' L, Stand p l e R s m args below meth c T' (locs ++ L) (cells + rm.cells) (slots + rm.slots) → Qc v T'.heap L → Go p e below En T' (mkF m (pc + 3) Ls (v.toList ++ rest))) : Go p e below En T (mkF m pc Ls st) := by
  obtain ⟨cB, kB, q1, -, q3⟩ := isOf hZ eT E
  obtain ⟨v, _, ⟨T', L', k', n'⟩, -, X', ⟨Lc, hq, e1, e2, e3⟩, k⟩ := X.virtualBack hx hown (mvT hZ w1) (mvT hZ wd) nf (mvT hZ ws) (mvT hZ wi) hy (backOf (W := W) (len := 3) (hM []) hZ w4 w3 hf hlo) q1 q3 (g := mkF m pc Ls st) rfl hsize (Steps.refl _) (argsL := as) (rest := rest) hlen hst (by show 2 * 0 + _ ≤ _; rw [hW]; omega) hd (fun _ _ => ⟨rfl, eT, hc, hs⟩)
  dsimp only [Pt.U, Pt.locs, Pt.cells, Pt.slots] at X' e1 e2 e3 k hq
  subst e1 e2 e3
  exact Go.of (fun t q => k.trans q) (r v T' Lc X' hq)
theorem callI (X : Stand p l e R s m args below meth c T locs cells slots) (hx : p.tables.exec = Jvm.exec) (hZ : Z.Warmed39 s.vm) {own : String} {index : Nat} (hown : s.vm.findClass own = some m.cls) {y : MethodName} {bytes : ByteArray} {maxL : Nat} {rm : Room} {as : List Value} {Qc : Option Value → Heap → List Loc → Prop} (hn : y.name = "<init>") (w1 : (Cond.methodLink own index y).before a0 Z = true) (wi : (Cond.instanceMethod y).before a0 Z = true) (w3 : (Cond.initialized y.cls).before a0 Z = true) (w4 : (Cond.code y bytes maxL none).before a0 Z = true) (hy : y.cls ≠ "java/lang/invoke/MethodHandle" ∧ y.cls ≠ "java/lang/invoke/VarHandle") (eT : T.heap = h) {b : Addr} (hM : Con l Z y bytes maxL none rm (.ref b :: as) h Qc) {rest : List Value} (W : Nat) (hf : rm.frames + 1 ≤ R.frames) (hlo : W + (maxL + 11) + rm.locals ≤ R.locals) (hc : cells + rm.cells ≤ R.cells) (hs : slots + rm.slots ≤ R.slots) (hsize : Ls.size = c.maxLocals) (hlen : ∀ sig, parseMethodDescriptor y.desc = some sig → as.length = sig.parameters.length) (hst : st = as.reverse ++ .ref b :: rest) (hW : (rest.map fun v => v.category).sum = W) (hd : decode c.code pc = .ok (.invokespecial index, 3)) (r : ∀ v T' L, Stand p l e R s m args below meth c T' (locs ++ L) (cells + rm.cells) (slots + rm.slots) → Qc v T'.heap L → Go p e below En T' (mkF m (pc + 3) Ls (v.toList ++ rest))) : Go p e below En T (mkF m pc Ls st) := by
  obtain ⟨v, _, ⟨T', L', k', n'⟩, -, X', ⟨Lc, hq, e1, e2, e3⟩, k⟩ := X.specialBack hx hn hown (mvT hZ w1) (mvT hZ wi) (mvT hZ w4) hy (backOf (W := W) (len := 3) (hM []) hZ w4 w3 hf hlo) (g := mkF m pc Ls st) rfl hsize (Steps.refl _) (a := b) (argsL := as) (rest := rest) hlen hst (by show 2 * 0 + _ ≤ _; rw [hW]; omega) hd (fun _ _ => ⟨rfl, eT, hc, hs⟩)
  dsimp only [Pt.U, Pt.locs, Pt.cells, Pt.slots] at X' e1 e2 e3 k hq
  subst e1 e2 e3
  exact Go.of (fun t q => k.trans q) (r v T' Lc X' hq)
end Own
end Jvm.OwnGo
namespace Jvm.Pilot.@@N@@
open Jvm Jvm.ClassFile Sem Op Lib Jvm.Free Jvm.Stand Jvm.LawKit Jvm.RoadKit Bundle Jvm.Pilot.@@N@@.Jvm.D
open Jvm.OwnGo (Go Con Ret)
theorem own_pd0 : parseMethodDescriptor "(II)I" = some ⟨[.int, .int], some .int⟩ := by decide +kernel
theorem own_pd1 : parseMethodDescriptor "(II)V" = some ⟨[.int, .int], none⟩ := by decide +kernel
theorem own_pd2 : parseMethodDescriptor "(I)Z" = some ⟨[.int], some .boolean⟩ := by decide +kernel
theorem own_pn0 : plainName "com/example/ulinzi/ulinzi/packetfilter/PortMatch$Range" = true := by first | (simp [plainName, overriddenIn]; done) | decide +kernel
theorem own_pn1 : plainName "com/example/ulinzi/ulinzi/packetfilter/RangeContainsPinLaw" = true := by first | (simp [plainName, overriddenIn]; done) | decide +kernel
def own_min (a b : Int32) : Int32 := if b < a then b else a
def own_max (a b : Int32) : Int32 := if a < b then b else a
theorem own_minmax (a b : Int32) : ¬ own_max a b < own_min a b := by
  unfold own_max own_min
  rw [Int32.lt_iff_toInt_lt]
  by_cases h1 : a < b <;> by_cases h2 : b < a <;> simp only [h1, h2, if_true, if_false] <;> rw [Int32.lt_iff_toInt_lt] at h1 h2 <;> omega
def own_in (lo hi z : Int32) : Int32 := if ¬ z < lo ∧ ¬ hi < z then 1 else 0
theorem own_i64 (x y : Int32) : (x.toInt64 - y.toInt64).toInt = x.toInt - y.toInt := by
  have h1 := Int32.toInt_lt x
  have h2 := Int32.le_toInt x
  have h3 := Int32.toInt_lt y
  have h4 := Int32.le_toInt y
  rw [Jvm.Kit.i64_sub] <;> rw [Int32.toInt_toInt64, Int32.toInt_toInt64] <;> omega
theorem own_low (z lo : Int32) : (z.toInt64 - lo.toInt64 < 0) = (z < lo) := by
  rw [Int64.lt_iff_toInt_lt, Int32.lt_iff_toInt_lt, own_i64]
  have : (0 : Int64).toInt = 0 := rfl
  rw [this]; exact propext ⟨fun h => by omega, fun h => by omega⟩
theorem own_high (z lo hi : Int32) : (hi.toInt64 - lo.toInt64 < z.toInt64 - lo.toInt64) = (hi < z) := by
  rw [Int64.lt_iff_toInt_lt, Int32.lt_iff_toInt_lt, own_i64, own_i64]
  exact propext ⟨fun h => by omega, fun h => by omega⟩
theorem own_irr (x : Int32) : ¬ x < x := by rw [Int32.lt_iff_toInt_lt]; omega
theorem d1_0 : decode jdk_29_method_69_code 0 = .ok (.iload_n 0, 1) := by decide +kernel
theorem d1_1 : decode jdk_29_method_69_code 1 = .ok (.iload_n 1, 1) := by decide +kernel
theorem d1_2 : decode jdk_29_method_69_code 2 = .ok (.if_icmp .gt 7, 3) := by decide +kernel
theorem d1_5 : decode jdk_29_method_69_code 5 = .ok (.iload_n 0, 1) := by decide +kernel
theorem d1_6 : decode jdk_29_method_69_code 6 = .ok (.goto 4, 3) := by decide +kernel
theorem d1_9 : decode jdk_29_method_69_code 9 = .ok (.iload_n 1, 1) := by decide +kernel
theorem d1_10 : decode jdk_29_method_69_code 10 = .ok (.ireturn, 1) := by decide +kernel
theorem own_ef_rm1 (m : MethodId) (x0 : Int32) (x1 : Int32) : entryFrame m [(.int x0), (.int x1)].toArray 2 = mkF m 0 #[.val (.int x0), .val (.int x1)] [] := by first | (simp [entryFrame, mkF, argsToLocals, Value.category]; done) | rfl
set_option maxRecDepth 65536 in
set_option maxHeartbeats 40000000 in
theorem rm1 (l : Launch) (Z : State) (a0 : Array Value) (hw : ∀ d ∈ tables_1, d.before a0 Z = true) (p1 p2 : Int32) (h0 : Heap)  :
    Con l Z (⟨"java/lang/Math", "min", "(II)I"⟩ : MethodName) jdk_29_method_69_code 2 (some .int) ({ frames := 0, cells := 0, slots := 0, locals := 0 } : Room) [(.int p1), (.int p2)] h0 (Ret (some (.int (own_min p1 p2))) h0) := by
  refine Con.of (Jvm.Free.JP.mathPlain rfl (by decide +kernel)) (Ls0 := #[.val (.int p1), .val (.int p2)]) (fun m => own_ef_rm1 m p1 p2) ?_
  intro p e s m below meth c T0 X0 hx hZ hby hml hown hnm hret hlk e0
  show Go p e below _ T0 (mkF m 0 #[.val (.int p1), .val (.int p2)] [])
  refine OwnGo.iloadN X0 hx (hb hby d1_0) rfl ?_
  show Go p e below _ T0 (mkF m 1 #[.val (.int p1), .val (.int p2)] [(.int p1)])
  refine OwnGo.iloadN X0 hx (hb hby d1_1) rfl ?_
  show Go p e below _ T0 (mkF m 2 #[.val (.int p1), .val (.int p2)] [(.int p2), (.int p1)])
  refine OwnGo.ic_gt X0 hx (pc' := 9) (hb hby d1_2) (by decide) (by decide) (fun h2 => ?_) (fun h2 => ?_)
  ·
    show Go p e below _ T0 (mkF m 9 #[.val (.int p1), .val (.int p2)] [])
    refine OwnGo.iloadN X0 hx (hb hby d1_9) rfl ?_
    show Go p e below _ T0 (mkF m 10 #[.val (.int p1), .val (.int p2)] [(.int p2)])
    exact OwnGo.retI X0 hx hlk hret (hb hby d1_10) ⟨by simp only [own_min, h2, not_true_eq_false, not_false_eq_true, false_and, and_false, and_true, true_and, true_or, or_true, false_or, or_false, if_true, if_false], e0, rfl⟩ (by decide) (by decide)
  ·
    show Go p e below _ T0 (mkF m 5 #[.val (.int p1), .val (.int p2)] [])
    refine OwnGo.iloadN X0 hx (hb hby d1_5) rfl ?_
    show Go p e below _ T0 (mkF m 6 #[.val (.int p1), .val (.int p2)] [(.int p1)])
    refine OwnGo.goto X0 hx (pc' := 10) (hb hby d1_6) (by decide) (by decide) ?_
    show Go p e below _ T0 (mkF m 10 #[.val (.int p1), .val (.int p2)] [(.int p1)])
    exact OwnGo.retI X0 hx hlk hret (hb hby d1_10) ⟨by simp only [own_min, h2, not_true_eq_false, not_false_eq_true, false_and, and_false, and_true, true_and, true_or, or_true, false_or, or_false, if_true, if_false], e0, rfl⟩ (by decide) (by decide)
theorem d2_0 : decode jdk_29_method_65_code 0 = .ok (.iload_n 0, 1) := by decide +kernel
theorem d2_1 : decode jdk_29_method_65_code 1 = .ok (.iload_n 1, 1) := by decide +kernel
theorem d2_2 : decode jdk_29_method_65_code 2 = .ok (.if_icmp .lt 7, 3) := by decide +kernel
theorem d2_5 : decode jdk_29_method_65_code 5 = .ok (.iload_n 0, 1) := by decide +kernel
theorem d2_6 : decode jdk_29_method_65_code 6 = .ok (.goto 4, 3) := by decide +kernel
theorem d2_9 : decode jdk_29_method_65_code 9 = .ok (.iload_n 1, 1) := by decide +kernel
theorem d2_10 : decode jdk_29_method_65_code 10 = .ok (.ireturn, 1) := by decide +kernel
theorem own_ef_rm2 (m : MethodId) (x0 : Int32) (x1 : Int32) : entryFrame m [(.int x0), (.int x1)].toArray 2 = mkF m 0 #[.val (.int x0), .val (.int x1)] [] := by first | (simp [entryFrame, mkF, argsToLocals, Value.category]; done) | rfl
set_option maxRecDepth 65536 in
set_option maxHeartbeats 40000000 in
theorem rm2 (l : Launch) (Z : State) (a0 : Array Value) (hw : ∀ d ∈ tables_1, d.before a0 Z = true) (p1 p2 : Int32) (h0 : Heap)  :
    Con l Z (⟨"java/lang/Math", "max", "(II)I"⟩ : MethodName) jdk_29_method_65_code 2 (some .int) ({ frames := 0, cells := 0, slots := 0, locals := 0 } : Room) [(.int p1), (.int p2)] h0 (Ret (some (.int (own_max p1 p2))) h0) := by
  refine Con.of (Jvm.Free.JP.mathPlain rfl (by decide +kernel)) (Ls0 := #[.val (.int p1), .val (.int p2)]) (fun m => own_ef_rm2 m p1 p2) ?_
  intro p e s m below meth c T0 X0 hx hZ hby hml hown hnm hret hlk e0
  show Go p e below _ T0 (mkF m 0 #[.val (.int p1), .val (.int p2)] [])
  refine OwnGo.iloadN X0 hx (hb hby d2_0) rfl ?_
  show Go p e below _ T0 (mkF m 1 #[.val (.int p1), .val (.int p2)] [(.int p1)])
  refine OwnGo.iloadN X0 hx (hb hby d2_1) rfl ?_
  show Go p e below _ T0 (mkF m 2 #[.val (.int p1), .val (.int p2)] [(.int p2), (.int p1)])
  refine OwnGo.ic_lt X0 hx (pc' := 9) (hb hby d2_2) (by decide) (by decide) (fun h2 => ?_) (fun h2 => ?_)
  ·
    show Go p e below _ T0 (mkF m 9 #[.val (.int p1), .val (.int p2)] [])
    refine OwnGo.iloadN X0 hx (hb hby d2_9) rfl ?_
    show Go p e below _ T0 (mkF m 10 #[.val (.int p1), .val (.int p2)] [(.int p2)])
    exact OwnGo.retI X0 hx hlk hret (hb hby d2_10) ⟨by simp only [own_max, h2, not_true_eq_false, not_false_eq_true, false_and, and_false, and_true, true_and, true_or, or_true, false_or, or_false, if_true, if_false], e0, rfl⟩ (by decide) (by decide)
  ·
    show Go p e below _ T0 (mkF m 5 #[.val (.int p1), .val (.int p2)] [])
    refine OwnGo.iloadN X0 hx (hb hby d2_5) rfl ?_
    show Go p e below _ T0 (mkF m 6 #[.val (.int p1), .val (.int p2)] [(.int p1)])
    refine OwnGo.goto X0 hx (pc' := 10) (hb hby d2_6) (by decide) (by decide) ?_
    show Go p e below _ T0 (mkF m 10 #[.val (.int p1), .val (.int p2)] [(.int p1)])
    exact OwnGo.retI X0 hx hlk hret (hb hby d2_10) ⟨by simp only [own_max, h2, not_true_eq_false, not_false_eq_true, false_and, and_false, and_true, true_and, true_or, or_true, false_or, or_false, if_true, if_false], e0, rfl⟩ (by decide) (by decide)
theorem d3_0 : decode prog_58_method_1_code 0 = .ok (.aload_n 0, 1) := by decide +kernel
theorem d3_1 : decode prog_58_method_1_code 1 = .ok (.invokespecial 1, 3) := by decide +kernel
theorem d3_4 : decode prog_58_method_1_code 4 = .ok (.aload_n 0, 1) := by decide +kernel
theorem d3_5 : decode prog_58_method_1_code 5 = .ok (.iload_n 1, 1) := by decide +kernel
theorem d3_6 : decode prog_58_method_1_code 6 = .ok (.putfield 7, 3) := by decide +kernel
theorem d3_9 : decode prog_58_method_1_code 9 = .ok (.aload_n 0, 1) := by decide +kernel
theorem d3_10 : decode prog_58_method_1_code 10 = .ok (.iload_n 2, 1) := by decide +kernel
theorem d3_11 : decode prog_58_method_1_code 11 = .ok (.putfield 13, 3) := by decide +kernel
theorem d3_14 : decode prog_58_method_1_code 14 = .ok (.return_, 1) := by decide +kernel
theorem own_ef_rm3 (m : MethodId) (x0 : Addr) (x1 : Int32) (x2 : Int32) : entryFrame m [(.ref x0), (.int x1), (.int x2)].toArray 3 = mkF m 0 #[.val (.ref x0), .val (.int x1), .val (.int x2)] [] := by first | (simp [entryFrame, mkF, argsToLocals, Value.category]; done) | rfl
set_option maxRecDepth 65536 in
set_option maxHeartbeats 40000000 in
theorem rm3 (l : Launch) (Z : State) (a0 : Array Value) (hw : ∀ d ∈ tables_1, d.before a0 Z = true) (a1 : Addr) (p1 p2 : Int32) (h0 : Heap) (n0 : Nat) (Z0 : n0 ≤ h0.size) (ga : n0 ≤ a1) (E1 : Exa Z h0 a1 "com/example/ulinzi/ulinzi/packetfilter/PortMatch$Range") (F1 : Fld Z h0 a1 "com/example/ulinzi/ulinzi/packetfilter/PortMatch$Range" "from" "I" (.int 0)) (F2 : Fld Z h0 a1 "com/example/ulinzi/ulinzi/packetfilter/PortMatch$Range" "to" "I" (.int 0)) :
    Con l Z (⟨"com/example/ulinzi/ulinzi/packetfilter/PortMatch$Range", "<init>", "(II)V"⟩ : MethodName) prog_58_method_1_code 3 none ({ frames := 1, cells := 0, slots := 0, locals := 13 } : Room) [(.ref a1), (.int p1), (.int p2)] h0 (fun v h L => v = none ∧ Fr n0 L ∧ Keep h0 h [a1] ∧ Exa Z h a1 "com/example/ulinzi/ulinzi/packetfilter/PortMatch$Range" ∧ Fld Z h a1 "com/example/ulinzi/ulinzi/packetfilter/PortMatch$Range" "from" "I" (.int p1) ∧ Fld Z h a1 "com/example/ulinzi/ulinzi/packetfilter/PortMatch$Range" "to" "I" (.int p2)) := by
  refine Con.of (plainFor_of_name own_pn0) (Ls0 := #[.val (.ref a1), .val (.int p1), .val (.int p2)]) (fun m => own_ef_rm3 m a1 p1 p2) ?_
  intro p e s m below meth c T0 X0 hx hZ hby hml hown hnm hret hlk e0
  show Go p e below _ T0 (mkF m 0 #[.val (.ref a1), .val (.int p1), .val (.int p2)] [])
  refine OwnGo.aloadN X0 hx (hb hby d3_0) rfl rfl ?_
  show Go p e below _ T0 (mkF m 1 #[.val (.ref a1), .val (.int p1), .val (.int p2)] [(.ref a1)])
  refine OwnGo.initO X0 hx hZ hown (hw _ (List.mem_of_getElem? (i := 13) rfl)) (hw _ (List.mem_of_getElem? (i := 14) rfl)) (hw _ (List.mem_of_getElem? (i := 15) rfl)) e0 (by rw [hml]; rfl) (hb hby d3_1) (by decide) (W := 0) rfl (by decide) fun T1 X1 e1 => ?_
  show Go p e below _ T1 (mkF m 4 #[.val (.ref a1), .val (.int p1), .val (.int p2)] [])
  refine OwnGo.aloadN X1 hx (hb hby d3_4) rfl rfl ?_
  show Go p e below _ T1 (mkF m 5 #[.val (.ref a1), .val (.int p1), .val (.int p2)] [(.ref a1)])
  refine OwnGo.iloadN X1 hx (hb hby d3_5) rfl ?_
  show Go p e below _ T1 (mkF m 6 #[.val (.ref a1), .val (.int p1), .val (.int p2)] [(.int p1), (.ref a1)])
  refine OwnGo.putF X1 hx hZ hown (host := "") (Or.inl (hw _ (List.mem_of_getElem? (i := 16) rfl))) Via.refl e1 F1 E1 (Or.inr ⟨(hw _ (List.mem_of_getElem? (i := 17) rfl)), rfl, hnm⟩) (hw _ (List.mem_of_getElem? (i := 8) rfl)) (ty := .int) (by decide) rfl rfl (hb hby d3_6) fun T2 h2 X2 e2 W2 => ?_
  have E1_c2 := E1.wr W2
  have F1_c2 := F1.same W2
  have F2_c2 := F2.other W2 (Or.inr (slot_ne (Or.inr (hw _ (List.mem_of_getElem? (i := 19) rfl))) (Or.inr (hw _ (List.mem_of_getElem? (i := 17) rfl))) (by decide) (t := .int) (t' := .int) (by decide) (by decide)))
  have Z2 := Nat.le_trans Z0 (Keep.of_wr W2).1
  have K2_ := (Keep.refl h0 [a1]).wr W2 (Or.inl (List.mem_of_getElem? (i := 0) rfl))
  have N2_ := Fr.snoc X2 (Fr.nil n0) ga
  show Go p e below _ T2 (mkF m 9 #[.val (.ref a1), .val (.int p1), .val (.int p2)] [])
  refine OwnGo.aloadN X2 hx (hb hby d3_9) rfl rfl ?_
  show Go p e below _ T2 (mkF m 10 #[.val (.ref a1), .val (.int p1), .val (.int p2)] [(.ref a1)])
  refine OwnGo.iloadN X2 hx (hb hby d3_10) rfl ?_
  show Go p e below _ T2 (mkF m 11 #[.val (.ref a1), .val (.int p1), .val (.int p2)] [(.int p2), (.ref a1)])
  refine OwnGo.putF X2 hx hZ hown (host := "") (Or.inl (hw _ (List.mem_of_getElem? (i := 18) rfl))) Via.refl e2 F2_c2 E1_c2 (Or.inr ⟨(hw _ (List.mem_of_getElem? (i := 19) rfl)), rfl, hnm⟩) (hw _ (List.mem_of_getElem? (i := 8) rfl)) (ty := .int) (by decide) rfl rfl (hb hby d3_11) fun T3 h3 X3 e3 W3 => ?_
  have E1_c3 := E1_c2.wr W3
  have F1_c3 := F1_c2.other W3 (Or.inr (slot_ne (Or.inr (hw _ (List.mem_of_getElem? (i := 17) rfl))) (Or.inr (hw _ (List.mem_of_getElem? (i := 19) rfl))) (by decide) (t := .int) (t' := .int) (by decide) (by decide)))
  have F2_c3 := F2_c2.same W3
  have Z3 := Nat.le_trans Z2 (Keep.of_wr W3).1
  have K3_ := K2_.wr W3 (Or.inl (List.mem_of_getElem? (i := 0) rfl))
  have N3_ := Fr.snoc X3 N2_ ga
  show Go p e below _ T3 (mkF m 14 #[.val (.ref a1), .val (.int p1), .val (.int p2)] [])
  refine OwnGo.retV X3 hx hlk hret (hb hby d3_14) ?_ (by decide) (by decide)
  rw [e3]
  exact ⟨rfl, N3_, K3_, E1_c3, F1_c3, F2_c3⟩
theorem d5_0 : decode prog_58_method_2_code 0 = .ok (.aload_n 0, 1) := by decide +kernel
theorem d5_1 : decode prog_58_method_2_code 1 = .ok (.getfield 7, 3) := by decide +kernel
theorem d5_4 : decode prog_58_method_2_code 4 = .ok (.iload_n 1, 1) := by decide +kernel
theorem d5_5 : decode prog_58_method_2_code 5 = .ok (.if_icmp .gt 15, 3) := by decide +kernel
theorem d5_8 : decode prog_58_method_2_code 8 = .ok (.iload_n 1, 1) := by decide +kernel
theorem d5_9 : decode prog_58_method_2_code 9 = .ok (.aload_n 0, 1) := by decide +kernel
theorem d5_10 : decode prog_58_method_2_code 10 = .ok (.getfield 13, 3) := by decide +kernel
theorem d5_13 : decode prog_58_method_2_code 13 = .ok (.if_icmp .gt 7, 3) := by decide +kernel
theorem d5_16 : decode prog_58_method_2_code 16 = .ok (.iconst 1, 1) := by decide +kernel
theorem d5_17 : decode prog_58_method_2_code 17 = .ok (.goto 4, 3) := by decide +kernel
theorem d5_20 : decode prog_58_method_2_code 20 = .ok (.iconst 0, 1) := by decide +kernel
theorem d5_21 : decode prog_58_method_2_code 21 = .ok (.ireturn, 1) := by decide +kernel
theorem own_ef_rm4 (m : MethodId) (x0 : Addr) (x1 : Int32) : entryFrame m [(.ref x0), (.int x1)].toArray 2 = mkF m 0 #[.val (.ref x0), .val (.int x1)] [] := by first | (simp [entryFrame, mkF, argsToLocals, Value.category]; done) | rfl
set_option maxRecDepth 65536 in
set_option maxHeartbeats 40000000 in
theorem rm4 (l : Launch) (Z : State) (a0 : Array Value) (hw : ∀ d ∈ tables_1, d.before a0 Z = true) (a1 : Addr) (lo hi z r : Int32) (h0 : Heap) (F1 : Fld Z h0 a1 "com/example/ulinzi/ulinzi/packetfilter/PortMatch$Range" "from" "I" (.int lo)) (F2 : Fld Z h0 a1 "com/example/ulinzi/ulinzi/packetfilter/PortMatch$Range" "to" "I" (.int hi)) (hr : own_in lo hi z = r) :
    Con l Z (⟨"com/example/ulinzi/ulinzi/packetfilter/PortMatch$Range", "contains", "(I)Z"⟩ : MethodName) prog_58_method_2_code 2 (some .boolean) ({ frames := 0, cells := 0, slots := 0, locals := 0 } : Room) [(.ref a1), (.int z)] h0 (Ret (some (.int r)) h0) := by
  refine Con.of (plainFor_of_name own_pn0) (Ls0 := #[.val (.ref a1), .val (.int z)]) (fun m => own_ef_rm4 m a1 z) ?_
  intro p e s m below meth c T0 X0 hx hZ hby hml hown hnm hret hlk e0
  show Go p e below _ T0 (mkF m 0 #[.val (.ref a1), .val (.int z)] [])
  refine OwnGo.aloadN X0 hx (hb hby d5_0) rfl rfl ?_
  show Go p e below _ T0 (mkF m 1 #[.val (.ref a1), .val (.int z)] [(.ref a1)])
  refine OwnGo.getF X0 hx hZ hown (host := "") (Or.inl (hw _ (List.mem_of_getElem? (i := 16) rfl))) Via.refl e0 F1 (hb hby d5_1) fun T1 X1 e1 => ?_
  show Go p e below _ T1 (mkF m 4 #[.val (.ref a1), .val (.int z)] [(.int lo)])
  refine OwnGo.iloadN X1 hx (hb hby d5_4) rfl ?_
  show Go p e below _ T1 (mkF m 5 #[.val (.ref a1), .val (.int z)] [(.int z), (.int lo)])
  refine OwnGo.ic_gt X1 hx (pc' := 20) (hb hby d5_5) (by decide) (by decide) (fun h5 => ?_) (fun h5 => ?_)
  ·
    show Go p e below _ T1 (mkF m 20 #[.val (.ref a1), .val (.int z)] [])
    refine OwnGo.iconst X1 hx (z := (0 : Int32)) (hb hby d5_20) (by decide) ?_
    show Go p e below _ T1 (mkF m 21 #[.val (.ref a1), .val (.int z)] [(.int (0 : Int32))])
    exact OwnGo.retB X1 hx hlk (z' := (0 : Int32)) hret (hb hby d5_21) rfl ⟨by rw [← hr]; simp only [own_in, h5, not_true_eq_false, not_false_eq_true, false_and, and_false, and_true, true_and, true_or, or_true, false_or, or_false, if_true, if_false], e1, rfl⟩ (by decide) (by decide)
  ·
    show Go p e below _ T1 (mkF m 8 #[.val (.ref a1), .val (.int z)] [])
    refine OwnGo.iloadN X1 hx (hb hby d5_8) rfl ?_
    show Go p e below _ T1 (mkF m 9 #[.val (.ref a1), .val (.int z)] [(.int z)])
    refine OwnGo.aloadN X1 hx (hb hby d5_9) rfl rfl ?_
    show Go p e below _ T1 (mkF m 10 #[.val (.ref a1), .val (.int z)] [(.ref a1), (.int z)])
    refine OwnGo.getF X1 hx hZ hown (host := "") (Or.inl (hw _ (List.mem_of_getElem? (i := 18) rfl))) Via.refl e1 F2 (hb hby d5_10) fun T2 X2 e2 => ?_
    show Go p e below _ T2 (mkF m 13 #[.val (.ref a1), .val (.int z)] [(.int hi), (.int z)])
    refine OwnGo.ic_gt X2 hx (pc' := 20) (hb hby d5_13) (by decide) (by decide) (fun h13 => ?_) (fun h13 => ?_)
    ·
      show Go p e below _ T2 (mkF m 20 #[.val (.ref a1), .val (.int z)] [])
      refine OwnGo.iconst X2 hx (z := (0 : Int32)) (hb hby d5_20) (by decide) ?_
      show Go p e below _ T2 (mkF m 21 #[.val (.ref a1), .val (.int z)] [(.int (0 : Int32))])
      exact OwnGo.retB X2 hx hlk (z' := (0 : Int32)) hret (hb hby d5_21) rfl ⟨by rw [← hr]; simp only [own_in, h5, h13, not_true_eq_false, not_false_eq_true, false_and, and_false, and_true, true_and, true_or, or_true, false_or, or_false, if_true, if_false], e2, rfl⟩ (by decide) (by decide)
    ·
      show Go p e below _ T2 (mkF m 16 #[.val (.ref a1), .val (.int z)] [])
      refine OwnGo.iconst X2 hx (z := (1 : Int32)) (hb hby d5_16) (by decide) ?_
      show Go p e below _ T2 (mkF m 17 #[.val (.ref a1), .val (.int z)] [(.int (1 : Int32))])
      refine OwnGo.goto X2 hx (pc' := 21) (hb hby d5_17) (by decide) (by decide) ?_
      show Go p e below _ T2 (mkF m 21 #[.val (.ref a1), .val (.int z)] [(.int (1 : Int32))])
      exact OwnGo.retB X2 hx hlk (z' := (1 : Int32)) hret (hb hby d5_21) rfl ⟨by rw [← hr]; simp only [own_in, h5, h13, not_true_eq_false, not_false_eq_true, false_and, and_false, and_true, true_and, true_or, or_true, false_or, or_false, if_true, if_false], e2, rfl⟩ (by decide) (by decide)
theorem own_ef_rm0 (m : MethodId) (x0 : Int32) (x1 : Int32) (x2 : Int32) (x3 : Int32) : entryFrame m [(.int x0), (.int x1), (.int x2), (.int x3)].toArray maxLocals = mkF m 0 #[.val (.int x0), .val (.int x1), .val (.int x2), .val (.int x3), .unset, .unset, .unset, .unset, .unset, .unset, .unset, .unset, .unset, .unset] [] := by first | (simp [entryFrame, mkF, argsToLocals, Value.category, maxLocals]; done) | rfl
set_option maxRecDepth 65536 in
set_option maxHeartbeats 40000000 in
theorem rm0 (l : Launch) (Z : State) (a0 : Array Value) (hw : ∀ d ∈ tables_1, d.before a0 Z = true) (p1 p2 p3 p4 : Int32) (h0 : Heap) (n0 : Nat) (Z0 : n0 ≤ h0.size) :
    Con l Z x code maxLocals ret room_1 [(.int p1), (.int p2), (.int p3), (.int p4)] h0 (fun v _ L => v = some (.int 1) ∧ Fr n0 L) := by
  refine Con.of (plainFor_of_name own_pn1) (Ls0 := #[.val (.int p1), .val (.int p2), .val (.int p3), .val (.int p4), .unset, .unset, .unset, .unset, .unset, .unset, .unset, .unset, .unset, .unset]) (fun m => own_ef_rm0 m p1 p2 p3 p4) ?_
  intro p e s m below meth c T0 X0 hx hZ hby hml hown hnm hret hlk e0
  have hml : c.maxLocals = 14 := hml
  show Go p e below _ T0 (mkF m 0 #[.val (.int p1), .val (.int p2), .val (.int p3), .val (.int p4), .unset, .unset, .unset, .unset, .unset, .unset, .unset, .unset, .unset, .unset] [])
  refine OwnGo.iloadN X0 hx (hb hby at_0) rfl ?_
  show Go p e below _ T0 (mkF m 1 #[.val (.int p1), .val (.int p2), .val (.int p3), .val (.int p4), .unset, .unset, .unset, .unset, .unset, .unset, .unset, .unset, .unset, .unset] [(.int p1)])
  refine OwnGo.iloadN X0 hx (hb hby at_1) rfl ?_
  show Go p e below _ T0 (mkF m 2 #[.val (.int p1), .val (.int p2), .val (.int p3), .val (.int p4), .unset, .unset, .unset, .unset, .unset, .unset, .unset, .unset, .unset, .unset] [(.int p2), (.int p1)])
  refine OwnGo.callS X0 hx hZ hown (y := (⟨"java/lang/Math", "min", "(II)I"⟩ : MethodName)) (hw _ (List.mem_of_getElem? (i := 0) rfl)) (hw _ (List.mem_of_getElem? (i := 1) rfl)) (hw _ (List.mem_of_getElem? (i := 2) rfl)) (hw _ (List.mem_of_getElem? (i := 3) rfl)) (by decide) e0 (as := [(.int p1), (.int p2)]) (rm1 l Z a0 hw p1 p2 h0) (W := 0) (by decide) (by decide) (by decide) (by decide) (by rw [hml]; rfl) (lenOf own_pd0 rfl) (rest := []) rfl rfl (hb hby at_2) fun v1 T1 L1 X1 q1 => ?_
  obtain ⟨rfl, e1, rfl⟩ := q1
  rw [List.append_nil] at X1
  show Go p e below _ T1 (mkF m 5 #[.val (.int p1), .val (.int p2), .val (.int p3), .val (.int p4), .unset, .unset, .unset, .unset, .unset, .unset, .unset, .unset, .unset, .unset] [(.int (own_min p1 p2))])
  refine OwnGo.istore X1 hx (hb hby at_5) (Ls' := #[.val (.int p1), .val (.int p2), .val (.int p3), .val (.int p4), .val (.int (own_min p1 p2)), .unset, .unset, .unset, .unset, .unset, .unset, .unset, .unset, .unset]) rfl ?_
  show Go p e below _ T1 (mkF m 7 #[.val (.int p1), .val (.int p2), .val (.int p3), .val (.int p4), .val (.int (own_min p1 p2)), .unset, .unset, .unset, .unset, .unset, .unset, .unset, .unset, .unset] [])
  refine OwnGo.iloadN X1 hx (hb hby at_7) rfl ?_
  show Go p e below _ T1 (mkF m 8 #[.val (.int p1), .val (.int p2), .val (.int p3), .val (.int p4), .val (.int (own_min p1 p2)), .unset, .unset, .unset, .unset, .unset, .unset, .unset, .unset, .unset] [(.int p1)])
  refine OwnGo.iloadN X1 hx (hb hby at_8) rfl ?_
  show Go p e below _ T1 (mkF m 9 #[.val (.int p1), .val (.int p2), .val (.int p3), .val (.int p4), .val (.int (own_min p1 p2)), .unset, .unset, .unset, .unset, .unset, .unset, .unset, .unset, .unset] [(.int p2), (.int p1)])
  refine OwnGo.callS X1 hx hZ hown (y := (⟨"java/lang/Math", "max", "(II)I"⟩ : MethodName)) (hw _ (List.mem_of_getElem? (i := 4) rfl)) (hw _ (List.mem_of_getElem? (i := 5) rfl)) (hw _ (List.mem_of_getElem? (i := 2) rfl)) (hw _ (List.mem_of_getElem? (i := 6) rfl)) (by decide) e1 (as := [(.int p1), (.int p2)]) (rm2 l Z a0 hw p1 p2 h0) (W := 0) (by decide) (by decide) (by decide) (by decide) (by rw [hml]; rfl) (lenOf own_pd0 rfl) (rest := []) rfl rfl (hb hby at_9) fun v2 T2 L2 X2 q2 => ?_
  obtain ⟨rfl, e2, rfl⟩ := q2
  rw [List.append_nil] at X2
  show Go p e below _ T2 (mkF m 12 #[.val (.int p1), .val (.int p2), .val (.int p3), .val (.int p4), .val (.int (own_min p1 p2)), .unset, .unset, .unset, .unset, .unset, .unset, .unset, .unset, .unset] [(.int (own_max p1 p2))])
  refine OwnGo.istore X2 hx (hb hby at_12) (Ls' := #[.val (.int p1), .val (.int p2), .val (.int p3), .val (.int p4), .val (.int (own_min p1 p2)), .val (.int (own_max p1 p2)), .unset, .unset, .unset, .unset, .unset, .unset, .unset, .unset]) rfl ?_
  obtain ⟨lo, hlo⟩ : ∃ z, z = own_min p1 p2 := ⟨_, rfl⟩
  obtain ⟨hi, hhi⟩ : ∃ z, z = own_max p1 p2 := ⟨_, rfl⟩
  have hlh : ¬ hi < lo := by rw [hlo, hhi]; exact own_minmax _ _
  rw [← hlo, ← hhi]
  show Go p e below _ T2 (mkF m 14 #[.val (.int p1), .val (.int p2), .val (.int p3), .val (.int p4), .val (.int lo), .val (.int hi), .unset, .unset, .unset, .unset, .unset, .unset, .unset, .unset] [])
  refine OwnGo.newO X2 hx hZ hown (hw _ (List.mem_of_getElem? (i := 7) rfl)) (hw _ (List.mem_of_getElem? (i := 8) rfl)) (hw _ (List.mem_of_getElem? (i := 9) rfl)) e2 (hb hby at_14) (by decide) (by decide) fun T3 h3 b3 g3 X3 e3 E3 A3 D3 => ?_
  have gb3 : n0 ≤ b3 := Nat.le_trans Z0 (Nat.le_of_eq g3.symm)
  have gz3 : h0.size ≤ b3 := Nat.le_trans (Keep.refl h0 []).1 (Nat.le_of_eq g3.symm)
  have Z3 := Nat.le_trans Z0 E3.1
  have K3_ := (Keep.refl h0 []).ext E3
  have F3_from : Fld Z h3 b3 "com/example/ulinzi/ulinzi/packetfilter/PortMatch$Range" "from" "I" (.int (0 : Int32)) := D3 (Or.inr (hw _ (List.mem_of_getElem? (i := 17) rfl))) (ty := .int) (by decide)
  have F3_to : Fld Z h3 b3 "com/example/ulinzi/ulinzi/packetfilter/PortMatch$Range" "to" "I" (.int (0 : Int32)) := D3 (Or.inr (hw _ (List.mem_of_getElem? (i := 19) rfl))) (ty := .int) (by decide)
  show Go p e below _ T3 (mkF m 17 #[.val (.int p1), .val (.int p2), .val (.int p3), .val (.int p4), .val (.int lo), .val (.int hi), .unset, .unset, .unset, .unset, .unset, .unset, .unset, .unset] [(.ref b3)])
  refine OwnGo.dup X3 hx (hb hby at_17) rfl ?_
  show Go p e below _ T3 (mkF m 18 #[.val (.int p1), .val (.int p2), .val (.int p3), .val (.int p4), .val (.int lo), .val (.int hi), .unset, .unset, .unset, .unset, .unset, .unset, .unset, .unset] [(.ref b3), (.ref b3)])
  refine OwnGo.iload X3 hx (hb hby at_18) rfl ?_
  show Go p e below _ T3 (mkF m 20 #[.val (.int p1), .val (.int p2), .val (.int p3), .val (.int p4), .val (.int lo), .val (.int hi), .unset, .unset, .unset, .unset, .unset, .unset, .unset, .unset] [(.int lo), (.ref b3), (.ref b3)])
  refine OwnGo.iload X3 hx (hb hby at_20) rfl ?_
  show Go p e below _ T3 (mkF m 22 #[.val (.int p1), .val (.int p2), .val (.int p3), .val (.int p4), .val (.int lo), .val (.int hi), .unset, .unset, .unset, .unset, .unset, .unset, .unset, .unset] [(.int hi), (.int lo), (.ref b3), (.ref b3)])
  refine OwnGo.callI X3 hx hZ hown (y := (⟨"com/example/ulinzi/ulinzi/packetfilter/PortMatch$Range", "<init>", "(II)V"⟩ : MethodName)) rfl (hw _ (List.mem_of_getElem? (i := 10) rfl)) (hw _ (List.mem_of_getElem? (i := 11) rfl)) (hw _ (List.mem_of_getElem? (i := 9) rfl)) (hw _ (List.mem_of_getElem? (i := 12) rfl)) (by decide) e3 (as := [(.int lo), (.int hi)]) (rm3 l Z a0 hw b3 lo hi h3 n0 Z3 gb3 A3 F3_from F3_to) (W := 1) (by decide) (by decide) (by decide) (by decide) (by rw [hml]; rfl) (lenOf own_pd1 rfl) (rest := [(.ref b3)]) rfl rfl (hb hby at_22) fun v4 T4 L4 X4 q4 => ?_
  obtain ⟨rfl, N4, K4, E4, F4a, F4b⟩ := q4
  have A3_c4 := A3.keep K4
  have Z4 := Nat.le_trans Z3 K4.1
  have K4_ := K3_.trans K4 (allS (Or.inr gz3) all0)
  show Go p e below _ T4 (mkF m 25 #[.val (.int p1), .val (.int p2), .val (.int p3), .val (.int p4), .val (.int lo), .val (.int hi), .unset, .unset, .unset, .unset, .unset, .unset, .unset, .unset] [(.ref b3)])
  refine OwnGo.astore X4 hx (hb hby at_25) rfl (Ls' := #[.val (.int p1), .val (.int p2), .val (.int p3), .val (.int p4), .val (.int lo), .val (.int hi), .val (.ref b3), .unset, .unset, .unset, .unset, .unset, .unset, .unset]) rfl ?_
  show Go p e below _ T4 (mkF m 27 #[.val (.int p1), .val (.int p2), .val (.int p3), .val (.int p4), .val (.int lo), .val (.int hi), .val (.ref b3), .unset, .unset, .unset, .unset, .unset, .unset, .unset] [])
  refine OwnGo.iloadN X4 hx (hb hby at_27) rfl ?_
  show Go p e below _ T4 (mkF m 28 #[.val (.int p1), .val (.int p2), .val (.int p3), .val (.int p4), .val (.int lo), .val (.int hi), .val (.ref b3), .unset, .unset, .unset, .unset, .unset, .unset, .unset] [(.int p4)])
  refine OwnGo.bipush X4 hx (z := (7 : Int32)) (hb hby at_28) (by decide) ?_
  show Go p e below _ T4 (mkF m 30 #[.val (.int p1), .val (.int p2), .val (.int p3), .val (.int p4), .val (.int lo), .val (.int hi), .val (.ref b3), .unset, .unset, .unset, .unset, .unset, .unset, .unset] [(.int (7 : Int32)), (.int p4)])
  refine OwnGo.iand X4 hx (hb hby at_30) rfl ?_
  show Go p e below _ T4 (mkF m 31 #[.val (.int p1), .val (.int p2), .val (.int p3), .val (.int p4), .val (.int lo), .val (.int hi), .val (.ref b3), .unset, .unset, .unset, .unset, .unset, .unset, .unset] [(.int (p4 &&& (7 : Int32)))])
  refine OwnGo.istore X4 hx (hb hby at_31) (Ls' := #[.val (.int p1), .val (.int p2), .val (.int p3), .val (.int p4), .val (.int lo), .val (.int hi), .val (.ref b3), .val (.int (p4 &&& (7 : Int32))), .unset, .unset, .unset, .unset, .unset, .unset]) rfl ?_
  have J91 : ∀ (pt : Int32) (T' : State), Stand p l e room_1 s m #[(.int p1), (.int p2), (.int p3), (.int p4)] below meth c T' ([] ++ L4) 1 2 → T'.heap = T4.heap → Go p e below (OwnGo.EndN s (fun v _ L => v = some (.int 1) ∧ Fr n0 L) room_1.cells room_1.slots) T' (mkF m 91 #[.val (.int p1), .val (.int p2), .val (.int p3), .val (.int p4), .val (.int lo), .val (.int hi), .val (.ref b3), .val (.int (p4 &&& (7 : Int32))), .val (.int pt), .unset, .unset, .unset, .unset, .unset] []) := by
    intro pt T5 X5 e5
    show Go p e below _ T5 (mkF m 91 #[.val (.int p1), .val (.int p2), .val (.int p3), .val (.int p4), .val (.int lo), .val (.int hi), .val (.ref b3), .val (.int (p4 &&& (7 : Int32))), .val (.int pt), .unset, .unset, .unset, .unset, .unset] [])
    refine OwnGo.iload X5 hx (hb hby at_91) rfl ?_
    show Go p e below _ T5 (mkF m 93 #[.val (.int p1), .val (.int p2), .val (.int p3), .val (.int p4), .val (.int lo), .val (.int hi), .val (.ref b3), .val (.int (p4 &&& (7 : Int32))), .val (.int pt), .unset, .unset, .unset, .unset, .unset] [(.int pt)])
    refine OwnGo.i2l X5 hx (hb hby at_93) rfl ?_
    show Go p e below _ T5 (mkF m 94 #[.val (.int p1), .val (.int p2), .val (.int p3), .val (.int p4), .val (.int lo), .val (.int hi), .val (.ref b3), .val (.int (p4 &&& (7 : Int32))), .val (.int pt), .unset, .unset, .unset, .unset, .unset] [(.long (pt.toInt64))])
    refine OwnGo.iload X5 hx (hb hby at_94) rfl ?_
    show Go p e below _ T5 (mkF m 96 #[.val (.int p1), .val (.int p2), .val (.int p3), .val (.int p4), .val (.int lo), .val (.int hi), .val (.ref b3), .val (.int (p4 &&& (7 : Int32))), .val (.int pt), .unset, .unset, .unset, .unset, .unset] [(.int lo), (.long (pt.toInt64))])
    refine OwnGo.i2l X5 hx (hb hby at_96) rfl ?_
    show Go p e below _ T5 (mkF m 97 #[.val (.int p1), .val (.int p2), .val (.int p3), .val (.int p4), .val (.int lo), .val (.int hi), .val (.ref b3), .val (.int (p4 &&& (7 : Int32))), .val (.int pt), .unset, .unset, .unset, .unset, .unset] [(.long (lo.toInt64)), (.long (pt.toInt64))])
    refine OwnGo.lsub X5 hx (hb hby at_97) rfl ?_
    show Go p e below _ T5 (mkF m 98 #[.val (.int p1), .val (.int p2), .val (.int p3), .val (.int p4), .val (.int lo), .val (.int hi), .val (.ref b3), .val (.int (p4 &&& (7 : Int32))), .val (.int pt), .unset, .unset, .unset, .unset, .unset] [(.long ((pt.toInt64) - (lo.toInt64)))])
    refine OwnGo.lstore X5 hx (hb hby at_98) (Ls' := #[.val (.int p1), .val (.int p2), .val (.int p3), .val (.int p4), .val (.int lo), .val (.int hi), .val (.ref b3), .val (.int (p4 &&& (7 : Int32))), .val (.int pt), .val (.long ((pt.toInt64) - (lo.toInt64))), .second, .unset, .unset, .unset]) rfl ?_
    show Go p e below _ T5 (mkF m 100 #[.val (.int p1), .val (.int p2), .val (.int p3), .val (.int p4), .val (.int lo), .val (.int hi), .val (.ref b3), .val (.int (p4 &&& (7 : Int32))), .val (.int pt), .val (.long ((pt.toInt64) - (lo.toInt64))), .second, .unset, .unset, .unset] [])
    refine OwnGo.iload X5 hx (hb hby at_100) rfl ?_
    show Go p e below _ T5 (mkF m 102 #[.val (.int p1), .val (.int p2), .val (.int p3), .val (.int p4), .val (.int lo), .val (.int hi), .val (.ref b3), .val (.int (p4 &&& (7 : Int32))), .val (.int pt), .val (.long ((pt.toInt64) - (lo.toInt64))), .second, .unset, .unset, .unset] [(.int hi)])
    refine OwnGo.i2l X5 hx (hb hby at_102) rfl ?_
    show Go p e below _ T5 (mkF m 103 #[.val (.int p1), .val (.int p2), .val (.int p3), .val (.int p4), .val (.int lo), .val (.int hi), .val (.ref b3), .val (.int (p4 &&& (7 : Int32))), .val (.int pt), .val (.long ((pt.toInt64) - (lo.toInt64))), .second, .unset, .unset, .unset] [(.long (hi.toInt64))])
    refine OwnGo.iload X5 hx (hb hby at_103) rfl ?_
    show Go p e below _ T5 (mkF m 105 #[.val (.int p1), .val (.int p2), .val (.int p3), .val (.int p4), .val (.int lo), .val (.int hi), .val (.ref b3), .val (.int (p4 &&& (7 : Int32))), .val (.int pt), .val (.long ((pt.toInt64) - (lo.toInt64))), .second, .unset, .unset, .unset] [(.int lo), (.long (hi.toInt64))])
    refine OwnGo.i2l X5 hx (hb hby at_105) rfl ?_
    show Go p e below _ T5 (mkF m 106 #[.val (.int p1), .val (.int p2), .val (.int p3), .val (.int p4), .val (.int lo), .val (.int hi), .val (.ref b3), .val (.int (p4 &&& (7 : Int32))), .val (.int pt), .val (.long ((pt.toInt64) - (lo.toInt64))), .second, .unset, .unset, .unset] [(.long (lo.toInt64)), (.long (hi.toInt64))])
    refine OwnGo.lsub X5 hx (hb hby at_106) rfl ?_
    show Go p e below _ T5 (mkF m 107 #[.val (.int p1), .val (.int p2), .val (.int p3), .val (.int p4), .val (.int lo), .val (.int hi), .val (.ref b3), .val (.int (p4 &&& (7 : Int32))), .val (.int pt), .val (.long ((pt.toInt64) - (lo.toInt64))), .second, .unset, .unset, .unset] [(.long ((hi.toInt64) - (lo.toInt64)))])
    refine OwnGo.lstore X5 hx (hb hby at_107) (Ls' := #[.val (.int p1), .val (.int p2), .val (.int p3), .val (.int p4), .val (.int lo), .val (.int hi), .val (.ref b3), .val (.int (p4 &&& (7 : Int32))), .val (.int pt), .val (.long ((pt.toInt64) - (lo.toInt64))), .second, .val (.long ((hi.toInt64) - (lo.toInt64))), .second, .unset]) rfl ?_
    have J129 : ∀ (ex : Int32) (hex : own_in lo hi pt = ex) (T' : State), Stand p l e room_1 s m #[(.int p1), (.int p2), (.int p3), (.int p4)] below meth c T' ([] ++ L4) 1 2 → T'.heap = T4.heap → Go p e below (OwnGo.EndN s (fun v _ L => v = some (.int 1) ∧ Fr n0 L) room_1.cells room_1.slots) T' (mkF m 129 #[.val (.int p1), .val (.int p2), .val (.int p3), .val (.int p4), .val (.int lo), .val (.int hi), .val (.ref b3), .val (.int (p4 &&& (7 : Int32))), .val (.int pt), .val (.long ((pt.toInt64) - (lo.toInt64))), .second, .val (.long ((hi.toInt64) - (lo.toInt64))), .second, .unset] [(.int ex)]) := by
      intro ex hex T6 X6 e6
      show Go p e below _ T6 (mkF m 129 #[.val (.int p1), .val (.int p2), .val (.int p3), .val (.int p4), .val (.int lo), .val (.int hi), .val (.ref b3), .val (.int (p4 &&& (7 : Int32))), .val (.int pt), .val (.long ((pt.toInt64) - (lo.toInt64))), .second, .val (.long ((hi.toInt64) - (lo.toInt64))), .second, .unset] [(.int ex)])
      refine OwnGo.istore X6 hx (hb hby at_129) (Ls' := #[.val (.int p1), .val (.int p2), .val (.int p3), .val (.int p4), .val (.int lo), .val (.int hi), .val (.ref b3), .val (.int (p4 &&& (7 : Int32))), .val (.int pt), .val (.long ((pt.toInt64) - (lo.toInt64))), .second, .val (.long ((hi.toInt64) - (lo.toInt64))), .second, .val (.int ex)]) rfl ?_
      show Go p e below _ T6 (mkF m 131 #[.val (.int p1), .val (.int p2), .val (.int p3), .val (.int p4), .val (.int lo), .val (.int hi), .val (.ref b3), .val (.int (p4 &&& (7 : Int32))), .val (.int pt), .val (.long ((pt.toInt64) - (lo.toInt64))), .second, .val (.long ((hi.toInt64) - (lo.toInt64))), .second, .val (.int ex)] [])
      refine OwnGo.aload X6 hx (hb hby at_131) rfl rfl ?_
      show Go p e below _ T6 (mkF m 133 #[.val (.int p1), .val (.int p2), .val (.int p3), .val (.int p4), .val (.int lo), .val (.int hi), .val (.ref b3), .val (.int (p4 &&& (7 : Int32))), .val (.int pt), .val (.long ((pt.toInt64) - (lo.toInt64))), .second, .val (.long ((hi.toInt64) - (lo.toInt64))), .second, .val (.int ex)] [(.ref b3)])
      refine OwnGo.iload X6 hx (hb hby at_133) rfl ?_
      show Go p e below _ T6 (mkF m 135 #[.val (.int p1), .val (.int p2), .val (.int p3), .val (.int p4), .val (.int lo), .val (.int hi), .val (.ref b3), .val (.int (p4 &&& (7 : Int32))), .val (.int pt), .val (.long ((pt.toInt64) - (lo.toInt64))), .second, .val (.long ((hi.toInt64) - (lo.toInt64))), .second, .val (.int ex)] [(.int pt), (.ref b3)])
      refine OwnGo.callV X6 hx hZ hown (y := (⟨"com/example/ulinzi/ulinzi/packetfilter/PortMatch$Range", "contains", "(I)Z"⟩ : MethodName)) (z := (⟨"com/example/ulinzi/ulinzi/packetfilter/PortMatch$Range", "contains", "(I)Z"⟩ : MethodName)) (hw _ (List.mem_of_getElem? (i := 20) rfl)) (hw _ (List.mem_of_getElem? (i := 21) rfl)) (notFace_of_selects (args := #[]) (mvT hZ (hw _ (List.mem_of_getElem? (i := 23) rfl)))) (hw _ (List.mem_of_getElem? (i := 23) rfl)) (hw _ (List.mem_of_getElem? (i := 22) rfl)) (hw _ (List.mem_of_getElem? (i := 9) rfl)) (hw _ (List.mem_of_getElem? (i := 24) rfl)) (by decide) e6 E4 (as := [(.int pt)]) (rm4 l Z a0 hw b3 lo hi pt ex T4.heap F4a F4b hex) (W := 0) (by decide) (by decide) (by decide) (by decide) (by rw [hml]; rfl) (lenOf own_pd2 rfl) (rest := []) rfl rfl (hb hby at_135) fun v7 T7 L7 X7 q7 => ?_
      obtain ⟨rfl, e7, rfl⟩ := q7
      rw [List.append_nil] at X7
      show Go p e below _ T7 (mkF m 138 #[.val (.int p1), .val (.int p2), .val (.int p3), .val (.int p4), .val (.int lo), .val (.int hi), .val (.ref b3), .val (.int (p4 &&& (7 : Int32))), .val (.int pt), .val (.long ((pt.toInt64) - (lo.toInt64))), .second, .val (.long ((hi.toInt64) - (lo.toInt64))), .second, .val (.int ex)] [(.int ex)])
      refine OwnGo.iload X7 hx (hb hby at_138) rfl ?_
      show Go p e below _ T7 (mkF m 140 #[.val (.int p1), .val (.int p2), .val (.int p3), .val (.int p4), .val (.int lo), .val (.int hi), .val (.ref b3), .val (.int (p4 &&& (7 : Int32))), .val (.int pt), .val (.long ((pt.toInt64) - (lo.toInt64))), .second, .val (.long ((hi.toInt64) - (lo.toInt64))), .second, .val (.int ex)] [(.int ex), (.int ex)])
      refine OwnGo.ic_ne X7 hx (pc' := 167) (hb hby at_140) (by decide) (by decide) (fun q => absurd rfl q) (fun _ => ?_)
      show Go p e below _ T7 (mkF m 143 #[.val (.int p1), .val (.int p2), .val (.int p3), .val (.int p4), .val (.int lo), .val (.int hi), .val (.ref b3), .val (.int (p4 &&& (7 : Int32))), .val (.int pt), .val (.long ((pt.toInt64) - (lo.toInt64))), .second, .val (.long ((hi.toInt64) - (lo.toInt64))), .second, .val (.int ex)] [])
      refine OwnGo.aload X7 hx (hb hby at_143) rfl rfl ?_
      show Go p e below _ T7 (mkF m 145 #[.val (.int p1), .val (.int p2), .val (.int p3), .val (.int p4), .val (.int lo), .val (.int hi), .val (.ref b3), .val (.int (p4 &&& (7 : Int32))), .val (.int pt), .val (.long ((pt.toInt64) - (lo.toInt64))), .second, .val (.long ((hi.toInt64) - (lo.toInt64))), .second, .val (.int ex)] [(.ref b3)])
      refine OwnGo.iload X7 hx (hb hby at_145) rfl ?_
      show Go p e below _ T7 (mkF m 147 #[.val (.int p1), .val (.int p2), .val (.int p3), .val (.int p4), .val (.int lo), .val (.int hi), .val (.ref b3), .val (.int (p4 &&& (7 : Int32))), .val (.int pt), .val (.long ((pt.toInt64) - (lo.toInt64))), .second, .val (.long ((hi.toInt64) - (lo.toInt64))), .second, .val (.int ex)] [(.int lo), (.ref b3)])
      refine OwnGo.callV X7 hx hZ hown (y := (⟨"com/example/ulinzi/ulinzi/packetfilter/PortMatch$Range", "contains", "(I)Z"⟩ : MethodName)) (z := (⟨"com/example/ulinzi/ulinzi/packetfilter/PortMatch$Range", "contains", "(I)Z"⟩ : MethodName)) (hw _ (List.mem_of_getElem? (i := 20) rfl)) (hw _ (List.mem_of_getElem? (i := 21) rfl)) (notFace_of_selects (args := #[]) (mvT hZ (hw _ (List.mem_of_getElem? (i := 23) rfl)))) (hw _ (List.mem_of_getElem? (i := 23) rfl)) (hw _ (List.mem_of_getElem? (i := 22) rfl)) (hw _ (List.mem_of_getElem? (i := 9) rfl)) (hw _ (List.mem_of_getElem? (i := 24) rfl)) (by decide) e7 E4 (as := [(.int lo)]) (rm4 l Z a0 hw b3 lo hi lo (1 : Int32) T4.heap F4a F4b (by first | exact if_pos ⟨own_irr _, hlh⟩ | exact if_pos ⟨hlh, own_irr _⟩)) (W := 0) (by decide) (by decide) (by decide) (by decide) (by rw [hml]; rfl) (lenOf own_pd2 rfl) (rest := []) rfl rfl (hb hby at_147) fun v8 T8 L8 X8 q8 => ?_
      obtain ⟨rfl, e8, rfl⟩ := q8
      rw [List.append_nil] at X8
      show Go p e below _ T8 (mkF m 150 #[.val (.int p1), .val (.int p2), .val (.int p3), .val (.int p4), .val (.int lo), .val (.int hi), .val (.ref b3), .val (.int (p4 &&& (7 : Int32))), .val (.int pt), .val (.long ((pt.toInt64) - (lo.toInt64))), .second, .val (.long ((hi.toInt64) - (lo.toInt64))), .second, .val (.int ex)] [(.int (1 : Int32))])
      refine OwnGo.if_eq X8 hx (pc' := 167) (hb hby at_150) (by decide) (by decide) (fun q => absurd q (by decide)) (fun _ => ?_)
      show Go p e below _ T8 (mkF m 153 #[.val (.int p1), .val (.int p2), .val (.int p3), .val (.int p4), .val (.int lo), .val (.int hi), .val (.ref b3), .val (.int (p4 &&& (7 : Int32))), .val (.int pt), .val (.long ((pt.toInt64) - (lo.toInt64))), .second, .val (.long ((hi.toInt64) - (lo.toInt64))), .second, .val (.int ex)] [])
      refine OwnGo.aload X8 hx (hb hby at_153) rfl rfl ?_
      show Go p e below _ T8 (mkF m 155 #[.val (.int p1), .val (.int p2), .val (.int p3), .val (.int p4), .val (.int lo), .val (.int hi), .val (.ref b3), .val (.int (p4 &&& (7 : Int32))), .val (.int pt), .val (.long ((pt.toInt64) - (lo.toInt64))), .second, .val (.long ((hi.toInt64) - (lo.toInt64))), .second, .val (.int ex)] [(.ref b3)])
      refine OwnGo.iload X8 hx (hb hby at_155) rfl ?_
      show Go p e below _ T8 (mkF m 157 #[.val (.int p1), .val (.int p2), .val (.int p3), .val (.int p4), .val (.int lo), .val (.int hi), .val (.ref b3), .val (.int (p4 &&& (7 : Int32))), .val (.int pt), .val (.long ((pt.toInt64) - (lo.toInt64))), .second, .val (.long ((hi.toInt64) - (lo.toInt64))), .second, .val (.int ex)] [(.int hi), (.ref b3)])
      refine OwnGo.callV X8 hx hZ hown (y := (⟨"com/example/ulinzi/ulinzi/packetfilter/PortMatch$Range", "contains", "(I)Z"⟩ : MethodName)) (z := (⟨"com/example/ulinzi/ulinzi/packetfilter/PortMatch$Range", "contains", "(I)Z"⟩ : MethodName)) (hw _ (List.mem_of_getElem? (i := 20) rfl)) (hw _ (List.mem_of_getElem? (i := 21) rfl)) (notFace_of_selects (args := #[]) (mvT hZ (hw _ (List.mem_of_getElem? (i := 23) rfl)))) (hw _ (List.mem_of_getElem? (i := 23) rfl)) (hw _ (List.mem_of_getElem? (i := 22) rfl)) (hw _ (List.mem_of_getElem? (i := 9) rfl)) (hw _ (List.mem_of_getElem? (i := 24) rfl)) (by decide) e8 E4 (as := [(.int hi)]) (rm4 l Z a0 hw b3 lo hi hi (1 : Int32) T4.heap F4a F4b (by first | exact if_pos ⟨own_irr _, hlh⟩ | exact if_pos ⟨hlh, own_irr _⟩)) (W := 0) (by decide) (by decide) (by decide) (by decide) (by rw [hml]; rfl) (lenOf own_pd2 rfl) (rest := []) rfl rfl (hb hby at_157) fun v9 T9 L9 X9 q9 => ?_
      obtain ⟨rfl, e9, rfl⟩ := q9
      rw [List.append_nil] at X9
      show Go p e below _ T9 (mkF m 160 #[.val (.int p1), .val (.int p2), .val (.int p3), .val (.int p4), .val (.int lo), .val (.int hi), .val (.ref b3), .val (.int (p4 &&& (7 : Int32))), .val (.int pt), .val (.long ((pt.toInt64) - (lo.toInt64))), .second, .val (.long ((hi.toInt64) - (lo.toInt64))), .second, .val (.int ex)] [(.int (1 : Int32))])
      refine OwnGo.if_eq X9 hx (pc' := 167) (hb hby at_160) (by decide) (by decide) (fun q => absurd q (by decide)) (fun _ => ?_)
      show Go p e below _ T9 (mkF m 163 #[.val (.int p1), .val (.int p2), .val (.int p3), .val (.int p4), .val (.int lo), .val (.int hi), .val (.ref b3), .val (.int (p4 &&& (7 : Int32))), .val (.int pt), .val (.long ((pt.toInt64) - (lo.toInt64))), .second, .val (.long ((hi.toInt64) - (lo.toInt64))), .second, .val (.int ex)] [])
      refine OwnGo.iconst X9 hx (z := (1 : Int32)) (hb hby at_163) (by decide) ?_
      show Go p e below _ T9 (mkF m 164 #[.val (.int p1), .val (.int p2), .val (.int p3), .val (.int p4), .val (.int lo), .val (.int hi), .val (.ref b3), .val (.int (p4 &&& (7 : Int32))), .val (.int pt), .val (.long ((pt.toInt64) - (lo.toInt64))), .second, .val (.long ((hi.toInt64) - (lo.toInt64))), .second, .val (.int ex)] [(.int (1 : Int32))])
      refine OwnGo.goto X9 hx (pc' := 168) (hb hby at_164) (by decide) (by decide) ?_
      show Go p e below _ T9 (mkF m 168 #[.val (.int p1), .val (.int p2), .val (.int p3), .val (.int p4), .val (.int lo), .val (.int hi), .val (.ref b3), .val (.int (p4 &&& (7 : Int32))), .val (.int pt), .val (.long ((pt.toInt64) - (lo.toInt64))), .second, .val (.long ((hi.toInt64) - (lo.toInt64))), .second, .val (.int ex)] [(.int (1 : Int32))])
      exact OwnGo.retB X9 hx hlk (z' := (1 : Int32)) hret (hb hby at_168) rfl ⟨rfl, (Fr.app (Fr.nil n0) N4)⟩ (by decide) (by decide)
    show Go p e below _ T5 (mkF m 109 #[.val (.int p1), .val (.int p2), .val (.int p3), .val (.int p4), .val (.int lo), .val (.int hi), .val (.ref b3), .val (.int (p4 &&& (7 : Int32))), .val (.int pt), .val (.long ((pt.toInt64) - (lo.toInt64))), .second, .val (.long ((hi.toInt64) - (lo.toInt64))), .second, .unset] [])
    refine OwnGo.lload X5 hx (hb hby at_109) rfl ?_
    show Go p e below _ T5 (mkF m 111 #[.val (.int p1), .val (.int p2), .val (.int p3), .val (.int p4), .val (.int lo), .val (.int hi), .val (.ref b3), .val (.int (p4 &&& (7 : Int32))), .val (.int pt), .val (.long ((pt.toInt64) - (lo.toInt64))), .second, .val (.long ((hi.toInt64) - (lo.toInt64))), .second, .unset] [(.long ((pt.toInt64) - (lo.toInt64)))])
    refine OwnGo.lconst X5 hx (v := (0 : Int64)) (hb hby at_111) rfl ?_
    show Go p e below _ T5 (mkF m 112 #[.val (.int p1), .val (.int p2), .val (.int p3), .val (.int p4), .val (.int lo), .val (.int hi), .val (.ref b3), .val (.int (p4 &&& (7 : Int32))), .val (.int pt), .val (.long ((pt.toInt64) - (lo.toInt64))), .second, .val (.long ((hi.toInt64) - (lo.toInt64))), .second, .unset] [(.long (0 : Int64)), (.long ((pt.toInt64) - (lo.toInt64)))])
    refine OwnGo.lc_lt_ X5 hx (pc' := 128) (hb hby at_112) (hb hby at_113) (by decide) (by decide) (fun h112 => ?_) (fun h112 => ?_)
    ·
      show Go p e below _ T5 (mkF m 128 #[.val (.int p1), .val (.int p2), .val (.int p3), .val (.int p4), .val (.int lo), .val (.int hi), .val (.ref b3), .val (.int (p4 &&& (7 : Int32))), .val (.int pt), .val (.long ((pt.toInt64) - (lo.toInt64))), .second, .val (.long ((hi.toInt64) - (lo.toInt64))), .second, .unset] [])
      refine OwnGo.iconst X5 hx (z := (0 : Int32)) (hb hby at_128) (by decide) ?_
      exact J129 (0 : Int32) (by rw [own_low] at h112; simp only [own_in, h112, not_true_eq_false, not_false_eq_true, false_and, and_false, and_true, true_and, true_or, or_true, false_or, or_false, if_true, if_false]) T5 X5 e5
    ·
      show Go p e below _ T5 (mkF m 116 #[.val (.int p1), .val (.int p2), .val (.int p3), .val (.int p4), .val (.int lo), .val (.int hi), .val (.ref b3), .val (.int (p4 &&& (7 : Int32))), .val (.int pt), .val (.long ((pt.toInt64) - (lo.toInt64))), .second, .val (.long ((hi.toInt64) - (lo.toInt64))), .second, .unset] [])
      refine OwnGo.lload X5 hx (hb hby at_116) rfl ?_
      show Go p e below _ T5 (mkF m 118 #[.val (.int p1), .val (.int p2), .val (.int p3), .val (.int p4), .val (.int lo), .val (.int hi), .val (.ref b3), .val (.int (p4 &&& (7 : Int32))), .val (.int pt), .val (.long ((pt.toInt64) - (lo.toInt64))), .second, .val (.long ((hi.toInt64) - (lo.toInt64))), .second, .unset] [(.long ((pt.toInt64) - (lo.toInt64)))])
      refine OwnGo.lload X5 hx (hb hby at_118) rfl ?_
      show Go p e below _ T5 (mkF m 120 #[.val (.int p1), .val (.int p2), .val (.int p3), .val (.int p4), .val (.int lo), .val (.int hi), .val (.ref b3), .val (.int (p4 &&& (7 : Int32))), .val (.int pt), .val (.long ((pt.toInt64) - (lo.toInt64))), .second, .val (.long ((hi.toInt64) - (lo.toInt64))), .second, .unset] [(.long ((hi.toInt64) - (lo.toInt64))), (.long ((pt.toInt64) - (lo.toInt64)))])
      refine OwnGo.lc_gt_ X5 hx (pc' := 128) (hb hby at_120) (hb hby at_121) (by decide) (by decide) (fun h120 => ?_) (fun h120 => ?_)
      ·
        show Go p e below _ T5 (mkF m 128 #[.val (.int p1), .val (.int p2), .val (.int p3), .val (.int p4), .val (.int lo), .val (.int hi), .val (.ref b3), .val (.int (p4 &&& (7 : Int32))), .val (.int pt), .val (.long ((pt.toInt64) - (lo.toInt64))), .second, .val (.long ((hi.toInt64) - (lo.toInt64))), .second, .unset] [])
        refine OwnGo.iconst X5 hx (z := (0 : Int32)) (hb hby at_128) (by decide) ?_
        exact J129 (0 : Int32) (by rw [own_low] at h112; rw [own_high] at h120; simp only [own_in, h112, h120, not_true_eq_false, not_false_eq_true, false_and, and_false, and_true, true_and, true_or, or_true, false_or, or_false, if_true, if_false]) T5 X5 e5
      ·
        show Go p e below _ T5 (mkF m 124 #[.val (.int p1), .val (.int p2), .val (.int p3), .val (.int p4), .val (.int lo), .val (.int hi), .val (.ref b3), .val (.int (p4 &&& (7 : Int32))), .val (.int pt), .val (.long ((pt.toInt64) - (lo.toInt64))), .second, .val (.long ((hi.toInt64) - (lo.toInt64))), .second, .unset] [])
        refine OwnGo.iconst X5 hx (z := (1 : Int32)) (hb hby at_124) (by decide) ?_
        show Go p e below _ T5 (mkF m 125 #[.val (.int p1), .val (.int p2), .val (.int p3), .val (.int p4), .val (.int lo), .val (.int hi), .val (.ref b3), .val (.int (p4 &&& (7 : Int32))), .val (.int pt), .val (.long ((pt.toInt64) - (lo.toInt64))), .second, .val (.long ((hi.toInt64) - (lo.toInt64))), .second, .unset] [(.int (1 : Int32))])
        refine OwnGo.goto X5 hx (pc' := 129) (hb hby at_125) (by decide) (by decide) ?_
        exact J129 (1 : Int32) (by rw [own_low] at h112; rw [own_high] at h120; simp only [own_in, h112, h120, not_true_eq_false, not_false_eq_true, false_and, and_false, and_true, true_and, true_or, or_true, false_or, or_false, if_true, if_false]) T5 X5 e5
  show Go p e below _ T4 (mkF m 33 #[.val (.int p1), .val (.int p2), .val (.int p3), .val (.int p4), .val (.int lo), .val (.int hi), .val (.ref b3), .val (.int (p4 &&& (7 : Int32))), .unset, .unset, .unset, .unset, .unset, .unset] [])
  refine OwnGo.iload X4 hx (hb hby at_33) rfl ?_
  show Go p e below _ T4 (mkF m 35 #[.val (.int p1), .val (.int p2), .val (.int p3), .val (.int p4), .val (.int lo), .val (.int hi), .val (.ref b3), .val (.int (p4 &&& (7 : Int32))), .unset, .unset, .unset, .unset, .unset, .unset] [(.int (p4 &&& (7 : Int32)))])
  refine OwnGo.if_ne X4 hx (pc' := 45) (hb hby at_35) (by decide) (by decide) (fun h35 => ?_) (fun h35 => ?_)
  ·
    show Go p e below _ T4 (mkF m 45 #[.val (.int p1), .val (.int p2), .val (.int p3), .val (.int p4), .val (.int lo), .val (.int hi), .val (.ref b3), .val (.int (p4 &&& (7 : Int32))), .unset, .unset, .unset, .unset, .unset, .unset] [])
    refine OwnGo.iload X4 hx (hb hby at_45) rfl ?_
    show Go p e below _ T4 (mkF m 47 #[.val (.int p1), .val (.int p2), .val (.int p3), .val (.int p4), .val (.int lo), .val (.int hi), .val (.ref b3), .val (.int (p4 &&& (7 : Int32))), .unset, .unset, .unset, .unset, .unset, .unset] [(.int (p4 &&& (7 : Int32)))])
    refine OwnGo.iconst X4 hx (z := (1 : Int32)) (hb hby at_47) (by decide) ?_
    show Go p e below _ T4 (mkF m 48 #[.val (.int p1), .val (.int p2), .val (.int p3), .val (.int p4), .val (.int lo), .val (.int hi), .val (.ref b3), .val (.int (p4 &&& (7 : Int32))), .unset, .unset, .unset, .unset, .unset, .unset] [(.int (1 : Int32)), (.int (p4 &&& (7 : Int32)))])
    refine OwnGo.ic_ne X4 hx (pc' := 58) (hb hby at_48) (by decide) (by decide) (fun h48 => ?_) (fun h48 => ?_)
    ·
      show Go p e below _ T4 (mkF m 58 #[.val (.int p1), .val (.int p2), .val (.int p3), .val (.int p4), .val (.int lo), .val (.int hi), .val (.ref b3), .val (.int (p4 &&& (7 : Int32))), .unset, .unset, .unset, .unset, .unset, .unset] [])
      refine OwnGo.iload X4 hx (hb hby at_58) rfl ?_
      show Go p e below _ T4 (mkF m 60 #[.val (.int p1), .val (.int p2), .val (.int p3), .val (.int p4), .val (.int lo), .val (.int hi), .val (.ref b3), .val (.int (p4 &&& (7 : Int32))), .unset, .unset, .unset, .unset, .unset, .unset] [(.int (p4 &&& (7 : Int32)))])
      refine OwnGo.iconst X4 hx (z := (2 : Int32)) (hb hby at_60) (by decide) ?_
      show Go p e below _ T4 (mkF m 61 #[.val (.int p1), .val (.int p2), .val (.int p3), .val (.int p4), .val (.int lo), .val (.int hi), .val (.ref b3), .val (.int (p4 &&& (7 : Int32))), .unset, .unset, .unset, .unset, .unset, .unset] [(.int (2 : Int32)), (.int (p4 &&& (7 : Int32)))])
      refine OwnGo.ic_ne X4 hx (pc' := 73) (hb hby at_61) (by decide) (by decide) (fun h61 => ?_) (fun h61 => ?_)
      ·
        show Go p e below _ T4 (mkF m 73 #[.val (.int p1), .val (.int p2), .val (.int p3), .val (.int p4), .val (.int lo), .val (.int hi), .val (.ref b3), .val (.int (p4 &&& (7 : Int32))), .unset, .unset, .unset, .unset, .unset, .unset] [])
        refine OwnGo.iload X4 hx (hb hby at_73) rfl ?_
        show Go p e below _ T4 (mkF m 75 #[.val (.int p1), .val (.int p2), .val (.int p3), .val (.int p4), .val (.int lo), .val (.int hi), .val (.ref b3), .val (.int (p4 &&& (7 : Int32))), .unset, .unset, .unset, .unset, .unset, .unset] [(.int (p4 &&& (7 : Int32)))])
        refine OwnGo.iconst X4 hx (z := (3 : Int32)) (hb hby at_75) (by decide) ?_
        show Go p e below _ T4 (mkF m 76 #[.val (.int p1), .val (.int p2), .val (.int p3), .val (.int p4), .val (.int lo), .val (.int hi), .val (.ref b3), .val (.int (p4 &&& (7 : Int32))), .unset, .unset, .unset, .unset, .unset, .unset] [(.int (3 : Int32)), (.int (p4 &&& (7 : Int32)))])
        refine OwnGo.ic_ne X4 hx (pc' := 88) (hb hby at_76) (by decide) (by decide) (fun h76 => ?_) (fun h76 => ?_)
        ·
          show Go p e below _ T4 (mkF m 88 #[.val (.int p1), .val (.int p2), .val (.int p3), .val (.int p4), .val (.int lo), .val (.int hi), .val (.ref b3), .val (.int (p4 &&& (7 : Int32))), .unset, .unset, .unset, .unset, .unset, .unset] [])
          refine OwnGo.iloadN X4 hx (hb hby at_88) rfl ?_
          show Go p e below _ T4 (mkF m 89 #[.val (.int p1), .val (.int p2), .val (.int p3), .val (.int p4), .val (.int lo), .val (.int hi), .val (.ref b3), .val (.int (p4 &&& (7 : Int32))), .unset, .unset, .unset, .unset, .unset, .unset] [(.int p3)])
          refine OwnGo.istore X4 hx (hb hby at_89) (Ls' := #[.val (.int p1), .val (.int p2), .val (.int p3), .val (.int p4), .val (.int lo), .val (.int hi), .val (.ref b3), .val (.int (p4 &&& (7 : Int32))), .val (.int p3), .unset, .unset, .unset, .unset, .unset]) rfl ?_
          exact J91 p3 T4 X4 rfl
        ·
          show Go p e below _ T4 (mkF m 79 #[.val (.int p1), .val (.int p2), .val (.int p3), .val (.int p4), .val (.int lo), .val (.int hi), .val (.ref b3), .val (.int (p4 &&& (7 : Int32))), .unset, .unset, .unset, .unset, .unset, .unset] [])
          refine OwnGo.iload X4 hx (hb hby at_79) rfl ?_
          show Go p e below _ T4 (mkF m 81 #[.val (.int p1), .val (.int p2), .val (.int p3), .val (.int p4), .val (.int lo), .val (.int hi), .val (.ref b3), .val (.int (p4 &&& (7 : Int32))), .unset, .unset, .unset, .unset, .unset, .unset] [(.int hi)])
          refine OwnGo.iconst X4 hx (z := (1 : Int32)) (hb hby at_81) (by decide) ?_
          show Go p e below _ T4 (mkF m 82 #[.val (.int p1), .val (.int p2), .val (.int p3), .val (.int p4), .val (.int lo), .val (.int hi), .val (.ref b3), .val (.int (p4 &&& (7 : Int32))), .unset, .unset, .unset, .unset, .unset, .unset] [(.int (1 : Int32)), (.int hi)])
          refine OwnGo.iadd X4 hx (hb hby at_82) rfl ?_
          show Go p e below _ T4 (mkF m 83 #[.val (.int p1), .val (.int p2), .val (.int p3), .val (.int p4), .val (.int lo), .val (.int hi), .val (.ref b3), .val (.int (p4 &&& (7 : Int32))), .unset, .unset, .unset, .unset, .unset, .unset] [(.int (hi + (1 : Int32)))])
          refine OwnGo.istore X4 hx (hb hby at_83) (Ls' := #[.val (.int p1), .val (.int p2), .val (.int p3), .val (.int p4), .val (.int lo), .val (.int hi), .val (.ref b3), .val (.int (p4 &&& (7 : Int32))), .val (.int (hi + (1 : Int32))), .unset, .unset, .unset, .unset, .unset]) rfl ?_
          show Go p e below _ T4 (mkF m 85 #[.val (.int p1), .val (.int p2), .val (.int p3), .val (.int p4), .val (.int lo), .val (.int hi), .val (.ref b3), .val (.int (p4 &&& (7 : Int32))), .val (.int (hi + (1 : Int32))), .unset, .unset, .unset, .unset, .unset] [])
          refine OwnGo.goto X4 hx (pc' := 91) (hb hby at_85) (by decide) (by decide) ?_
          exact J91 (hi + (1 : Int32)) T4 X4 rfl
      ·
        show Go p e below _ T4 (mkF m 64 #[.val (.int p1), .val (.int p2), .val (.int p3), .val (.int p4), .val (.int lo), .val (.int hi), .val (.ref b3), .val (.int (p4 &&& (7 : Int32))), .unset, .unset, .unset, .unset, .unset, .unset] [])
        refine OwnGo.iload X4 hx (hb hby at_64) rfl ?_
        show Go p e below _ T4 (mkF m 66 #[.val (.int p1), .val (.int p2), .val (.int p3), .val (.int p4), .val (.int lo), .val (.int hi), .val (.ref b3), .val (.int (p4 &&& (7 : Int32))), .unset, .unset, .unset, .unset, .unset, .unset] [(.int lo)])
        refine OwnGo.iconst X4 hx (z := (1 : Int32)) (hb hby at_66) (by decide) ?_
        show Go p e below _ T4 (mkF m 67 #[.val (.int p1), .val (.int p2), .val (.int p3), .val (.int p4), .val (.int lo), .val (.int hi), .val (.ref b3), .val (.int (p4 &&& (7 : Int32))), .unset, .unset, .unset, .unset, .unset, .unset] [(.int (1 : Int32)), (.int lo)])
        refine OwnGo.isub X4 hx (hb hby at_67) rfl ?_
        show Go p e below _ T4 (mkF m 68 #[.val (.int p1), .val (.int p2), .val (.int p3), .val (.int p4), .val (.int lo), .val (.int hi), .val (.ref b3), .val (.int (p4 &&& (7 : Int32))), .unset, .unset, .unset, .unset, .unset, .unset] [(.int (lo - (1 : Int32)))])
        refine OwnGo.istore X4 hx (hb hby at_68) (Ls' := #[.val (.int p1), .val (.int p2), .val (.int p3), .val (.int p4), .val (.int lo), .val (.int hi), .val (.ref b3), .val (.int (p4 &&& (7 : Int32))), .val (.int (lo - (1 : Int32))), .unset, .unset, .unset, .unset, .unset]) rfl ?_
        show Go p e below _ T4 (mkF m 70 #[.val (.int p1), .val (.int p2), .val (.int p3), .val (.int p4), .val (.int lo), .val (.int hi), .val (.ref b3), .val (.int (p4 &&& (7 : Int32))), .val (.int (lo - (1 : Int32))), .unset, .unset, .unset, .unset, .unset] [])
        refine OwnGo.goto X4 hx (pc' := 91) (hb hby at_70) (by decide) (by decide) ?_
        exact J91 (lo - (1 : Int32)) T4 X4 rfl
    ·
      show Go p e below _ T4 (mkF m 51 #[.val (.int p1), .val (.int p2), .val (.int p3), .val (.int p4), .val (.int lo), .val (.int hi), .val (.ref b3), .val (.int (p4 &&& (7 : Int32))), .unset, .unset, .unset, .unset, .unset, .unset] [])
      refine OwnGo.iload X4 hx (hb hby at_51) rfl ?_
      show Go p e below _ T4 (mkF m 53 #[.val (.int p1), .val (.int p2), .val (.int p3), .val (.int p4), .val (.int lo), .val (.int hi), .val (.ref b3), .val (.int (p4 &&& (7 : Int32))), .unset, .unset, .unset, .unset, .unset, .unset] [(.int hi)])
      refine OwnGo.istore X4 hx (hb hby at_53) (Ls' := #[.val (.int p1), .val (.int p2), .val (.int p3), .val (.int p4), .val (.int lo), .val (.int hi), .val (.ref b3), .val (.int (p4 &&& (7 : Int32))), .val (.int hi), .unset, .unset, .unset, .unset, .unset]) rfl ?_
      show Go p e below _ T4 (mkF m 55 #[.val (.int p1), .val (.int p2), .val (.int p3), .val (.int p4), .val (.int lo), .val (.int hi), .val (.ref b3), .val (.int (p4 &&& (7 : Int32))), .val (.int hi), .unset, .unset, .unset, .unset, .unset] [])
      refine OwnGo.goto X4 hx (pc' := 91) (hb hby at_55) (by decide) (by decide) ?_
      exact J91 hi T4 X4 rfl
  ·
    show Go p e below _ T4 (mkF m 38 #[.val (.int p1), .val (.int p2), .val (.int p3), .val (.int p4), .val (.int lo), .val (.int hi), .val (.ref b3), .val (.int (p4 &&& (7 : Int32))), .unset, .unset, .unset, .unset, .unset, .unset] [])
    refine OwnGo.iload X4 hx (hb hby at_38) rfl ?_
    show Go p e below _ T4 (mkF m 40 #[.val (.int p1), .val (.int p2), .val (.int p3), .val (.int p4), .val (.int lo), .val (.int hi), .val (.ref b3), .val (.int (p4 &&& (7 : Int32))), .unset, .unset, .unset, .unset, .unset, .unset] [(.int lo)])
    refine OwnGo.istore X4 hx (hb hby at_40) (Ls' := #[.val (.int p1), .val (.int p2), .val (.int p3), .val (.int p4), .val (.int lo), .val (.int hi), .val (.ref b3), .val (.int (p4 &&& (7 : Int32))), .val (.int lo), .unset, .unset, .unset, .unset, .unset]) rfl ?_
    show Go p e below _ T4 (mkF m 42 #[.val (.int p1), .val (.int p2), .val (.int p3), .val (.int p4), .val (.int lo), .val (.int hi), .val (.ref b3), .val (.int (p4 &&& (7 : Int32))), .val (.int lo), .unset, .unset, .unset, .unset, .unset] [])
    refine OwnGo.goto X4 hx (pc' := 91) (hb hby at_42) (by decide) (by decide) ?_
    exact J91 lo T4 X4 rfl
set_option maxRecDepth 65536 in
set_option maxHeartbeats 40000000 in
theorem comes_1 {Post : Tables → Env → Array Value → State → Outcome → State → Prop} (hpost : ∀ tb e args s v u, (limb_1_1.after args s (.returned v) u = true ∧ limb_1_2.after args s (.returned v) u = true ∧ True) → FrameEnd s (.returned v) u (Jvm.fieldLocs frame_1_writes args s ++ Jvm.arrayLocs frame_1_arrays args s ++ Jvm.staticLocs frame_1_statics s) 16 128 → Post tb e args s (.returned v) u) :
    ArmFor flags0 classFile x code maxLocals ret World_1 tables_1 room_1 Calls_1 rest_1 Pre_1 Post := by
  intro l hfl _ _ p e ha hc hk s m args below hf hA hF happ hP
  obtain ⟨hcalls, hrest, hpre⟩ := hP
  obtain ⟨-, -, -, hnamed, -, -, -, hat⟩ := (Spec.applies_iff hf).mp happ
  obtain ⟨hg, hn⟩ := and_e (Cond.before_iff.mp (show (Jvm.Cond.and given_1 narrow_1).before args s = true from hpre))
  obtain ⟨gc0, gr0⟩ := and_e hg
  obtain ⟨gc1, gr1⟩ := and_e gr0
  obtain ⟨gc2, gr2⟩ := and_e gr1
  obtain ⟨gc3, gr3⟩ := and_e gr2
  obtain ⟨w0, w1, w2, w3, rfl⟩ : ∃ w0 w1 w2 w3 : Value, args = #[w0, w1, w2, w3] := by
    have hs : args.size = 4 := by simpa [Cond.value, given_1] using gc0
    obtain ⟨L⟩ := args
    match L, hs with
    | [w0, w1, w2, w3], _ => exact ⟨w0, w1, w2, w3, rfl⟩
  have hw := fun d (hd : d ∈ tables_1) => atoms_spec (ws := Jvm.Cond.code x code maxLocals ret :: tables_1) hat d (List.mem_cons_of_mem _ hd)
  obtain ⟨i0, ei0⟩ := is_v gc1
  obtain rfl : w0 = (.int i0) := Option.some.inj ei0
  obtain ⟨i1, ei1⟩ := is_v gc2
  obtain rfl : w1 = (.int i1) := Option.some.inj ei1
  obtain ⟨i2, ei2⟩ := is_v gc3
  obtain rfl : w2 = (.int i2) := Option.some.inj ei2
  obtain ⟨i3, ei3⟩ := is_v gr3
  obtain rfl : w3 = (.int i3) := Option.some.inj ei3
  obtain ⟨n, o, h1, h2, h3, _, L, rfl, ⟨rfl, N⟩, hq⟩ := rm0 l s _ hw i0 i1 i2 i3 s.heap s.heap.size (Nat.le_refl _) tables_1 p e ha hc hk s m _ below hf ((Spec.applies_iff_loose hf).mp happ).1 ⟨rfl, State.Warmed39.refl s, rfl⟩ trivial
  refine ⟨n, _, h1, h2, h3, hpost _ _ _ _ _ _ ⟨Cond.after_iff.mpr rfl, Cond.after_iff.mpr (eq_i res_at (Term.int_eval (1)) rfl), trivial⟩ ⟨hq.1, hq.2.1, (hq.2.2.sift fun y hy => Or.inr (N y hy)).mono (by decide) (by decide)⟩⟩
theorem main_1_1 : Claimed_1_1 := comes_1 fun _ _ _ _ _ _ h hF => ⟨h.1, hF⟩
theorem main_1_2 : Claimed_1_2 := comes_1 fun _ _ _ _ _ _ h hF => ⟨h.2.1, hF⟩
end Jvm.Pilot.@@N@@
namespace Jvm.Pilot.@@N@@
open Jvm Jvm.ClassFile Sem Op Lib Jvm.Free Jvm.Stand Jvm.Pilot.@@N@@.Jvm.D
/-! MADE BY PROGRAM (witnessworld.py) out of the Statement's table words and the real class files: 10 classes; the members and pool entries that the words name. The judged class is class 1, her method 1. -/
namespace start1
open Jvm.ClassFile
def u (s : String) : CpInfo := .utf8 (stringToUtf16 s)
/-- a pool by its gaps: so many unusable entries, then the entry; so many at the end -/
def gap : Nat → List CpInfo → List CpInfo
  | 0, r => r
  | n + 1, r => .unusable :: gap n r
def poolList (es : List (Nat × CpInfo)) (last : Nat) : List CpInfo := es.foldr (fun e r => gap e.1 (e.2 :: r)) (gap last [])
def pool (es : List (Nat × CpInfo)) (last : Nat) : Array CpInfo := ⟨poolList es last⟩
def fileOf (pool : Array CpInfo) (this : Nat) (attrs : Array Attribute := #[]) (ms : Array MethodInfo := #[]) (fl : Nat := 33) (sup : Nat := 0) (ifs : Array Nat := #[]) (fds : Array FieldInfo := #[]) : ClassFile where
  minorVersion := 0
  majorVersion := 65
  constantPool := pool
  accessFlags := fl
  thisClass := this
  superClass := sup
  interfaces := ifs
  fields := fds
  methods := ms
  attributes := attrs
def plain (name : String) (sup : Option ClassId) : Class where
  name := name
  kind := .ordinary
  loader := none
  accessFlags := 33
  super := sup
  interfaces := #[]
  cf := none
  fields := #[]
  methods := #[]
  instanceTypes := #[]
  staticTypes := #[]
  resolved := #[]
  callSites := []
  init := .initialized
  statics := none
  mirror := none

def pool0 : Array CpInfo := pool [(5, u "<init>"), (0, u "()V"), (1, .class_ 10), (1, u "java/lang/Object")] 113

def k0c0 : Code := { maxStack := 0, maxLocals := 1, code := object_method_1_code, exceptionTable := #[], attributes := #[] }
def k0m0 : Method := { name := "<init>", desc := "()V", sig := { parameters := [], returnType := none }, accessFlags := 1, code := some k0c0 }
/-- java/lang/Object -/
def k0 : Class := { plain "java/lang/Object" none with
  accessFlags := 33
  interfaces := #[]
  cf := some (fileOf pool0 8 #[] #[{ accessFlags := 1, nameIndex := 5, descriptorIndex := 6, attributes := #[] }] 33 0 #[] #[])
  fields := #[]
  methods := #[k0m0]
  instanceTypes := #[]
  staticTypes := #[]
  resolved := Array.replicate 124 none
  statics := none }

def pool1 : Array CpInfo := pool [(2, .class_ 4), (1, u "java/lang/Object"), (0, u "<init>"), (0, u "()V"), (0, .methodref 8 9), (0, .class_ 10), (0, .nameAndType 11 12), (0, u "java/lang/Math"), (0, u "min"), (0, u "(II)I"), (0, .methodref 8 14), (0, .nameAndType 15 12), (0, u "max"), (0, .class_ 17), (0, u "com/example/ulinzi/ulinzi/packetfilter/PortMatch$Range"), (0, .methodref 16 19), (0, .nameAndType 5 20), (0, u "(II)V"), (0, .methodref 16 22), (0, .nameAndType 23 24), (0, u "contains"), (0, u "(I)Z"), (0, .class_ 26), (0, u "com/example/ulinzi/ulinzi/packetfilter/RangeContainsPinLaw"), (2, u "law"), (0, u "(IIII)Z")] 7

def k1m0 : Method := { name := "<init>", desc := "()V", sig := { parameters := [], returnType := none }, accessFlags := 2, code := none }
def k1c1 : Code := { maxStack := 4, maxLocals := 14, code := code, exceptionTable := #[], attributes := #[] }
def k1m1 : Method := { name := "law", desc := "(IIII)Z", sig := { parameters := [.int, .int, .int, .int], returnType := some .boolean }, accessFlags := 9, code := some k1c1 }
/-- com/example/ulinzi/ulinzi/packetfilter/RangeContainsPinLaw -/
def k1 : Class := { plain "com/example/ulinzi/ulinzi/packetfilter/RangeContainsPinLaw" (some 0) with
  accessFlags := 49
  interfaces := #[]
  cf := some (fileOf pool1 25 #[] #[{ accessFlags := 2, nameIndex := 5, descriptorIndex := 6, attributes := #[] }, { accessFlags := 9, nameIndex := 29, descriptorIndex := 30, attributes := #[] }] 49 2 #[] #[])
  fields := #[]
  methods := #[k1m0, k1m1]
  instanceTypes := #[]
  staticTypes := #[]
  resolved := Array.replicate 38 none
  statics := none }

def pool2 : Array CpInfo := pool [(1, .class_ 2), (0, u "java/lang/Math"), (1, .class_ 6), (1, u "java/lang/Object"), (0, u "<init>"), (0, u "()V"), (89, .class_ 100), (1, u "java/lang/Math$RandomNumberGeneratorHolder"), (71, u "negativeZeroFloatBits"), (0, u "J"), (2, u "negativeZeroDoubleBits"), (21, u "max"), (2, u "min"), (43, u "$assertionsDisabled"), (0, u "Z"), (88, u "(II)I"), (2, u "twoToTheDoubleScaleDown"), (0, u "D"), (4, u "twoToTheDoubleScaleUp"), (9, u "E"), (3, u "PI"), (2, u "TAU"), (2, u "DEGREES_TO_RADIANS"), (0, u "RADIANS_TO_DEGREES")] 94

def k2m0 : Method := { name := "<init>", desc := "()V", sig := { parameters := [], returnType := none }, accessFlags := 2, code := none }
def k2c1 : Code := { maxStack := 2, maxLocals := 2, code := jdk_29_method_65_code, exceptionTable := #[], attributes := #[] }
def k2m1 : Method := { name := "max", desc := "(II)I", sig := { parameters := [.int, .int], returnType := some .int }, accessFlags := 9, code := some k2c1 }
def k2c2 : Code := { maxStack := 2, maxLocals := 2, code := jdk_29_method_69_code, exceptionTable := #[], attributes := #[] }
def k2m2 : Method := { name := "min", desc := "(II)I", sig := { parameters := [.int, .int], returnType := some .int }, accessFlags := 9, code := some k2c2 }
/-- java/lang/Math -/
def k2 : Class := { plain "java/lang/Math" (some 0) with
  accessFlags := 49
  interfaces := #[]
  cf := some (fileOf pool2 1 #[.nestMembers #[98]] #[{ accessFlags := 2, nameIndex := 7, descriptorIndex := 8, attributes := #[] }, { accessFlags := 9, nameIndex := 198, descriptorIndex := 335, attributes := #[] }, { accessFlags := 9, nameIndex := 201, descriptorIndex := 335, attributes := #[] }] 49 4 #[] #[{ accessFlags := 25, nameIndex := 354, descriptorIndex := 339, attributes := #[] }, { accessFlags := 25, nameIndex := 358, descriptorIndex := 339, attributes := #[] }, { accessFlags := 25, nameIndex := 361, descriptorIndex := 339, attributes := #[] }, { accessFlags := 26, nameIndex := 364, descriptorIndex := 339, attributes := #[] }, { accessFlags := 26, nameIndex := 365, descriptorIndex := 339, attributes := #[] }, { accessFlags := 26, nameIndex := 172, descriptorIndex := 173, attributes := #[] }, { accessFlags := 26, nameIndex := 176, descriptorIndex := 173, attributes := #[] }, { accessFlags := 8, nameIndex := 344, descriptorIndex := 339, attributes := #[] }, { accessFlags := 8, nameIndex := 338, descriptorIndex := 339, attributes := #[] }, { accessFlags := 4120, nameIndex := 245, descriptorIndex := 246, attributes := #[] }])
  fields := #[{ name := "E", type := .double, accessFlags := 25, slot := 0, constantValue := 0 }, { name := "PI", type := .double, accessFlags := 25, slot := 1, constantValue := 0 }, { name := "TAU", type := .double, accessFlags := 25, slot := 2, constantValue := 0 }, { name := "DEGREES_TO_RADIANS", type := .double, accessFlags := 26, slot := 3, constantValue := 0 }, { name := "RADIANS_TO_DEGREES", type := .double, accessFlags := 26, slot := 4, constantValue := 0 }, { name := "negativeZeroFloatBits", type := .long, accessFlags := 26, slot := 5, constantValue := 0 }, { name := "negativeZeroDoubleBits", type := .long, accessFlags := 26, slot := 6, constantValue := 0 }, { name := "twoToTheDoubleScaleUp", type := .double, accessFlags := 8, slot := 7, constantValue := 0 }, { name := "twoToTheDoubleScaleDown", type := .double, accessFlags := 8, slot := 8, constantValue := 0 }, { name := "$assertionsDisabled", type := .boolean, accessFlags := 4120, slot := 9, constantValue := 0 }]
  methods := #[k2m0, k2m1, k2m2]
  instanceTypes := #[]
  staticTypes := #[.double, .double, .double, .double, .double, .long, .long, .double, .double, .boolean]
  resolved := Array.replicate 460 none
  statics := none }

def pool3 : Array CpInfo := pool [(1, .methodref 2 3), (0, .class_ 4), (0, .nameAndType 5 6), (0, u "java/lang/Object"), (0, u "<init>"), (0, u "()V"), (0, .fieldref 8 9), (0, .class_ 10), (0, .nameAndType 11 12), (0, u "com/example/ulinzi/ulinzi/packetfilter/PortMatch$Range"), (0, u "from"), (0, u "I"), (0, .fieldref 8 14), (0, .nameAndType 15 12), (0, u "to"), (0, u "(II)V"), (2, u "contains"), (0, u "(I)Z"), (4, .class_ 26), (0, u "com/example/ulinzi/ulinzi/packetfilter/PortMatch")] 2

def k3c0 : Code := { maxStack := 2, maxLocals := 3, code := prog_58_method_1_code, exceptionTable := #[], attributes := #[] }
def k3m0 : Method := { name := "<init>", desc := "(II)V", sig := { parameters := [.int, .int], returnType := none }, accessFlags := 0, code := some k3c0 }
def k3c1 : Code := { maxStack := 2, maxLocals := 2, code := prog_58_method_2_code, exceptionTable := #[], attributes := #[] }
def k3m1 : Method := { name := "contains", desc := "(I)Z", sig := { parameters := [.int], returnType := some .boolean }, accessFlags := 0, code := some k3c1 }
/-- com/example/ulinzi/ulinzi/packetfilter/PortMatch$Range -/
def k3 : Class := { plain "com/example/ulinzi/ulinzi/packetfilter/PortMatch$Range" (some 0) with
  accessFlags := 48
  interfaces := #[]
  cf := some (fileOf pool3 8 #[.nestHost 25] #[{ accessFlags := 0, nameIndex := 5, descriptorIndex := 16, attributes := #[] }, { accessFlags := 0, nameIndex := 19, descriptorIndex := 20, attributes := #[] }] 48 2 #[] #[{ accessFlags := 18, nameIndex := 11, descriptorIndex := 12, attributes := #[] }, { accessFlags := 18, nameIndex := 15, descriptorIndex := 12, attributes := #[] }])
  fields := #[{ name := "from", type := .int, accessFlags := 18, slot := 0, constantValue := 0 }, { name := "to", type := .int, accessFlags := 18, slot := 1, constantValue := 0 }]
  methods := #[k3m0, k3m1]
  instanceTypes := #[.int, .int]
  staticTypes := #[]
  resolved := Array.replicate 29 none
  statics := none }

def pool4 : Array CpInfo := pool [(1, u "java/lang/Cloneable"), (0, .class_ 1), (0, u "java/lang/Object"), (0, .class_ 3)] 3

/-- java/lang/Cloneable -/
def k4 : Class := { plain "java/lang/Cloneable" (some 0) with
  accessFlags := 1537
  interfaces := #[]
  cf := some (fileOf pool4 2 #[] #[] 1537 4 #[] #[])
  fields := #[]
  methods := #[]
  instanceTypes := #[]
  staticTypes := #[]
  resolved := Array.replicate 8 none
  statics := none }

def pool5 : Array CpInfo := pool [(1, u "java/io/Serializable"), (0, .class_ 1), (0, u "java/lang/Object"), (0, .class_ 3)] 3

/-- java/io/Serializable -/
def k5 : Class := { plain "java/io/Serializable" (some 0) with
  accessFlags := 1537
  interfaces := #[]
  cf := some (fileOf pool5 2 #[] #[] 1537 4 #[] #[])
  fields := #[]
  methods := #[]
  instanceTypes := #[]
  staticTypes := #[]
  resolved := Array.replicate 8 none
  statics := none }

/-- the primitive byte -/
def k6 : Class := { plain "byte" none with kind := .primitive 'B', accessFlags := 0x411 }
/-- [B -/
def k7 : Class := { plain "[B" (some 0) with kind := .array 6 .byte, interfaces := #[4, 5], accessFlags := 1041 }

/-- the primitive int -/
def k8 : Class := { plain "int" none with kind := .primitive 'I', accessFlags := 0x411 }
/-- [I -/
def k9 : Class := { plain "[I" (some 0) with kind := .array 8 .int, interfaces := #[4, 5], accessFlags := 1041 }

def heap : Heap := #[]
def classes : Array Class := #[k0, k1, k2, k3, k4, k5, k6, k7, k8, k9]
def interned : List (Array UInt16 × Addr) := []
def slotsUsed : Nat := 0
def theMethod : MethodId := ⟨1, 1⟩
def args0 : Array Value := #[.int 5, .int 7, .int 6, .int 5]
def aboutOver (below : List Frame) : State where
  vm := { classes := classes, interned := interned.toArray }
  heap := heap
  slotsUsed := slotsUsed
  threads := #[{ frames := .invoking theMethod args0 :: below }]
def below0 : List Frame := [.native { method := ⟨0, 0⟩, args := #[] }]
def about1 : State := aboutOver below0
def p0 : Program := .bare "" "" ""
def e0 : Env := launch0.env 0 0 0
theorem w_frames : about1.frames = Frame.invoking theMethod args0 :: below0 := rfl
set_option maxRecDepth 65536 in
theorem w_args : argsFit about1.vm theMethod args0 = true := by decide +kernel
set_option maxRecDepth 65536 in
theorem w_heap : heapFits about1 = true := by decide +kernel
set_option maxRecDepth 65536 in
theorem w_runnable : about1.curStatus? = some .runnable := by decide +kernel
set_option maxRecDepth 65536 in
theorem w_alone : about1.alone = true := by decide +kernel
set_option maxRecDepth 65536 in
theorem w_named : about1.methodNamed? x = some theMethod := by decide +kernel
set_option maxRecDepth 65536 in
theorem w_hears : about1.hears theMethod below0 = true := by decide +kernel
set_option maxRecDepth 65536 in
theorem w_ripe : about1.ripe theMethod args0 below0 = true := by decide +kernel
theorem w_running : about1.status = .running := rfl
set_option maxRecDepth 65536 in
theorem w_room : about1.hasRoom e0.platform room_1 = true :=
  launch0.hasRoom_least _ room_1 (by decide +kernel) (by decide +kernel) (by decide +kernel) (by decide +kernel) (by decide +kernel) (by decide +kernel)
theorem allAtoms_all (ts : List Jvm.Cond) (a : Array Jvm.Value) (st : Jvm.State) : (allAtoms ts).before a st = ts.all (fun c => c.before a st) := by
  induction ts with
  | nil => rfl
  | cons c t ih =>
    show (Jvm.Cond.and c (allAtoms t)).before a st = _
    rw [Jvm.Cond.before_and, ih, List.all_cons]
def words1 : List Jvm.Cond := Jvm.Cond.code x code maxLocals ret :: tables_1
/-- a 'code' word, met by the world's own term for the bytes: nothing is compared byte by byte -/
theorem code_word {y : MethodName} {bytes : ByteArray} {mx : Nat} {rt : Option FieldType} {a : Array Value} {s : State} {m : MethodId} {meth : Method} {c : Code} (h1 : s.methodNamed? y = some m) (h2 : s.vm.method? m = some meth) (h3 : meth.code = some c) (h4 : c.code = bytes)
    (h5 : (c.maxLocals == mx && c.exceptionTable.isEmpty && decide (c.maxStack ≤ mostOperands) && decide (meth.sig.returnType = rt) && !meth.locks && decide (parseMethodDescriptor y.desc = some meth.sig)) = true) : (Jvm.Cond.code y bytes mx rt).before a s = true := by
  simp only [Bool.and_eq_true, beq_iff_eq, Bool.not_eq_true', decide_eq_true_eq] at h5
  obtain ⟨⟨⟨⟨⟨g1, g2⟩, g3⟩, g4⟩, g5⟩, g6⟩ := h5
  simp [Cond.before, Cond.holds, Cond.value, h1, h2, h3, h4, g1, g2, g3, g4, g5, g6]
def isCode : Jvm.Cond → Bool
  | .code _ _ _ _ => true
  | _ => false
theorem all_split {L : List Jvm.Cond} {P : Jvm.Cond → Bool} (h1 : L.all (fun c => isCode c || P c) = true) (h2 : ∀ c ∈ L.filter isCode, P c = true) : L.all P = true := by
  refine List.all_eq_true.mpr fun c hc => ?_
  have h := List.all_eq_true.mp h1 c hc
  rcases Bool.eq_false_or_eq_true (isCode c) with hi | hi
  · exact h2 c (List.mem_filter.mpr ⟨hc, hi⟩)
  · simpa [hi] using h
set_option maxRecDepth 65536 in
theorem w_c0 : (Jvm.Cond.code x code maxLocals ret).before args0 about1 = true := code_word (m := ⟨1, 1⟩) (meth := k1m1) (c := k1c1) (by decide +kernel) rfl rfl rfl (by decide +kernel)
set_option maxRecDepth 65536 in
theorem w_c1 : (Jvm.Cond.code ({ cls := "java/lang/Math", name := "min", desc := "(II)I" } : Jvm.MethodName) jdk_29_method_69_code (2 : Nat) (Option.some Jvm.ClassFile.FieldType.int)).before args0 about1 = true := code_word (m := ⟨2, 2⟩) (meth := k2m2) (c := k2c2) (by decide +kernel) rfl rfl rfl (by decide +kernel)
set_option maxRecDepth 65536 in
theorem w_c2 : (Jvm.Cond.code ({ cls := "java/lang/Math", name := "max", desc := "(II)I" } : Jvm.MethodName) jdk_29_method_65_code (2 : Nat) (Option.some Jvm.ClassFile.FieldType.int)).before args0 about1 = true := code_word (m := ⟨2, 1⟩) (meth := k2m1) (c := k2c1) (by decide +kernel) rfl rfl rfl (by decide +kernel)
set_option maxRecDepth 65536 in
theorem w_c3 : (Jvm.Cond.code ({ cls := "com/example/ulinzi/ulinzi/packetfilter/PortMatch$Range", name := "<init>", desc := "(II)V" } : Jvm.MethodName) prog_58_method_1_code (3 : Nat) (Option.none : Option Jvm.ClassFile.FieldType)).before args0 about1 = true := code_word (m := ⟨3, 0⟩) (meth := k3m0) (c := k3c0) (by decide +kernel) rfl rfl rfl (by decide +kernel)
set_option maxRecDepth 65536 in
theorem w_c4 : (Jvm.Cond.code ({ cls := "java/lang/Object", name := "<init>", desc := "()V" } : Jvm.MethodName) object_method_1_code (1 : Nat) (Option.none : Option Jvm.ClassFile.FieldType)).before args0 about1 = true := code_word (m := ⟨0, 0⟩) (meth := k0m0) (c := k0c0) (by decide +kernel) rfl rfl rfl (by decide +kernel)
set_option maxRecDepth 65536 in
theorem w_c5 : (Jvm.Cond.code ({ cls := "com/example/ulinzi/ulinzi/packetfilter/PortMatch$Range", name := "contains", desc := "(I)Z" } : Jvm.MethodName) prog_58_method_2_code (2 : Nat) (Option.some Jvm.ClassFile.FieldType.boolean)).before args0 about1 = true := code_word (m := ⟨3, 1⟩) (meth := k3m1) (c := k3c1) (by decide +kernel) rfl rfl rfl (by decide +kernel)
def codes1 : List Jvm.Cond := [Jvm.Cond.code x code maxLocals ret, Jvm.Cond.code ({ cls := "java/lang/Math", name := "min", desc := "(II)I" } : Jvm.MethodName) jdk_29_method_69_code (2 : Nat) (Option.some Jvm.ClassFile.FieldType.int), Jvm.Cond.code ({ cls := "java/lang/Math", name := "max", desc := "(II)I" } : Jvm.MethodName) jdk_29_method_65_code (2 : Nat) (Option.some Jvm.ClassFile.FieldType.int), Jvm.Cond.code ({ cls := "com/example/ulinzi/ulinzi/packetfilter/PortMatch$Range", name := "<init>", desc := "(II)V" } : Jvm.MethodName) prog_58_method_1_code (3 : Nat) (Option.none : Option Jvm.ClassFile.FieldType), Jvm.Cond.code ({ cls := "java/lang/Object", name := "<init>", desc := "()V" } : Jvm.MethodName) object_method_1_code (1 : Nat) (Option.none : Option Jvm.ClassFile.FieldType), Jvm.Cond.code ({ cls := "com/example/ulinzi/ulinzi/packetfilter/PortMatch$Range", name := "contains", desc := "(I)Z" } : Jvm.MethodName) prog_58_method_2_code (2 : Nat) (Option.some Jvm.ClassFile.FieldType.boolean)]
set_option maxRecDepth 65536 in
theorem codes_eq : words1.filter isCode = codes1 := rfl
theorem w_codes : ∀ c ∈ words1.filter isCode, c.before args0 about1 = true := by
  rw [codes_eq]
  intro c hc
  simp only [codes1, List.mem_cons, List.not_mem_nil, or_false] at hc
  rcases hc with rfl | rfl | rfl | rfl | rfl | rfl
  · exact w_c0
  · exact w_c1
  · exact w_c2
  · exact w_c3
  · exact w_c4
  · exact w_c5
set_option maxRecDepth 65536 in
theorem w_t1 : (words1.take 24).all (fun c => isCode c || c.before args0 about1) = true := by decide +kernel
set_option maxRecDepth 65536 in
theorem w_t2 : (words1.drop 24).all (fun c => isCode c || c.before args0 about1) = true := by decide +kernel
theorem w_tables : (allAtoms (Jvm.Cond.code x code maxLocals ret :: tables_1)).before args0 about1 = true := by
  rw [allAtoms_all]
  show words1.all (fun c => c.before args0 about1) = true
  refine all_split ?_ w_codes
  rw [← List.take_append_drop 24 words1, List.all_append, w_t1, w_t2]
  rfl
set_option maxRecDepth 65536 in
theorem w_case : (Jvm.Cond.and given_1 narrow_1).before args0 about1 = true := by decide +kernel
theorem w_applies : (headSpec (Jvm.Cond.code x code maxLocals ret :: tables_1) room_1).applies x e0.platform about1 = true :=
  (Spec.applies_iff w_frames).mpr ⟨w_running, w_runnable, w_alone, w_named, w_hears, w_ripe, w_room, w_tables⟩
theorem atStart : AtStart classFile x code maxLocals ret World_1 tables_1 room_1 Calls_1 rest_1 Pre_1 launch0 p0 e0 about1 theMethod args0 below0 :=
  ⟨lists_1, trivial, launch0.admits_env _ _ _, launch0.least_env, fairChoices_fair.cas, fairChoices_fair.clock, w_frames, w_args, w_heap, w_applies, trivial, trivial, w_case⟩
end start1
theorem witness_1 : WitnessClaimed_1 := ⟨start1.p0, start1.e0, start1.about1, start1.theMethod, start1.args0, start1.below0, start1.atStart⟩
end Jvm.Pilot.@@N@@
