import JvmDerived
import JvmDerived.Pilot.@@N@@Statement
import JvmDerived.Pilot.@@N@@Code
set_option linter.unusedVariables false
set_option linter.unusedSimpArgs false
@@BLOCK:NumsL.lean.txt@@
namespace Jvm.OwnGo
open Jvm Jvm.ClassFile Sem Op Lib Jvm.Free Jvm.Stand Jvm.LawKit Jvm.RoadKit
/-- from T with the frame g on top the run comes to an end of which En holds -/
def Go (p : Program) (e : Env) (below : List Frame) (En : State → Outcome → Prop) (T : State) (g : JFrame) : Prop :=
  ∃ t o, Steps p.tables e below (T.setTop g) t ∧ t.status = .running ∧ Ended t below o ∧ En t o
/-- it has returned; the value, the heap and the written places meet Q; at most C cells and S slots were made since s -/
def EndN (s : State) (Q : Option Value → Heap → List Loc → Prop) (C S : Nat) : State → Outcome → Prop := fun t o => ∃ v L, o = .returned v ∧ Q v t.heap L ∧ FrameEnd s o t L C S
/-- what a callee's own walk promises -/
def Con (l : Launch) (Z : State) (y : MethodName) (bytes : ByteArray) (maxL : Nat) (ret : Option FieldType) (rm : Room) (as : List Value) (h : Heap) (Q : Option Value → Heap → List Loc → Prop) : Prop :=
  ∀ ws : List Jvm.Cond, MetFree l y (head1 (Jvm.Cond.code y bytes maxL ret :: ws) rm) (fun a U => a = as.toArray ∧ Z.Warmed39 U.vm ∧ U.heap = h) (fun _ _ _ _ _ => True) (fun _ U o U' => ∃ v L, o = .returned v ∧ Q v U'.heap L ∧ FrameEnd U o U' L rm.cells rm.slots)
/-- it returns r and leaves the heap as it was -/
def Ret (r : Option Value) (h : Heap) : Option Value → Heap → List Loc → Prop := fun v h' L => v = r ∧ h' = h ∧ L = []
section Own
variable {p : Program} {l : Launch} {e : Env} {R : Room} {s : State} {m : MethodId} {args : Array Value} {below : List Frame} {meth : Method} {c : Code} {T : State} {locs : List Loc} {cells slots : Nat} {Z : State} {a0 : Array Value} {h : Heap} {Q : Option Value → Heap → List Loc → Prop} {C S : Nat} {En : State → Outcome → Prop} {pc : Nat} {Ls : Array Slot} {st : List Value}
theorem Go.of {T' : State} {g g' : JFrame} (k : ∀ t, Steps p.tables e below (T'.setTop g') t → Steps p.tables e below (T.setTop g) t) (r : Go p e below En T' g') : Go p e below En T g := by
  obtain ⟨t, o, h1, r⟩ := r
  exact ⟨t, o, k t h1, r⟩
theorem Con.of {y : MethodName} {bytes : ByteArray} {maxL : Nat} {ret : Option FieldType} {rm : Room} {as : List Value} {Ls0 : Array Slot} (hp : plainFor y = true) (ef : ∀ m, entryFrame m as.toArray maxL = mkF m 0 Ls0 [])
    (body : ∀ (p : Program) (e : Env) (s : State) (m : MethodId) (below : List Frame) (meth : Method) (c : Code) (T : State), Stand p l e rm s m as.toArray below meth c T [] 0 0 → p.tables.exec = Jvm.exec → Z.Warmed39 s.vm → c.code = bytes → c.maxLocals = maxL → s.vm.findClass y.cls = some m.cls → meth.name = y.name → meth.sig.returnType = ret → meth.locks = false → T.heap = h → Go p e below (EndN s Q rm.cells rm.slots) T (mkF m 0 Ls0 [])) :
    Con l Z y bytes maxL ret rm as h Q := by
  intro ws
  refine MetFree.of_bodySF hp hisR ?_
  intro p e s m args below meth c s₁ Bd hml0 hP hK
  obtain ⟨rfl, hZ, hh⟩ := hP
  have X0 : Stand p l e rm s m as.toArray below meth c s₁ [] 0 0 := Stand.of_body Bd
  have e0 : s₁.heap = h := by rw [← hh, Bd.state]; rfl
  obtain ⟨t, o, h1, r⟩ := body p e s m below meth c s₁ X0 Bd.exec hZ Bd.bytes hml0 (findClass_of_methodNamed Bd.named) (name_of_methodNamed Bd.named Bd.method).1 Bd.returns Bd.notSynchronized e0
  exact ⟨t, o, castTop (ef m) h1, r⟩
theorem iloadN (X : Stand p l e R s m args below meth c T locs cells slots) (hx : p.tables.exec = Jvm.exec) {k : Fin 4} {v : Int32} (hd : decode c.code pc = .ok (.iload_n k, 1)) (hl : Ls[k.val]? = some (.val (.int v))) (r : Go p e below En T (mkF m (pc + 1) Ls (.int v :: st))) : Go p e below En T (mkF m pc Ls st) :=
  Go.of (fun t k => XS.iloadN (g := mkF m pc Ls st) X.here hx rfl hd hl k) r
theorem lloadN (X : Stand p l e R s m args below meth c T locs cells slots) (hx : p.tables.exec = Jvm.exec) {k : Fin 4} {v : Int64} (hd : decode c.code pc = .ok (.lload_n k, 1)) (hl : Ls[k.val]? = some (.val (.long v))) (r : Go p e below En T (mkF m (pc + 1) Ls (.long v :: st))) : Go p e below En T (mkF m pc Ls st) :=
  Go.of (fun t k => XS.lloadN (g := mkF m pc Ls st) X.here hx rfl hd hl k) r
theorem aloadN (X : Stand p l e R s m args below meth c T locs cells slots) (hx : p.tables.exec = Jvm.exec) {k : Fin 4} {v : Value} (hd : decode c.code pc = .ok (.aload_n k, 1)) (hl : Ls[k.val]? = some (.val v)) (hv : v.isRef = true) (r : Go p e below En T (mkF m (pc + 1) Ls (v :: st))) : Go p e below En T (mkF m pc Ls st) :=
  Go.of (fun t k => XS.aloadN (g := mkF m pc Ls st) X.here hx rfl hd hl hv k) r
theorem istoreN (X : Stand p l e R s m args below meth c T locs cells slots) (hx : p.tables.exec = Jvm.exec) {k : Fin 4} {v : Int32} {Ls' : Array Slot} (hd : decode c.code pc = .ok (.istore_n k, 1)) (hl : storeLocals Ls k.val (.int v) = some Ls') (r : Go p e below En T (mkF m (pc + 1) Ls' st)) : Go p e below En T (mkF m pc Ls (.int v :: st)) :=
  Go.of (fun t k => XS.istoreN (g := mkF m pc Ls (.int v :: st)) X.here hx rfl hd rfl hl k) r
theorem lstoreN (X : Stand p l e R s m args below meth c T locs cells slots) (hx : p.tables.exec = Jvm.exec) {k : Fin 4} {v : Int64} {Ls' : Array Slot} (hd : decode c.code pc = .ok (.lstore_n k, 1)) (hl : storeLocals Ls k.val (.long v) = some Ls') (r : Go p e below En T (mkF m (pc + 1) Ls' st)) : Go p e below En T (mkF m pc Ls (.long v :: st)) :=
  Go.of (fun t k => XS.lstoreN (g := mkF m pc Ls (.long v :: st)) X.here hx rfl hd rfl hl k) r
theorem astoreN (X : Stand p l e R s m args below meth c T locs cells slots) (hx : p.tables.exec = Jvm.exec) {k : Fin 4} {v : Value} {Ls' : Array Slot} (hd : decode c.code pc = .ok (.astore_n k, 1)) (hv : v.isRef = true) (hl : storeLocals Ls k.val v = some Ls') (r : Go p e below En T (mkF m (pc + 1) Ls' st)) : Go p e below En T (mkF m pc Ls (v :: st)) :=
  Go.of (fun t k => XS.astoreN (g := mkF m pc Ls (v :: st)) X.here hx rfl hd rfl hv hl k) r
theorem iload (X : Stand p l e R s m args below meth c T locs cells slots) (hx : p.tables.exec = Jvm.exec) {k : Nat} {v : Int32} (hd : decode c.code pc = .ok (.iload k, 2)) (hl : Ls[k]? = some (.val (.int v))) (r : Go p e below En T (mkF m (pc + 2) Ls (.int v :: st))) : Go p e below En T (mkF m pc Ls st) :=
  Go.of (fun t k => XS.iload (g := mkF m pc Ls st) X.here hx rfl hd hl k) r
theorem lload (X : Stand p l e R s m args below meth c T locs cells slots) (hx : p.tables.exec = Jvm.exec) {k : Nat} {v : Int64} (hd : decode c.code pc = .ok (.lload k, 2)) (hl : Ls[k]? = some (.val (.long v))) (r : Go p e below En T (mkF m (pc + 2) Ls (.long v :: st))) : Go p e below En T (mkF m pc Ls st) :=
  Go.of (fun t k => XS.lload (g := mkF m pc Ls st) X.here hx rfl hd hl k) r
theorem aload (X : Stand p l e R s m args below meth c T locs cells slots) (hx : p.tables.exec = Jvm.exec) {k : Nat} {v : Value} (hd : decode c.code pc = .ok (.aload k, 2)) (hl : Ls[k]? = some (.val v)) (hv : v.isRef = true) (r : Go p e below En T (mkF m (pc + 2) Ls (v :: st))) : Go p e below En T (mkF m pc Ls st) :=
  Go.of (fun t k => XS.aload (g := mkF m pc Ls st) X.here hx rfl hd hl hv k) r
theorem istore (X : Stand p l e R s m args below meth c T locs cells slots) (hx : p.tables.exec = Jvm.exec) {k : Nat} {v : Int32} {Ls' : Array Slot} (hd : decode c.code pc = .ok (.istore k, 2)) (hl : storeLocals Ls k (.int v) = some Ls') (r : Go p e below En T (mkF m (pc + 2) Ls' st)) : Go p e below En T (mkF m pc Ls (.int v :: st)) :=
  Go.of (fun t k => XS.istore (g := mkF m pc Ls (.int v :: st)) X.here hx rfl hd rfl hl k) r
theorem lstore (X : Stand p l e R s m args below meth c T locs cells slots) (hx : p.tables.exec = Jvm.exec) {k : Nat} {v : Int64} {Ls' : Array Slot} (hd : decode c.code pc = .ok (.lstore k, 2)) (hl : storeLocals Ls k (.long v) = some Ls') (r : Go p e below En T (mkF m (pc + 2) Ls' st)) : Go p e below En T (mkF m pc Ls (.long v :: st)) :=
  Go.of (fun t k => XS.lstore (g := mkF m pc Ls (.long v :: st)) X.here hx rfl hd rfl hl k) r
theorem astore (X : Stand p l e R s m args below meth c T locs cells slots) (hx : p.tables.exec = Jvm.exec) {k : Nat} {v : Value} {Ls' : Array Slot} (hd : decode c.code pc = .ok (.astore k, 2)) (hv : v.isRef = true) (hl : storeLocals Ls k v = some Ls') (r : Go p e below En T (mkF m (pc + 2) Ls' st)) : Go p e below En T (mkF m pc Ls (v :: st)) :=
  Go.of (fun t k => XS.astore (g := mkF m pc Ls (v :: st)) X.here hx rfl hd rfl hv hl k) r
theorem iconst (X : Stand p l e R s m args below meth c T locs cells slots) (hx : p.tables.exec = Jvm.exec) {i : Int} {z : Int32} (hd : decode c.code pc = .ok (.iconst i, 1)) (hz : Int32.ofInt i = z) (r : Go p e below En T (mkF m (pc + 1) Ls (.int z :: st))) : Go p e below En T (mkF m pc Ls st) :=
  Go.of (fun t k => XS.iconst (g := mkF m pc Ls st) X.here hx rfl hd (by rw [hz]; exact k)) r
theorem bipush (X : Stand p l e R s m args below meth c T locs cells slots) (hx : p.tables.exec = Jvm.exec) {i : Int} {z : Int32} (hd : decode c.code pc = .ok (.bipush i, 2)) (hz : (Int8.ofInt i).toInt32 = z) (r : Go p e below En T (mkF m (pc + 2) Ls (.int z :: st))) : Go p e below En T (mkF m pc Ls st) :=
  Go.of (fun t k => XS.bipush (g := mkF m pc Ls st) X.here hx rfl hd (by rw [hz]; exact k)) r
theorem sipush (X : Stand p l e R s m args below meth c T locs cells slots) (hx : p.tables.exec = Jvm.exec) {i : Int} {z : Int32} (hd : decode c.code pc = .ok (.sipush i, 3)) (hz : (Int16.ofInt i).toInt32 = z) (r : Go p e below En T (mkF m (pc + 3) Ls (.int z :: st))) : Go p e below En T (mkF m pc Ls st) :=
  Go.of (fun t k => XS.sipush (g := mkF m pc Ls st) X.here hx rfl hd (by rw [hz]; exact k)) r
theorem lconst (X : Stand p l e R s m args below meth c T locs cells slots) (hx : p.tables.exec = Jvm.exec) {i : Fin 2} {v : Int64} (hd : decode c.code pc = .ok (.lconst i, 1)) (hv : Int64.ofNat i.val = v) (r : Go p e below En T (mkF m (pc + 1) Ls (.long v :: st))) : Go p e below En T (mkF m pc Ls st) :=
  Go.of (fun t k => XS.lconst (g := mkF m pc Ls st) X.here hx rfl hd (by rw [hv]; exact k)) r
theorem aconstNull (X : Stand p l e R s m args below meth c T locs cells slots) (hx : p.tables.exec = Jvm.exec)  (hd : decode c.code pc = .ok (.aconst_null, 1))  (r : Go p e below En T (mkF m (pc + 1) Ls (.null :: st))) : Go p e below En T (mkF m pc Ls st) :=
  Go.of (fun t k => XS.aconstNull (g := mkF m pc Ls st) X.here hx rfl hd k) r
theorem iadd (X : Stand p l e R s m args below meth c T locs cells slots) (hx : p.tables.exec = Jvm.exec) {x y z : Int32} (hd : decode c.code pc = .ok (.iadd, 1)) (hz : x + y = z) (r : Go p e below En T (mkF m (pc + 1) Ls (.int z :: st))) : Go p e below En T (mkF m pc Ls (.int y :: .int x :: st)) :=
  Go.of (fun t k => XS.iadd (g := mkF m pc Ls (.int y :: .int x :: st)) X.here hx rfl hd rfl (by rw [hz]; exact k)) r
theorem isub (X : Stand p l e R s m args below meth c T locs cells slots) (hx : p.tables.exec = Jvm.exec) {x y z : Int32} (hd : decode c.code pc = .ok (.isub, 1)) (hz : x - y = z) (r : Go p e below En T (mkF m (pc + 1) Ls (.int z :: st))) : Go p e below En T (mkF m pc Ls (.int y :: .int x :: st)) :=
  Go.of (fun t k => XS.isub (g := mkF m pc Ls (.int y :: .int x :: st)) X.here hx rfl hd rfl (by rw [hz]; exact k)) r
theorem imul (X : Stand p l e R s m args below meth c T locs cells slots) (hx : p.tables.exec = Jvm.exec) {x y z : Int32} (hd : decode c.code pc = .ok (.imul, 1)) (hz : x * y = z) (r : Go p e below En T (mkF m (pc + 1) Ls (.int z :: st))) : Go p e below En T (mkF m pc Ls (.int y :: .int x :: st)) :=
  Go.of (fun t k => XS.imul (g := mkF m pc Ls (.int y :: .int x :: st)) X.here hx rfl hd rfl (by rw [hz]; exact k)) r
theorem iand (X : Stand p l e R s m args below meth c T locs cells slots) (hx : p.tables.exec = Jvm.exec) {x y z : Int32} (hd : decode c.code pc = .ok (.iand, 1)) (hz : x &&& y = z) (r : Go p e below En T (mkF m (pc + 1) Ls (.int z :: st))) : Go p e below En T (mkF m pc Ls (.int y :: .int x :: st)) :=
  Go.of (fun t k => XS.iand (g := mkF m pc Ls (.int y :: .int x :: st)) X.here hx rfl hd rfl (by rw [hz]; exact k)) r
theorem ior (X : Stand p l e R s m args below meth c T locs cells slots) (hx : p.tables.exec = Jvm.exec) {x y z : Int32} (hd : decode c.code pc = .ok (.ior, 1)) (hz : x ||| y = z) (r : Go p e below En T (mkF m (pc + 1) Ls (.int z :: st))) : Go p e below En T (mkF m pc Ls (.int y :: .int x :: st)) :=
  Go.of (fun t k => XS.ior (g := mkF m pc Ls (.int y :: .int x :: st)) X.here hx rfl hd rfl (by rw [hz]; exact k)) r
theorem ixor (X : Stand p l e R s m args below meth c T locs cells slots) (hx : p.tables.exec = Jvm.exec) {x y z : Int32} (hd : decode c.code pc = .ok (.ixor, 1)) (hz : x ^^^ y = z) (r : Go p e below En T (mkF m (pc + 1) Ls (.int z :: st))) : Go p e below En T (mkF m pc Ls (.int y :: .int x :: st)) :=
  Go.of (fun t k => XS.ixor (g := mkF m pc Ls (.int y :: .int x :: st)) X.here hx rfl hd rfl (by rw [hz]; exact k)) r
theorem ladd (X : Stand p l e R s m args below meth c T locs cells slots) (hx : p.tables.exec = Jvm.exec) {x y z : Int64} (hd : decode c.code pc = .ok (.ladd, 1)) (hz : x + y = z) (r : Go p e below En T (mkF m (pc + 1) Ls (.long z :: st))) : Go p e below En T (mkF m pc Ls (.long y :: .long x :: st)) :=
  Go.of (fun t k => XS.ladd (g := mkF m pc Ls (.long y :: .long x :: st)) X.here hx rfl hd rfl (by rw [hz]; exact k)) r
theorem lsub (X : Stand p l e R s m args below meth c T locs cells slots) (hx : p.tables.exec = Jvm.exec) {x y z : Int64} (hd : decode c.code pc = .ok (.lsub, 1)) (hz : x - y = z) (r : Go p e below En T (mkF m (pc + 1) Ls (.long z :: st))) : Go p e below En T (mkF m pc Ls (.long y :: .long x :: st)) :=
  Go.of (fun t k => XS.lsub (g := mkF m pc Ls (.long y :: .long x :: st)) X.here hx rfl hd rfl (by rw [hz]; exact k)) r
theorem lmul (X : Stand p l e R s m args below meth c T locs cells slots) (hx : p.tables.exec = Jvm.exec) {x y z : Int64} (hd : decode c.code pc = .ok (.lmul, 1)) (hz : x * y = z) (r : Go p e below En T (mkF m (pc + 1) Ls (.long z :: st))) : Go p e below En T (mkF m pc Ls (.long y :: .long x :: st)) :=
  Go.of (fun t k => XS.lmul (g := mkF m pc Ls (.long y :: .long x :: st)) X.here hx rfl hd rfl (by rw [hz]; exact k)) r
theorem land (X : Stand p l e R s m args below meth c T locs cells slots) (hx : p.tables.exec = Jvm.exec) {x y z : Int64} (hd : decode c.code pc = .ok (.land, 1)) (hz : x &&& y = z) (r : Go p e below En T (mkF m (pc + 1) Ls (.long z :: st))) : Go p e below En T (mkF m pc Ls (.long y :: .long x :: st)) :=
  Go.of (fun t k => XS.land (g := mkF m pc Ls (.long y :: .long x :: st)) X.here hx rfl hd rfl (by rw [hz]; exact k)) r
theorem lor (X : Stand p l e R s m args below meth c T locs cells slots) (hx : p.tables.exec = Jvm.exec) {x y z : Int64} (hd : decode c.code pc = .ok (.lor, 1)) (hz : x ||| y = z) (r : Go p e below En T (mkF m (pc + 1) Ls (.long z :: st))) : Go p e below En T (mkF m pc Ls (.long y :: .long x :: st)) :=
  Go.of (fun t k => XS.lor (g := mkF m pc Ls (.long y :: .long x :: st)) X.here hx rfl hd rfl (by rw [hz]; exact k)) r
theorem lxor (X : Stand p l e R s m args below meth c T locs cells slots) (hx : p.tables.exec = Jvm.exec) {x y z : Int64} (hd : decode c.code pc = .ok (.lxor, 1)) (hz : x ^^^ y = z) (r : Go p e below En T (mkF m (pc + 1) Ls (.long z :: st))) : Go p e below En T (mkF m pc Ls (.long y :: .long x :: st)) :=
  Go.of (fun t k => XS.lxor (g := mkF m pc Ls (.long y :: .long x :: st)) X.here hx rfl hd rfl (by rw [hz]; exact k)) r
theorem iushr (X : Stand p l e R s m args below meth c T locs cells slots) (hx : p.tables.exec = Jvm.exec) {x y z : Int32} (hd : decode c.code pc = .ok (.iushr, 1)) (hz : ((x.toUInt32 >>> (y &&& 31).toUInt32).toInt32) = z) (r : Go p e below En T (mkF m (pc + 1) Ls (.int z :: st))) : Go p e below En T (mkF m pc Ls (.int y :: .int x :: st)) :=
  Go.of (fun t k => XS.iushr (g := mkF m pc Ls (.int y :: .int x :: st)) X.here hx rfl hd rfl (by rw [hz]; exact k)) r
theorem ishr (X : Stand p l e R s m args below meth c T locs cells slots) (hx : p.tables.exec = Jvm.exec) {x y z : Int32} (hd : decode c.code pc = .ok (.ishr, 1)) (hz : (x >>> (y &&& 31)) = z) (r : Go p e below En T (mkF m (pc + 1) Ls (.int z :: st))) : Go p e below En T (mkF m pc Ls (.int y :: .int x :: st)) :=
  Go.of (fun t k => XS.ishr (g := mkF m pc Ls (.int y :: .int x :: st)) X.here hx rfl hd rfl (by rw [hz]; exact k)) r
theorem ishl (X : Stand p l e R s m args below meth c T locs cells slots) (hx : p.tables.exec = Jvm.exec) {x y z : Int32} (hd : decode c.code pc = .ok (.ishl, 1)) (hz : (x <<< (y &&& 31)) = z) (r : Go p e below En T (mkF m (pc + 1) Ls (.int z :: st))) : Go p e below En T (mkF m pc Ls (.int y :: .int x :: st)) :=
  Go.of (fun t k => XS.ishl (g := mkF m pc Ls (.int y :: .int x :: st)) X.here hx rfl hd rfl (by rw [hz]; exact k)) r
theorem irem (X : Stand p l e R s m args below meth c T locs cells slots) (hx : p.tables.exec = Jvm.exec) {x y z : Int32} (hd : decode c.code pc = .ok (.irem, 1)) (hy : y ≠ 0) (hz : x % y = z) (r : Go p e below En T (mkF m (pc + 1) Ls (.int z :: st))) : Go p e below En T (mkF m pc Ls (.int y :: .int x :: st)) :=
  Go.of (fun t k => iremM (g := mkF m pc Ls (.int y :: .int x :: st)) X hx rfl hd rfl hy (by rw [hz]; exact k)) r
theorem i2l (X : Stand p l e R s m args below meth c T locs cells slots) (hx : p.tables.exec = Jvm.exec) {x : Int32} {z : Int64} (hd : decode c.code pc = .ok (.i2l, 1)) (hz : x.toInt64 = z) (r : Go p e below En T (mkF m (pc + 1) Ls (.long z :: st))) : Go p e below En T (mkF m pc Ls (.int x :: st)) :=
  Go.of (fun t k => XS.i2l (g := mkF m pc Ls (.int x :: st)) X.here hx rfl hd rfl (by rw [hz]; exact k)) r
theorem l2i (X : Stand p l e R s m args below meth c T locs cells slots) (hx : p.tables.exec = Jvm.exec) {x : Int64} {z : Int32} (hd : decode c.code pc = .ok (.l2i, 1)) (hz : x.toInt32 = z) (r : Go p e below En T (mkF m (pc + 1) Ls (.int z :: st))) : Go p e below En T (mkF m pc Ls (.long x :: st)) :=
  Go.of (fun t k => XS.l2i (g := mkF m pc Ls (.long x :: st)) X.here hx rfl hd rfl (by rw [hz]; exact k)) r
theorem i2c (X : Stand p l e R s m args below meth c T locs cells slots) (hx : p.tables.exec = Jvm.exec) {x : Int32} {z : Int32} (hd : decode c.code pc = .ok (.i2c, 1)) (hz : (x.toUInt32.toUInt16.toUInt32.toInt32) = z) (r : Go p e below En T (mkF m (pc + 1) Ls (.int z :: st))) : Go p e below En T (mkF m pc Ls (.int x :: st)) :=
  Go.of (fun t k => XS.i2c (g := mkF m pc Ls (.int x :: st)) X.here hx rfl hd rfl (by rw [hz]; exact k)) r
theorem i2b (X : Stand p l e R s m args below meth c T locs cells slots) (hx : p.tables.exec = Jvm.exec) {x : Int32} {z : Int32} (hd : decode c.code pc = .ok (.i2b, 1)) (hz : (x.toInt8.toInt32) = z) (r : Go p e below En T (mkF m (pc + 1) Ls (.int z :: st))) : Go p e below En T (mkF m pc Ls (.int x :: st)) :=
  Go.of (fun t k => XS.i2b (g := mkF m pc Ls (.int x :: st)) X.here hx rfl hd rfl (by rw [hz]; exact k)) r
theorem dup (X : Stand p l e R s m args below meth c T locs cells slots) (hx : p.tables.exec = Jvm.exec) {v : Value} (hd : decode c.code pc = .ok (.dup, 1)) (hc : v.category = 1) (r : Go p e below En T (mkF m (pc + 1) Ls (v :: v :: st))) : Go p e below En T (mkF m pc Ls (v :: st)) :=
  Go.of (fun t k => XS.dup (g := mkF m pc Ls (v :: st)) X.here hx rfl hd rfl hc k) r
theorem pop (X : Stand p l e R s m args below meth c T locs cells slots) (hx : p.tables.exec = Jvm.exec) {v : Value} (hd : decode c.code pc = .ok (.pop, 1)) (hc : v.category = 1) (r : Go p e below En T (mkF m (pc + 1) Ls st)) : Go p e below En T (mkF m pc Ls (v :: st)) :=
  Go.of (fun t k => XS.pop (g := mkF m pc Ls (v :: st)) X.here hx rfl hd rfl hc k) r
theorem iinc (X : Stand p l e R s m args below meth c T locs cells slots) (hx : p.tables.exec = Jvm.exec) {k : Nat} {i : Int} {v z : Int32} {Ls' : Array Slot} (hd : decode c.code pc = .ok (.iinc k i, 3)) (hl : Ls[k]? = some (.val (.int v))) (hz : v + Int32.ofInt i = z) (hl' : storeLocals Ls k (.int z) = some Ls') (r : Go p e below En T (mkF m (pc + 3) Ls' st)) : Go p e below En T (mkF m pc Ls st) :=
  Go.of (fun t k => XS.iinc (g := mkF m pc Ls st) X.here hx rfl hd hl (by rw [hz]; exact hl') k) r
theorem goto (X : Stand p l e R s m args below meth c T locs cells slots) (hx : p.tables.exec = Jvm.exec) {o : Int} {pc' : Nat} (hd : decode c.code pc = .ok (.goto o, 3)) (ho : 0 ≤ (pc : Int) + o) (hp : ((pc : Int) + o).toNat = pc') (r : Go p e below En T (mkF m pc' Ls st)) : Go p e below En T (mkF m pc Ls st) :=
  Go.of (fun t k => XS.goto (g := mkF m pc Ls st) X.here hx rfl rfl hd ho hp k) r
theorem ic_eq (X : Stand p l e R s m args below meth c T locs cells slots) (hx : p.tables.exec = Jvm.exec) {o : Int} {pc' : Nat} {x y : Int32} (hd : decode c.code pc = .ok (.if_icmp .eq o, 3)) (ho : 0 ≤ (pc : Int) + o) (hp : ((pc : Int) + o).toNat = pc') (yes : x = y → Go p e below En T (mkF m pc' Ls st)) (no : ¬ (x = y) → Go p e below En T (mkF m (pc + 3) Ls st)) : Go p e below En T (mkF m pc Ls (.int y :: .int x :: st)) := by
  by_cases q : x = y
  · exact Go.of (fun t k => XS.icmpYes (g := mkF m pc Ls (.int y :: .int x :: st)) X.here hx rfl rfl hd rfl (teq q).1 ho hp k) (yes q)
  · exact Go.of (fun t k => XS.icmpNo (g := mkF m pc Ls (.int y :: .int x :: st)) X.here hx rfl hd rfl (feq q).1 k) (no q)
theorem if_eq (X : Stand p l e R s m args below meth c T locs cells slots) (hx : p.tables.exec = Jvm.exec) {o : Int} {pc' : Nat} {x : Int32} (hd : decode c.code pc = .ok (.ifCond .eq o, 3)) (ho : 0 ≤ (pc : Int) + o) (hp : ((pc : Int) + o).toNat = pc') (yes : x = 0 → Go p e below En T (mkF m pc' Ls st)) (no : ¬ (x = 0) → Go p e below En T (mkF m (pc + 3) Ls st)) : Go p e below En T (mkF m pc Ls (.int x :: st)) := by
  by_cases q : x = 0
  · exact Go.of (fun t k => XS.ifYes (g := mkF m pc Ls (.int x :: st)) X.here hx rfl rfl hd rfl ((if0 _ _).trans (teq q).1) ho hp k) (yes q)
  · exact Go.of (fun t k => XS.ifNo (g := mkF m pc Ls (.int x :: st)) X.here hx rfl hd rfl ((if0 _ _).trans (feq q).1) k) (no q)
theorem ic_ne (X : Stand p l e R s m args below meth c T locs cells slots) (hx : p.tables.exec = Jvm.exec) {o : Int} {pc' : Nat} {x y : Int32} (hd : decode c.code pc = .ok (.if_icmp .ne o, 3)) (ho : 0 ≤ (pc : Int) + o) (hp : ((pc : Int) + o).toNat = pc') (yes : ¬ (x = y) → Go p e below En T (mkF m pc' Ls st)) (no : x = y → Go p e below En T (mkF m (pc + 3) Ls st)) : Go p e below En T (mkF m pc Ls (.int y :: .int x :: st)) := by
  by_cases q : x = y
  · exact Go.of (fun t k => XS.icmpNo (g := mkF m pc Ls (.int y :: .int x :: st)) X.here hx rfl hd rfl (teq q).2 k) (no q)
  · exact Go.of (fun t k => XS.icmpYes (g := mkF m pc Ls (.int y :: .int x :: st)) X.here hx rfl rfl hd rfl (feq q).2 ho hp k) (yes q)
theorem if_ne (X : Stand p l e R s m args below meth c T locs cells slots) (hx : p.tables.exec = Jvm.exec) {o : Int} {pc' : Nat} {x : Int32} (hd : decode c.code pc = .ok (.ifCond .ne o, 3)) (ho : 0 ≤ (pc : Int) + o) (hp : ((pc : Int) + o).toNat = pc') (yes : ¬ (x = 0) → Go p e below En T (mkF m pc' Ls st)) (no : x = 0 → Go p e below En T (mkF m (pc + 3) Ls st)) : Go p e below En T (mkF m pc Ls (.int x :: st)) := by
  by_cases q : x = 0
  · exact Go.of (fun t k => XS.ifNo (g := mkF m pc Ls (.int x :: st)) X.here hx rfl hd rfl ((if0 _ _).trans (teq q).2) k) (no q)
  · exact Go.of (fun t k => XS.ifYes (g := mkF m pc Ls (.int x :: st)) X.here hx rfl rfl hd rfl ((if0 _ _).trans (feq q).2) ho hp k) (yes q)
theorem ic_lt (X : Stand p l e R s m args below meth c T locs cells slots) (hx : p.tables.exec = Jvm.exec) {o : Int} {pc' : Nat} {x y : Int32} (hd : decode c.code pc = .ok (.if_icmp .lt o, 3)) (ho : 0 ≤ (pc : Int) + o) (hp : ((pc : Int) + o).toNat = pc') (yes : x < y → Go p e below En T (mkF m pc' Ls st)) (no : ¬ (x < y) → Go p e below En T (mkF m (pc + 3) Ls st)) : Go p e below En T (mkF m pc Ls (.int y :: .int x :: st)) := by
  by_cases q : x < y
  · exact Go.of (fun t k => XS.icmpYes (g := mkF m pc Ls (.int y :: .int x :: st)) X.here hx rfl rfl hd rfl (tlt q).1 ho hp k) (yes q)
  · exact Go.of (fun t k => XS.icmpNo (g := mkF m pc Ls (.int y :: .int x :: st)) X.here hx rfl hd rfl (flt q).1 k) (no q)
theorem if_lt (X : Stand p l e R s m args below meth c T locs cells slots) (hx : p.tables.exec = Jvm.exec) {o : Int} {pc' : Nat} {x : Int32} (hd : decode c.code pc = .ok (.ifCond .lt o, 3)) (ho : 0 ≤ (pc : Int) + o) (hp : ((pc : Int) + o).toNat = pc') (yes : x < 0 → Go p e below En T (mkF m pc' Ls st)) (no : ¬ (x < 0) → Go p e below En T (mkF m (pc + 3) Ls st)) : Go p e below En T (mkF m pc Ls (.int x :: st)) := by
  by_cases q : x < 0
  · exact Go.of (fun t k => XS.ifYes (g := mkF m pc Ls (.int x :: st)) X.here hx rfl rfl hd rfl ((if0 _ _).trans (tlt q).1) ho hp k) (yes q)
  · exact Go.of (fun t k => XS.ifNo (g := mkF m pc Ls (.int x :: st)) X.here hx rfl hd rfl ((if0 _ _).trans (flt q).1) k) (no q)
theorem ic_ge (X : Stand p l e R s m args below meth c T locs cells slots) (hx : p.tables.exec = Jvm.exec) {o : Int} {pc' : Nat} {x y : Int32} (hd : decode c.code pc = .ok (.if_icmp .ge o, 3)) (ho : 0 ≤ (pc : Int) + o) (hp : ((pc : Int) + o).toNat = pc') (yes : ¬ (x < y) → Go p e below En T (mkF m pc' Ls st)) (no : x < y → Go p e below En T (mkF m (pc + 3) Ls st)) : Go p e below En T (mkF m pc Ls (.int y :: .int x :: st)) := by
  by_cases q : x < y
  · exact Go.of (fun t k => XS.icmpNo (g := mkF m pc Ls (.int y :: .int x :: st)) X.here hx rfl hd rfl (tlt q).2.1 k) (no q)
  · exact Go.of (fun t k => XS.icmpYes (g := mkF m pc Ls (.int y :: .int x :: st)) X.here hx rfl rfl hd rfl (flt q).2.1 ho hp k) (yes q)
theorem if_ge (X : Stand p l e R s m args below meth c T locs cells slots) (hx : p.tables.exec = Jvm.exec) {o : Int} {pc' : Nat} {x : Int32} (hd : decode c.code pc = .ok (.ifCond .ge o, 3)) (ho : 0 ≤ (pc : Int) + o) (hp : ((pc : Int) + o).toNat = pc') (yes : ¬ (x < 0) → Go p e below En T (mkF m pc' Ls st)) (no : x < 0 → Go p e below En T (mkF m (pc + 3) Ls st)) : Go p e below En T (mkF m pc Ls (.int x :: st)) := by
  by_cases q : x < 0
  · exact Go.of (fun t k => XS.ifNo (g := mkF m pc Ls (.int x :: st)) X.here hx rfl hd rfl ((if0 _ _).trans (tlt q).2.1) k) (no q)
  · exact Go.of (fun t k => XS.ifYes (g := mkF m pc Ls (.int x :: st)) X.here hx rfl rfl hd rfl ((if0 _ _).trans (flt q).2.1) ho hp k) (yes q)
theorem ic_gt (X : Stand p l e R s m args below meth c T locs cells slots) (hx : p.tables.exec = Jvm.exec) {o : Int} {pc' : Nat} {x y : Int32} (hd : decode c.code pc = .ok (.if_icmp .gt o, 3)) (ho : 0 ≤ (pc : Int) + o) (hp : ((pc : Int) + o).toNat = pc') (yes : y < x → Go p e below En T (mkF m pc' Ls st)) (no : ¬ (y < x) → Go p e below En T (mkF m (pc + 3) Ls st)) : Go p e below En T (mkF m pc Ls (.int y :: .int x :: st)) := by
  by_cases q : y < x
  · exact Go.of (fun t k => XS.icmpYes (g := mkF m pc Ls (.int y :: .int x :: st)) X.here hx rfl rfl hd rfl (tlt q).2.2.1 ho hp k) (yes q)
  · exact Go.of (fun t k => XS.icmpNo (g := mkF m pc Ls (.int y :: .int x :: st)) X.here hx rfl hd rfl (flt q).2.2.1 k) (no q)
theorem if_gt (X : Stand p l e R s m args below meth c T locs cells slots) (hx : p.tables.exec = Jvm.exec) {o : Int} {pc' : Nat} {x : Int32} (hd : decode c.code pc = .ok (.ifCond .gt o, 3)) (ho : 0 ≤ (pc : Int) + o) (hp : ((pc : Int) + o).toNat = pc') (yes : 0 < x → Go p e below En T (mkF m pc' Ls st)) (no : ¬ (0 < x) → Go p e below En T (mkF m (pc + 3) Ls st)) : Go p e below En T (mkF m pc Ls (.int x :: st)) := by
  by_cases q : 0 < x
  · exact Go.of (fun t k => XS.ifYes (g := mkF m pc Ls (.int x :: st)) X.here hx rfl rfl hd rfl ((if0 _ _).trans (tlt q).2.2.1) ho hp k) (yes q)
  · exact Go.of (fun t k => XS.ifNo (g := mkF m pc Ls (.int x :: st)) X.here hx rfl hd rfl ((if0 _ _).trans (flt q).2.2.1) k) (no q)
theorem ic_le (X : Stand p l e R s m args below meth c T locs cells slots) (hx : p.tables.exec = Jvm.exec) {o : Int} {pc' : Nat} {x y : Int32} (hd : decode c.code pc = .ok (.if_icmp .le o, 3)) (ho : 0 ≤ (pc : Int) + o) (hp : ((pc : Int) + o).toNat = pc') (yes : ¬ (y < x) → Go p e below En T (mkF m pc' Ls st)) (no : y < x → Go p e below En T (mkF m (pc + 3) Ls st)) : Go p e below En T (mkF m pc Ls (.int y :: .int x :: st)) := by
  by_cases q : y < x
  · exact Go.of (fun t k => XS.icmpNo (g := mkF m pc Ls (.int y :: .int x :: st)) X.here hx rfl hd rfl (tlt q).2.2.2 k) (no q)
  · exact Go.of (fun t k => XS.icmpYes (g := mkF m pc Ls (.int y :: .int x :: st)) X.here hx rfl rfl hd rfl (flt q).2.2.2 ho hp k) (yes q)
theorem if_le (X : Stand p l e R s m args below meth c T locs cells slots) (hx : p.tables.exec = Jvm.exec) {o : Int} {pc' : Nat} {x : Int32} (hd : decode c.code pc = .ok (.ifCond .le o, 3)) (ho : 0 ≤ (pc : Int) + o) (hp : ((pc : Int) + o).toNat = pc') (yes : ¬ (0 < x) → Go p e below En T (mkF m pc' Ls st)) (no : 0 < x → Go p e below En T (mkF m (pc + 3) Ls st)) : Go p e below En T (mkF m pc Ls (.int x :: st)) := by
  by_cases q : 0 < x
  · exact Go.of (fun t k => XS.ifNo (g := mkF m pc Ls (.int x :: st)) X.here hx rfl hd rfl ((if0 _ _).trans (tlt q).2.2.2) k) (no q)
  · exact Go.of (fun t k => XS.ifYes (g := mkF m pc Ls (.int x :: st)) X.here hx rfl rfl hd rfl ((if0 _ _).trans (flt q).2.2.2) ho hp k) (yes q)
theorem own_lc_eq (x y : Int64) : (lcmpW x y = 0) = (x = y) := by rw [lcW]; exact propext (Jvm.RoadKit.lc_eq x y)
theorem own_lc_lt (x y : Int64) : (lcmpW x y < 0) = (x < y) := by rw [lcW]; exact propext (Jvm.RoadKit.lc_lt x y)
theorem own_lc_gt (x y : Int64) : (0 < lcmpW x y) = (y < x) := by rw [lcW]; exact propext (Jvm.RoadKit.lc_gt x y)
theorem lcmp (X : Stand p l e R s m args below meth c T locs cells slots) (hx : p.tables.exec = Jvm.exec) {x y : Int64} (hd : decode c.code pc = .ok (.lcmp, 1))  (r : Go p e below En T (mkF m (pc + 1) Ls (.int (lcmpW x y) :: st))) : Go p e below En T (mkF m pc Ls (.long y :: .long x :: st)) :=
  Go.of (fun t k => XS.lcmp (g := mkF m pc Ls (.long y :: .long x :: st)) X.here hx rfl hd rfl k) r
theorem lc_eq_ (X : Stand p l e R s m args below meth c T locs cells slots) (hx : p.tables.exec = Jvm.exec) {o : Int} {pc' : Nat} {x y : Int64} (hd : decode c.code pc = .ok (.lcmp, 1)) (hd' : decode c.code (pc + 1) = .ok (.ifCond .eq o, 3)) (ho : 0 ≤ ((pc + 1 : Nat) : Int) + o) (hp : (((pc + 1 : Nat) : Int) + o).toNat = pc') (yes : x = y → Go p e below En T (mkF m pc' Ls st)) (no : ¬ (x = y) → Go p e below En T (mkF m (pc + 4) Ls st)) : Go p e below En T (mkF m pc Ls (.long y :: .long x :: st)) :=
  lcmp X hx hd (if_eq X hx hd' ho hp (fun q => yes (by rw [own_lc_eq] at q; exact q)) (fun q => no (by rw [own_lc_eq] at q; exact q)))
theorem lc_ne_ (X : Stand p l e R s m args below meth c T locs cells slots) (hx : p.tables.exec = Jvm.exec) {o : Int} {pc' : Nat} {x y : Int64} (hd : decode c.code pc = .ok (.lcmp, 1)) (hd' : decode c.code (pc + 1) = .ok (.ifCond .ne o, 3)) (ho : 0 ≤ ((pc + 1 : Nat) : Int) + o) (hp : (((pc + 1 : Nat) : Int) + o).toNat = pc') (yes : ¬ (x = y) → Go p e below En T (mkF m pc' Ls st)) (no : x = y → Go p e below En T (mkF m (pc + 4) Ls st)) : Go p e below En T (mkF m pc Ls (.long y :: .long x :: st)) :=
  lcmp X hx hd (if_ne X hx hd' ho hp (fun q => yes (by rw [own_lc_eq] at q; exact q)) (fun q => no (by rw [own_lc_eq] at q; exact q)))
theorem lc_lt_ (X : Stand p l e R s m args below meth c T locs cells slots) (hx : p.tables.exec = Jvm.exec) {o : Int} {pc' : Nat} {x y : Int64} (hd : decode c.code pc = .ok (.lcmp, 1)) (hd' : decode c.code (pc + 1) = .ok (.ifCond .lt o, 3)) (ho : 0 ≤ ((pc + 1 : Nat) : Int) + o) (hp : (((pc + 1 : Nat) : Int) + o).toNat = pc') (yes : x < y → Go p e below En T (mkF m pc' Ls st)) (no : ¬ (x < y) → Go p e below En T (mkF m (pc + 4) Ls st)) : Go p e below En T (mkF m pc Ls (.long y :: .long x :: st)) :=
  lcmp X hx hd (if_lt X hx hd' ho hp (fun q => yes (by rw [own_lc_lt] at q; exact q)) (fun q => no (by rw [own_lc_lt] at q; exact q)))
theorem lc_ge_ (X : Stand p l e R s m args below meth c T locs cells slots) (hx : p.tables.exec = Jvm.exec) {o : Int} {pc' : Nat} {x y : Int64} (hd : decode c.code pc = .ok (.lcmp, 1)) (hd' : decode c.code (pc + 1) = .ok (.ifCond .ge o, 3)) (ho : 0 ≤ ((pc + 1 : Nat) : Int) + o) (hp : (((pc + 1 : Nat) : Int) + o).toNat = pc') (yes : ¬ (x < y) → Go p e below En T (mkF m pc' Ls st)) (no : x < y → Go p e below En T (mkF m (pc + 4) Ls st)) : Go p e below En T (mkF m pc Ls (.long y :: .long x :: st)) :=
  lcmp X hx hd (if_ge X hx hd' ho hp (fun q => yes (by rw [own_lc_lt] at q; exact q)) (fun q => no (by rw [own_lc_lt] at q; exact q)))
theorem lc_gt_ (X : Stand p l e R s m args below meth c T locs cells slots) (hx : p.tables.exec = Jvm.exec) {o : Int} {pc' : Nat} {x y : Int64} (hd : decode c.code pc = .ok (.lcmp, 1)) (hd' : decode c.code (pc + 1) = .ok (.ifCond .gt o, 3)) (ho : 0 ≤ ((pc + 1 : Nat) : Int) + o) (hp : (((pc + 1 : Nat) : Int) + o).toNat = pc') (yes : y < x → Go p e below En T (mkF m pc' Ls st)) (no : ¬ (y < x) → Go p e below En T (mkF m (pc + 4) Ls st)) : Go p e below En T (mkF m pc Ls (.long y :: .long x :: st)) :=
  lcmp X hx hd (if_gt X hx hd' ho hp (fun q => yes (by rw [own_lc_gt] at q; exact q)) (fun q => no (by rw [own_lc_gt] at q; exact q)))
theorem lc_le_ (X : Stand p l e R s m args below meth c T locs cells slots) (hx : p.tables.exec = Jvm.exec) {o : Int} {pc' : Nat} {x y : Int64} (hd : decode c.code pc = .ok (.lcmp, 1)) (hd' : decode c.code (pc + 1) = .ok (.ifCond .le o, 3)) (ho : 0 ≤ ((pc + 1 : Nat) : Int) + o) (hp : (((pc + 1 : Nat) : Int) + o).toNat = pc') (yes : ¬ (y < x) → Go p e below En T (mkF m pc' Ls st)) (no : y < x → Go p e below En T (mkF m (pc + 4) Ls st)) : Go p e below En T (mkF m pc Ls (.long y :: .long x :: st)) :=
  lcmp X hx hd (if_le X hx hd' ho hp (fun q => yes (by rw [own_lc_gt] at q; exact q)) (fun q => no (by rw [own_lc_gt] at q; exact q)))
theorem ac_eq (X : Stand p l e R s m args below meth c T locs cells slots) (hx : p.tables.exec = Jvm.exec) {o : Int} {pc' : Nat} {x y : Value} (hx1 : x.isRef = true) (hy1 : y.isRef = true) (hd : decode c.code pc = .ok (.if_acmp .eq o, 3)) (ho : 0 ≤ (pc : Int) + o) (hp : ((pc : Int) + o).toNat = pc') (yes : x = y → Go p e below En T (mkF m pc' Ls st)) (no : ¬ (x = y) → Go p e below En T (mkF m (pc + 3) Ls st)) : Go p e below En T (mkF m pc Ls (y :: x :: st)) := by
  by_cases q : x = y
  · exact Go.of (fun t k => Jvm.RoadKit.acmp (g := mkF m pc Ls (y :: x :: st)) X hx rfl hx1 hy1 (pc0 := pc) (pc' := pc') (same := true) rfl hd rfl (decide_eq_true q) ho (hp.symm) k) (yes q)
  · exact Go.of (fun t k => Jvm.RoadKit.acmp (g := mkF m pc Ls (y :: x :: st)) X hx rfl hx1 hy1 (pc0 := pc) (pc' := pc + 3) (same := false) rfl hd rfl (decide_eq_false q) ho (rfl) k) (no q)
theorem ac_ne (X : Stand p l e R s m args below meth c T locs cells slots) (hx : p.tables.exec = Jvm.exec) {o : Int} {pc' : Nat} {x y : Value} (hx1 : x.isRef = true) (hy1 : y.isRef = true) (hd : decode c.code pc = .ok (.if_acmp .ne o, 3)) (ho : 0 ≤ (pc : Int) + o) (hp : ((pc : Int) + o).toNat = pc') (yes : ¬ (x = y) → Go p e below En T (mkF m pc' Ls st)) (no : x = y → Go p e below En T (mkF m (pc + 3) Ls st)) : Go p e below En T (mkF m pc Ls (y :: x :: st)) := by
  by_cases q : x = y
  · exact Go.of (fun t k => Jvm.RoadKit.acmp (g := mkF m pc Ls (y :: x :: st)) X hx rfl hx1 hy1 (pc0 := pc) (pc' := pc + 3) (same := true) rfl hd rfl (decide_eq_true q) ho (rfl) k) (no q)
  · exact Go.of (fun t k => Jvm.RoadKit.acmp (g := mkF m pc Ls (y :: x :: st)) X hx rfl hx1 hy1 (pc0 := pc) (pc' := pc') (same := false) rfl hd rfl (decide_eq_false q) ho (hp.symm) k) (yes q)
theorem ifnull_y (X : Stand p l e R s m args below meth c T locs cells slots) (hx : p.tables.exec = Jvm.exec) {o : Int} {pc' : Nat} (hd : decode c.code pc = .ok (.ifnull o, 3)) (ho : 0 ≤ (pc : Int) + o) (hp : ((pc : Int) + o).toNat = pc') (r : Go p e below En T (mkF m pc' Ls st)) : Go p e below En T (mkF m pc Ls (.null :: st)) :=
  Go.of (fun t k => XS.ifnullYes (g := mkF m pc Ls (.null :: st)) X.here hx rfl rfl hd rfl ho hp k) r
theorem ifnull_n (X : Stand p l e R s m args below meth c T locs cells slots) (hx : p.tables.exec = Jvm.exec) {o : Int} {b : Addr} (hd : decode c.code pc = .ok (.ifnull o, 3))  (r : Go p e below En T (mkF m (pc + 3) Ls st)) : Go p e below En T (mkF m pc Ls (.ref b :: st)) :=
  Go.of (fun t k => XS.ifnullNo (g := mkF m pc Ls (.ref b :: st)) X.here hx rfl hd rfl k) r
theorem ifnonnull_y (X : Stand p l e R s m args below meth c T locs cells slots) (hx : p.tables.exec = Jvm.exec) {o : Int} {pc' : Nat} {b : Addr} (hd : decode c.code pc = .ok (.ifnonnull o, 3)) (ho : 0 ≤ (pc : Int) + o) (hp : ((pc : Int) + o).toNat = pc') (r : Go p e below En T (mkF m pc' Ls st)) : Go p e below En T (mkF m pc Ls (.ref b :: st)) :=
  Go.of (fun t k => XS.ifnonnullYes (g := mkF m pc Ls (.ref b :: st)) X.here hx rfl rfl hd rfl ho hp k) r
theorem ifnonnull_n (X : Stand p l e R s m args below meth c T locs cells slots) (hx : p.tables.exec = Jvm.exec) {o : Int} (hd : decode c.code pc = .ok (.ifnonnull o, 3))  (r : Go p e below En T (mkF m (pc + 3) Ls st)) : Go p e below En T (mkF m pc Ls (.null :: st)) :=
  Go.of (fun t k => XS.ifnonnullNo (g := mkF m pc Ls (.null :: st)) X.here hx rfl hd rfl k) r
theorem ldcInt (X : Stand p l e R s m args below meth c T locs cells slots) (hx : p.tables.exec = Jvm.exec) (hZ : Z.Warmed39 s.vm) {own : String} {index : Nat} (hown : s.vm.findClass own = some m.cls) {v : Int32} (w : (Cond.constant own index v).before a0 Z = true) (hd : decode c.code pc = .ok (.ldc index, 2)) (r : Go p e below En T (mkF m (pc + 2) Ls (.int v :: st))) : Go p e below En T (mkF m pc Ls st) :=
  Go.of (fun t k => X.ldcInt hx hown (mvT hZ w) (g := mkF m pc Ls st) rfl hd _ k) r
theorem ldc2Long (X : Stand p l e R s m args below meth c T locs cells slots) (hx : p.tables.exec = Jvm.exec) (hZ : Z.Warmed39 s.vm) {own : String} {index : Nat} (hown : s.vm.findClass own = some m.cls) {v : Int64} (w : (Cond.constantLong own index v).before a0 Z = true) (hd : decode c.code pc = .ok (.ldc2_w index, 3)) (r : Go p e below En T (mkF m (pc + 3) Ls (.long v :: st))) : Go p e below En T (mkF m pc Ls st) :=
  Go.of (fun t k => X.ldc2Long hx hown (mvT hZ w) (g := mkF m pc Ls st) rfl hd _ k) r
theorem getS (X : Stand p l e R s m args below meth c T locs cells slots) (hx : p.tables.exec = Jvm.exec) (hZ : Z.Warmed39 s.vm) {own : String} {index : Nat} (hown : s.vm.findClass own = some m.cls) {R0 O n d host : String} (w : (Cond.fieldLink own index R0 n d).before a0 Z = true ∨ (Cond.fieldLinkNest own index R0 n d host).before a0 Z = true) (via : Via Z R0 O n d) (eT : T.heap = h) {v : Value} (F : Sta Z h O n d v) (hd : decode c.code pc = .ok (.getstatic index, 3)) (r : ∀ T', Stand p l e R s m args below meth c T' locs cells slots → T'.heap = h → Go p e below En T' (mkF m (pc + 3) Ls (v :: st))) : Go p e below En T (mkF m pc Ls st) := by
  obtain ⟨T', X', e', k⟩ := getS2 X hx hZ hown w via eT F (g := mkF m pc Ls st) rfl hd
  exact Go.of k (r T' X' e')
theorem getF (X : Stand p l e R s m args below meth c T locs cells slots) (hx : p.tables.exec = Jvm.exec) (hZ : Z.Warmed39 s.vm) {own : String} {index : Nat} (hown : s.vm.findClass own = some m.cls) {R0 O n d host : String} (w : (Cond.fieldLink own index R0 n d).before a0 Z = true ∨ (Cond.fieldLinkNest own index R0 n d host).before a0 Z = true) (via : Via Z R0 O n d) (eT : T.heap = h) {a : Addr} {v : Value} (F : Fld Z h a O n d v) (hd : decode c.code pc = .ok (.getfield index, 3)) (r : ∀ T', Stand p l e R s m args below meth c T' locs cells slots → T'.heap = h → Go p e below En T' (mkF m (pc + 3) Ls (v :: st))) : Go p e below En T (mkF m pc Ls (.ref a :: st)) := by
  obtain ⟨T', X', e', k⟩ := Jvm.RoadKit.getF X hx hZ hown w via eT F (g := mkF m pc Ls (.ref a :: st)) rfl rfl hd
  exact Go.of k (r T' X' e')
theorem newO (X : Stand p l e R s m args below meth c T locs cells slots) (hx : p.tables.exec = Jvm.exec) (hZ : Z.Warmed39 s.vm) {own : String} {index : Nat} (hown : s.vm.findClass own = some m.cls) {C0 : String} {n : Nat} (w : (Cond.classLink own index C0).before a0 Z = true) (wi : (Cond.instantiable C0 n).before a0 Z = true) (wz : (Cond.initialized C0).before a0 Z = true) (eT : T.heap = h) (hd : decode c.code pc = .ok (.new index, 3)) (hc : cells + 1 ≤ R.cells) (hl : slots + n ≤ R.slots) (r : ∀ T' h' a, a = h.size → Stand p l e R s m args below meth c T' locs (cells + 1) (slots + n) → T'.heap = h' → Ext h h' → Exa Z h' a C0 → (∀ {O nm d : String} {ty : FieldType}, Laid Z a0 C0 O nm d → parseFieldDescriptor d = some ty → Fld Z h' a O nm d (defaultValue ty)) → Go p e below En T' (mkF m (pc + 3) Ls (.ref a :: st))) : Go p e below En T (mkF m pc Ls st) := by
  obtain ⟨T', h', X', e', E', A', D', -, k⟩ := Jvm.RoadKit.newO X hx hZ hown w wi wz eT (g := mkF m pc Ls st) rfl hd hc hl
  exact Go.of k (r T' h' h.size rfl X' e' E' A' D')
theorem initO (X : Stand p l e R s m args below meth c T locs cells slots) (hx : p.tables.exec = Jvm.exec) (hZ : Z.Warmed39 s.vm) {own : String} {index : Nat} (hown : s.vm.findClass own = some m.cls) (w1 : (Cond.methodLink own index Lib.objectInit).before a0 Z = true) (w2 : (Cond.instanceMethod Lib.objectInit).before a0 Z = true) (w3 : (Cond.code Lib.objectInit ⟨#[0xb1]⟩ 1 none).before a0 Z = true) (eT : T.heap = h) (hsize : Ls.size = c.maxLocals) {a : Addr} (hd : decode c.code pc = .ok (.invokespecial index, 3)) (hf : 1 ≤ R.frames) (W : Nat) (hW : (st.map fun v => v.category).sum = W) (hl : W + 12 ≤ R.locals) (r : ∀ T', Stand p l e R s m args below meth c T' locs cells slots → T'.heap = h → Go p e below En T' (mkF m (pc + 3) Ls st)) : Go p e below En T (mkF m pc Ls (.ref a :: st)) := by
  obtain ⟨T', X', e', k⟩ := Jvm.RoadKit.initO X hx hZ hown w1 w2 w3 eT (g := mkF m pc Ls (.ref a :: st)) rfl hsize rfl hd hf (W := W) (by show 2 * 0 + _ ≤ _; rw [hW]; omega) hl
  exact Go.of k (r T' X' e')
theorem putF (X : Stand p l e R s m args below meth c T locs cells slots) (hx : p.tables.exec = Jvm.exec) (hZ : Z.Warmed39 s.vm) {own : String} {index : Nat} (hown : s.vm.findClass own = some m.cls) {R0 O n d host C0 : String} {kk : Nat} {ty : FieldType} (w : (Cond.fieldLink own index R0 n d).before a0 Z = true ∨ (Cond.fieldLinkNest own index R0 n d host).before a0 Z = true) (via : Via Z R0 O n d) (eT : T.heap = h) {a : Addr} {v old : Value} (F : Fld Z h a O n d old) (E : Exa Z h a C0) (L : (Cond.lays C0 O n d).before a0 Z = true ∨ ((Cond.laysFinal C0 O n d).before a0 Z = true ∧ own = O ∧ meth.name = "<init>")) (wi : (Cond.instantiable C0 kk).before a0 Z = true) (hty : parseFieldDescriptor d = some ty) (hn : narrow ty v = v) (hf : fits ty v = true) (hd : decode c.code pc = .ok (.putfield index, 3)) (r : ∀ T' h', Stand p l e R s m args below meth c T' (locs ++ [⟨a, Jvm.RoadKit.slotOf Z O n d⟩]) cells slots → T'.heap = h' → Wr h h' a (Jvm.RoadKit.slotOf Z O n d) v → Go p e below En T' (mkF m (pc + 3) Ls st)) : Go p e below En T (mkF m pc Ls (v :: .ref a :: st)) := by
  obtain ⟨T', h', X', e', W', k⟩ := Jvm.RoadKit.putF X hx hZ hown w via eT F E L wi hty hn hf (g := mkF m pc Ls (v :: .ref a :: st)) rfl rfl hd
  exact Go.of k (r T' h' X' e' W')
theorem newP (X : Stand p l e R s m args below meth c T locs cells slots) (hx : p.tables.exec = Jvm.exec) (hZ : Z.Warmed39 s.vm) {aty : ArrayType} (w : (Cond.arrayClass (newarray.typeOf aty)).before a0 Z = true) (eT : T.heap = h) (hd : decode c.code pc = .ok (.newarray aty, 2)) {n : Int32} (hn : ¬ n < 0) (cap : Nat) (hcap : n.toNatClampNeg ≤ cap) (hb : cap * 8 ≤ 536870912) (hc : cells + 1 ≤ R.cells) (hl : slots + cap ≤ R.slots) (r : ∀ T' h' k a, a = h.size → Stand p l e R s m args below meth c T' locs (cells + 1) (slots + cap) → T'.heap = h' → Ext h h' → Arr Z h' a (newA k (newarray.typeOf aty) n) (newarray.typeOf aty) → Go p e below En T' (mkF m (pc + 2) Ls (.ref a :: st))) : Go p e below En T (mkF m pc Ls (.int n :: st)) := by
  obtain ⟨T', h', k', X', e', E', A', k⟩ := Jvm.RoadKit.newP X hx hZ w eT (g := mkF m pc Ls (.int n :: st)) rfl hd rfl hn hcap hb hc hl
  exact Go.of k (r T' h' k' h.size rfl X' e' E' A')
theorem newR (X : Stand p l e R s m args below meth c T locs cells slots) (hx : p.tables.exec = Jvm.exec) (hZ : Z.Warmed39 s.vm) {own : String} {index : Nat} (hown : s.vm.findClass own = some m.cls) {C0 : String} (w1 : (Cond.classLink own index C0).before a0 Z = true) (w2 : (Cond.arrayOver (.object C0)).before a0 Z = true) (eT : T.heap = h) (hd : decode c.code pc = .ok (.anewarray index, 3)) {n : Int32} (hn : ¬ n < 0) (cap : Nat) (hcap : n.toNatClampNeg ≤ cap) (hb : cap * 8 ≤ 536870912) (hc : cells + 1 ≤ R.cells) (hl : slots + cap ≤ R.slots) (r : ∀ T' h' k a, a = h.size → Stand p l e R s m args below meth c T' locs (cells + 1) (slots + cap) → T'.heap = h' → Ext h h' → Arr Z h' a (newA k (.object C0) n) (.object C0) → Ovr Z k C0 → Go p e below En T' (mkF m (pc + 3) Ls (.ref a :: st))) : Go p e below En T (mkF m pc Ls (.int n :: st)) := by
  obtain ⟨T', h', k', X', e', E', A', O', k⟩ := Jvm.RoadKit.newR X hx hZ hown w1 w2 eT (g := mkF m pc Ls (.int n :: st)) rfl hd rfl hn hcap hb hc hl
  exact Go.of k (r T' h' k' h.size rfl X' e' E' A' O')
theorem stI (X : Stand p l e R s m args below meth c T locs cells slots) (hx : p.tables.exec = Jvm.exec) (hZ : Z.Warmed39 s.vm) (eT : T.heap = h) {a : Addr} {cl : Cell} (A : Arr Z h a cl .int) {j x : Int32} (hj : ¬ (j < 0 ∨ cl.slots.size ≤ j.toNatClampNeg)) (hd : decode c.code pc = .ok (.iastore, 1)) (r : ∀ T' h', Stand p l e R s m args below meth c T' (locs ++ [⟨a, j.toNatClampNeg⟩]) cells slots → T'.heap = h' → Wr h h' a j.toNatClampNeg (.int x) → Go p e below En T' (mkF m (pc + 1) Ls st)) : Go p e below En T (mkF m pc Ls ((.int x) :: .int j :: .ref a :: st)) := by
  obtain ⟨T', h', X', e', W', k⟩ := Jvm.RoadKit.stI X hx hZ eT A hj (g := mkF m pc Ls ((.int x) :: .int j :: .ref a :: st)) rfl rfl hd
  exact Go.of k (r T' h' X' e' W')
theorem stC (X : Stand p l e R s m args below meth c T locs cells slots) (hx : p.tables.exec = Jvm.exec) (hZ : Z.Warmed39 s.vm) (eT : T.heap = h) {a : Addr} {cl : Cell} (A : Arr Z h a cl .char) {j x : Int32} (hj : ¬ (j < 0 ∨ cl.slots.size ≤ j.toNatClampNeg)) (hd : decode c.code pc = .ok (.castore, 1)) (r : ∀ T' h', Stand p l e R s m args below meth c T' (locs ++ [⟨a, j.toNatClampNeg⟩]) cells slots → T'.heap = h' → Wr h h' a j.toNatClampNeg (.int (nar .char x)) → Go p e below En T' (mkF m (pc + 1) Ls st)) : Go p e below En T (mkF m pc Ls ((.int x) :: .int j :: .ref a :: st)) := by
  obtain ⟨T', h', X', e', W', k⟩ := Jvm.RoadKit.stC X hx hZ eT A hj (g := mkF m pc Ls ((.int x) :: .int j :: .ref a :: st)) rfl rfl hd
  exact Go.of k (r T' h' X' e' W')
theorem stR (X : Stand p l e R s m args below meth c T locs cells slots) (hx : p.tables.exec = Jvm.exec) (hZ : Z.Warmed39 s.vm) (eT : T.heap = h) {a : Addr} {cl : Cell} {ty : FieldType} (A : Arr Z h a cl ty) {j : Int32} {v : Value} (hj : ¬ (j < 0 ∨ cl.slots.size ≤ j.toNatClampNeg)) (hty : ty.isReference = true) (F : Sto Z h a v) (hd : decode c.code pc = .ok (.aastore, 1)) (r : ∀ T' h', Stand p l e R s m args below meth c T' (locs ++ [⟨a, j.toNatClampNeg⟩]) cells slots → T'.heap = h' → Wr h h' a j.toNatClampNeg v → Go p e below En T' (mkF m (pc + 1) Ls st)) : Go p e below En T (mkF m pc Ls (v :: .int j :: .ref a :: st)) := by
  obtain ⟨T', h', X', e', W', k⟩ := Jvm.RoadKit.stR X hx hZ eT A hj hty F (g := mkF m pc Ls (v :: .int j :: .ref a :: st)) rfl rfl hd
  exact Go.of k (r T' h' X' e' W')
theorem iaload (X : Stand p l e R s m args below meth c T locs cells slots) (hx : p.tables.exec = Jvm.exec) (hZ : Z.Warmed39 s.vm) (eT : T.heap = h) {a : Addr} {cl : Cell} (A : Arr Z h a cl .int) {j : Int32} {v : Value} (hj : ¬ (j < 0 ∨ cl.slots.size ≤ j.toNatClampNeg)) (hv : cl.slots[j.toNatClampNeg]? = some v) (hd : decode c.code pc = .ok (.iaload, 1)) (r : Go p e below En T (mkF m (pc + 1) Ls (v :: st))) : Go p e below En T (mkF m pc Ls (.int j :: .ref a :: st)) :=
  Go.of (fun t k => X.iaload hx (by rw [eT]; exact A.1) (State.isArrayOf_alike hZ.alike A.2.1) A.2.2 hj hv (g := mkF m pc Ls (.int j :: .ref a :: st)) rfl rfl hd t k) r
theorem caload (X : Stand p l e R s m args below meth c T locs cells slots) (hx : p.tables.exec = Jvm.exec) (hZ : Z.Warmed39 s.vm) (eT : T.heap = h) {a : Addr} {cl : Cell} (A : Arr Z h a cl .char) {j : Int32} {v : Value} (hj : ¬ (j < 0 ∨ cl.slots.size ≤ j.toNatClampNeg)) (hv : cl.slots[j.toNatClampNeg]? = some v) (hd : decode c.code pc = .ok (.caload, 1)) (r : Go p e below En T (mkF m (pc + 1) Ls (v :: st))) : Go p e below En T (mkF m pc Ls (.int j :: .ref a :: st)) :=
  Go.of (fun t k => X.caload hx (by rw [eT]; exact A.1) (State.isArrayOf_alike hZ.alike A.2.1) A.2.2 hj hv (g := mkF m pc Ls (.int j :: .ref a :: st)) rfl rfl hd t k) r
theorem aaload (X : Stand p l e R s m args below meth c T locs cells slots) (hx : p.tables.exec = Jvm.exec) (hZ : Z.Warmed39 s.vm) (eT : T.heap = h) {a : Addr} {cl : Cell} {ty : FieldType} (A : Arr Z h a cl ty) (hty : ty.isReference = true) {j : Int32} {v : Value} (hj : ¬ (j < 0 ∨ cl.slots.size ≤ j.toNatClampNeg)) (hv : cl.slots[j.toNatClampNeg]? = some v) (hd : decode c.code pc = .ok (.aaload, 1)) (r : Go p e below En T (mkF m (pc + 1) Ls (v :: st))) : Go p e below En T (mkF m pc Ls (.int j :: .ref a :: st)) :=
  Go.of (fun t k => X.aaload hx (by rw [eT]; exact A.1) (State.isArrayOf_alike hZ.alike A.2.1) hty A.2.2 hj hv (g := mkF m pc Ls (.int j :: .ref a :: st)) rfl rfl hd t k) r
theorem arraylength (X : Stand p l e R s m args below meth c T locs cells slots) (hx : p.tables.exec = Jvm.exec) (hZ : Z.Warmed39 s.vm) (eT : T.heap = h) {a : Addr} {cl : Cell} {ty : FieldType} (A : Arr Z h a cl ty) {n : Int32} (hn : cl.slots.size.toInt32 = n) (hd : decode c.code pc = .ok (.arraylength, 1)) (r : Go p e below En T (mkF m (pc + 1) Ls (.int n :: st))) : Go p e below En T (mkF m pc Ls (.ref a :: st)) := by
  subst hn
  exact Go.of (fun t k => X.arraylength hx (by rw [eT]; exact A.1) (State.isArrayOf_alike hZ.alike A.2.1) (g := mkF m pc Ls (.ref a :: st)) rfl rfl hd t k) r
theorem retB (X : Stand p l e R s m args below meth c T locs cells slots) (hx : p.tables.exec = Jvm.exec) (hlk : meth.locks = false) {z z' : Int32} (hret : meth.sig.returnType = some .boolean) (hd : decode c.code pc = .ok (.ireturn, 1)) (hz : nar .boolean z = z') (hq : Q (some (.int z')) T.heap locs) (hC : cells ≤ C) (hS : slots ≤ S) : Go p e below (EndN s Q C S) T (mkF m pc Ls (.int z :: st)) := by
  obtain ⟨fs, hr, hrun, hended, hW, hsame⟩ := X.leave (v := (some (.int z'))) (fun h => by rw [hret] at h; cases h) hlk
  exact ⟨_, _, (by subst hz; exact retN X hx (t := .boolean) hret (by simp) hd hr), hrun, hended, _, _, rfl, hq, ⟨_, rfl⟩, hW, hsame.mono hC hS⟩
theorem retC (X : Stand p l e R s m args below meth c T locs cells slots) (hx : p.tables.exec = Jvm.exec) (hlk : meth.locks = false) {z z' : Int32} (hret : meth.sig.returnType = some .char) (hd : decode c.code pc = .ok (.ireturn, 1)) (hz : nar .char z = z') (hq : Q (some (.int z')) T.heap locs) (hC : cells ≤ C) (hS : slots ≤ S) : Go p e below (EndN s Q C S) T (mkF m pc Ls (.int z :: st)) := by
  obtain ⟨fs, hr, hrun, hended, hW, hsame⟩ := X.leave (v := (some (.int z'))) (fun h => by rw [hret] at h; cases h) hlk
  exact ⟨_, _, (by subst hz; exact retN X hx (t := .char) hret (by simp) hd hr), hrun, hended, _, _, rfl, hq, ⟨_, rfl⟩, hW, hsame.mono hC hS⟩
theorem own_retI (X : Stand p l e R s m args below meth c T locs cells slots) (hx : p.tables.exec = Jvm.exec) {z : Int32} {rest : List Value} (hret : meth.sig.returnType = some .int) (hd : decode c.code pc = .ok (.ireturn, 1)) {fs : List Frame}
    (hl : ∀ (f : JFrame) (acts : List Action), f.method = m → f.locked = none → f.entered = [] → (doReturn e (T.setTop f) acts (some (.int z))).1 = T.setFrames fs) : Steps p.tables e below (T.setTop (mkF m pc Ls (.int z :: rest))) (T.setFrames fs) := by
  have hm' : T.vm.method? m = some meth := X.method'
  have hn : narrow .int (.int z) = .int z := rfl
  show Steps p.tables e below (T.setTop { method := m, pc := pc, locals := Ls, stack := _ :: rest, locked := none }) _
  jvm_step X.here [X.here.top, hx, hd, hm', hret, hn]
  first | (intro acts; rw [hl _ acts rfl rfl rfl]) | rw [hl _ _ rfl rfl rfl]
  exact Steps.refl _
theorem own_retJ (X : Stand p l e R s m args below meth c T locs cells slots) (hx : p.tables.exec = Jvm.exec) {z : Int64} {rest : List Value} (hret : meth.sig.returnType = some .long) (hd : decode c.code pc = .ok (.lreturn, 1)) {fs : List Frame}
    (hl : ∀ (f : JFrame) (acts : List Action), f.method = m → f.locked = none → f.entered = [] → (doReturn e (T.setTop f) acts (some (.long z))).1 = T.setFrames fs) : Steps p.tables e below (T.setTop (mkF m pc Ls (.long z :: rest))) (T.setFrames fs) := by
  have hm' : T.vm.method? m = some meth := X.method'
  show Steps p.tables e below (T.setTop { method := m, pc := pc, locals := Ls, stack := _ :: rest, locked := none }) _
  jvm_step X.here [X.here.top, hx, hd, hm', hret, narrow]
  first | (intro acts; rw [hl _ acts rfl rfl rfl]) | rw [hl _ _ rfl rfl rfl]
  exact Steps.refl _
theorem own_retA (X : Stand p l e R s m args below meth c T locs cells slots) (hx : p.tables.exec = Jvm.exec) {z : Value} (hz : z.isRef = true) {t : FieldType} (ht : t.isReference = true) {rest : List Value} (hret : meth.sig.returnType = some t) (hd : decode c.code pc = .ok (.areturn, 1)) {fs : List Frame}
    (hl : ∀ (f : JFrame) (acts : List Action), f.method = m → f.locked = none → f.entered = [] → (doReturn e (T.setTop f) acts (some z)).1 = T.setFrames fs) : Steps p.tables e below (T.setTop (mkF m pc Ls (z :: rest))) (T.setFrames fs) := by
  have hm' : T.vm.method? m = some meth := X.method'
  show Steps p.tables e below (T.setTop { method := m, pc := pc, locals := Ls, stack := _ :: rest, locked := none }) _
  rcases ref_cases hz with rfl | ⟨b, rfl⟩
  all_goals
    jvm_step X.here [X.here.top, hx, hd, hm', hret, ht, Value.isRef]
    first | (intro acts; rw [hl _ acts rfl rfl rfl]) | rw [hl _ _ rfl rfl rfl]
    exact Steps.refl _
theorem retI (X : Stand p l e R s m args below meth c T locs cells slots) (hx : p.tables.exec = Jvm.exec) (hlk : meth.locks = false) {z : Int32} (hret : meth.sig.returnType = some .int) (hd : decode c.code pc = .ok (.ireturn, 1)) (hq : Q (some (.int z)) T.heap locs) (hC : cells ≤ C) (hS : slots ≤ S) : Go p e below (EndN s Q C S) T (mkF m pc Ls (.int z :: st)) := by
  obtain ⟨fs, hr, hrun, hended, hW, hsame⟩ := X.leave (v := (some (.int z))) (fun h => by rw [hret] at h; cases h) hlk
  exact ⟨_, _, own_retI X hx hret hd hr, hrun, hended, _, _, rfl, hq, ⟨_, rfl⟩, hW, hsame.mono hC hS⟩
theorem retJ (X : Stand p l e R s m args below meth c T locs cells slots) (hx : p.tables.exec = Jvm.exec) (hlk : meth.locks = false) {z : Int64} (hret : meth.sig.returnType = some .long) (hd : decode c.code pc = .ok (.lreturn, 1)) (hq : Q (some (.long z)) T.heap locs) (hC : cells ≤ C) (hS : slots ≤ S) : Go p e below (EndN s Q C S) T (mkF m pc Ls (.long z :: st)) := by
  obtain ⟨fs, hr, hrun, hended, hW, hsame⟩ := X.leave (v := (some (.long z))) (fun h => by rw [hret] at h; cases h) hlk
  exact ⟨_, _, own_retJ X hx hret hd hr, hrun, hended, _, _, rfl, hq, ⟨_, rfl⟩, hW, hsame.mono hC hS⟩
theorem retA (X : Stand p l e R s m args below meth c T locs cells slots) (hx : p.tables.exec = Jvm.exec) (hlk : meth.locks = false) {z : Value} {t : FieldType} (hz : z.isRef = true) (ht : t.isReference = true) (hret : meth.sig.returnType = some t) (hd : decode c.code pc = .ok (.areturn, 1)) (hq : Q (some z) T.heap locs) (hC : cells ≤ C) (hS : slots ≤ S) : Go p e below (EndN s Q C S) T (mkF m pc Ls (z :: st)) := by
  obtain ⟨fs, hr, hrun, hended, hW, hsame⟩ := X.leave (v := (some z)) (fun h => by rw [hret] at h; cases h) hlk
  exact ⟨_, _, own_retA X hx hz ht hret hd hr, hrun, hended, _, _, rfl, hq, ⟨_, rfl⟩, hW, hsame.mono hC hS⟩
theorem retV (X : Stand p l e R s m args below meth c T locs cells slots) (hx : p.tables.exec = Jvm.exec) (hlk : meth.locks = false)  (hret : meth.sig.returnType = none) (hd : decode c.code pc = .ok (.return_, 1)) (hq : Q none T.heap locs) (hC : cells ≤ C) (hS : slots ≤ S) : Go p e below (EndN s Q C S) T (mkF m pc Ls []) := by
  obtain ⟨fs, hr, hrun, hended, hW, hsame⟩ := X.leave (v := none) (fun _ => rfl) hlk
  exact ⟨_, _, X.returnOut hx hret hd hr, hrun, hended, _, _, rfl, hq, ⟨_, rfl⟩, hW, hsame.mono hC hS⟩
theorem callS (X : Stand p l e R s m args below meth c T locs cells slots) (hx : p.tables.exec = Jvm.exec) (hZ : Z.Warmed39 s.vm) {own : String} {index : Nat} (hown : s.vm.findClass own = some m.cls) {y : MethodName} {bytes : ByteArray} {maxL : Nat} {ret : Option FieldType} {rm : Room} {as : List Value} {Qc : Option Value → Heap → List Loc → Prop} (w1 : (Cond.methodLink own index y).before a0 Z = true) (w2 : (Cond.static y).before a0 Z = true) (w3 : (Cond.initialized y.cls).before a0 Z = true) (w4 : (Cond.code y bytes maxL ret).before a0 Z = true) (hy : y.cls ≠ "java/lang/invoke/MethodHandle" ∧ y.cls ≠ "java/lang/invoke/VarHandle") (eT : T.heap = h) (hM : Con l Z y bytes maxL ret rm as h Qc) {rest : List Value} (W : Nat) (hf : rm.frames + 1 ≤ R.frames) (hlo : W + (maxL + 11) + rm.locals ≤ R.locals) (hc : cells + rm.cells ≤ R.cells) (hs : slots + rm.slots ≤ R.slots) (hsize : Ls.size = c.maxLocals) (hlen : ∀ sig, parseMethodDescriptor y.desc = some sig → as.length = sig.parameters.length) (hst : st = as.reverse ++ rest) (hW : (rest.map fun v => v.category).sum = W) (hd : decode c.code pc = .ok (.invokestatic index, 3)) (r : ∀ v T' L, Stand p l e R s m args below meth c T' (locs ++ L) (cells + rm.cells) (slots + rm.slots) → Qc v T'.heap L → Go p e below En T' (mkF m (pc + 3) Ls (v.toList ++ rest))) : Go p e below En T (mkF m pc Ls st) := by
  obtain ⟨v, _, ⟨T', L', k', n'⟩, -, X', ⟨Lc, hq, e1, e2, e3⟩, k⟩ := Jvm.LawKit.callS X hx hown (mvT hZ w1) (mvT hZ w2) (mvT hZ w3) (mvT hZ w4) hy (backOf (W := W) (len := 3) (hM []) hZ w4 w3 hf hlo) (g := mkF m pc Ls st) rfl hsize (argsL := as) (rest := rest) hlen hst (by show 2 * 0 + _ ≤ _; rw [hW]; omega) hd (fun _ _ => ⟨rfl, eT, hc, hs⟩)
  dsimp only [Pt.U, Pt.locs, Pt.cells, Pt.slots] at X' e1 e2 e3 k hq
  subst e1 e2 e3
  exact Go.of k (r v T' Lc X' hq)
theorem callV (X : Stand p l e R s m args below meth c T locs cells slots) (hx : p.tables.exec = Jvm.exec) (hZ : Z.Warmed39 s.vm) {own : String} {index : Nat} (hown : s.vm.findClass own = some m.cls) {y : MethodName} {bytes : ByteArray} {maxL : Nat} {ret : Option FieldType} {rm : Room} {as : List Value} {Qc : Option Value → Heap → List Loc → Prop} {z : MethodName} {C0 : String} (w1 : (Cond.methodLink own index y).before a0 Z = true) (wd : (Cond.declares y).before a0 Z = true) (nf : NotFace s y) (ws : (Cond.selects C0 y z).before a0 Z = true) (wi : (Cond.instanceMethod z).before a0 Z = true) (w3 : (Cond.initialized z.cls).before a0 Z = true) (w4 : (Cond.code z bytes maxL ret).before a0 Z = true) (hy : y.cls ≠ "java/lang/invoke/MethodHandle" ∧ y.cls ≠ "java/lang/invoke/VarHandle") (eT : T.heap = h) {b : Addr} (E : Exa Z h b C0) (hM : Con l Z z bytes maxL ret rm (.ref b :: as) h Qc) {rest : List Value} (W : Nat) (hf : rm.frames + 1 ≤ R.frames) (hlo : W + (maxL + 11) + rm.locals ≤ R.locals) (hc : cells + rm.cells ≤ R.cells) (hs : slots + rm.slots ≤ R.slots) (hsize : Ls.size = c.maxLocals) (hlen : ∀ sig, parseMethodDescriptor y.desc = some sig → as.length = sig.parameters.length) (hst : st = as.reverse ++ .ref b :: rest) (hW : (rest.map fun v => v.category).sum = W) (hd : decode c.code pc = .ok (.invokevirtual index, 3)) (r : ∀ v T' L, Stand p l e R s m args below meth c T' (locs ++ L) (cells + rm.cells) (slots + rm.slots) → Qc v T'.heap L → Go p e below En T' (mkF m (pc + 3) Ls (v.toList ++ rest))) : Go p e below En T (mkF m pc Ls st) := by
  obtain ⟨cB, kB, q1, -, q3⟩ := isOf hZ eT E
  obtain ⟨v, _, ⟨T', L', k', n'⟩, -, X', ⟨Lc, hq, e1, e2, e3⟩, k⟩ := X.virtualBack hx hown (mvT hZ w1) (mvT hZ wd) nf (mvT hZ ws) (mvT hZ wi) hy (backOf (W := W) (len := 3) (hM []) hZ w4 w3 hf hlo) q1 q3 (g := mkF m pc Ls st) rfl hsize (Steps.refl _) (argsL := as) (rest := rest) hlen hst (by show 2 * 0 + _ ≤ _; rw [hW]; omega) hd (fun _ _ => ⟨rfl, eT, hc, hs⟩)
  dsimp only [Pt.U, Pt.locs, Pt.cells, Pt.slots] at X' e1 e2 e3 k hq
  subst e1 e2 e3
  exact Go.of (fun t q => k.trans q) (r v T' Lc X' hq)
theorem callI (X : Stand p l e R s m args below meth c T locs cells slots) (hx : p.tables.exec = Jvm.exec) (hZ : Z.Warmed39 s.vm) {own : String} {index : Nat} (hown : s.vm.findClass own = some m.cls) {y : MethodName} {bytes : ByteArray} {maxL : Nat} {rm : Room} {as : List Value} {Qc : Option Value → Heap → List Loc → Prop} (hn : y.name = "<init>") (w1 : (Cond.methodLink own index y).before a0 Z = true) (wi : (Cond.instanceMethod y).before a0 Z = true) (w3 : (Cond.initialized y.cls).before a0 Z = true) (w4 : (Cond.code y bytes maxL none).before a0 Z = true) (hy : y.cls ≠ "java/lang/invoke/MethodHandle" ∧ y.cls ≠ "java/lang/invoke/VarHandle") (eT : T.heap = h) {b : Addr} (hM : Con l Z y bytes maxL none rm (.ref b :: as) h Qc) {rest : List Value} (W : Nat) (hf : rm.frames + 1 ≤ R.frames) (hlo : W + (maxL + 11) + rm.locals ≤ R.locals) (hc : cells + rm.cells ≤ R.cells) (hs : slots + rm.slots ≤ R.slots) (hsize : Ls.size = c.maxLocals) (hlen : ∀ sig, parseMethodDescriptor y.desc = some sig → as.length = sig.parameters.length) (hst : st = as.reverse ++ .ref b :: rest) (hW : (rest.map fun v => v.category).sum = W) (hd : decode c.code pc = .ok (.invokespecial index, 3)) (r : ∀ v T' L, Stand p l e R s m args below meth c T' (locs ++ L) (cells + rm.cells) (slots + rm.slots) → Qc v T'.heap L → Go p e below En T' (mkF m (pc + 3) Ls (v.toList ++ rest))) : Go p e below En T (mkF m pc Ls st) := by
  obtain ⟨v, _, ⟨T', L', k', n'⟩, -, X', ⟨Lc, hq, e1, e2, e3⟩, k⟩ := X.specialBack hx hn hown (mvT hZ w1) (mvT hZ wi) (mvT hZ w4) hy (backOf (W := W) (len := 3) (hM []) hZ w4 w3 hf hlo) (g := mkF m pc Ls st) rfl hsize (Steps.refl _) (a := b) (argsL := as) (rest := rest) hlen hst (by show 2 * 0 + _ ≤ _; rw [hW]; omega) hd (fun _ _ => ⟨rfl, eT, hc, hs⟩)
  dsimp only [Pt.U, Pt.locs, Pt.cells, Pt.slots] at X' e1 e2 e3 k hq
  subst e1 e2 e3
  exact Go.of (fun t q => k.trans q) (r v T' Lc X' hq)
/-- it has returned, and may have interned String constants on the way -/
def EndW (s : State) (Q : Option Value → Heap → List Loc → Prop) (C S : Nat) : State → Outcome → Prop := fun t o => ∃ v L, o = .returned v ∧ Q v t.heap L ∧ ReturnedEndW s o t L C S
/-- a law's own walk from the state Z itself, its end wide -/
def ConL (l : Launch) (Z : State) (y : MethodName) (bytes : ByteArray) (maxL : Nat) (ret : Option FieldType) (rm : Room) (as : List Value) (Q : Option Value → Heap → List Loc → Prop) : Prop :=
  ∀ ws : List Jvm.Cond, MetFree l y (head1 (Jvm.Cond.code y bytes maxL ret :: ws) rm) (fun a U => a = as.toArray ∧ U = Z) (fun _ _ _ _ _ => True) (fun _ U o U' => ∃ v L, o = .returned v ∧ Q v U'.heap L ∧ ReturnedEndW U o U' L rm.cells rm.slots)
theorem ConL.of {y : MethodName} {bytes : ByteArray} {maxL : Nat} {ret : Option FieldType} {rm : Room} {as : List Value} {Ls0 : Array Slot} (hp : plainFor y = true) (ef : ∀ m, entryFrame m as.toArray maxL = mkF m 0 Ls0 [])
    (body : ∀ (p : Program) (e : Env) (m : MethodId) (below : List Frame) (meth : Method) (c : Code) (T : State), Stand p l e rm Z m as.toArray below meth c T [] 0 0 → p.tables.exec = Jvm.exec → Z.Warmed39 Z.vm → c.code = bytes → c.maxLocals = maxL → Z.vm.findClass y.cls = some m.cls → meth.name = y.name → meth.sig.returnType = ret → meth.locks = false → T.heap = Z.heap → Go p e below (EndW Z Q rm.cells rm.slots) T (mkF m 0 Ls0 [])) :
    ConL l Z y bytes maxL ret rm as Q := by
  intro ws
  refine MetFree.of_bodySF hp hisR ?_
  intro p e s m args below meth c s₁ Bd hml0 hP hK
  obtain ⟨rfl, hh⟩ := hP
  subst hh
  have X0 : Stand p l e rm s m as.toArray below meth c s₁ [] 0 0 := Stand.of_body Bd
  have e0 : s₁.heap = s.heap := by rw [Bd.state]; rfl
  obtain ⟨t, o, h1, r⟩ := body p e m below meth c s₁ X0 Bd.exec (State.Warmed39.refl s) Bd.bytes hml0 (findClass_of_methodNamed Bd.named) (name_of_methodNamed Bd.named Bd.method).1 Bd.returns Bd.notSynchronized e0
  exact ⟨t, o, castTop (ef m) h1, r⟩
theorem retBW {vm1 : Vm} (X : Stand p l e R (s.setVm vm1) m args below meth c T locs cells slots) (hx : p.tables.exec = Jvm.exec) {k1 : Nat} (hS : s.Since vm1 k1) (hk : k1 ≤ T.heap.size) (hlk : meth.locks = false) {z z' : Int32} (hret : meth.sig.returnType = some .boolean) (hd : decode c.code pc = .ok (.ireturn, 1)) (hz : nar .boolean z = z') (hq : Q (some (.int z')) T.heap locs) (hC : cells ≤ C) (hS' : slots ≤ S) : Go p e below (EndW s Q C S) T (mkF m pc Ls (.int z :: st)) := by
  obtain ⟨fs, hr, hrun, hended, h1, h2, h3, h4⟩ := X.leaveW hS hk (v := some (.int z')) (fun h => by rw [hret] at h; cases h) hlk
  exact ⟨_, _, (by subst hz; exact retN X hx (t := .boolean) hret (by simp) hd hr), hrun, hended, _, _, rfl, hq, h1, h2, h3, h4.mono hC hS'⟩
theorem ldcSV {vm0 : Vm} {own text : String} {index : Nat} {Ts : List String} (X : Stand p l e R (s.setVm vm0) m args below meth c T locs cells slots) (hx : p.tables.exec = Jvm.exec) (hZ : Z.Warmed39 vm0) (hown : vm0.findClass own = some m.cls) (w : (Cond.stringLink own index text).before a0 Z = true) (wS : ∀ a ∈ Bundle.stringAtoms, a.before a0 Z = true)
    (eT : T.heap = h) {k0 : Nat} (hS : s.Since vm0 k0) (hk : k0 ≤ h.size) (N : Fr s.heap.size locs) (hkeep : ∀ (b : Addr) (cl : Cell), Z.heap[b]? = some cl → s.heap[b]? = some cl) (I : IB Z vm0 Ts) (hnot : text ∉ Ts) (hh : Jvm.Lit.constHeld Z own index) (hcw : Jvm.Lit.compactW.before a0 Z = true)
    {vs : List Value} {z : Int32} (ht : (∀ c ∈ text.toList, c.toNat < 256) ∧ text.toList.map (fun c => Value.int (Jvm.Lit.byteI c.toNat.toUInt16)) = vs) (hz : ¬ z < 0) (hl : z.toNatClampNeg = vs.length)
    (hd : decode c.code pc = .ok (.ldc index, 2)) (n : Nat) (hn : 4 * text.toList.length ≤ n) (hbig : n ≤ 536870912) (hc : cells + 2 ≤ R.cells) (hl' : slots + (n + 4) ≤ R.slots)
    (r : ∀ (a : Addr) (T' : State) (h' : Heap) (k1 : Nat) (b : Addr) (k : ClassId), Stand p l e R (s.setVm T'.vm) m args below meth c T' locs (cells + 2) (slots + (n + 4)) → T'.heap = h' → Ext h h' → s.Since T'.vm k1 → k1 ≤ h'.size → Z.Warmed39 (s.setVm T'.vm).vm → (s.setVm T'.vm).vm.findClass own = some m.cls →
      Exa Z h' a "java/lang/String" → Fld Z h' a "java/lang/String" "coder" "B" (.int 0) → Fld Z h' a "java/lang/String" "value" "[B" (.ref b) → Arv Z h' b k .byte z vs (.int 0) → Go p e below En T' (mkF m (pc + 2) Ls (.ref a :: st))) : Go p e below En T (mkF m pc Ls st) := by
  obtain ⟨a, T', h', k1, b, k, r1, r2, r3, r4, r5, r6, r7, r8, r9, r10, r11, -, -, -, q⟩ := Jvm.RoadKit.ldcSV X hx hZ hown w wS eT hS hk N hkeep I hnot hh hcw ht hz hl (g := mkF m pc Ls st) rfl hd hn hbig hc hl'
  exact Go.of q (r a T' h' k1 b k r1 r2 r3 r4 r5 r6 r7 r8 r9 r10 r11)
theorem baload (X : Stand p l e R s m args below meth c T locs cells slots) (hx : p.tables.exec = Jvm.exec) (hZ : Z.Warmed39 s.vm) (eT : T.heap = h) {a : Addr} {cl : Cell} (A : Arr Z h a cl .byte) {j : Int32} {v : Value} (hj : ¬ (j < 0 ∨ cl.slots.size ≤ j.toNatClampNeg)) (hv : cl.slots[j.toNatClampNeg]? = some v) (hd : decode c.code pc = .ok (.baload, 1)) (r : Go p e below En T (mkF m (pc + 1) Ls (v :: st))) : Go p e below En T (mkF m pc Ls (.int j :: .ref a :: st)) :=
  Go.of (fun t k => X.baloadBytes hx (by rw [eT]; exact A.1) (State.isArrayOf_alike hZ.alike A.2.1) A.2.2 hj hv (g := mkF m pc Ls (.int j :: .ref a :: st)) rfl rfl hd t k) r
theorem castY (X : Stand p l e R s m args below meth c T locs cells slots) (hx : p.tables.exec = Jvm.exec) (hZ : Z.Warmed39 s.vm) {own : String} {index : Nat} (hown : s.vm.findClass own = some m.cls) {K : String} (w : (Cond.classLink own index K).before a0 Z = true) (eT : T.heap = h) {a : Addr} (F : Ins Z h a K true) (hd : decode c.code pc = .ok (.checkcast index, 3)) (r : ∀ T', Stand p l e R s m args below meth c T' locs cells slots → T'.heap = h → Go p e below En T' (mkF m (pc + 3) Ls (.ref a :: st))) : Go p e below En T (mkF m pc Ls (.ref a :: st)) := by
  obtain ⟨T', X', e', k⟩ := Jvm.RoadKit.castY X hx hZ hown w eT F (g := mkF m pc Ls (.ref a :: st)) rfl rfl hd
  exact Go.of k (r T' X' e')
theorem instY (X : Stand p l e R s m args below meth c T locs cells slots) (hx : p.tables.exec = Jvm.exec) (hZ : Z.Warmed39 s.vm) {own : String} {index : Nat} (hown : s.vm.findClass own = some m.cls) {K : String} (w : (Cond.classLink own index K).before a0 Z = true) (eT : T.heap = h) {a : Addr} (F : Ins Z h a K true) (hd : decode c.code pc = .ok (.instanceof index, 3)) (r : ∀ T', Stand p l e R s m args below meth c T' locs cells slots → T'.heap = h → Go p e below En T' (mkF m (pc + 3) Ls (.int 1 :: st))) : Go p e below En T (mkF m pc Ls (.ref a :: st)) := by
  obtain ⟨T', X', e', k⟩ := Jvm.RoadKit.instY X hx hZ hown w eT F (g := mkF m pc Ls (.ref a :: st)) rfl rfl hd
  exact Go.of k (r T' X' e')
end Own
end Jvm.OwnGo
namespace Jvm.Pilot.@@N@@
open Jvm Jvm.ClassFile Sem Op Lib Jvm.Free Jvm.Stand Jvm.LawKit Jvm.RoadKit Bundle Jvm.Pilot.@@N@@.Jvm.D
open Jvm.OwnGo (Go Con Ret)
theorem own_pd0 : parseMethodDescriptor "([B[B)Z" = some ⟨[(.array .byte), (.array .byte)], some .boolean⟩ := by decide +kernel
theorem own_pd1 : parseMethodDescriptor "()Z" = some ⟨[], some .boolean⟩ := by decide +kernel
theorem own_pd2 : parseMethodDescriptor "()Ljava/lang/String;" = some ⟨[], some (.object "java/lang/String")⟩ := by decide +kernel
theorem own_pd3 : parseMethodDescriptor "(Ljava/lang/Object;)Z" = some ⟨[(.object "java/lang/Object")], some .boolean⟩ := by decide +kernel
theorem own_pn0 : plainName "com/example/itchen/itchen/TaskKind" = true := by first | (simp [plainName, overriddenIn]; done) | decide +kernel
theorem own_pn1 : plainName "java/lang/StringLatin1" = true := by first | (simp [plainName, overriddenIn]; done) | decide +kernel
theorem own_pn2 : plainName "java/lang/String" = true := by first | (simp [plainName, overriddenIn]; done) | decide +kernel
theorem own_pn3 : plainName "com/example/itchen/itchen/TaskKindEndsAfterBodyPinLaw" = true := by first | (simp [plainName, overriddenIn]; done) | decide +kernel
theorem own_pin {s : State} {args : Array Value} {C f d K : String} (hx : (Jvm.Cond.exactly (.static C f d) K).value args s none s [] = some true) (hi : (Jvm.Cond.initialized C).before args s = true) (hl : (Jvm.Cond.laysStatic C f d).before args s = true) :
    ∃ a, (Term.static C f d).eval args s none [] s = some (.ref a) ∧ Sta s s.heap C f d (.ref a) ∧ Exa s s.heap a K := by
  obtain ⟨a, e⟩ := exa_v hx
  exact ⟨a, e, Sta.start e (Or.inr ⟨hi, hl⟩), Exa.start e hx⟩
theorem own_fldpin {s : State} {args : Array Value} {t : Term} {a : Addr} {O n d : String} {k : Int32} (e : t.eval args s none [] s = some (.ref a)) (hq : (Jvm.Cond.eq (.field t O n d) (.int k)).value args s none s [] = some true) : Fld s s.heap a O n d (.int k) := by
  obtain ⟨x, y, h1, h2, h3, h4⟩ := cmp_v (Or.inl hq)
  have hy : y = .int k := (Option.some.inj h2).symm
  subst hy
  obtain ⟨z, rfl⟩ := h4
  have q : z = k := gotT (by simp only [Cond.value, h1, h2] : (Jvm.Cond.eq (.field t O n d) (.int k)).value args s none s [] = some (decide (z = k))) hq
  subst q
  rw [fld_at e] at h1
  exact Fld.start h1
theorem own_fld_inj {Z : State} {h : Heap} {a : Addr} {C n d : String} {v w : Value} (F : Fld Z h a C n d v) (F' : Fld Z h a C n d w) : v = w := by
  obtain ⟨cell, cf, k, i, f, h1, h2, -, -, -, -, h7⟩ := F
  obtain ⟨cell', cf', k', i', f', g1, g2, -, -, -, -, g7⟩ := F'
  cases h1.symm.trans g1
  cases h2.symm.trans g2
  exact Option.some.inj (h7.symm.trans g7)
theorem own_ne {Z : State} {h : Heap} {a b : Addr} {C n d : String} {i j : Int32} (F : Fld Z h a C n d (.int i)) (G : Fld Z h b C n d (.int j)) (q : i ≠ j) : a ≠ b := fun e => by
  subst e
  exact q (Value.int.inj (own_fld_inj F G))
theorem own_clash {Z : State} {h : Heap} {s1 s2 v1 v2 : Addr} {C n d : String} {k1 k2 : ClassId} {t1 t2 : FieldType} {n1 n2 : Int32} {vs1 vs2 : List Value} {d1 d2 : Value} (F1 : Fld Z h s1 C n d (.ref v1)) (F2 : Fld Z h s2 C n d (.ref v2)) (A1 : Arv Z h v1 k1 t1 n1 vs1 d1) (A2 : Arv Z h v2 k2 t2 n2 vs2 d2) (hn : n1.toNatClampNeg ≠ n2.toNatClampNeg) (q : Value.ref s1 = Value.ref s2) : False := by
  cases q
  have e := own_fld_inj F1 F2
  cases e
  obtain ⟨c1, B1, -, S1, -⟩ := A1
  obtain ⟨c2, B2, -, S2, -⟩ := A2
  cases B1.1.symm.trans B2.1
  exact hn (S1.symm.trans S2)
theorem own_three (k : Int32) : (k &&& 2147483647) % 3 = 0 ∨ (k &&& 2147483647) % 3 = 1 ∨ (k &&& 2147483647) % 3 = 2 := by
  have e1 : (k &&& 2147483647).toInt = k.toInt % 2 ^ 31 := Jvm.Kit.i32_mask k 2147483647 (k := 31) (by decide) (by decide)
  have e2 : ((k &&& 2147483647) % 3).toInt = (k &&& 2147483647).toInt % (3 : Int32).toInt := Jvm.Kit.i32_rem_nonneg (by omega)
  have e3 : (3 : Int32).toInt = 3 := by decide
  rw [e3] at e2
  have h : ((k &&& 2147483647) % 3).toInt = 0 ∨ ((k &&& 2147483647) % 3).toInt = 1 ∨ ((k &&& 2147483647) % 3).toInt = 2 := by omega
  rcases h with h | h | h
  · exact Or.inl (Int32.toInt_inj.mp (h.trans (by decide)))
  · exact Or.inr (Or.inl (Int32.toInt_inj.mp (h.trans (by decide))))
  · exact Or.inr (Or.inr (Int32.toInt_inj.mp (h.trans (by decide))))
theorem own_fref {s : State} {args : Array Value} {t : Term} {a b : Addr} {O n d : String} (e : t.eval args s none [] s = some (.ref a)) (e2 : (Term.field t O n d).eval args s none [] s = some (.ref b)) : Fld s s.heap a O n d (.ref b) := by
  rw [fld_at e] at e2
  exact Fld.start e2
theorem own_len {s : State} {args : Array Value} {t : Term} {a : Addr} {cl : Cell} {ty : FieldType} {k : Int32} (ht : t.eval args s none [] s = some (.ref a)) (A : Arr s s.heap a cl ty) (hq : (Jvm.Cond.eq (.length t) (.int k)).value args s none s [] = some true) : cl.slots.size < 2 ^ 31 ∧ cl.slots.size.toInt32 = k := by
  obtain ⟨x, y, h1, h2, h3, h4⟩ := cmp_v (Or.inl hq)
  have hy : y = .int k := (Option.some.inj h2).symm
  subst hy
  obtain ⟨z, rfl⟩ := h4
  have q : z = k := gotT (by simp only [Cond.value, h1, h2] : (Jvm.Cond.eq (.length t) (.int k)).value args s none s [] = some (decide (z = k))) hq
  subst q
  have hA := A.fin (Vm.Alike.refl _)
  by_cases hl : cl.slots.size < 2 ^ 31
  · exact ⟨hl, Value.int.inj (Option.some.inj ((len_f ht hA hl).symm.trans h1))⟩
  · exfalso
    have hl' : ¬ cl.slots.size < 2147483648 := by omega
    simp [Term.eval, ht, hA, hl'] at h1
theorem own_elem {s : State} {args : Array Value} {t : Term} {a : Addr} {cl : Cell} {ty : FieldType} {j k : Int32} (i : Nat) (hi : j.toNatClampNeg = i) (ht : t.eval args s none [] s = some (.ref a)) (A : Arr s s.heap a cl ty) (hq : (Jvm.Cond.eq (.elem t (.int j)) (.int k)).value args s none s [] = some true) : cl.slots[i]? = some (.int k) := by
  obtain ⟨x, y, h1, h2, h3, h4⟩ := cmp_v (Or.inl hq)
  have hy : y = .int k := (Option.some.inj h2).symm
  subst hy
  obtain ⟨z, rfl⟩ := h4
  have q : z = k := gotT (by simp only [Cond.value, h1, h2] : (Jvm.Cond.eq (.elem t (.int j)) (.int k)).value args s none s [] = some (decide (z = k))) hq
  subst q
  have e := (elem_in h1 ht rfl A.1).2
  rw [hi] at e
  exact e
theorem d1_0 : decode prog_41_method_5_code 0 = .ok (.aload_n 0, 1) := by decide +kernel
theorem d1_1 : decode prog_41_method_5_code 1 = .ok (.getstatic 3, 3) := by decide +kernel
theorem d1_4 : decode prog_41_method_5_code 4 = .ok (.if_acmp .ne 7, 3) := by decide +kernel
theorem d1_7 : decode prog_41_method_5_code 7 = .ok (.iconst 1, 1) := by decide +kernel
theorem d1_8 : decode prog_41_method_5_code 8 = .ok (.goto 4, 3) := by decide +kernel
theorem d1_11 : decode prog_41_method_5_code 11 = .ok (.iconst 0, 1) := by decide +kernel
theorem d1_12 : decode prog_41_method_5_code 12 = .ok (.ireturn, 1) := by decide +kernel
theorem own_ef_rm1 (m : MethodId) (x0 : Addr) : entryFrame m [(.ref x0)].toArray 1 = mkF m 0 #[.val (.ref x0)] [] := by first | (simp [entryFrame, mkF, argsToLocals, Value.category]; done) | rfl
set_option maxRecDepth 65536 in
set_option maxHeartbeats 40000000 in
theorem rm1 (l : Launch) (Z : State) (a0 : Array Value) (hw : ∀ d ∈ tables_1, d.before a0 Z = true) (a1 aONESHOT : Addr) (r : Int32) (h0 : Heap) (SONESHOT : Sta Z h0 "com/example/itchen/itchen/TaskKind" "ONESHOT" "Lcom/example/itchen/itchen/TaskKind;" (.ref aONESHOT)) (hr : (if a1 = aONESHOT then (1 : Int32) else 0) = r) :
    Con l Z (⟨"com/example/itchen/itchen/TaskKind", "endsAfterBody", "()Z"⟩ : MethodName) prog_41_method_5_code 1 (some .boolean) ({ frames := 0, cells := 0, slots := 0, locals := 0 } : Room) [(.ref a1)] h0 (Ret (some (.int r)) h0) := by
  refine OwnGo.Con.of (plainFor_of_name own_pn0) (Ls0 := #[.val (.ref a1)]) (fun m => own_ef_rm1 m a1) ?_
  intro p e s m below meth c T0 X0 hx hZ hby hml hown hnm hret hlk e0
  show Go p e below _ T0 (mkF m 0 #[.val (.ref a1)] [])
  refine OwnGo.aloadN X0 hx (hb hby d1_0) rfl rfl ?_
  show Go p e below _ T0 (mkF m 1 #[.val (.ref a1)] [(.ref a1)])
  refine OwnGo.getS X0 hx hZ hown (host := "") (Or.inl (hw _ (List.mem_of_getElem? (i := 16) rfl))) Via.refl e0 SONESHOT (hb hby d1_1) fun T1 X1 e1 => ?_
  show Go p e below _ T1 (mkF m 4 #[.val (.ref a1)] [(.ref aONESHOT), (.ref a1)])
  refine OwnGo.ac_ne X1 hx (pc' := 11) rfl rfl (hb hby d1_4) (by decide) (by decide) (fun h4 => ?_) (fun h4 => ?_)
  ·
    show Go p e below _ T1 (mkF m 11 #[.val (.ref a1)] [])
    refine OwnGo.iconst X1 hx (z := (0 : Int32)) (hb hby d1_11) (by decide) ?_
    show Go p e below _ T1 (mkF m 12 #[.val (.ref a1)] [(.int (0 : Int32))])
    exact OwnGo.retB X1 hx hlk (z' := (0 : Int32)) hret (hb hby d1_12) rfl ⟨by rw [← hr]; simp_all, e1, rfl⟩ (by decide) (by decide)
  ·
    show Go p e below _ T1 (mkF m 7 #[.val (.ref a1)] [])
    refine OwnGo.iconst X1 hx (z := (1 : Int32)) (hb hby d1_7) (by decide) ?_
    show Go p e below _ T1 (mkF m 8 #[.val (.ref a1)] [(.int (1 : Int32))])
    refine OwnGo.goto X1 hx (pc' := 12) (hb hby d1_8) (by decide) (by decide) ?_
    show Go p e below _ T1 (mkF m 12 #[.val (.ref a1)] [(.int (1 : Int32))])
    exact OwnGo.retB X1 hx hlk (z' := (1 : Int32)) hret (hb hby d1_12) rfl ⟨by rw [← hr]; simp_all, e1, rfl⟩ (by decide) (by decide)
theorem d2_0 : decode prog_41_method_4_code 0 = .ok (.aload_n 0, 1) := by decide +kernel
theorem d2_1 : decode prog_41_method_4_code 1 = .ok (.getfield 32, 3) := by decide +kernel
theorem d2_4 : decode prog_41_method_4_code 4 = .ok (.areturn, 1) := by decide +kernel
theorem own_ef_rm2 (m : MethodId) (x0 : Addr) : entryFrame m [(.ref x0)].toArray 1 = mkF m 0 #[.val (.ref x0)] [] := by first | (simp [entryFrame, mkF, argsToLocals, Value.category]; done) | rfl
set_option maxRecDepth 65536 in
set_option maxHeartbeats 40000000 in
theorem rm2 (l : Launch) (Z : State) (a0 : Array Value) (hw : ∀ d ∈ tables_1, d.before a0 Z = true) (a1 s1 : Addr) (h0 : Heap) (F1 : Fld Z h0 a1 "com/example/itchen/itchen/TaskKind" "keyword" "Ljava/lang/String;" (.ref s1)) :
    Con l Z (⟨"com/example/itchen/itchen/TaskKind", "getKeyword", "()Ljava/lang/String;"⟩ : MethodName) prog_41_method_4_code 1 (some (.object "java/lang/String")) ({ frames := 0, cells := 0, slots := 0, locals := 0 } : Room) [(.ref a1)] h0 (Ret (some (.ref s1)) h0) := by
  refine OwnGo.Con.of (plainFor_of_name own_pn0) (Ls0 := #[.val (.ref a1)]) (fun m => own_ef_rm2 m a1) ?_
  intro p e s m below meth c T0 X0 hx hZ hby hml hown hnm hret hlk e0
  show Go p e below _ T0 (mkF m 0 #[.val (.ref a1)] [])
  refine OwnGo.aloadN X0 hx (hb hby d2_0) rfl rfl ?_
  show Go p e below _ T0 (mkF m 1 #[.val (.ref a1)] [(.ref a1)])
  refine OwnGo.getF X0 hx hZ hown (host := "") (Or.inl (hw _ (List.mem_of_getElem? (i := 22) rfl))) Via.refl e0 F1 (hb hby d2_1) fun T1 X1 e1 => ?_
  show Go p e below _ T1 (mkF m 4 #[.val (.ref a1)] [(.ref s1)])
  exact OwnGo.retA X1 hx hlk rfl rfl hret (hb hby d2_4) ⟨rfl, e1, rfl⟩ (by decide) (by decide)
theorem d4_0 : decode jdk_43_method_13_code 0 = .ok (.aload_n 0, 1) := by decide +kernel
theorem d4_1 : decode jdk_43_method_13_code 1 = .ok (.arraylength, 1) := by decide +kernel
theorem d4_2 : decode jdk_43_method_13_code 2 = .ok (.aload_n 1, 1) := by decide +kernel
theorem d4_3 : decode jdk_43_method_13_code 3 = .ok (.arraylength, 1) := by decide +kernel
theorem d4_4 : decode jdk_43_method_13_code 4 = .ok (.if_icmp .ne 30, 3) := by decide +kernel
theorem d4_7 : decode jdk_43_method_13_code 7 = .ok (.iconst 0, 1) := by decide +kernel
theorem d4_8 : decode jdk_43_method_13_code 8 = .ok (.istore_n 2, 1) := by decide +kernel
theorem d4_9 : decode jdk_43_method_13_code 9 = .ok (.iload_n 2, 1) := by decide +kernel
theorem d4_10 : decode jdk_43_method_13_code 10 = .ok (.aload_n 0, 1) := by decide +kernel
theorem d4_11 : decode jdk_43_method_13_code 11 = .ok (.arraylength, 1) := by decide +kernel
theorem d4_12 : decode jdk_43_method_13_code 12 = .ok (.if_icmp .ge 20, 3) := by decide +kernel
theorem d4_15 : decode jdk_43_method_13_code 15 = .ok (.aload_n 0, 1) := by decide +kernel
theorem d4_16 : decode jdk_43_method_13_code 16 = .ok (.iload_n 2, 1) := by decide +kernel
theorem d4_17 : decode jdk_43_method_13_code 17 = .ok (.baload, 1) := by decide +kernel
theorem d4_18 : decode jdk_43_method_13_code 18 = .ok (.aload_n 1, 1) := by decide +kernel
theorem d4_19 : decode jdk_43_method_13_code 19 = .ok (.iload_n 2, 1) := by decide +kernel
theorem d4_20 : decode jdk_43_method_13_code 20 = .ok (.baload, 1) := by decide +kernel
theorem d4_21 : decode jdk_43_method_13_code 21 = .ok (.if_icmp .eq 5, 3) := by decide +kernel
theorem d4_26 : decode jdk_43_method_13_code 26 = .ok (.iinc 2 1, 3) := by decide +kernel
theorem d4_29 : decode jdk_43_method_13_code 29 = .ok (.goto (-20), 3) := by decide +kernel
theorem d4_32 : decode jdk_43_method_13_code 32 = .ok (.iconst 1, 1) := by decide +kernel
theorem d4_33 : decode jdk_43_method_13_code 33 = .ok (.ireturn, 1) := by decide +kernel
theorem own_ef_rmL0 (m : MethodId) (x0 : Addr) (x1 : Addr) : entryFrame m [(.ref x0), (.ref x1)].toArray 3 = mkF m 0 #[.val (.ref x0), .val (.ref x1), .unset] [] := by first | (simp [entryFrame, mkF, argsToLocals, Value.category]; done) | rfl
set_option maxRecDepth 65536 in
set_option maxHeartbeats 40000000 in
theorem rmL0 (l : Launch) (Z : State) (a0 : Array Value) (hw : ∀ d ∈ tables_1, d.before a0 Z = true) (v1 v2 : Addr) (k1 k2 : ClassId) (h0 : Heap) (V1 : Arv Z h0 v1 k1 .byte (7 : Int32) [(.int (111 : Int32)), (.int (110 : Int32)), (.int (101 : Int32)), (.int (115 : Int32)), (.int (104 : Int32)), (.int (111 : Int32)), (.int (116 : Int32))] (.int (0 : Int32))) (V2 : Arv Z h0 v2 k2 .byte (7 : Int32) [(.int (111 : Int32)), (.int (110 : Int32)), (.int (101 : Int32)), (.int (115 : Int32)), (.int (104 : Int32)), (.int (111 : Int32)), (.int (116 : Int32))] (.int (0 : Int32))) :
    Con l Z (⟨"java/lang/StringLatin1", "equals", "([B[B)Z"⟩ : MethodName) jdk_43_method_13_code 3 (some .boolean) ({ frames := 0, cells := 0, slots := 0, locals := 0 } : Room) [(.ref v1), (.ref v2)] h0 (Ret (some (.int 1)) h0) := by
  refine OwnGo.Con.of (plainFor_of_name own_pn1) (Ls0 := #[.val (.ref v1), .val (.ref v2), .unset]) (fun m => own_ef_rmL0 m v1 v2) ?_
  intro p e s m below meth c T0 X0 hx hZ hby hml hown hnm hret hlk e0
  show Go p e below _ T0 (mkF m 0 #[.val (.ref v1), .val (.ref v2), .unset] [])
  refine OwnGo.aloadN X0 hx (hb hby d4_0) rfl rfl ?_
  show Go p e below _ T0 (mkF m 1 #[.val (.ref v1), .val (.ref v2), .unset] [(.ref v1)])
  obtain ⟨cl1, Ar1, -, Sz1, Nn1, -, -⟩ := (id V1)
  refine OwnGo.arraylength X0 hx hZ e0 Ar1 (len_of Sz1 Nn1) (hb hby d4_1) ?_
  show Go p e below _ T0 (mkF m 2 #[.val (.ref v1), .val (.ref v2), .unset] [(.int (7 : Int32))])
  refine OwnGo.aloadN X0 hx (hb hby d4_2) rfl rfl ?_
  show Go p e below _ T0 (mkF m 3 #[.val (.ref v1), .val (.ref v2), .unset] [(.ref v2), (.int (7 : Int32))])
  obtain ⟨cl2, Ar2, -, Sz2, Nn2, -, -⟩ := (id V2)
  refine OwnGo.arraylength X0 hx hZ e0 Ar2 (len_of Sz2 Nn2) (hb hby d4_3) ?_
  show Go p e below _ T0 (mkF m 4 #[.val (.ref v1), .val (.ref v2), .unset] [(.int (7 : Int32)), (.int (7 : Int32))])
  refine OwnGo.ic_ne X0 hx (pc' := 34) (hb hby d4_4) (by decide) (by decide) (fun q => absurd q (by decide)) (fun _ => ?_)
  show Go p e below _ T0 (mkF m 7 #[.val (.ref v1), .val (.ref v2), .unset] [])
  refine OwnGo.iconst X0 hx (z := (0 : Int32)) (hb hby d4_7) (by decide) ?_
  show Go p e below _ T0 (mkF m 8 #[.val (.ref v1), .val (.ref v2), .unset] [(.int (0 : Int32))])
  refine OwnGo.istoreN X0 hx (hb hby d4_8) (Ls' := #[.val (.ref v1), .val (.ref v2), .val (.int (0 : Int32))]) rfl ?_
  show Go p e below _ T0 (mkF m 9 #[.val (.ref v1), .val (.ref v2), .val (.int (0 : Int32))] [])
  refine OwnGo.iloadN X0 hx (hb hby d4_9) rfl ?_
  show Go p e below _ T0 (mkF m 10 #[.val (.ref v1), .val (.ref v2), .val (.int (0 : Int32))] [(.int (0 : Int32))])
  refine OwnGo.aloadN X0 hx (hb hby d4_10) rfl rfl ?_
  show Go p e below _ T0 (mkF m 11 #[.val (.ref v1), .val (.ref v2), .val (.int (0 : Int32))] [(.ref v1), (.int (0 : Int32))])
  obtain ⟨cl3, Ar3, -, Sz3, Nn3, -, -⟩ := (id V1)
  refine OwnGo.arraylength X0 hx hZ e0 Ar3 (len_of Sz3 Nn3) (hb hby d4_11) ?_
  show Go p e below _ T0 (mkF m 12 #[.val (.ref v1), .val (.ref v2), .val (.int (0 : Int32))] [(.int (7 : Int32)), (.int (0 : Int32))])
  refine OwnGo.ic_ge X0 hx (pc' := 32) (hb hby d4_12) (by decide) (by decide) (fun q => absurd q (by decide)) (fun _ => ?_)
  show Go p e below _ T0 (mkF m 15 #[.val (.ref v1), .val (.ref v2), .val (.int (0 : Int32))] [])
  refine OwnGo.aloadN X0 hx (hb hby d4_15) rfl rfl ?_
  show Go p e below _ T0 (mkF m 16 #[.val (.ref v1), .val (.ref v2), .val (.int (0 : Int32))] [(.ref v1)])
  refine OwnGo.iloadN X0 hx (hb hby d4_16) rfl ?_
  show Go p e below _ T0 (mkF m 17 #[.val (.ref v1), .val (.ref v2), .val (.int (0 : Int32))] [(.int (0 : Int32)), (.ref v1)])
  obtain ⟨cl4, Ar4, Kq4, Sz4, Nn4, Hh4, Gg4⟩ := (id V1)
  have hin4 : ¬ ((0 : Int32) < 0 ∨ cl4.slots.size ≤ ((0 : Int32)).toNatClampNeg) := inb_of Sz4 ⟨by decide, by decide⟩
  refine OwnGo.baload X0 hx hZ e0 Ar4 hin4 (Has.at Hh4 hin4 (v := (.int (111 : Int32))) rfl) (hb hby d4_17) ?_
  show Go p e below _ T0 (mkF m 18 #[.val (.ref v1), .val (.ref v2), .val (.int (0 : Int32))] [(.int (111 : Int32))])
  refine OwnGo.aloadN X0 hx (hb hby d4_18) rfl rfl ?_
  show Go p e below _ T0 (mkF m 19 #[.val (.ref v1), .val (.ref v2), .val (.int (0 : Int32))] [(.ref v2), (.int (111 : Int32))])
  refine OwnGo.iloadN X0 hx (hb hby d4_19) rfl ?_
  show Go p e below _ T0 (mkF m 20 #[.val (.ref v1), .val (.ref v2), .val (.int (0 : Int32))] [(.int (0 : Int32)), (.ref v2), (.int (111 : Int32))])
  obtain ⟨cl5, Ar5, Kq5, Sz5, Nn5, Hh5, Gg5⟩ := (id V2)
  have hin5 : ¬ ((0 : Int32) < 0 ∨ cl5.slots.size ≤ ((0 : Int32)).toNatClampNeg) := inb_of Sz5 ⟨by decide, by decide⟩
  refine OwnGo.baload X0 hx hZ e0 Ar5 hin5 (Has.at Hh5 hin5 (v := (.int (111 : Int32))) rfl) (hb hby d4_20) ?_
  show Go p e below _ T0 (mkF m 21 #[.val (.ref v1), .val (.ref v2), .val (.int (0 : Int32))] [(.int (111 : Int32)), (.int (111 : Int32))])
  refine OwnGo.ic_eq X0 hx (pc' := 26) (hb hby d4_21) (by decide) (by decide) (fun _ => ?_) (fun q => absurd q (by decide))
  show Go p e below _ T0 (mkF m 26 #[.val (.ref v1), .val (.ref v2), .val (.int (0 : Int32))] [])
  refine OwnGo.iinc X0 hx (hb hby d4_26) rfl (z := (1 : Int32)) (by decide) (Ls' := #[.val (.ref v1), .val (.ref v2), .val (.int (1 : Int32))]) rfl ?_
  show Go p e below _ T0 (mkF m 29 #[.val (.ref v1), .val (.ref v2), .val (.int (1 : Int32))] [])
  refine OwnGo.goto X0 hx (pc' := 9) (hb hby d4_29) (by decide) (by decide) ?_
  show Go p e below _ T0 (mkF m 9 #[.val (.ref v1), .val (.ref v2), .val (.int (1 : Int32))] [])
  refine OwnGo.iloadN X0 hx (hb hby d4_9) rfl ?_
  show Go p e below _ T0 (mkF m 10 #[.val (.ref v1), .val (.ref v2), .val (.int (1 : Int32))] [(.int (1 : Int32))])
  refine OwnGo.aloadN X0 hx (hb hby d4_10) rfl rfl ?_
  show Go p e below _ T0 (mkF m 11 #[.val (.ref v1), .val (.ref v2), .val (.int (1 : Int32))] [(.ref v1), (.int (1 : Int32))])
  obtain ⟨cl6, Ar6, -, Sz6, Nn6, -, -⟩ := (id V1)
  refine OwnGo.arraylength X0 hx hZ e0 Ar6 (len_of Sz6 Nn6) (hb hby d4_11) ?_
  show Go p e below _ T0 (mkF m 12 #[.val (.ref v1), .val (.ref v2), .val (.int (1 : Int32))] [(.int (7 : Int32)), (.int (1 : Int32))])
  refine OwnGo.ic_ge X0 hx (pc' := 32) (hb hby d4_12) (by decide) (by decide) (fun q => absurd q (by decide)) (fun _ => ?_)
  show Go p e below _ T0 (mkF m 15 #[.val (.ref v1), .val (.ref v2), .val (.int (1 : Int32))] [])
  refine OwnGo.aloadN X0 hx (hb hby d4_15) rfl rfl ?_
  show Go p e below _ T0 (mkF m 16 #[.val (.ref v1), .val (.ref v2), .val (.int (1 : Int32))] [(.ref v1)])
  refine OwnGo.iloadN X0 hx (hb hby d4_16) rfl ?_
  show Go p e below _ T0 (mkF m 17 #[.val (.ref v1), .val (.ref v2), .val (.int (1 : Int32))] [(.int (1 : Int32)), (.ref v1)])
  obtain ⟨cl7, Ar7, Kq7, Sz7, Nn7, Hh7, Gg7⟩ := (id V1)
  have hin7 : ¬ ((1 : Int32) < 0 ∨ cl7.slots.size ≤ ((1 : Int32)).toNatClampNeg) := inb_of Sz7 ⟨by decide, by decide⟩
  refine OwnGo.baload X0 hx hZ e0 Ar7 hin7 (Has.at Hh7 hin7 (v := (.int (110 : Int32))) rfl) (hb hby d4_17) ?_
  show Go p e below _ T0 (mkF m 18 #[.val (.ref v1), .val (.ref v2), .val (.int (1 : Int32))] [(.int (110 : Int32))])
  refine OwnGo.aloadN X0 hx (hb hby d4_18) rfl rfl ?_
  show Go p e below _ T0 (mkF m 19 #[.val (.ref v1), .val (.ref v2), .val (.int (1 : Int32))] [(.ref v2), (.int (110 : Int32))])
  refine OwnGo.iloadN X0 hx (hb hby d4_19) rfl ?_
  show Go p e below _ T0 (mkF m 20 #[.val (.ref v1), .val (.ref v2), .val (.int (1 : Int32))] [(.int (1 : Int32)), (.ref v2), (.int (110 : Int32))])
  obtain ⟨cl8, Ar8, Kq8, Sz8, Nn8, Hh8, Gg8⟩ := (id V2)
  have hin8 : ¬ ((1 : Int32) < 0 ∨ cl8.slots.size ≤ ((1 : Int32)).toNatClampNeg) := inb_of Sz8 ⟨by decide, by decide⟩
  refine OwnGo.baload X0 hx hZ e0 Ar8 hin8 (Has.at Hh8 hin8 (v := (.int (110 : Int32))) rfl) (hb hby d4_20) ?_
  show Go p e below _ T0 (mkF m 21 #[.val (.ref v1), .val (.ref v2), .val (.int (1 : Int32))] [(.int (110 : Int32)), (.int (110 : Int32))])
  refine OwnGo.ic_eq X0 hx (pc' := 26) (hb hby d4_21) (by decide) (by decide) (fun _ => ?_) (fun q => absurd q (by decide))
  show Go p e below _ T0 (mkF m 26 #[.val (.ref v1), .val (.ref v2), .val (.int (1 : Int32))] [])
  refine OwnGo.iinc X0 hx (hb hby d4_26) rfl (z := (2 : Int32)) (by decide) (Ls' := #[.val (.ref v1), .val (.ref v2), .val (.int (2 : Int32))]) rfl ?_
  show Go p e below _ T0 (mkF m 29 #[.val (.ref v1), .val (.ref v2), .val (.int (2 : Int32))] [])
  refine OwnGo.goto X0 hx (pc' := 9) (hb hby d4_29) (by decide) (by decide) ?_
  show Go p e below _ T0 (mkF m 9 #[.val (.ref v1), .val (.ref v2), .val (.int (2 : Int32))] [])
  refine OwnGo.iloadN X0 hx (hb hby d4_9) rfl ?_
  show Go p e below _ T0 (mkF m 10 #[.val (.ref v1), .val (.ref v2), .val (.int (2 : Int32))] [(.int (2 : Int32))])
  refine OwnGo.aloadN X0 hx (hb hby d4_10) rfl rfl ?_
  show Go p e below _ T0 (mkF m 11 #[.val (.ref v1), .val (.ref v2), .val (.int (2 : Int32))] [(.ref v1), (.int (2 : Int32))])
  obtain ⟨cl9, Ar9, -, Sz9, Nn9, -, -⟩ := (id V1)
  refine OwnGo.arraylength X0 hx hZ e0 Ar9 (len_of Sz9 Nn9) (hb hby d4_11) ?_
  show Go p e below _ T0 (mkF m 12 #[.val (.ref v1), .val (.ref v2), .val (.int (2 : Int32))] [(.int (7 : Int32)), (.int (2 : Int32))])
  refine OwnGo.ic_ge X0 hx (pc' := 32) (hb hby d4_12) (by decide) (by decide) (fun q => absurd q (by decide)) (fun _ => ?_)
  show Go p e below _ T0 (mkF m 15 #[.val (.ref v1), .val (.ref v2), .val (.int (2 : Int32))] [])
  refine OwnGo.aloadN X0 hx (hb hby d4_15) rfl rfl ?_
  show Go p e below _ T0 (mkF m 16 #[.val (.ref v1), .val (.ref v2), .val (.int (2 : Int32))] [(.ref v1)])
  refine OwnGo.iloadN X0 hx (hb hby d4_16) rfl ?_
  show Go p e below _ T0 (mkF m 17 #[.val (.ref v1), .val (.ref v2), .val (.int (2 : Int32))] [(.int (2 : Int32)), (.ref v1)])
  obtain ⟨cl10, Ar10, Kq10, Sz10, Nn10, Hh10, Gg10⟩ := (id V1)
  have hin10 : ¬ ((2 : Int32) < 0 ∨ cl10.slots.size ≤ ((2 : Int32)).toNatClampNeg) := inb_of Sz10 ⟨by decide, by decide⟩
  refine OwnGo.baload X0 hx hZ e0 Ar10 hin10 (Has.at Hh10 hin10 (v := (.int (101 : Int32))) rfl) (hb hby d4_17) ?_
  show Go p e below _ T0 (mkF m 18 #[.val (.ref v1), .val (.ref v2), .val (.int (2 : Int32))] [(.int (101 : Int32))])
  refine OwnGo.aloadN X0 hx (hb hby d4_18) rfl rfl ?_
  show Go p e below _ T0 (mkF m 19 #[.val (.ref v1), .val (.ref v2), .val (.int (2 : Int32))] [(.ref v2), (.int (101 : Int32))])
  refine OwnGo.iloadN X0 hx (hb hby d4_19) rfl ?_
  show Go p e below _ T0 (mkF m 20 #[.val (.ref v1), .val (.ref v2), .val (.int (2 : Int32))] [(.int (2 : Int32)), (.ref v2), (.int (101 : Int32))])
  obtain ⟨cl11, Ar11, Kq11, Sz11, Nn11, Hh11, Gg11⟩ := (id V2)
  have hin11 : ¬ ((2 : Int32) < 0 ∨ cl11.slots.size ≤ ((2 : Int32)).toNatClampNeg) := inb_of Sz11 ⟨by decide, by decide⟩
  refine OwnGo.baload X0 hx hZ e0 Ar11 hin11 (Has.at Hh11 hin11 (v := (.int (101 : Int32))) rfl) (hb hby d4_20) ?_
  show Go p e below _ T0 (mkF m 21 #[.val (.ref v1), .val (.ref v2), .val (.int (2 : Int32))] [(.int (101 : Int32)), (.int (101 : Int32))])
  refine OwnGo.ic_eq X0 hx (pc' := 26) (hb hby d4_21) (by decide) (by decide) (fun _ => ?_) (fun q => absurd q (by decide))
  show Go p e below _ T0 (mkF m 26 #[.val (.ref v1), .val (.ref v2), .val (.int (2 : Int32))] [])
  refine OwnGo.iinc X0 hx (hb hby d4_26) rfl (z := (3 : Int32)) (by decide) (Ls' := #[.val (.ref v1), .val (.ref v2), .val (.int (3 : Int32))]) rfl ?_
  show Go p e below _ T0 (mkF m 29 #[.val (.ref v1), .val (.ref v2), .val (.int (3 : Int32))] [])
  refine OwnGo.goto X0 hx (pc' := 9) (hb hby d4_29) (by decide) (by decide) ?_
  show Go p e below _ T0 (mkF m 9 #[.val (.ref v1), .val (.ref v2), .val (.int (3 : Int32))] [])
  refine OwnGo.iloadN X0 hx (hb hby d4_9) rfl ?_
  show Go p e below _ T0 (mkF m 10 #[.val (.ref v1), .val (.ref v2), .val (.int (3 : Int32))] [(.int (3 : Int32))])
  refine OwnGo.aloadN X0 hx (hb hby d4_10) rfl rfl ?_
  show Go p e below _ T0 (mkF m 11 #[.val (.ref v1), .val (.ref v2), .val (.int (3 : Int32))] [(.ref v1), (.int (3 : Int32))])
  obtain ⟨cl12, Ar12, -, Sz12, Nn12, -, -⟩ := (id V1)
  refine OwnGo.arraylength X0 hx hZ e0 Ar12 (len_of Sz12 Nn12) (hb hby d4_11) ?_
  show Go p e below _ T0 (mkF m 12 #[.val (.ref v1), .val (.ref v2), .val (.int (3 : Int32))] [(.int (7 : Int32)), (.int (3 : Int32))])
  refine OwnGo.ic_ge X0 hx (pc' := 32) (hb hby d4_12) (by decide) (by decide) (fun q => absurd q (by decide)) (fun _ => ?_)
  show Go p e below _ T0 (mkF m 15 #[.val (.ref v1), .val (.ref v2), .val (.int (3 : Int32))] [])
  refine OwnGo.aloadN X0 hx (hb hby d4_15) rfl rfl ?_
  show Go p e below _ T0 (mkF m 16 #[.val (.ref v1), .val (.ref v2), .val (.int (3 : Int32))] [(.ref v1)])
  refine OwnGo.iloadN X0 hx (hb hby d4_16) rfl ?_
  show Go p e below _ T0 (mkF m 17 #[.val (.ref v1), .val (.ref v2), .val (.int (3 : Int32))] [(.int (3 : Int32)), (.ref v1)])
  obtain ⟨cl13, Ar13, Kq13, Sz13, Nn13, Hh13, Gg13⟩ := (id V1)
  have hin13 : ¬ ((3 : Int32) < 0 ∨ cl13.slots.size ≤ ((3 : Int32)).toNatClampNeg) := inb_of Sz13 ⟨by decide, by decide⟩
  refine OwnGo.baload X0 hx hZ e0 Ar13 hin13 (Has.at Hh13 hin13 (v := (.int (115 : Int32))) rfl) (hb hby d4_17) ?_
  show Go p e below _ T0 (mkF m 18 #[.val (.ref v1), .val (.ref v2), .val (.int (3 : Int32))] [(.int (115 : Int32))])
  refine OwnGo.aloadN X0 hx (hb hby d4_18) rfl rfl ?_
  show Go p e below _ T0 (mkF m 19 #[.val (.ref v1), .val (.ref v2), .val (.int (3 : Int32))] [(.ref v2), (.int (115 : Int32))])
  refine OwnGo.iloadN X0 hx (hb hby d4_19) rfl ?_
  show Go p e below _ T0 (mkF m 20 #[.val (.ref v1), .val (.ref v2), .val (.int (3 : Int32))] [(.int (3 : Int32)), (.ref v2), (.int (115 : Int32))])
  obtain ⟨cl14, Ar14, Kq14, Sz14, Nn14, Hh14, Gg14⟩ := (id V2)
  have hin14 : ¬ ((3 : Int32) < 0 ∨ cl14.slots.size ≤ ((3 : Int32)).toNatClampNeg) := inb_of Sz14 ⟨by decide, by decide⟩
  refine OwnGo.baload X0 hx hZ e0 Ar14 hin14 (Has.at Hh14 hin14 (v := (.int (115 : Int32))) rfl) (hb hby d4_20) ?_
  show Go p e below _ T0 (mkF m 21 #[.val (.ref v1), .val (.ref v2), .val (.int (3 : Int32))] [(.int (115 : Int32)), (.int (115 : Int32))])
  refine OwnGo.ic_eq X0 hx (pc' := 26) (hb hby d4_21) (by decide) (by decide) (fun _ => ?_) (fun q => absurd q (by decide))
  show Go p e below _ T0 (mkF m 26 #[.val (.ref v1), .val (.ref v2), .val (.int (3 : Int32))] [])
  refine OwnGo.iinc X0 hx (hb hby d4_26) rfl (z := (4 : Int32)) (by decide) (Ls' := #[.val (.ref v1), .val (.ref v2), .val (.int (4 : Int32))]) rfl ?_
  show Go p e below _ T0 (mkF m 29 #[.val (.ref v1), .val (.ref v2), .val (.int (4 : Int32))] [])
  refine OwnGo.goto X0 hx (pc' := 9) (hb hby d4_29) (by decide) (by decide) ?_
  show Go p e below _ T0 (mkF m 9 #[.val (.ref v1), .val (.ref v2), .val (.int (4 : Int32))] [])
  refine OwnGo.iloadN X0 hx (hb hby d4_9) rfl ?_
  show Go p e below _ T0 (mkF m 10 #[.val (.ref v1), .val (.ref v2), .val (.int (4 : Int32))] [(.int (4 : Int32))])
  refine OwnGo.aloadN X0 hx (hb hby d4_10) rfl rfl ?_
  show Go p e below _ T0 (mkF m 11 #[.val (.ref v1), .val (.ref v2), .val (.int (4 : Int32))] [(.ref v1), (.int (4 : Int32))])
  obtain ⟨cl15, Ar15, -, Sz15, Nn15, -, -⟩ := (id V1)
  refine OwnGo.arraylength X0 hx hZ e0 Ar15 (len_of Sz15 Nn15) (hb hby d4_11) ?_
  show Go p e below _ T0 (mkF m 12 #[.val (.ref v1), .val (.ref v2), .val (.int (4 : Int32))] [(.int (7 : Int32)), (.int (4 : Int32))])
  refine OwnGo.ic_ge X0 hx (pc' := 32) (hb hby d4_12) (by decide) (by decide) (fun q => absurd q (by decide)) (fun _ => ?_)
  show Go p e below _ T0 (mkF m 15 #[.val (.ref v1), .val (.ref v2), .val (.int (4 : Int32))] [])
  refine OwnGo.aloadN X0 hx (hb hby d4_15) rfl rfl ?_
  show Go p e below _ T0 (mkF m 16 #[.val (.ref v1), .val (.ref v2), .val (.int (4 : Int32))] [(.ref v1)])
  refine OwnGo.iloadN X0 hx (hb hby d4_16) rfl ?_
  show Go p e below _ T0 (mkF m 17 #[.val (.ref v1), .val (.ref v2), .val (.int (4 : Int32))] [(.int (4 : Int32)), (.ref v1)])
  obtain ⟨cl16, Ar16, Kq16, Sz16, Nn16, Hh16, Gg16⟩ := (id V1)
  have hin16 : ¬ ((4 : Int32) < 0 ∨ cl16.slots.size ≤ ((4 : Int32)).toNatClampNeg) := inb_of Sz16 ⟨by decide, by decide⟩
  refine OwnGo.baload X0 hx hZ e0 Ar16 hin16 (Has.at Hh16 hin16 (v := (.int (104 : Int32))) rfl) (hb hby d4_17) ?_
  show Go p e below _ T0 (mkF m 18 #[.val (.ref v1), .val (.ref v2), .val (.int (4 : Int32))] [(.int (104 : Int32))])
  refine OwnGo.aloadN X0 hx (hb hby d4_18) rfl rfl ?_
  show Go p e below _ T0 (mkF m 19 #[.val (.ref v1), .val (.ref v2), .val (.int (4 : Int32))] [(.ref v2), (.int (104 : Int32))])
  refine OwnGo.iloadN X0 hx (hb hby d4_19) rfl ?_
  show Go p e below _ T0 (mkF m 20 #[.val (.ref v1), .val (.ref v2), .val (.int (4 : Int32))] [(.int (4 : Int32)), (.ref v2), (.int (104 : Int32))])
  obtain ⟨cl17, Ar17, Kq17, Sz17, Nn17, Hh17, Gg17⟩ := (id V2)
  have hin17 : ¬ ((4 : Int32) < 0 ∨ cl17.slots.size ≤ ((4 : Int32)).toNatClampNeg) := inb_of Sz17 ⟨by decide, by decide⟩
  refine OwnGo.baload X0 hx hZ e0 Ar17 hin17 (Has.at Hh17 hin17 (v := (.int (104 : Int32))) rfl) (hb hby d4_20) ?_
  show Go p e below _ T0 (mkF m 21 #[.val (.ref v1), .val (.ref v2), .val (.int (4 : Int32))] [(.int (104 : Int32)), (.int (104 : Int32))])
  refine OwnGo.ic_eq X0 hx (pc' := 26) (hb hby d4_21) (by decide) (by decide) (fun _ => ?_) (fun q => absurd q (by decide))
  show Go p e below _ T0 (mkF m 26 #[.val (.ref v1), .val (.ref v2), .val (.int (4 : Int32))] [])
  refine OwnGo.iinc X0 hx (hb hby d4_26) rfl (z := (5 : Int32)) (by decide) (Ls' := #[.val (.ref v1), .val (.ref v2), .val (.int (5 : Int32))]) rfl ?_
  show Go p e below _ T0 (mkF m 29 #[.val (.ref v1), .val (.ref v2), .val (.int (5 : Int32))] [])
  refine OwnGo.goto X0 hx (pc' := 9) (hb hby d4_29) (by decide) (by decide) ?_
  show Go p e below _ T0 (mkF m 9 #[.val (.ref v1), .val (.ref v2), .val (.int (5 : Int32))] [])
  refine OwnGo.iloadN X0 hx (hb hby d4_9) rfl ?_
  show Go p e below _ T0 (mkF m 10 #[.val (.ref v1), .val (.ref v2), .val (.int (5 : Int32))] [(.int (5 : Int32))])
  refine OwnGo.aloadN X0 hx (hb hby d4_10) rfl rfl ?_
  show Go p e below _ T0 (mkF m 11 #[.val (.ref v1), .val (.ref v2), .val (.int (5 : Int32))] [(.ref v1), (.int (5 : Int32))])
  obtain ⟨cl18, Ar18, -, Sz18, Nn18, -, -⟩ := (id V1)
  refine OwnGo.arraylength X0 hx hZ e0 Ar18 (len_of Sz18 Nn18) (hb hby d4_11) ?_
  show Go p e below _ T0 (mkF m 12 #[.val (.ref v1), .val (.ref v2), .val (.int (5 : Int32))] [(.int (7 : Int32)), (.int (5 : Int32))])
  refine OwnGo.ic_ge X0 hx (pc' := 32) (hb hby d4_12) (by decide) (by decide) (fun q => absurd q (by decide)) (fun _ => ?_)
  show Go p e below _ T0 (mkF m 15 #[.val (.ref v1), .val (.ref v2), .val (.int (5 : Int32))] [])
  refine OwnGo.aloadN X0 hx (hb hby d4_15) rfl rfl ?_
  show Go p e below _ T0 (mkF m 16 #[.val (.ref v1), .val (.ref v2), .val (.int (5 : Int32))] [(.ref v1)])
  refine OwnGo.iloadN X0 hx (hb hby d4_16) rfl ?_
  show Go p e below _ T0 (mkF m 17 #[.val (.ref v1), .val (.ref v2), .val (.int (5 : Int32))] [(.int (5 : Int32)), (.ref v1)])
  obtain ⟨cl19, Ar19, Kq19, Sz19, Nn19, Hh19, Gg19⟩ := (id V1)
  have hin19 : ¬ ((5 : Int32) < 0 ∨ cl19.slots.size ≤ ((5 : Int32)).toNatClampNeg) := inb_of Sz19 ⟨by decide, by decide⟩
  refine OwnGo.baload X0 hx hZ e0 Ar19 hin19 (Has.at Hh19 hin19 (v := (.int (111 : Int32))) rfl) (hb hby d4_17) ?_
  show Go p e below _ T0 (mkF m 18 #[.val (.ref v1), .val (.ref v2), .val (.int (5 : Int32))] [(.int (111 : Int32))])
  refine OwnGo.aloadN X0 hx (hb hby d4_18) rfl rfl ?_
  show Go p e below _ T0 (mkF m 19 #[.val (.ref v1), .val (.ref v2), .val (.int (5 : Int32))] [(.ref v2), (.int (111 : Int32))])
  refine OwnGo.iloadN X0 hx (hb hby d4_19) rfl ?_
  show Go p e below _ T0 (mkF m 20 #[.val (.ref v1), .val (.ref v2), .val (.int (5 : Int32))] [(.int (5 : Int32)), (.ref v2), (.int (111 : Int32))])
  obtain ⟨cl20, Ar20, Kq20, Sz20, Nn20, Hh20, Gg20⟩ := (id V2)
  have hin20 : ¬ ((5 : Int32) < 0 ∨ cl20.slots.size ≤ ((5 : Int32)).toNatClampNeg) := inb_of Sz20 ⟨by decide, by decide⟩
  refine OwnGo.baload X0 hx hZ e0 Ar20 hin20 (Has.at Hh20 hin20 (v := (.int (111 : Int32))) rfl) (hb hby d4_20) ?_
  show Go p e below _ T0 (mkF m 21 #[.val (.ref v1), .val (.ref v2), .val (.int (5 : Int32))] [(.int (111 : Int32)), (.int (111 : Int32))])
  refine OwnGo.ic_eq X0 hx (pc' := 26) (hb hby d4_21) (by decide) (by decide) (fun _ => ?_) (fun q => absurd q (by decide))
  show Go p e below _ T0 (mkF m 26 #[.val (.ref v1), .val (.ref v2), .val (.int (5 : Int32))] [])
  refine OwnGo.iinc X0 hx (hb hby d4_26) rfl (z := (6 : Int32)) (by decide) (Ls' := #[.val (.ref v1), .val (.ref v2), .val (.int (6 : Int32))]) rfl ?_
  show Go p e below _ T0 (mkF m 29 #[.val (.ref v1), .val (.ref v2), .val (.int (6 : Int32))] [])
  refine OwnGo.goto X0 hx (pc' := 9) (hb hby d4_29) (by decide) (by decide) ?_
  show Go p e below _ T0 (mkF m 9 #[.val (.ref v1), .val (.ref v2), .val (.int (6 : Int32))] [])
  refine OwnGo.iloadN X0 hx (hb hby d4_9) rfl ?_
  show Go p e below _ T0 (mkF m 10 #[.val (.ref v1), .val (.ref v2), .val (.int (6 : Int32))] [(.int (6 : Int32))])
  refine OwnGo.aloadN X0 hx (hb hby d4_10) rfl rfl ?_
  show Go p e below _ T0 (mkF m 11 #[.val (.ref v1), .val (.ref v2), .val (.int (6 : Int32))] [(.ref v1), (.int (6 : Int32))])
  obtain ⟨cl21, Ar21, -, Sz21, Nn21, -, -⟩ := (id V1)
  refine OwnGo.arraylength X0 hx hZ e0 Ar21 (len_of Sz21 Nn21) (hb hby d4_11) ?_
  show Go p e below _ T0 (mkF m 12 #[.val (.ref v1), .val (.ref v2), .val (.int (6 : Int32))] [(.int (7 : Int32)), (.int (6 : Int32))])
  refine OwnGo.ic_ge X0 hx (pc' := 32) (hb hby d4_12) (by decide) (by decide) (fun q => absurd q (by decide)) (fun _ => ?_)
  show Go p e below _ T0 (mkF m 15 #[.val (.ref v1), .val (.ref v2), .val (.int (6 : Int32))] [])
  refine OwnGo.aloadN X0 hx (hb hby d4_15) rfl rfl ?_
  show Go p e below _ T0 (mkF m 16 #[.val (.ref v1), .val (.ref v2), .val (.int (6 : Int32))] [(.ref v1)])
  refine OwnGo.iloadN X0 hx (hb hby d4_16) rfl ?_
  show Go p e below _ T0 (mkF m 17 #[.val (.ref v1), .val (.ref v2), .val (.int (6 : Int32))] [(.int (6 : Int32)), (.ref v1)])
  obtain ⟨cl22, Ar22, Kq22, Sz22, Nn22, Hh22, Gg22⟩ := (id V1)
  have hin22 : ¬ ((6 : Int32) < 0 ∨ cl22.slots.size ≤ ((6 : Int32)).toNatClampNeg) := inb_of Sz22 ⟨by decide, by decide⟩
  refine OwnGo.baload X0 hx hZ e0 Ar22 hin22 (Has.at Hh22 hin22 (v := (.int (116 : Int32))) rfl) (hb hby d4_17) ?_
  show Go p e below _ T0 (mkF m 18 #[.val (.ref v1), .val (.ref v2), .val (.int (6 : Int32))] [(.int (116 : Int32))])
  refine OwnGo.aloadN X0 hx (hb hby d4_18) rfl rfl ?_
  show Go p e below _ T0 (mkF m 19 #[.val (.ref v1), .val (.ref v2), .val (.int (6 : Int32))] [(.ref v2), (.int (116 : Int32))])
  refine OwnGo.iloadN X0 hx (hb hby d4_19) rfl ?_
  show Go p e below _ T0 (mkF m 20 #[.val (.ref v1), .val (.ref v2), .val (.int (6 : Int32))] [(.int (6 : Int32)), (.ref v2), (.int (116 : Int32))])
  obtain ⟨cl23, Ar23, Kq23, Sz23, Nn23, Hh23, Gg23⟩ := (id V2)
  have hin23 : ¬ ((6 : Int32) < 0 ∨ cl23.slots.size ≤ ((6 : Int32)).toNatClampNeg) := inb_of Sz23 ⟨by decide, by decide⟩
  refine OwnGo.baload X0 hx hZ e0 Ar23 hin23 (Has.at Hh23 hin23 (v := (.int (116 : Int32))) rfl) (hb hby d4_20) ?_
  show Go p e below _ T0 (mkF m 21 #[.val (.ref v1), .val (.ref v2), .val (.int (6 : Int32))] [(.int (116 : Int32)), (.int (116 : Int32))])
  refine OwnGo.ic_eq X0 hx (pc' := 26) (hb hby d4_21) (by decide) (by decide) (fun _ => ?_) (fun q => absurd q (by decide))
  show Go p e below _ T0 (mkF m 26 #[.val (.ref v1), .val (.ref v2), .val (.int (6 : Int32))] [])
  refine OwnGo.iinc X0 hx (hb hby d4_26) rfl (z := (7 : Int32)) (by decide) (Ls' := #[.val (.ref v1), .val (.ref v2), .val (.int (7 : Int32))]) rfl ?_
  show Go p e below _ T0 (mkF m 29 #[.val (.ref v1), .val (.ref v2), .val (.int (7 : Int32))] [])
  refine OwnGo.goto X0 hx (pc' := 9) (hb hby d4_29) (by decide) (by decide) ?_
  show Go p e below _ T0 (mkF m 9 #[.val (.ref v1), .val (.ref v2), .val (.int (7 : Int32))] [])
  refine OwnGo.iloadN X0 hx (hb hby d4_9) rfl ?_
  show Go p e below _ T0 (mkF m 10 #[.val (.ref v1), .val (.ref v2), .val (.int (7 : Int32))] [(.int (7 : Int32))])
  refine OwnGo.aloadN X0 hx (hb hby d4_10) rfl rfl ?_
  show Go p e below _ T0 (mkF m 11 #[.val (.ref v1), .val (.ref v2), .val (.int (7 : Int32))] [(.ref v1), (.int (7 : Int32))])
  obtain ⟨cl24, Ar24, -, Sz24, Nn24, -, -⟩ := (id V1)
  refine OwnGo.arraylength X0 hx hZ e0 Ar24 (len_of Sz24 Nn24) (hb hby d4_11) ?_
  show Go p e below _ T0 (mkF m 12 #[.val (.ref v1), .val (.ref v2), .val (.int (7 : Int32))] [(.int (7 : Int32)), (.int (7 : Int32))])
  refine OwnGo.ic_ge X0 hx (pc' := 32) (hb hby d4_12) (by decide) (by decide) (fun _ => ?_) (fun q => absurd q (by decide))
  show Go p e below _ T0 (mkF m 32 #[.val (.ref v1), .val (.ref v2), .val (.int (7 : Int32))] [])
  refine OwnGo.iconst X0 hx (z := (1 : Int32)) (hb hby d4_32) (by decide) ?_
  show Go p e below _ T0 (mkF m 33 #[.val (.ref v1), .val (.ref v2), .val (.int (7 : Int32))] [(.int (1 : Int32))])
  exact OwnGo.retB X0 hx hlk (z' := (1 : Int32)) hret (hb hby d4_33) rfl ⟨rfl, e0, rfl⟩ (by decide) (by decide)
theorem d3_0 : decode jdk_42_method_66_code 0 = .ok (.aload_n 0, 1) := by decide +kernel
theorem d3_1 : decode jdk_42_method_66_code 1 = .ok (.aload_n 1, 1) := by decide +kernel
theorem d3_2 : decode jdk_42_method_66_code 2 = .ok (.if_acmp .ne 5, 3) := by decide +kernel
theorem d3_5 : decode jdk_42_method_66_code 5 = .ok (.iconst 1, 1) := by decide +kernel
theorem d3_6 : decode jdk_42_method_66_code 6 = .ok (.ireturn, 1) := by decide +kernel
theorem d3_7 : decode jdk_42_method_66_code 7 = .ok (.aload_n 1, 1) := by decide +kernel
theorem d3_8 : decode jdk_42_method_66_code 8 = .ok (.instanceof 10, 3) := by decide +kernel
theorem d3_11 : decode jdk_42_method_66_code 11 = .ok (.ifCond .eq 43, 3) := by decide +kernel
theorem d3_14 : decode jdk_42_method_66_code 14 = .ok (.aload_n 1, 1) := by decide +kernel
theorem d3_15 : decode jdk_42_method_66_code 15 = .ok (.checkcast 10, 3) := by decide +kernel
theorem d3_18 : decode jdk_42_method_66_code 18 = .ok (.astore_n 2, 1) := by decide +kernel
theorem d3_19 : decode jdk_42_method_66_code 19 = .ok (.getstatic 38, 3) := by decide +kernel
theorem d3_22 : decode jdk_42_method_66_code 22 = .ok (.ifCond .eq 14, 3) := by decide +kernel
theorem d3_25 : decode jdk_42_method_66_code 25 = .ok (.aload_n 0, 1) := by decide +kernel
theorem d3_26 : decode jdk_42_method_66_code 26 = .ok (.getfield 15, 3) := by decide +kernel
theorem d3_29 : decode jdk_42_method_66_code 29 = .ok (.aload_n 2, 1) := by decide +kernel
theorem d3_30 : decode jdk_42_method_66_code 30 = .ok (.getfield 15, 3) := by decide +kernel
theorem d3_33 : decode jdk_42_method_66_code 33 = .ok (.if_icmp .ne 21, 3) := by decide +kernel
theorem d3_36 : decode jdk_42_method_66_code 36 = .ok (.aload_n 0, 1) := by decide +kernel
theorem d3_37 : decode jdk_42_method_66_code 37 = .ok (.getfield 9, 3) := by decide +kernel
theorem d3_40 : decode jdk_42_method_66_code 40 = .ok (.aload_n 2, 1) := by decide +kernel
theorem d3_41 : decode jdk_42_method_66_code 41 = .ok (.getfield 9, 3) := by decide +kernel
theorem d3_44 : decode jdk_42_method_66_code 44 = .ok (.invokestatic 541, 3) := by decide +kernel
theorem d3_47 : decode jdk_42_method_66_code 47 = .ok (.ifCond .eq 7, 3) := by decide +kernel
theorem d3_50 : decode jdk_42_method_66_code 50 = .ok (.iconst 1, 1) := by decide +kernel
theorem d3_51 : decode jdk_42_method_66_code 51 = .ok (.goto 4, 3) := by decide +kernel
theorem d3_55 : decode jdk_42_method_66_code 55 = .ok (.ireturn, 1) := by decide +kernel
theorem own_ef_rmE0 (m : MethodId) (x0 : Addr) (x1 : Addr) : entryFrame m [(.ref x0), (.ref x1)].toArray 3 = mkF m 0 #[.val (.ref x0), .val (.ref x1), .unset] [] := by first | (simp [entryFrame, mkF, argsToLocals, Value.category]; done) | rfl
set_option maxRecDepth 65536 in
set_option maxHeartbeats 40000000 in
theorem rmE0 (l : Launch) (Z : State) (a0 : Array Value) (hw : ∀ d ∈ tables_1, d.before a0 Z = true) (s1 s2 v1 v2 : Addr) (k1 k2 : ClassId) (pz : Int32) (h0 : Heap) (E2 : Exa Z h0 s2 "java/lang/String") (C1 : Fld Z h0 s1 "java/lang/String" "coder" "B" (.int (0 : Int32))) (C2 : Fld Z h0 s2 "java/lang/String" "coder" "B" (.int (0 : Int32))) (W1 : Fld Z h0 s1 "java/lang/String" "value" "[B" (.ref v1)) (W2 : Fld Z h0 s2 "java/lang/String" "value" "[B" (.ref v2)) (V1 : Arv Z h0 v1 k1 .byte (7 : Int32) [(.int (111 : Int32)), (.int (110 : Int32)), (.int (101 : Int32)), (.int (115 : Int32)), (.int (104 : Int32)), (.int (111 : Int32)), (.int (116 : Int32))] (.int (0 : Int32))) (V2 : Arv Z h0 v2 k2 .byte (7 : Int32) [(.int (111 : Int32)), (.int (110 : Int32)), (.int (101 : Int32)), (.int (115 : Int32)), (.int (104 : Int32)), (.int (111 : Int32)), (.int (116 : Int32))] (.int (0 : Int32))) (SC : Sta Z h0 "java/lang/String" "COMPACT_STRINGS" "Z" (.int pz)) (hpz : ¬ pz = 0) :
    Con l Z (⟨"java/lang/String", "equals", "(Ljava/lang/Object;)Z"⟩ : MethodName) jdk_42_method_66_code 3 (some .boolean) ({ frames := 1, cells := 0, slots := 0, locals := 14 } : Room) [(.ref s1), (.ref s2)] h0 (Ret (some (.int 1)) h0) := by
  refine OwnGo.Con.of (plainFor_of_name own_pn2) (Ls0 := #[.val (.ref s1), .val (.ref s2), .unset]) (fun m => own_ef_rmE0 m s1 s2) ?_
  intro p e s m below meth c T0 X0 hx hZ hby hml hown hnm hret hlk e0
  show Go p e below _ T0 (mkF m 0 #[.val (.ref s1), .val (.ref s2), .unset] [])
  refine OwnGo.aloadN X0 hx (hb hby d3_0) rfl rfl ?_
  show Go p e below _ T0 (mkF m 1 #[.val (.ref s1), .val (.ref s2), .unset] [(.ref s1)])
  refine OwnGo.aloadN X0 hx (hb hby d3_1) rfl rfl ?_
  show Go p e below _ T0 (mkF m 2 #[.val (.ref s1), .val (.ref s2), .unset] [(.ref s2), (.ref s1)])
  refine OwnGo.ac_ne X0 hx (pc' := 7) rfl rfl (hb hby d3_2) (by decide) (by decide) (fun h2 => ?_) (fun h2 => ?_)
  ·
    show Go p e below _ T0 (mkF m 7 #[.val (.ref s1), .val (.ref s2), .unset] [])
    refine OwnGo.aloadN X0 hx (hb hby d3_7) rfl rfl ?_
    show Go p e below _ T0 (mkF m 8 #[.val (.ref s1), .val (.ref s2), .unset] [(.ref s2)])
    refine OwnGo.instY X0 hx hZ hown (hw _ (List.mem_of_getElem? (i := 37) rfl)) e0 (Ins.self E2) (hb hby d3_8) fun T1 X1 e1 => ?_
    show Go p e below _ T1 (mkF m 11 #[.val (.ref s1), .val (.ref s2), .unset] [(.int (1 : Int32))])
    refine OwnGo.if_eq X1 hx (pc' := 54) (hb hby d3_11) (by decide) (by decide) (fun q => absurd q (by decide)) (fun _ => ?_)
    show Go p e below _ T1 (mkF m 14 #[.val (.ref s1), .val (.ref s2), .unset] [])
    refine OwnGo.aloadN X1 hx (hb hby d3_14) rfl rfl ?_
    show Go p e below _ T1 (mkF m 15 #[.val (.ref s1), .val (.ref s2), .unset] [(.ref s2)])
    refine OwnGo.castY X1 hx hZ hown (hw _ (List.mem_of_getElem? (i := 37) rfl)) e1 (Ins.self E2) (hb hby d3_15) fun T2 X2 e2 => ?_
    show Go p e below _ T2 (mkF m 18 #[.val (.ref s1), .val (.ref s2), .unset] [(.ref s2)])
    refine OwnGo.astoreN X2 hx (hb hby d3_18) rfl (Ls' := #[.val (.ref s1), .val (.ref s2), .val (.ref s2)]) rfl ?_
    show Go p e below _ T2 (mkF m 19 #[.val (.ref s1), .val (.ref s2), .val (.ref s2)] [])
    refine OwnGo.getS X2 hx hZ hown (host := "") (Or.inl (hw _ (List.mem_of_getElem? (i := 39) rfl))) Via.refl e2 SC (hb hby d3_19) fun T3 X3 e3 => ?_
    show Go p e below _ T3 (mkF m 22 #[.val (.ref s1), .val (.ref s2), .val (.ref s2)] [(.int pz)])
    refine OwnGo.if_eq X3 hx (pc' := 36) (hb hby d3_22) (by decide) (by decide) (fun h22 => absurd h22 hpz) (fun h22 => ?_)
    show Go p e below _ T3 (mkF m 25 #[.val (.ref s1), .val (.ref s2), .val (.ref s2)] [])
    refine OwnGo.aloadN X3 hx (hb hby d3_25) rfl rfl ?_
    show Go p e below _ T3 (mkF m 26 #[.val (.ref s1), .val (.ref s2), .val (.ref s2)] [(.ref s1)])
    refine OwnGo.getF X3 hx hZ hown (host := "") (Or.inl (hw _ (List.mem_of_getElem? (i := 40) rfl))) Via.refl e3 C1 (hb hby d3_26) fun T4 X4 e4 => ?_
    show Go p e below _ T4 (mkF m 29 #[.val (.ref s1), .val (.ref s2), .val (.ref s2)] [(.int (0 : Int32))])
    refine OwnGo.aloadN X4 hx (hb hby d3_29) rfl rfl ?_
    show Go p e below _ T4 (mkF m 30 #[.val (.ref s1), .val (.ref s2), .val (.ref s2)] [(.ref s2), (.int (0 : Int32))])
    refine OwnGo.getF X4 hx hZ hown (host := "") (Or.inl (hw _ (List.mem_of_getElem? (i := 40) rfl))) Via.refl e4 C2 (hb hby d3_30) fun T5 X5 e5 => ?_
    show Go p e below _ T5 (mkF m 33 #[.val (.ref s1), .val (.ref s2), .val (.ref s2)] [(.int (0 : Int32)), (.int (0 : Int32))])
    refine OwnGo.ic_ne X5 hx (pc' := 54) (hb hby d3_33) (by decide) (by decide) (fun q => absurd q (by decide)) (fun _ => ?_)
    show Go p e below _ T5 (mkF m 36 #[.val (.ref s1), .val (.ref s2), .val (.ref s2)] [])
    refine OwnGo.aloadN X5 hx (hb hby d3_36) rfl rfl ?_
    show Go p e below _ T5 (mkF m 37 #[.val (.ref s1), .val (.ref s2), .val (.ref s2)] [(.ref s1)])
    refine OwnGo.getF X5 hx hZ hown (host := "") (Or.inl (hw _ (List.mem_of_getElem? (i := 41) rfl))) Via.refl e5 W1 (hb hby d3_37) fun T6 X6 e6 => ?_
    show Go p e below _ T6 (mkF m 40 #[.val (.ref s1), .val (.ref s2), .val (.ref s2)] [(.ref v1)])
    refine OwnGo.aloadN X6 hx (hb hby d3_40) rfl rfl ?_
    show Go p e below _ T6 (mkF m 41 #[.val (.ref s1), .val (.ref s2), .val (.ref s2)] [(.ref s2), (.ref v1)])
    refine OwnGo.getF X6 hx hZ hown (host := "") (Or.inl (hw _ (List.mem_of_getElem? (i := 41) rfl))) Via.refl e6 W2 (hb hby d3_41) fun T7 X7 e7 => ?_
    show Go p e below _ T7 (mkF m 44 #[.val (.ref s1), .val (.ref s2), .val (.ref s2)] [(.ref v2), (.ref v1)])
    refine OwnGo.callS X7 hx hZ hown (y := (⟨"java/lang/StringLatin1", "equals", "([B[B)Z"⟩ : MethodName)) (hw _ (List.mem_of_getElem? (i := 42) rfl)) (hw _ (List.mem_of_getElem? (i := 43) rfl)) (hw _ (List.mem_of_getElem? (i := 44) rfl)) (hw _ (List.mem_of_getElem? (i := 45) rfl)) (by decide) e7 (as := [(.ref v1), (.ref v2)]) (rmL0 l Z a0 hw v1 v2 k1 k2 h0 V1 V2) (W := 0) (by decide) (by decide) (by decide) (by decide) (by rw [hml]; rfl) (lenOf own_pd0 rfl) (rest := []) rfl rfl (hb hby d3_44) fun v8 T8 L8 X8 q8 => ?_
    obtain ⟨rfl, e8, rfl⟩ := q8
    rw [List.append_nil] at X8
    show Go p e below _ T8 (mkF m 47 #[.val (.ref s1), .val (.ref s2), .val (.ref s2)] [(.int (1 : Int32))])
    refine OwnGo.if_eq X8 hx (pc' := 54) (hb hby d3_47) (by decide) (by decide) (fun q => absurd q (by decide)) (fun _ => ?_)
    show Go p e below _ T8 (mkF m 50 #[.val (.ref s1), .val (.ref s2), .val (.ref s2)] [])
    refine OwnGo.iconst X8 hx (z := (1 : Int32)) (hb hby d3_50) (by decide) ?_
    show Go p e below _ T8 (mkF m 51 #[.val (.ref s1), .val (.ref s2), .val (.ref s2)] [(.int (1 : Int32))])
    refine OwnGo.goto X8 hx (pc' := 55) (hb hby d3_51) (by decide) (by decide) ?_
    show Go p e below _ T8 (mkF m 55 #[.val (.ref s1), .val (.ref s2), .val (.ref s2)] [(.int (1 : Int32))])
    exact OwnGo.retB X8 hx hlk (z' := (1 : Int32)) hret (hb hby d3_55) rfl ⟨rfl, e8, rfl⟩ (by decide) (by decide)
  ·
    show Go p e below _ T0 (mkF m 5 #[.val (.ref s1), .val (.ref s2), .unset] [])
    refine OwnGo.iconst X0 hx (z := (1 : Int32)) (hb hby d3_5) (by decide) ?_
    show Go p e below _ T0 (mkF m 6 #[.val (.ref s1), .val (.ref s2), .unset] [(.int (1 : Int32))])
    exact OwnGo.retB X0 hx hlk (z' := (1 : Int32)) hret (hb hby d3_6) rfl ⟨rfl, e0, rfl⟩ (by decide) (by decide)
theorem d4_34 : decode jdk_43_method_13_code 34 = .ok (.iconst 0, 1) := by decide +kernel
theorem d4_35 : decode jdk_43_method_13_code 35 = .ok (.ireturn, 1) := by decide +kernel
theorem own_ef_rmL1 (m : MethodId) (x0 : Addr) (x1 : Addr) : entryFrame m [(.ref x0), (.ref x1)].toArray 3 = mkF m 0 #[.val (.ref x0), .val (.ref x1), .unset] [] := by first | (simp [entryFrame, mkF, argsToLocals, Value.category]; done) | rfl
set_option maxRecDepth 65536 in
set_option maxHeartbeats 40000000 in
theorem rmL1 (l : Launch) (Z : State) (a0 : Array Value) (hw : ∀ d ∈ tables_1, d.before a0 Z = true) (v1 v2 : Addr) (k1 k2 : ClassId) (h0 : Heap) (V1 : Arv Z h0 v1 k1 .byte (9 : Int32) [(.int (114 : Int32)), (.int (101 : Int32)), (.int (112 : Int32)), (.int (101 : Int32)), (.int (97 : Int32)), (.int (116 : Int32)), (.int (105 : Int32)), (.int (110 : Int32)), (.int (103 : Int32))] (.int (0 : Int32))) (V2 : Arv Z h0 v2 k2 .byte (7 : Int32) [(.int (111 : Int32)), (.int (110 : Int32)), (.int (101 : Int32)), (.int (115 : Int32)), (.int (104 : Int32)), (.int (111 : Int32)), (.int (116 : Int32))] (.int (0 : Int32))) :
    Con l Z (⟨"java/lang/StringLatin1", "equals", "([B[B)Z"⟩ : MethodName) jdk_43_method_13_code 3 (some .boolean) ({ frames := 0, cells := 0, slots := 0, locals := 0 } : Room) [(.ref v1), (.ref v2)] h0 (Ret (some (.int 0)) h0) := by
  refine OwnGo.Con.of (plainFor_of_name own_pn1) (Ls0 := #[.val (.ref v1), .val (.ref v2), .unset]) (fun m => own_ef_rmL1 m v1 v2) ?_
  intro p e s m below meth c T0 X0 hx hZ hby hml hown hnm hret hlk e0
  show Go p e below _ T0 (mkF m 0 #[.val (.ref v1), .val (.ref v2), .unset] [])
  refine OwnGo.aloadN X0 hx (hb hby d4_0) rfl rfl ?_
  show Go p e below _ T0 (mkF m 1 #[.val (.ref v1), .val (.ref v2), .unset] [(.ref v1)])
  obtain ⟨cl1, Ar1, -, Sz1, Nn1, -, -⟩ := (id V1)
  refine OwnGo.arraylength X0 hx hZ e0 Ar1 (len_of Sz1 Nn1) (hb hby d4_1) ?_
  show Go p e below _ T0 (mkF m 2 #[.val (.ref v1), .val (.ref v2), .unset] [(.int (9 : Int32))])
  refine OwnGo.aloadN X0 hx (hb hby d4_2) rfl rfl ?_
  show Go p e below _ T0 (mkF m 3 #[.val (.ref v1), .val (.ref v2), .unset] [(.ref v2), (.int (9 : Int32))])
  obtain ⟨cl2, Ar2, -, Sz2, Nn2, -, -⟩ := (id V2)
  refine OwnGo.arraylength X0 hx hZ e0 Ar2 (len_of Sz2 Nn2) (hb hby d4_3) ?_
  show Go p e below _ T0 (mkF m 4 #[.val (.ref v1), .val (.ref v2), .unset] [(.int (7 : Int32)), (.int (9 : Int32))])
  refine OwnGo.ic_ne X0 hx (pc' := 34) (hb hby d4_4) (by decide) (by decide) (fun _ => ?_) (fun q => absurd q (by decide))
  show Go p e below _ T0 (mkF m 34 #[.val (.ref v1), .val (.ref v2), .unset] [])
  refine OwnGo.iconst X0 hx (z := (0 : Int32)) (hb hby d4_34) (by decide) ?_
  show Go p e below _ T0 (mkF m 35 #[.val (.ref v1), .val (.ref v2), .unset] [(.int (0 : Int32))])
  exact OwnGo.retB X0 hx hlk (z' := (0 : Int32)) hret (hb hby d4_35) rfl ⟨rfl, e0, rfl⟩ (by decide) (by decide)
theorem d3_54 : decode jdk_42_method_66_code 54 = .ok (.iconst 0, 1) := by decide +kernel
theorem own_ef_rmE1 (m : MethodId) (x0 : Addr) (x1 : Addr) : entryFrame m [(.ref x0), (.ref x1)].toArray 3 = mkF m 0 #[.val (.ref x0), .val (.ref x1), .unset] [] := by first | (simp [entryFrame, mkF, argsToLocals, Value.category]; done) | rfl
set_option maxRecDepth 65536 in
set_option maxHeartbeats 40000000 in
theorem rmE1 (l : Launch) (Z : State) (a0 : Array Value) (hw : ∀ d ∈ tables_1, d.before a0 Z = true) (s1 s2 v1 v2 : Addr) (k1 k2 : ClassId) (pz : Int32) (h0 : Heap) (E2 : Exa Z h0 s2 "java/lang/String") (C1 : Fld Z h0 s1 "java/lang/String" "coder" "B" (.int (0 : Int32))) (C2 : Fld Z h0 s2 "java/lang/String" "coder" "B" (.int (0 : Int32))) (W1 : Fld Z h0 s1 "java/lang/String" "value" "[B" (.ref v1)) (W2 : Fld Z h0 s2 "java/lang/String" "value" "[B" (.ref v2)) (V1 : Arv Z h0 v1 k1 .byte (9 : Int32) [(.int (114 : Int32)), (.int (101 : Int32)), (.int (112 : Int32)), (.int (101 : Int32)), (.int (97 : Int32)), (.int (116 : Int32)), (.int (105 : Int32)), (.int (110 : Int32)), (.int (103 : Int32))] (.int (0 : Int32))) (V2 : Arv Z h0 v2 k2 .byte (7 : Int32) [(.int (111 : Int32)), (.int (110 : Int32)), (.int (101 : Int32)), (.int (115 : Int32)), (.int (104 : Int32)), (.int (111 : Int32)), (.int (116 : Int32))] (.int (0 : Int32))) (SC : Sta Z h0 "java/lang/String" "COMPACT_STRINGS" "Z" (.int pz)) (hpz : ¬ pz = 0) :
    Con l Z (⟨"java/lang/String", "equals", "(Ljava/lang/Object;)Z"⟩ : MethodName) jdk_42_method_66_code 3 (some .boolean) ({ frames := 1, cells := 0, slots := 0, locals := 14 } : Room) [(.ref s1), (.ref s2)] h0 (Ret (some (.int 0)) h0) := by
  refine OwnGo.Con.of (plainFor_of_name own_pn2) (Ls0 := #[.val (.ref s1), .val (.ref s2), .unset]) (fun m => own_ef_rmE1 m s1 s2) ?_
  intro p e s m below meth c T0 X0 hx hZ hby hml hown hnm hret hlk e0
  show Go p e below _ T0 (mkF m 0 #[.val (.ref s1), .val (.ref s2), .unset] [])
  refine OwnGo.aloadN X0 hx (hb hby d3_0) rfl rfl ?_
  show Go p e below _ T0 (mkF m 1 #[.val (.ref s1), .val (.ref s2), .unset] [(.ref s1)])
  refine OwnGo.aloadN X0 hx (hb hby d3_1) rfl rfl ?_
  show Go p e below _ T0 (mkF m 2 #[.val (.ref s1), .val (.ref s2), .unset] [(.ref s2), (.ref s1)])
  refine OwnGo.ac_ne X0 hx (pc' := 7) rfl rfl (hb hby d3_2) (by decide) (by decide) (fun h2 => ?_) (fun h2 => (own_clash W1 W2 V1 V2 (by decide) h2).elim)
  show Go p e below _ T0 (mkF m 7 #[.val (.ref s1), .val (.ref s2), .unset] [])
  refine OwnGo.aloadN X0 hx (hb hby d3_7) rfl rfl ?_
  show Go p e below _ T0 (mkF m 8 #[.val (.ref s1), .val (.ref s2), .unset] [(.ref s2)])
  refine OwnGo.instY X0 hx hZ hown (hw _ (List.mem_of_getElem? (i := 37) rfl)) e0 (Ins.self E2) (hb hby d3_8) fun T1 X1 e1 => ?_
  show Go p e below _ T1 (mkF m 11 #[.val (.ref s1), .val (.ref s2), .unset] [(.int (1 : Int32))])
  refine OwnGo.if_eq X1 hx (pc' := 54) (hb hby d3_11) (by decide) (by decide) (fun q => absurd q (by decide)) (fun _ => ?_)
  show Go p e below _ T1 (mkF m 14 #[.val (.ref s1), .val (.ref s2), .unset] [])
  refine OwnGo.aloadN X1 hx (hb hby d3_14) rfl rfl ?_
  show Go p e below _ T1 (mkF m 15 #[.val (.ref s1), .val (.ref s2), .unset] [(.ref s2)])
  refine OwnGo.castY X1 hx hZ hown (hw _ (List.mem_of_getElem? (i := 37) rfl)) e1 (Ins.self E2) (hb hby d3_15) fun T2 X2 e2 => ?_
  show Go p e below _ T2 (mkF m 18 #[.val (.ref s1), .val (.ref s2), .unset] [(.ref s2)])
  refine OwnGo.astoreN X2 hx (hb hby d3_18) rfl (Ls' := #[.val (.ref s1), .val (.ref s2), .val (.ref s2)]) rfl ?_
  show Go p e below _ T2 (mkF m 19 #[.val (.ref s1), .val (.ref s2), .val (.ref s2)] [])
  refine OwnGo.getS X2 hx hZ hown (host := "") (Or.inl (hw _ (List.mem_of_getElem? (i := 39) rfl))) Via.refl e2 SC (hb hby d3_19) fun T3 X3 e3 => ?_
  show Go p e below _ T3 (mkF m 22 #[.val (.ref s1), .val (.ref s2), .val (.ref s2)] [(.int pz)])
  refine OwnGo.if_eq X3 hx (pc' := 36) (hb hby d3_22) (by decide) (by decide) (fun h22 => absurd h22 hpz) (fun h22 => ?_)
  show Go p e below _ T3 (mkF m 25 #[.val (.ref s1), .val (.ref s2), .val (.ref s2)] [])
  refine OwnGo.aloadN X3 hx (hb hby d3_25) rfl rfl ?_
  show Go p e below _ T3 (mkF m 26 #[.val (.ref s1), .val (.ref s2), .val (.ref s2)] [(.ref s1)])
  refine OwnGo.getF X3 hx hZ hown (host := "") (Or.inl (hw _ (List.mem_of_getElem? (i := 40) rfl))) Via.refl e3 C1 (hb hby d3_26) fun T4 X4 e4 => ?_
  show Go p e below _ T4 (mkF m 29 #[.val (.ref s1), .val (.ref s2), .val (.ref s2)] [(.int (0 : Int32))])
  refine OwnGo.aloadN X4 hx (hb hby d3_29) rfl rfl ?_
  show Go p e below _ T4 (mkF m 30 #[.val (.ref s1), .val (.ref s2), .val (.ref s2)] [(.ref s2), (.int (0 : Int32))])
  refine OwnGo.getF X4 hx hZ hown (host := "") (Or.inl (hw _ (List.mem_of_getElem? (i := 40) rfl))) Via.refl e4 C2 (hb hby d3_30) fun T5 X5 e5 => ?_
  show Go p e below _ T5 (mkF m 33 #[.val (.ref s1), .val (.ref s2), .val (.ref s2)] [(.int (0 : Int32)), (.int (0 : Int32))])
  refine OwnGo.ic_ne X5 hx (pc' := 54) (hb hby d3_33) (by decide) (by decide) (fun q => absurd q (by decide)) (fun _ => ?_)
  show Go p e below _ T5 (mkF m 36 #[.val (.ref s1), .val (.ref s2), .val (.ref s2)] [])
  refine OwnGo.aloadN X5 hx (hb hby d3_36) rfl rfl ?_
  show Go p e below _ T5 (mkF m 37 #[.val (.ref s1), .val (.ref s2), .val (.ref s2)] [(.ref s1)])
  refine OwnGo.getF X5 hx hZ hown (host := "") (Or.inl (hw _ (List.mem_of_getElem? (i := 41) rfl))) Via.refl e5 W1 (hb hby d3_37) fun T6 X6 e6 => ?_
  show Go p e below _ T6 (mkF m 40 #[.val (.ref s1), .val (.ref s2), .val (.ref s2)] [(.ref v1)])
  refine OwnGo.aloadN X6 hx (hb hby d3_40) rfl rfl ?_
  show Go p e below _ T6 (mkF m 41 #[.val (.ref s1), .val (.ref s2), .val (.ref s2)] [(.ref s2), (.ref v1)])
  refine OwnGo.getF X6 hx hZ hown (host := "") (Or.inl (hw _ (List.mem_of_getElem? (i := 41) rfl))) Via.refl e6 W2 (hb hby d3_41) fun T7 X7 e7 => ?_
  show Go p e below _ T7 (mkF m 44 #[.val (.ref s1), .val (.ref s2), .val (.ref s2)] [(.ref v2), (.ref v1)])
  refine OwnGo.callS X7 hx hZ hown (y := (⟨"java/lang/StringLatin1", "equals", "([B[B)Z"⟩ : MethodName)) (hw _ (List.mem_of_getElem? (i := 42) rfl)) (hw _ (List.mem_of_getElem? (i := 43) rfl)) (hw _ (List.mem_of_getElem? (i := 44) rfl)) (hw _ (List.mem_of_getElem? (i := 45) rfl)) (by decide) e7 (as := [(.ref v1), (.ref v2)]) (rmL1 l Z a0 hw v1 v2 k1 k2 h0 V1 V2) (W := 0) (by decide) (by decide) (by decide) (by decide) (by rw [hml]; rfl) (lenOf own_pd0 rfl) (rest := []) rfl rfl (hb hby d3_44) fun v8 T8 L8 X8 q8 => ?_
  obtain ⟨rfl, e8, rfl⟩ := q8
  rw [List.append_nil] at X8
  show Go p e below _ T8 (mkF m 47 #[.val (.ref s1), .val (.ref s2), .val (.ref s2)] [(.int (0 : Int32))])
  refine OwnGo.if_eq X8 hx (pc' := 54) (hb hby d3_47) (by decide) (by decide) (fun _ => ?_) (fun q => absurd q (by decide))
  show Go p e below _ T8 (mkF m 54 #[.val (.ref s1), .val (.ref s2), .val (.ref s2)] [])
  refine OwnGo.iconst X8 hx (z := (0 : Int32)) (hb hby d3_54) (by decide) ?_
  show Go p e below _ T8 (mkF m 55 #[.val (.ref s1), .val (.ref s2), .val (.ref s2)] [(.int (0 : Int32))])
  exact OwnGo.retB X8 hx hlk (z' := (0 : Int32)) hret (hb hby d3_55) rfl ⟨rfl, e8, rfl⟩ (by decide) (by decide)
theorem own_ef_rmL2 (m : MethodId) (x0 : Addr) (x1 : Addr) : entryFrame m [(.ref x0), (.ref x1)].toArray 3 = mkF m 0 #[.val (.ref x0), .val (.ref x1), .unset] [] := by first | (simp [entryFrame, mkF, argsToLocals, Value.category]; done) | rfl
set_option maxRecDepth 65536 in
set_option maxHeartbeats 40000000 in
theorem rmL2 (l : Launch) (Z : State) (a0 : Array Value) (hw : ∀ d ∈ tables_1, d.before a0 Z = true) (v1 v2 : Addr) (k1 k2 : ClassId) (h0 : Heap) (V1 : Arv Z h0 v1 k1 .byte (8 : Int32) [(.int (112 : Int32)), (.int (101 : Int32)), (.int (114 : Int32)), (.int (105 : Int32)), (.int (111 : Int32)), (.int (100 : Int32)), (.int (105 : Int32)), (.int (99 : Int32))] (.int (0 : Int32))) (V2 : Arv Z h0 v2 k2 .byte (7 : Int32) [(.int (111 : Int32)), (.int (110 : Int32)), (.int (101 : Int32)), (.int (115 : Int32)), (.int (104 : Int32)), (.int (111 : Int32)), (.int (116 : Int32))] (.int (0 : Int32))) :
    Con l Z (⟨"java/lang/StringLatin1", "equals", "([B[B)Z"⟩ : MethodName) jdk_43_method_13_code 3 (some .boolean) ({ frames := 0, cells := 0, slots := 0, locals := 0 } : Room) [(.ref v1), (.ref v2)] h0 (Ret (some (.int 0)) h0) := by
  refine OwnGo.Con.of (plainFor_of_name own_pn1) (Ls0 := #[.val (.ref v1), .val (.ref v2), .unset]) (fun m => own_ef_rmL2 m v1 v2) ?_
  intro p e s m below meth c T0 X0 hx hZ hby hml hown hnm hret hlk e0
  show Go p e below _ T0 (mkF m 0 #[.val (.ref v1), .val (.ref v2), .unset] [])
  refine OwnGo.aloadN X0 hx (hb hby d4_0) rfl rfl ?_
  show Go p e below _ T0 (mkF m 1 #[.val (.ref v1), .val (.ref v2), .unset] [(.ref v1)])
  obtain ⟨cl1, Ar1, -, Sz1, Nn1, -, -⟩ := (id V1)
  refine OwnGo.arraylength X0 hx hZ e0 Ar1 (len_of Sz1 Nn1) (hb hby d4_1) ?_
  show Go p e below _ T0 (mkF m 2 #[.val (.ref v1), .val (.ref v2), .unset] [(.int (8 : Int32))])
  refine OwnGo.aloadN X0 hx (hb hby d4_2) rfl rfl ?_
  show Go p e below _ T0 (mkF m 3 #[.val (.ref v1), .val (.ref v2), .unset] [(.ref v2), (.int (8 : Int32))])
  obtain ⟨cl2, Ar2, -, Sz2, Nn2, -, -⟩ := (id V2)
  refine OwnGo.arraylength X0 hx hZ e0 Ar2 (len_of Sz2 Nn2) (hb hby d4_3) ?_
  show Go p e below _ T0 (mkF m 4 #[.val (.ref v1), .val (.ref v2), .unset] [(.int (7 : Int32)), (.int (8 : Int32))])
  refine OwnGo.ic_ne X0 hx (pc' := 34) (hb hby d4_4) (by decide) (by decide) (fun _ => ?_) (fun q => absurd q (by decide))
  show Go p e below _ T0 (mkF m 34 #[.val (.ref v1), .val (.ref v2), .unset] [])
  refine OwnGo.iconst X0 hx (z := (0 : Int32)) (hb hby d4_34) (by decide) ?_
  show Go p e below _ T0 (mkF m 35 #[.val (.ref v1), .val (.ref v2), .unset] [(.int (0 : Int32))])
  exact OwnGo.retB X0 hx hlk (z' := (0 : Int32)) hret (hb hby d4_35) rfl ⟨rfl, e0, rfl⟩ (by decide) (by decide)
theorem own_ef_rmE2 (m : MethodId) (x0 : Addr) (x1 : Addr) : entryFrame m [(.ref x0), (.ref x1)].toArray 3 = mkF m 0 #[.val (.ref x0), .val (.ref x1), .unset] [] := by first | (simp [entryFrame, mkF, argsToLocals, Value.category]; done) | rfl
set_option maxRecDepth 65536 in
set_option maxHeartbeats 40000000 in
theorem rmE2 (l : Launch) (Z : State) (a0 : Array Value) (hw : ∀ d ∈ tables_1, d.before a0 Z = true) (s1 s2 v1 v2 : Addr) (k1 k2 : ClassId) (pz : Int32) (h0 : Heap) (E2 : Exa Z h0 s2 "java/lang/String") (C1 : Fld Z h0 s1 "java/lang/String" "coder" "B" (.int (0 : Int32))) (C2 : Fld Z h0 s2 "java/lang/String" "coder" "B" (.int (0 : Int32))) (W1 : Fld Z h0 s1 "java/lang/String" "value" "[B" (.ref v1)) (W2 : Fld Z h0 s2 "java/lang/String" "value" "[B" (.ref v2)) (V1 : Arv Z h0 v1 k1 .byte (8 : Int32) [(.int (112 : Int32)), (.int (101 : Int32)), (.int (114 : Int32)), (.int (105 : Int32)), (.int (111 : Int32)), (.int (100 : Int32)), (.int (105 : Int32)), (.int (99 : Int32))] (.int (0 : Int32))) (V2 : Arv Z h0 v2 k2 .byte (7 : Int32) [(.int (111 : Int32)), (.int (110 : Int32)), (.int (101 : Int32)), (.int (115 : Int32)), (.int (104 : Int32)), (.int (111 : Int32)), (.int (116 : Int32))] (.int (0 : Int32))) (SC : Sta Z h0 "java/lang/String" "COMPACT_STRINGS" "Z" (.int pz)) (hpz : ¬ pz = 0) :
    Con l Z (⟨"java/lang/String", "equals", "(Ljava/lang/Object;)Z"⟩ : MethodName) jdk_42_method_66_code 3 (some .boolean) ({ frames := 1, cells := 0, slots := 0, locals := 14 } : Room) [(.ref s1), (.ref s2)] h0 (Ret (some (.int 0)) h0) := by
  refine OwnGo.Con.of (plainFor_of_name own_pn2) (Ls0 := #[.val (.ref s1), .val (.ref s2), .unset]) (fun m => own_ef_rmE2 m s1 s2) ?_
  intro p e s m below meth c T0 X0 hx hZ hby hml hown hnm hret hlk e0
  show Go p e below _ T0 (mkF m 0 #[.val (.ref s1), .val (.ref s2), .unset] [])
  refine OwnGo.aloadN X0 hx (hb hby d3_0) rfl rfl ?_
  show Go p e below _ T0 (mkF m 1 #[.val (.ref s1), .val (.ref s2), .unset] [(.ref s1)])
  refine OwnGo.aloadN X0 hx (hb hby d3_1) rfl rfl ?_
  show Go p e below _ T0 (mkF m 2 #[.val (.ref s1), .val (.ref s2), .unset] [(.ref s2), (.ref s1)])
  refine OwnGo.ac_ne X0 hx (pc' := 7) rfl rfl (hb hby d3_2) (by decide) (by decide) (fun h2 => ?_) (fun h2 => (own_clash W1 W2 V1 V2 (by decide) h2).elim)
  show Go p e below _ T0 (mkF m 7 #[.val (.ref s1), .val (.ref s2), .unset] [])
  refine OwnGo.aloadN X0 hx (hb hby d3_7) rfl rfl ?_
  show Go p e below _ T0 (mkF m 8 #[.val (.ref s1), .val (.ref s2), .unset] [(.ref s2)])
  refine OwnGo.instY X0 hx hZ hown (hw _ (List.mem_of_getElem? (i := 37) rfl)) e0 (Ins.self E2) (hb hby d3_8) fun T1 X1 e1 => ?_
  show Go p e below _ T1 (mkF m 11 #[.val (.ref s1), .val (.ref s2), .unset] [(.int (1 : Int32))])
  refine OwnGo.if_eq X1 hx (pc' := 54) (hb hby d3_11) (by decide) (by decide) (fun q => absurd q (by decide)) (fun _ => ?_)
  show Go p e below _ T1 (mkF m 14 #[.val (.ref s1), .val (.ref s2), .unset] [])
  refine OwnGo.aloadN X1 hx (hb hby d3_14) rfl rfl ?_
  show Go p e below _ T1 (mkF m 15 #[.val (.ref s1), .val (.ref s2), .unset] [(.ref s2)])
  refine OwnGo.castY X1 hx hZ hown (hw _ (List.mem_of_getElem? (i := 37) rfl)) e1 (Ins.self E2) (hb hby d3_15) fun T2 X2 e2 => ?_
  show Go p e below _ T2 (mkF m 18 #[.val (.ref s1), .val (.ref s2), .unset] [(.ref s2)])
  refine OwnGo.astoreN X2 hx (hb hby d3_18) rfl (Ls' := #[.val (.ref s1), .val (.ref s2), .val (.ref s2)]) rfl ?_
  show Go p e below _ T2 (mkF m 19 #[.val (.ref s1), .val (.ref s2), .val (.ref s2)] [])
  refine OwnGo.getS X2 hx hZ hown (host := "") (Or.inl (hw _ (List.mem_of_getElem? (i := 39) rfl))) Via.refl e2 SC (hb hby d3_19) fun T3 X3 e3 => ?_
  show Go p e below _ T3 (mkF m 22 #[.val (.ref s1), .val (.ref s2), .val (.ref s2)] [(.int pz)])
  refine OwnGo.if_eq X3 hx (pc' := 36) (hb hby d3_22) (by decide) (by decide) (fun h22 => absurd h22 hpz) (fun h22 => ?_)
  show Go p e below _ T3 (mkF m 25 #[.val (.ref s1), .val (.ref s2), .val (.ref s2)] [])
  refine OwnGo.aloadN X3 hx (hb hby d3_25) rfl rfl ?_
  show Go p e below _ T3 (mkF m 26 #[.val (.ref s1), .val (.ref s2), .val (.ref s2)] [(.ref s1)])
  refine OwnGo.getF X3 hx hZ hown (host := "") (Or.inl (hw _ (List.mem_of_getElem? (i := 40) rfl))) Via.refl e3 C1 (hb hby d3_26) fun T4 X4 e4 => ?_
  show Go p e below _ T4 (mkF m 29 #[.val (.ref s1), .val (.ref s2), .val (.ref s2)] [(.int (0 : Int32))])
  refine OwnGo.aloadN X4 hx (hb hby d3_29) rfl rfl ?_
  show Go p e below _ T4 (mkF m 30 #[.val (.ref s1), .val (.ref s2), .val (.ref s2)] [(.ref s2), (.int (0 : Int32))])
  refine OwnGo.getF X4 hx hZ hown (host := "") (Or.inl (hw _ (List.mem_of_getElem? (i := 40) rfl))) Via.refl e4 C2 (hb hby d3_30) fun T5 X5 e5 => ?_
  show Go p e below _ T5 (mkF m 33 #[.val (.ref s1), .val (.ref s2), .val (.ref s2)] [(.int (0 : Int32)), (.int (0 : Int32))])
  refine OwnGo.ic_ne X5 hx (pc' := 54) (hb hby d3_33) (by decide) (by decide) (fun q => absurd q (by decide)) (fun _ => ?_)
  show Go p e below _ T5 (mkF m 36 #[.val (.ref s1), .val (.ref s2), .val (.ref s2)] [])
  refine OwnGo.aloadN X5 hx (hb hby d3_36) rfl rfl ?_
  show Go p e below _ T5 (mkF m 37 #[.val (.ref s1), .val (.ref s2), .val (.ref s2)] [(.ref s1)])
  refine OwnGo.getF X5 hx hZ hown (host := "") (Or.inl (hw _ (List.mem_of_getElem? (i := 41) rfl))) Via.refl e5 W1 (hb hby d3_37) fun T6 X6 e6 => ?_
  show Go p e below _ T6 (mkF m 40 #[.val (.ref s1), .val (.ref s2), .val (.ref s2)] [(.ref v1)])
  refine OwnGo.aloadN X6 hx (hb hby d3_40) rfl rfl ?_
  show Go p e below _ T6 (mkF m 41 #[.val (.ref s1), .val (.ref s2), .val (.ref s2)] [(.ref s2), (.ref v1)])
  refine OwnGo.getF X6 hx hZ hown (host := "") (Or.inl (hw _ (List.mem_of_getElem? (i := 41) rfl))) Via.refl e6 W2 (hb hby d3_41) fun T7 X7 e7 => ?_
  show Go p e below _ T7 (mkF m 44 #[.val (.ref s1), .val (.ref s2), .val (.ref s2)] [(.ref v2), (.ref v1)])
  refine OwnGo.callS X7 hx hZ hown (y := (⟨"java/lang/StringLatin1", "equals", "([B[B)Z"⟩ : MethodName)) (hw _ (List.mem_of_getElem? (i := 42) rfl)) (hw _ (List.mem_of_getElem? (i := 43) rfl)) (hw _ (List.mem_of_getElem? (i := 44) rfl)) (hw _ (List.mem_of_getElem? (i := 45) rfl)) (by decide) e7 (as := [(.ref v1), (.ref v2)]) (rmL2 l Z a0 hw v1 v2 k1 k2 h0 V1 V2) (W := 0) (by decide) (by decide) (by decide) (by decide) (by rw [hml]; rfl) (lenOf own_pd0 rfl) (rest := []) rfl rfl (hb hby d3_44) fun v8 T8 L8 X8 q8 => ?_
  obtain ⟨rfl, e8, rfl⟩ := q8
  rw [List.append_nil] at X8
  show Go p e below _ T8 (mkF m 47 #[.val (.ref s1), .val (.ref s2), .val (.ref s2)] [(.int (0 : Int32))])
  refine OwnGo.if_eq X8 hx (pc' := 54) (hb hby d3_47) (by decide) (by decide) (fun _ => ?_) (fun q => absurd q (by decide))
  show Go p e below _ T8 (mkF m 54 #[.val (.ref s1), .val (.ref s2), .val (.ref s2)] [])
  refine OwnGo.iconst X8 hx (z := (0 : Int32)) (hb hby d3_54) (by decide) ?_
  show Go p e below _ T8 (mkF m 55 #[.val (.ref s1), .val (.ref s2), .val (.ref s2)] [(.int (0 : Int32))])
  exact OwnGo.retB X8 hx hlk (z' := (0 : Int32)) hret (hb hby d3_55) rfl ⟨rfl, e8, rfl⟩ (by decide) (by decide)
theorem own_ef_rm0 (m : MethodId) (x0 : Int32) : entryFrame m [(.int x0)].toArray maxLocals = mkF m 0 #[.val (.int x0), .unset, .unset, .unset, .unset, .unset, .unset] [] := by first | (simp [entryFrame, mkF, argsToLocals, Value.category, maxLocals]; done) | rfl
set_option maxRecDepth 65536 in
set_option maxHeartbeats 40000000 in
theorem rm0 (l : Launch) (Z : State) (a0 : Array Value) (hw : ∀ d ∈ tables_1, d.before a0 Z = true) (p1 pz : Int32) (aONESHOT sONESHOT vONESHOT aREPEATING sREPEATING vREPEATING aPERIODIC sPERIODIC vPERIODIC : Addr) (kONESHOT kREPEATING kPERIODIC : ClassId) (h0 : Heap) (hh0 : Z.heap = h0) (n0 : Nat) (hn0 : n0 = Z.heap.size) (Z0 : n0 ≤ h0.size) (hh : Jvm.Lit.constHeld Z "com/example/itchen/itchen/TaskKindEndsAfterBodyPinLaw" 28) (hcw : Jvm.Lit.compactW.before a0 Z = true) (hpz : ¬ pz = 0) (neR : aREPEATING ≠ aONESHOT) (neP : aPERIODIC ≠ aONESHOT) (SONESHOT : Sta Z h0 "com/example/itchen/itchen/TaskKind" "ONESHOT" "Lcom/example/itchen/itchen/TaskKind;" (.ref aONESHOT)) (EONESHOT : Exa Z h0 aONESHOT "com/example/itchen/itchen/TaskKind") (FkONESHOT : Fld Z h0 aONESHOT "com/example/itchen/itchen/TaskKind" "keyword" "Ljava/lang/String;" (.ref sONESHOT)) (EsONESHOT : Exa Z h0 sONESHOT "java/lang/String") (FcONESHOT : Fld Z h0 sONESHOT "java/lang/String" "coder" "B" (.int (0 : Int32))) (FvONESHOT : Fld Z h0 sONESHOT "java/lang/String" "value" "[B" (.ref vONESHOT)) (VONESHOT : Arv Z h0 vONESHOT kONESHOT .byte (7 : Int32) [(.int (111 : Int32)), (.int (110 : Int32)), (.int (101 : Int32)), (.int (115 : Int32)), (.int (104 : Int32)), (.int (111 : Int32)), (.int (116 : Int32))] (.int (0 : Int32))) (SREPEATING : Sta Z h0 "com/example/itchen/itchen/TaskKind" "REPEATING" "Lcom/example/itchen/itchen/TaskKind;" (.ref aREPEATING)) (EREPEATING : Exa Z h0 aREPEATING "com/example/itchen/itchen/TaskKind") (FkREPEATING : Fld Z h0 aREPEATING "com/example/itchen/itchen/TaskKind" "keyword" "Ljava/lang/String;" (.ref sREPEATING)) (EsREPEATING : Exa Z h0 sREPEATING "java/lang/String") (FcREPEATING : Fld Z h0 sREPEATING "java/lang/String" "coder" "B" (.int (0 : Int32))) (FvREPEATING : Fld Z h0 sREPEATING "java/lang/String" "value" "[B" (.ref vREPEATING)) (VREPEATING : Arv Z h0 vREPEATING kREPEATING .byte (9 : Int32) [(.int (114 : Int32)), (.int (101 : Int32)), (.int (112 : Int32)), (.int (101 : Int32)), (.int (97 : Int32)), (.int (116 : Int32)), (.int (105 : Int32)), (.int (110 : Int32)), (.int (103 : Int32))] (.int (0 : Int32))) (SPERIODIC : Sta Z h0 "com/example/itchen/itchen/TaskKind" "PERIODIC" "Lcom/example/itchen/itchen/TaskKind;" (.ref aPERIODIC)) (EPERIODIC : Exa Z h0 aPERIODIC "com/example/itchen/itchen/TaskKind") (FkPERIODIC : Fld Z h0 aPERIODIC "com/example/itchen/itchen/TaskKind" "keyword" "Ljava/lang/String;" (.ref sPERIODIC)) (EsPERIODIC : Exa Z h0 sPERIODIC "java/lang/String") (FcPERIODIC : Fld Z h0 sPERIODIC "java/lang/String" "coder" "B" (.int (0 : Int32))) (FvPERIODIC : Fld Z h0 sPERIODIC "java/lang/String" "value" "[B" (.ref vPERIODIC)) (VPERIODIC : Arv Z h0 vPERIODIC kPERIODIC .byte (8 : Int32) [(.int (112 : Int32)), (.int (101 : Int32)), (.int (114 : Int32)), (.int (105 : Int32)), (.int (111 : Int32)), (.int (100 : Int32)), (.int (105 : Int32)), (.int (99 : Int32))] (.int (0 : Int32))) (SC : Sta Z h0 "java/lang/String" "COMPACT_STRINGS" "Z" (.int pz)) :
    OwnGo.ConL l Z x code maxLocals ret room_1 [(.int p1)] (fun v _ L => v = some (.int 1) ∧ Fr Z.heap.size L) := by
  refine OwnGo.ConL.of (plainFor_of_name own_pn3) (Ls0 := #[.val (.int p1), .unset, .unset, .unset, .unset, .unset, .unset]) (fun m => own_ef_rm0 m p1) ?_
  intro p e m below meth c T0 X0 hx hZ hby hml hown hnm hret hlk e0
  rw [hh0] at e0
  have hml : c.maxLocals = 7 := hml
  have own_atoms : ∀ a ∈ Bundle.stringAtoms, a.before a0 Z = true := fun d hd => by
    simp only [Bundle.stringAtoms, List.mem_cons, List.not_mem_nil, or_false] at hd
    rcases hd with rfl | rfl | rfl | rfl | rfl | rfl | rfl
    · exact hw _ (List.mem_of_getElem? (i := 25) rfl)
    · exact hw _ (List.mem_of_getElem? (i := 26) rfl)
    · exact hw _ (List.mem_of_getElem? (i := 27) rfl)
    · exact hw _ (List.mem_of_getElem? (i := 28) rfl)
    · exact hw _ (List.mem_of_getElem? (i := 29) rfl)
    · exact hw _ (List.mem_of_getElem? (i := 30) rfl)
    · exact hw _ (List.mem_of_getElem? (i := 31) rfl)
  show Go p e below _ T0 (mkF m 0 #[.val (.int p1), .unset, .unset, .unset, .unset, .unset, .unset] [])
  refine OwnGo.iconst X0 hx (z := (3 : Int32)) (hb hby at_0) (by decide) ?_
  show Go p e below _ T0 (mkF m 1 #[.val (.int p1), .unset, .unset, .unset, .unset, .unset, .unset] [(.int (3 : Int32))])
  refine OwnGo.newR X0 hx hZ hown (hw _ (List.mem_of_getElem? (i := 0) rfl)) (hw _ (List.mem_of_getElem? (i := 1) rfl)) e0 (hb hby at_1) (n := (3 : Int32)) (by decide) (cap := 3) (by decide) (by decide) (by decide) (by decide) fun T1 h1 k1 b1 g1 X1 e1 E1 A1 O1 => ?_
  have gb1 : n0 ≤ b1 := Nat.le_trans Z0 (Nat.le_of_eq g1.symm)
  have gz1 : h0.size ≤ b1 := Nat.le_trans (Keep.refl h0 []).1 (Nat.le_of_eq g1.symm)
  have ne_aONESHOT_b1 : aONESHOT ≠ b1 := Nat.ne_of_lt (Nat.lt_of_lt_of_le EONESHOT.lt (Nat.le_of_eq g1.symm))
  have ne_sONESHOT_b1 : sONESHOT ≠ b1 := Nat.ne_of_lt (Nat.lt_of_lt_of_le EsONESHOT.lt (Nat.le_of_eq g1.symm))
  have ne_vONESHOT_b1 : vONESHOT ≠ b1 := Nat.ne_of_lt (Nat.lt_of_lt_of_le VONESHOT.lt (Nat.le_of_eq g1.symm))
  have ne_aREPEATING_b1 : aREPEATING ≠ b1 := Nat.ne_of_lt (Nat.lt_of_lt_of_le EREPEATING.lt (Nat.le_of_eq g1.symm))
  have ne_sREPEATING_b1 : sREPEATING ≠ b1 := Nat.ne_of_lt (Nat.lt_of_lt_of_le EsREPEATING.lt (Nat.le_of_eq g1.symm))
  have ne_vREPEATING_b1 : vREPEATING ≠ b1 := Nat.ne_of_lt (Nat.lt_of_lt_of_le VREPEATING.lt (Nat.le_of_eq g1.symm))
  have ne_aPERIODIC_b1 : aPERIODIC ≠ b1 := Nat.ne_of_lt (Nat.lt_of_lt_of_le EPERIODIC.lt (Nat.le_of_eq g1.symm))
  have ne_sPERIODIC_b1 : sPERIODIC ≠ b1 := Nat.ne_of_lt (Nat.lt_of_lt_of_le EsPERIODIC.lt (Nat.le_of_eq g1.symm))
  have ne_vPERIODIC_b1 : vPERIODIC ≠ b1 := Nat.ne_of_lt (Nat.lt_of_lt_of_le VPERIODIC.lt (Nat.le_of_eq g1.symm))
  have SONESHOT_c1 := SONESHOT.ext E1
  have EONESHOT_c1 := EONESHOT.ext E1
  have FkONESHOT_c1 := FkONESHOT.ext E1
  have EsONESHOT_c1 := EsONESHOT.ext E1
  have FcONESHOT_c1 := FcONESHOT.ext E1
  have FvONESHOT_c1 := FvONESHOT.ext E1
  have VONESHOT_c1 := VONESHOT.ext E1
  have SREPEATING_c1 := SREPEATING.ext E1
  have EREPEATING_c1 := EREPEATING.ext E1
  have FkREPEATING_c1 := FkREPEATING.ext E1
  have EsREPEATING_c1 := EsREPEATING.ext E1
  have FcREPEATING_c1 := FcREPEATING.ext E1
  have FvREPEATING_c1 := FvREPEATING.ext E1
  have VREPEATING_c1 := VREPEATING.ext E1
  have SPERIODIC_c1 := SPERIODIC.ext E1
  have EPERIODIC_c1 := EPERIODIC.ext E1
  have FkPERIODIC_c1 := FkPERIODIC.ext E1
  have EsPERIODIC_c1 := EsPERIODIC.ext E1
  have FcPERIODIC_c1 := FcPERIODIC.ext E1
  have FvPERIODIC_c1 := FvPERIODIC.ext E1
  have VPERIODIC_c1 := VPERIODIC.ext E1
  have SC_c1 := SC.ext E1
  have Z1 := Nat.le_trans Z0 E1.1
  have K1_ := (Keep.refl h0 []).ext E1
  have V1 : Arv Z h1 b1 k1 (.object "com/example/itchen/itchen/TaskKind") (3 : Int32) [.null, .null, .null] .null := (Arv.new A1 (by decide)).pad (pad_rep [] _ 3)
  show Go p e below _ T1 (mkF m 4 #[.val (.int p1), .unset, .unset, .unset, .unset, .unset, .unset] [(.ref b1)])
  refine OwnGo.astoreN X1 hx (hb hby at_4) rfl (Ls' := #[.val (.int p1), .val (.ref b1), .unset, .unset, .unset, .unset, .unset]) rfl ?_
  show Go p e below _ T1 (mkF m 5 #[.val (.int p1), .val (.ref b1), .unset, .unset, .unset, .unset, .unset] [])
  refine OwnGo.aloadN X1 hx (hb hby at_5) rfl rfl ?_
  show Go p e below _ T1 (mkF m 6 #[.val (.int p1), .val (.ref b1), .unset, .unset, .unset, .unset, .unset] [(.ref b1)])
  refine OwnGo.iconst X1 hx (z := (0 : Int32)) (hb hby at_6) (by decide) ?_
  show Go p e below _ T1 (mkF m 7 #[.val (.int p1), .val (.ref b1), .unset, .unset, .unset, .unset, .unset] [(.int (0 : Int32)), (.ref b1)])
  refine OwnGo.getS X1 hx hZ hown (host := "") (Or.inl (hw _ (List.mem_of_getElem? (i := 2) rfl))) Via.refl e1 SONESHOT_c1 (hb hby at_7) fun T2 X2 e2 => ?_
  show Go p e below _ T2 (mkF m 10 #[.val (.int p1), .val (.ref b1), .unset, .unset, .unset, .unset, .unset] [(.ref aONESHOT), (.int (0 : Int32)), (.ref b1)])
  obtain ⟨cl3, Ar3, Kq3, Sz3, Nn3, Hh3, Gg3⟩ := (id V1)
  have hin3 : ¬ ((0 : Int32) < 0 ∨ cl3.slots.size ≤ ((0 : Int32)).toNatClampNeg) := inb_of Sz3 ⟨by decide, by decide⟩
  refine OwnGo.stR X2 hx hZ e2 Ar3 hin3 rfl (Sto.ofV Ar3 Kq3 O1 (Ins.self EONESHOT_c1)) (hb hby at_10) fun T3 h3 X3 e3 W3 => ?_
  have SONESHOT_c3 := SONESHOT_c1.wr W3
  have EONESHOT_c3 := EONESHOT_c1.wr W3
  have FkONESHOT_c3 := FkONESHOT_c1.other W3 (Or.inl ne_aONESHOT_b1)
  have EsONESHOT_c3 := EsONESHOT_c1.wr W3
  have FcONESHOT_c3 := FcONESHOT_c1.other W3 (Or.inl ne_sONESHOT_b1)
  have FvONESHOT_c3 := FvONESHOT_c1.other W3 (Or.inl ne_sONESHOT_b1)
  have VONESHOT_c3 := VONESHOT_c1.other W3 ne_vONESHOT_b1
  have SREPEATING_c3 := SREPEATING_c1.wr W3
  have EREPEATING_c3 := EREPEATING_c1.wr W3
  have FkREPEATING_c3 := FkREPEATING_c1.other W3 (Or.inl ne_aREPEATING_b1)
  have EsREPEATING_c3 := EsREPEATING_c1.wr W3
  have FcREPEATING_c3 := FcREPEATING_c1.other W3 (Or.inl ne_sREPEATING_b1)
  have FvREPEATING_c3 := FvREPEATING_c1.other W3 (Or.inl ne_sREPEATING_b1)
  have VREPEATING_c3 := VREPEATING_c1.other W3 ne_vREPEATING_b1
  have SPERIODIC_c3 := SPERIODIC_c1.wr W3
  have EPERIODIC_c3 := EPERIODIC_c1.wr W3
  have FkPERIODIC_c3 := FkPERIODIC_c1.other W3 (Or.inl ne_aPERIODIC_b1)
  have EsPERIODIC_c3 := EsPERIODIC_c1.wr W3
  have FcPERIODIC_c3 := FcPERIODIC_c1.other W3 (Or.inl ne_sPERIODIC_b1)
  have FvPERIODIC_c3 := FvPERIODIC_c1.other W3 (Or.inl ne_sPERIODIC_b1)
  have VPERIODIC_c3 := VPERIODIC_c1.other W3 ne_vPERIODIC_b1
  have SC_c3 := SC_c1.wr W3
  have Z3 := Nat.le_trans Z1 (Keep.of_wr W3).1
  have K3_ := K1_.wr W3 (Or.inr gz1)
  have N3_ := Fr.snoc X3 (Fr.nil n0) gb1
  have V3 : Arv Z h3 b1 k1 (.object "com/example/itchen/itchen/TaskKind") (3 : Int32) [(.ref aONESHOT), .null, .null] .null := Arv.set Ar3 Kq3 Sz3 Nn3 Hh3 Gg3 rfl W3 0 rfl (Nat.le_of_ble_eq_true rfl)
  show Go p e below _ T3 (mkF m 11 #[.val (.int p1), .val (.ref b1), .unset, .unset, .unset, .unset, .unset] [])
  refine OwnGo.aloadN X3 hx (hb hby at_11) rfl rfl ?_
  show Go p e below _ T3 (mkF m 12 #[.val (.int p1), .val (.ref b1), .unset, .unset, .unset, .unset, .unset] [(.ref b1)])
  refine OwnGo.iconst X3 hx (z := (1 : Int32)) (hb hby at_12) (by decide) ?_
  show Go p e below _ T3 (mkF m 13 #[.val (.int p1), .val (.ref b1), .unset, .unset, .unset, .unset, .unset] [(.int (1 : Int32)), (.ref b1)])
  refine OwnGo.getS X3 hx hZ hown (host := "") (Or.inl (hw _ (List.mem_of_getElem? (i := 6) rfl))) Via.refl e3 SREPEATING_c3 (hb hby at_13) fun T4 X4 e4 => ?_
  show Go p e below _ T4 (mkF m 16 #[.val (.int p1), .val (.ref b1), .unset, .unset, .unset, .unset, .unset] [(.ref aREPEATING), (.int (1 : Int32)), (.ref b1)])
  obtain ⟨cl5, Ar5, Kq5, Sz5, Nn5, Hh5, Gg5⟩ := (id V3)
  have hin5 : ¬ ((1 : Int32) < 0 ∨ cl5.slots.size ≤ ((1 : Int32)).toNatClampNeg) := inb_of Sz5 ⟨by decide, by decide⟩
  refine OwnGo.stR X4 hx hZ e4 Ar5 hin5 rfl (Sto.ofV Ar5 Kq5 O1 (Ins.self EREPEATING_c3)) (hb hby at_16) fun T5 h5 X5 e5 W5 => ?_
  have SONESHOT_c5 := SONESHOT_c3.wr W5
  have EONESHOT_c5 := EONESHOT_c3.wr W5
  have FkONESHOT_c5 := FkONESHOT_c3.other W5 (Or.inl ne_aONESHOT_b1)
  have EsONESHOT_c5 := EsONESHOT_c3.wr W5
  have FcONESHOT_c5 := FcONESHOT_c3.other W5 (Or.inl ne_sONESHOT_b1)
  have FvONESHOT_c5 := FvONESHOT_c3.other W5 (Or.inl ne_sONESHOT_b1)
  have VONESHOT_c5 := VONESHOT_c3.other W5 ne_vONESHOT_b1
  have SREPEATING_c5 := SREPEATING_c3.wr W5
  have EREPEATING_c5 := EREPEATING_c3.wr W5
  have FkREPEATING_c5 := FkREPEATING_c3.other W5 (Or.inl ne_aREPEATING_b1)
  have EsREPEATING_c5 := EsREPEATING_c3.wr W5
  have FcREPEATING_c5 := FcREPEATING_c3.other W5 (Or.inl ne_sREPEATING_b1)
  have FvREPEATING_c5 := FvREPEATING_c3.other W5 (Or.inl ne_sREPEATING_b1)
  have VREPEATING_c5 := VREPEATING_c3.other W5 ne_vREPEATING_b1
  have SPERIODIC_c5 := SPERIODIC_c3.wr W5
  have EPERIODIC_c5 := EPERIODIC_c3.wr W5
  have FkPERIODIC_c5 := FkPERIODIC_c3.other W5 (Or.inl ne_aPERIODIC_b1)
  have EsPERIODIC_c5 := EsPERIODIC_c3.wr W5
  have FcPERIODIC_c5 := FcPERIODIC_c3.other W5 (Or.inl ne_sPERIODIC_b1)
  have FvPERIODIC_c5 := FvPERIODIC_c3.other W5 (Or.inl ne_sPERIODIC_b1)
  have VPERIODIC_c5 := VPERIODIC_c3.other W5 ne_vPERIODIC_b1
  have SC_c5 := SC_c3.wr W5
  have Z5 := Nat.le_trans Z3 (Keep.of_wr W5).1
  have K5_ := K3_.wr W5 (Or.inr gz1)
  have N5_ := Fr.snoc X5 N3_ gb1
  have V5 : Arv Z h5 b1 k1 (.object "com/example/itchen/itchen/TaskKind") (3 : Int32) [(.ref aONESHOT), (.ref aREPEATING), .null] .null := Arv.set Ar5 Kq5 Sz5 Nn5 Hh5 Gg5 rfl W5 1 rfl (Nat.le_of_ble_eq_true rfl)
  show Go p e below _ T5 (mkF m 17 #[.val (.int p1), .val (.ref b1), .unset, .unset, .unset, .unset, .unset] [])
  refine OwnGo.aloadN X5 hx (hb hby at_17) rfl rfl ?_
  show Go p e below _ T5 (mkF m 18 #[.val (.int p1), .val (.ref b1), .unset, .unset, .unset, .unset, .unset] [(.ref b1)])
  refine OwnGo.iconst X5 hx (z := (2 : Int32)) (hb hby at_18) (by decide) ?_
  show Go p e below _ T5 (mkF m 19 #[.val (.int p1), .val (.ref b1), .unset, .unset, .unset, .unset, .unset] [(.int (2 : Int32)), (.ref b1)])
  refine OwnGo.getS X5 hx hZ hown (host := "") (Or.inl (hw _ (List.mem_of_getElem? (i := 8) rfl))) Via.refl e5 SPERIODIC_c5 (hb hby at_19) fun T6 X6 e6 => ?_
  show Go p e below _ T6 (mkF m 22 #[.val (.int p1), .val (.ref b1), .unset, .unset, .unset, .unset, .unset] [(.ref aPERIODIC), (.int (2 : Int32)), (.ref b1)])
  obtain ⟨cl7, Ar7, Kq7, Sz7, Nn7, Hh7, Gg7⟩ := (id V5)
  have hin7 : ¬ ((2 : Int32) < 0 ∨ cl7.slots.size ≤ ((2 : Int32)).toNatClampNeg) := inb_of Sz7 ⟨by decide, by decide⟩
  refine OwnGo.stR X6 hx hZ e6 Ar7 hin7 rfl (Sto.ofV Ar7 Kq7 O1 (Ins.self EPERIODIC_c5)) (hb hby at_22) fun T7 h7 X7 e7 W7 => ?_
  have SONESHOT_c7 := SONESHOT_c5.wr W7
  have EONESHOT_c7 := EONESHOT_c5.wr W7
  have FkONESHOT_c7 := FkONESHOT_c5.other W7 (Or.inl ne_aONESHOT_b1)
  have EsONESHOT_c7 := EsONESHOT_c5.wr W7
  have FcONESHOT_c7 := FcONESHOT_c5.other W7 (Or.inl ne_sONESHOT_b1)
  have FvONESHOT_c7 := FvONESHOT_c5.other W7 (Or.inl ne_sONESHOT_b1)
  have VONESHOT_c7 := VONESHOT_c5.other W7 ne_vONESHOT_b1
  have SREPEATING_c7 := SREPEATING_c5.wr W7
  have EREPEATING_c7 := EREPEATING_c5.wr W7
  have FkREPEATING_c7 := FkREPEATING_c5.other W7 (Or.inl ne_aREPEATING_b1)
  have EsREPEATING_c7 := EsREPEATING_c5.wr W7
  have FcREPEATING_c7 := FcREPEATING_c5.other W7 (Or.inl ne_sREPEATING_b1)
  have FvREPEATING_c7 := FvREPEATING_c5.other W7 (Or.inl ne_sREPEATING_b1)
  have VREPEATING_c7 := VREPEATING_c5.other W7 ne_vREPEATING_b1
  have SPERIODIC_c7 := SPERIODIC_c5.wr W7
  have EPERIODIC_c7 := EPERIODIC_c5.wr W7
  have FkPERIODIC_c7 := FkPERIODIC_c5.other W7 (Or.inl ne_aPERIODIC_b1)
  have EsPERIODIC_c7 := EsPERIODIC_c5.wr W7
  have FcPERIODIC_c7 := FcPERIODIC_c5.other W7 (Or.inl ne_sPERIODIC_b1)
  have FvPERIODIC_c7 := FvPERIODIC_c5.other W7 (Or.inl ne_sPERIODIC_b1)
  have VPERIODIC_c7 := VPERIODIC_c5.other W7 ne_vPERIODIC_b1
  have SC_c7 := SC_c5.wr W7
  have Z7 := Nat.le_trans Z5 (Keep.of_wr W7).1
  have K7_ := K5_.wr W7 (Or.inr gz1)
  have N7_ := Fr.snoc X7 N5_ gb1
  have V7 : Arv Z h7 b1 k1 (.object "com/example/itchen/itchen/TaskKind") (3 : Int32) [(.ref aONESHOT), (.ref aREPEATING), (.ref aPERIODIC)] .null := Arv.set Ar7 Kq7 Sz7 Nn7 Hh7 Gg7 rfl W7 2 rfl (Nat.le_of_ble_eq_true rfl)
  show Go p e below _ T7 (mkF m 23 #[.val (.int p1), .val (.ref b1), .unset, .unset, .unset, .unset, .unset] [])
  refine OwnGo.iloadN X7 hx (hb hby at_23) rfl ?_
  show Go p e below _ T7 (mkF m 24 #[.val (.int p1), .val (.ref b1), .unset, .unset, .unset, .unset, .unset] [(.int p1)])
  refine OwnGo.ldcInt X7 hx hZ hown (v := (2147483647 : Int32)) (hw _ (List.mem_of_getElem? (i := 10) rfl)) (hb hby at_24) ?_
  show Go p e below _ T7 (mkF m 26 #[.val (.int p1), .val (.ref b1), .unset, .unset, .unset, .unset, .unset] [(.int (2147483647 : Int32)), (.int p1)])
  refine OwnGo.iand X7 hx (hb hby at_26) rfl ?_
  show Go p e below _ T7 (mkF m 27 #[.val (.int p1), .val (.ref b1), .unset, .unset, .unset, .unset, .unset] [(.int (p1 &&& (2147483647 : Int32)))])
  refine OwnGo.iconst X7 hx (z := (3 : Int32)) (hb hby at_27) (by decide) ?_
  show Go p e below _ T7 (mkF m 28 #[.val (.int p1), .val (.ref b1), .unset, .unset, .unset, .unset, .unset] [(.int (3 : Int32)), (.int (p1 &&& (2147483647 : Int32)))])
  refine OwnGo.irem X7 hx (hb hby at_28) (by decide) rfl ?_
  show Go p e below _ T7 (mkF m 29 #[.val (.int p1), .val (.ref b1), .unset, .unset, .unset, .unset, .unset] [(.int ((p1 &&& (2147483647 : Int32)) % (3 : Int32)))])
  refine OwnGo.istoreN X7 hx (hb hby at_29) (Ls' := #[.val (.int p1), .val (.ref b1), .val (.int ((p1 &&& (2147483647 : Int32)) % (3 : Int32))), .unset, .unset, .unset, .unset]) rfl ?_
  rcases own_three p1 with hi | hi | hi
  ·
    rw [hi]
    show Go p e below _ T7 (mkF m 30 #[.val (.int p1), .val (.ref b1), .val (.int (0 : Int32)), .unset, .unset, .unset, .unset] [])
    refine OwnGo.aloadN X7 hx (hb hby at_30) rfl rfl ?_
    show Go p e below _ T7 (mkF m 31 #[.val (.int p1), .val (.ref b1), .val (.int (0 : Int32)), .unset, .unset, .unset, .unset] [(.ref b1)])
    refine OwnGo.iloadN X7 hx (hb hby at_31) rfl ?_
    show Go p e below _ T7 (mkF m 32 #[.val (.int p1), .val (.ref b1), .val (.int (0 : Int32)), .unset, .unset, .unset, .unset] [(.int (0 : Int32)), (.ref b1)])
    obtain ⟨cl8, Ar8, Kq8, Sz8, Nn8, Hh8, Gg8⟩ := (id V7)
    have hin8 : ¬ ((0 : Int32) < 0 ∨ cl8.slots.size ≤ ((0 : Int32)).toNatClampNeg) := inb_of Sz8 ⟨by decide, by decide⟩
    refine OwnGo.aaload X7 hx hZ e7 Ar8 rfl hin8 (Has.at Hh8 hin8 (v := (.ref aONESHOT)) rfl) (hb hby at_32) ?_
    show Go p e below _ T7 (mkF m 33 #[.val (.int p1), .val (.ref b1), .val (.int (0 : Int32)), .unset, .unset, .unset, .unset] [(.ref aONESHOT)])
    refine OwnGo.astoreN X7 hx (hb hby at_33) rfl (Ls' := #[.val (.int p1), .val (.ref b1), .val (.int (0 : Int32)), .val (.ref aONESHOT), .unset, .unset, .unset]) rfl ?_
    show Go p e below _ T7 (mkF m 34 #[.val (.int p1), .val (.ref b1), .val (.int (0 : Int32)), .val (.ref aONESHOT), .unset, .unset, .unset] [])
    refine OwnGo.iloadN X7 hx (hb hby at_34) rfl ?_
    show Go p e below _ T7 (mkF m 35 #[.val (.int p1), .val (.ref b1), .val (.int (0 : Int32)), .val (.ref aONESHOT), .unset, .unset, .unset] [(.int (0 : Int32))])
    refine OwnGo.if_ne X7 hx (pc' := 44) (hb hby at_35) (by decide) (by decide) (fun q => absurd q (by decide)) (fun _ => ?_)
    show Go p e below _ T7 (mkF m 38 #[.val (.int p1), .val (.ref b1), .val (.int (0 : Int32)), .val (.ref aONESHOT), .unset, .unset, .unset] [])
    refine OwnGo.iconst X7 hx (z := (1 : Int32)) (hb hby at_38) (by decide) ?_
    show Go p e below _ T7 (mkF m 39 #[.val (.int p1), .val (.ref b1), .val (.int (0 : Int32)), .val (.ref aONESHOT), .unset, .unset, .unset] [(.int (1 : Int32))])
    refine OwnGo.istore X7 hx (hb hby at_39) (Ls' := #[.val (.int p1), .val (.ref b1), .val (.int (0 : Int32)), .val (.ref aONESHOT), .val (.int (1 : Int32)), .unset, .unset]) rfl ?_
    show Go p e below _ T7 (mkF m 41 #[.val (.int p1), .val (.ref b1), .val (.int (0 : Int32)), .val (.ref aONESHOT), .val (.int (1 : Int32)), .unset, .unset] [])
    refine OwnGo.goto X7 hx (pc' := 58) (hb hby at_41) (by decide) (by decide) ?_
    show Go p e below _ T7 (mkF m 58 #[.val (.int p1), .val (.ref b1), .val (.int (0 : Int32)), .val (.ref aONESHOT), .val (.int (1 : Int32)), .unset, .unset] [])
    refine OwnGo.aloadN X7 hx (hb hby at_58) rfl rfl ?_
    show Go p e below _ T7 (mkF m 59 #[.val (.int p1), .val (.ref b1), .val (.int (0 : Int32)), .val (.ref aONESHOT), .val (.int (1 : Int32)), .unset, .unset] [(.ref aONESHOT)])
    refine OwnGo.callV X7 hx hZ hown (y := (⟨"com/example/itchen/itchen/TaskKind", "endsAfterBody", "()Z"⟩ : MethodName)) (z := (⟨"com/example/itchen/itchen/TaskKind", "endsAfterBody", "()Z"⟩ : MethodName)) (hw _ (List.mem_of_getElem? (i := 11) rfl)) (hw _ (List.mem_of_getElem? (i := 12) rfl)) (notFace_of_selects (args := #[]) (mvT hZ (hw _ (List.mem_of_getElem? (i := 14) rfl)))) (hw _ (List.mem_of_getElem? (i := 14) rfl)) (hw _ (List.mem_of_getElem? (i := 13) rfl)) (hw _ (List.mem_of_getElem? (i := 3) rfl)) (hw _ (List.mem_of_getElem? (i := 15) rfl)) (by decide) e7 EONESHOT_c7 (as := []) (rm1 l Z a0 hw aONESHOT aONESHOT (1 : Int32) h7 SONESHOT_c7 (by simp [neR, neP])) (W := 0) (by decide) (by decide) (by decide) (by decide) (by rw [hml]; rfl) (lenOf own_pd1 rfl) (rest := []) rfl rfl (hb hby at_59) fun v9 T9 L9 X9 q9 => ?_
    obtain ⟨rfl, e9, rfl⟩ := q9
    rw [List.append_nil] at X9
    show Go p e below _ T9 (mkF m 62 #[.val (.int p1), .val (.ref b1), .val (.int (0 : Int32)), .val (.ref aONESHOT), .val (.int (1 : Int32)), .unset, .unset] [(.int (1 : Int32))])
    refine OwnGo.istore X9 hx (hb hby at_62) (Ls' := #[.val (.int p1), .val (.ref b1), .val (.int (0 : Int32)), .val (.ref aONESHOT), .val (.int (1 : Int32)), .val (.int (1 : Int32)), .unset]) rfl ?_
    show Go p e below _ T9 (mkF m 64 #[.val (.int p1), .val (.ref b1), .val (.int (0 : Int32)), .val (.ref aONESHOT), .val (.int (1 : Int32)), .val (.int (1 : Int32)), .unset] [])
    refine OwnGo.aloadN X9 hx (hb hby at_64) rfl rfl ?_
    show Go p e below _ T9 (mkF m 65 #[.val (.int p1), .val (.ref b1), .val (.int (0 : Int32)), .val (.ref aONESHOT), .val (.int (1 : Int32)), .val (.int (1 : Int32)), .unset] [(.ref aONESHOT)])
    refine OwnGo.callV X9 hx hZ hown (y := (⟨"com/example/itchen/itchen/TaskKind", "getKeyword", "()Ljava/lang/String;"⟩ : MethodName)) (z := (⟨"com/example/itchen/itchen/TaskKind", "getKeyword", "()Ljava/lang/String;"⟩ : MethodName)) (hw _ (List.mem_of_getElem? (i := 17) rfl)) (hw _ (List.mem_of_getElem? (i := 18) rfl)) (notFace_of_selects (args := #[]) (mvT hZ (hw _ (List.mem_of_getElem? (i := 20) rfl)))) (hw _ (List.mem_of_getElem? (i := 20) rfl)) (hw _ (List.mem_of_getElem? (i := 19) rfl)) (hw _ (List.mem_of_getElem? (i := 3) rfl)) (hw _ (List.mem_of_getElem? (i := 21) rfl)) (by decide) e9 EONESHOT_c7 (as := []) (rm2 l Z a0 hw aONESHOT sONESHOT h7 FkONESHOT_c7) (W := 0) (by decide) (by decide) (by decide) (by decide) (by rw [hml]; rfl) (lenOf own_pd2 rfl) (rest := []) rfl rfl (hb hby at_65) fun v10 T10 L10 X10 q10 => ?_
    obtain ⟨rfl, e10, rfl⟩ := q10
    rw [List.append_nil] at X10
    show Go p e below _ T10 (mkF m 68 #[.val (.int p1), .val (.ref b1), .val (.int (0 : Int32)), .val (.ref aONESHOT), .val (.int (1 : Int32)), .val (.int (1 : Int32)), .unset] [(.ref sONESHOT)])
    refine OwnGo.ldcSV (s := Z) (vm0 := Z.vm) X10 hx hZ hown (hw _ (List.mem_of_getElem? (i := 24) rfl)) own_atoms e10 (State.WarmedH.since (State.WarmedH.refl Z) _) (Nat.le_refl _) (hn0 ▸ N7_) (fun _ _ q => q) IB.start (by simp) hh hcw (vs := [(.int (111 : Int32)), (.int (110 : Int32)), (.int (101 : Int32)), (.int (115 : Int32)), (.int (104 : Int32)), (.int (111 : Int32)), (.int (116 : Int32))]) (z := (7 : Int32)) ⟨by decide, by decide⟩ (by decide) (by decide) (hb hby at_68) (n := 28) (by decide) (by decide) (by decide) (by decide) fun aL T11 h11 kk11 bL kL X11 e11 E11 hS11 hk11 hZ hown EL CL VL AL => ?_
    have SONESHOT_c11 := SONESHOT_c7.ext E11
    have EONESHOT_c11 := EONESHOT_c7.ext E11
    have FkONESHOT_c11 := FkONESHOT_c7.ext E11
    have EsONESHOT_c11 := EsONESHOT_c7.ext E11
    have FcONESHOT_c11 := FcONESHOT_c7.ext E11
    have FvONESHOT_c11 := FvONESHOT_c7.ext E11
    have VONESHOT_c11 := VONESHOT_c7.ext E11
    have SREPEATING_c11 := SREPEATING_c7.ext E11
    have EREPEATING_c11 := EREPEATING_c7.ext E11
    have FkREPEATING_c11 := FkREPEATING_c7.ext E11
    have EsREPEATING_c11 := EsREPEATING_c7.ext E11
    have FcREPEATING_c11 := FcREPEATING_c7.ext E11
    have FvREPEATING_c11 := FvREPEATING_c7.ext E11
    have VREPEATING_c11 := VREPEATING_c7.ext E11
    have SPERIODIC_c11 := SPERIODIC_c7.ext E11
    have EPERIODIC_c11 := EPERIODIC_c7.ext E11
    have FkPERIODIC_c11 := FkPERIODIC_c7.ext E11
    have EsPERIODIC_c11 := EsPERIODIC_c7.ext E11
    have FcPERIODIC_c11 := FcPERIODIC_c7.ext E11
    have FvPERIODIC_c11 := FvPERIODIC_c7.ext E11
    have VPERIODIC_c11 := VPERIODIC_c7.ext E11
    have SC_c11 := SC_c7.ext E11
    have V7_c11 := V7.ext E11
    have Z11 := Nat.le_trans Z7 E11.1
    have K11_ := K7_.ext E11
    show Go p e below _ T11 (mkF m 70 #[.val (.int p1), .val (.ref b1), .val (.int (0 : Int32)), .val (.ref aONESHOT), .val (.int (1 : Int32)), .val (.int (1 : Int32)), .unset] [(.ref aL), (.ref sONESHOT)])
    refine OwnGo.callV X11 hx hZ hown (y := (⟨"java/lang/String", "equals", "(Ljava/lang/Object;)Z"⟩ : MethodName)) (z := (⟨"java/lang/String", "equals", "(Ljava/lang/Object;)Z"⟩ : MethodName)) (hw _ (List.mem_of_getElem? (i := 32) rfl)) (hw _ (List.mem_of_getElem? (i := 33) rfl)) (notFace_of_selects (args := #[]) (mvT hZ (hw _ (List.mem_of_getElem? (i := 35) rfl)))) (hw _ (List.mem_of_getElem? (i := 35) rfl)) (hw _ (List.mem_of_getElem? (i := 34) rfl)) (hw _ (List.mem_of_getElem? (i := 25) rfl)) (hw _ (List.mem_of_getElem? (i := 36) rfl)) (by decide) e11 EsONESHOT_c11 (as := [(.ref aL)]) (rmE0 l Z a0 hw sONESHOT aL vONESHOT bL kONESHOT kL pz h11 EL FcONESHOT_c11 CL FvONESHOT_c11 VL VONESHOT_c11 AL SC_c11 hpz) (W := 0) (by decide) (by decide) (by decide) (by decide) (by rw [hml]; rfl) (lenOf own_pd3 rfl) (rest := []) rfl rfl (hb hby at_70) fun v12 T12 L12 X12 q12 => ?_
    obtain ⟨rfl, e12, rfl⟩ := q12
    rw [List.append_nil] at X12
    show Go p e below _ T12 (mkF m 73 #[.val (.int p1), .val (.ref b1), .val (.int (0 : Int32)), .val (.ref aONESHOT), .val (.int (1 : Int32)), .val (.int (1 : Int32)), .unset] [(.int (1 : Int32))])
    refine OwnGo.istore X12 hx (hb hby at_73) (Ls' := #[.val (.int p1), .val (.ref b1), .val (.int (0 : Int32)), .val (.ref aONESHOT), .val (.int (1 : Int32)), .val (.int (1 : Int32)), .val (.int (1 : Int32))]) rfl ?_
    show Go p e below _ T12 (mkF m 75 #[.val (.int p1), .val (.ref b1), .val (.int (0 : Int32)), .val (.ref aONESHOT), .val (.int (1 : Int32)), .val (.int (1 : Int32)), .val (.int (1 : Int32))] [])
    refine OwnGo.iload X12 hx (hb hby at_75) rfl ?_
    show Go p e below _ T12 (mkF m 77 #[.val (.int p1), .val (.ref b1), .val (.int (0 : Int32)), .val (.ref aONESHOT), .val (.int (1 : Int32)), .val (.int (1 : Int32)), .val (.int (1 : Int32))] [(.int (1 : Int32))])
    refine OwnGo.iload X12 hx (hb hby at_77) rfl ?_
    show Go p e below _ T12 (mkF m 79 #[.val (.int p1), .val (.ref b1), .val (.int (0 : Int32)), .val (.ref aONESHOT), .val (.int (1 : Int32)), .val (.int (1 : Int32)), .val (.int (1 : Int32))] [(.int (1 : Int32)), (.int (1 : Int32))])
    refine OwnGo.ic_ne X12 hx (pc' := 93) (hb hby at_79) (by decide) (by decide) (fun q => absurd q (by decide)) (fun _ => ?_)
    show Go p e below _ T12 (mkF m 82 #[.val (.int p1), .val (.ref b1), .val (.int (0 : Int32)), .val (.ref aONESHOT), .val (.int (1 : Int32)), .val (.int (1 : Int32)), .val (.int (1 : Int32))] [])
    refine OwnGo.iload X12 hx (hb hby at_82) rfl ?_
    show Go p e below _ T12 (mkF m 84 #[.val (.int p1), .val (.ref b1), .val (.int (0 : Int32)), .val (.ref aONESHOT), .val (.int (1 : Int32)), .val (.int (1 : Int32)), .val (.int (1 : Int32))] [(.int (1 : Int32))])
    refine OwnGo.iload X12 hx (hb hby at_84) rfl ?_
    show Go p e below _ T12 (mkF m 86 #[.val (.int p1), .val (.ref b1), .val (.int (0 : Int32)), .val (.ref aONESHOT), .val (.int (1 : Int32)), .val (.int (1 : Int32)), .val (.int (1 : Int32))] [(.int (1 : Int32)), (.int (1 : Int32))])
    refine OwnGo.ic_ne X12 hx (pc' := 93) (hb hby at_86) (by decide) (by decide) (fun q => absurd q (by decide)) (fun _ => ?_)
    show Go p e below _ T12 (mkF m 89 #[.val (.int p1), .val (.ref b1), .val (.int (0 : Int32)), .val (.ref aONESHOT), .val (.int (1 : Int32)), .val (.int (1 : Int32)), .val (.int (1 : Int32))] [])
    refine OwnGo.iconst X12 hx (z := (1 : Int32)) (hb hby at_89) (by decide) ?_
    show Go p e below _ T12 (mkF m 90 #[.val (.int p1), .val (.ref b1), .val (.int (0 : Int32)), .val (.ref aONESHOT), .val (.int (1 : Int32)), .val (.int (1 : Int32)), .val (.int (1 : Int32))] [(.int (1 : Int32))])
    refine OwnGo.goto X12 hx (pc' := 94) (hb hby at_90) (by decide) (by decide) ?_
    show Go p e below _ T12 (mkF m 94 #[.val (.int p1), .val (.ref b1), .val (.int (0 : Int32)), .val (.ref aONESHOT), .val (.int (1 : Int32)), .val (.int (1 : Int32)), .val (.int (1 : Int32))] [(.int (1 : Int32))])
    exact OwnGo.retBW X12 hx hS11 (by rw [e12]; exact hk11) hlk (z' := (1 : Int32)) hret (hb hby at_94) rfl ⟨rfl, hn0 ▸ N7_⟩ (by decide) (by decide)
  ·
    rw [hi]
    show Go p e below _ T7 (mkF m 30 #[.val (.int p1), .val (.ref b1), .val (.int (1 : Int32)), .unset, .unset, .unset, .unset] [])
    refine OwnGo.aloadN X7 hx (hb hby at_30) rfl rfl ?_
    show Go p e below _ T7 (mkF m 31 #[.val (.int p1), .val (.ref b1), .val (.int (1 : Int32)), .unset, .unset, .unset, .unset] [(.ref b1)])
    refine OwnGo.iloadN X7 hx (hb hby at_31) rfl ?_
    show Go p e below _ T7 (mkF m 32 #[.val (.int p1), .val (.ref b1), .val (.int (1 : Int32)), .unset, .unset, .unset, .unset] [(.int (1 : Int32)), (.ref b1)])
    obtain ⟨cl13, Ar13, Kq13, Sz13, Nn13, Hh13, Gg13⟩ := (id V7)
    have hin13 : ¬ ((1 : Int32) < 0 ∨ cl13.slots.size ≤ ((1 : Int32)).toNatClampNeg) := inb_of Sz13 ⟨by decide, by decide⟩
    refine OwnGo.aaload X7 hx hZ e7 Ar13 rfl hin13 (Has.at Hh13 hin13 (v := (.ref aREPEATING)) rfl) (hb hby at_32) ?_
    show Go p e below _ T7 (mkF m 33 #[.val (.int p1), .val (.ref b1), .val (.int (1 : Int32)), .unset, .unset, .unset, .unset] [(.ref aREPEATING)])
    refine OwnGo.astoreN X7 hx (hb hby at_33) rfl (Ls' := #[.val (.int p1), .val (.ref b1), .val (.int (1 : Int32)), .val (.ref aREPEATING), .unset, .unset, .unset]) rfl ?_
    show Go p e below _ T7 (mkF m 34 #[.val (.int p1), .val (.ref b1), .val (.int (1 : Int32)), .val (.ref aREPEATING), .unset, .unset, .unset] [])
    refine OwnGo.iloadN X7 hx (hb hby at_34) rfl ?_
    show Go p e below _ T7 (mkF m 35 #[.val (.int p1), .val (.ref b1), .val (.int (1 : Int32)), .val (.ref aREPEATING), .unset, .unset, .unset] [(.int (1 : Int32))])
    refine OwnGo.if_ne X7 hx (pc' := 44) (hb hby at_35) (by decide) (by decide) (fun _ => ?_) (fun q => absurd q (by decide))
    show Go p e below _ T7 (mkF m 44 #[.val (.int p1), .val (.ref b1), .val (.int (1 : Int32)), .val (.ref aREPEATING), .unset, .unset, .unset] [])
    refine OwnGo.iloadN X7 hx (hb hby at_44) rfl ?_
    show Go p e below _ T7 (mkF m 45 #[.val (.int p1), .val (.ref b1), .val (.int (1 : Int32)), .val (.ref aREPEATING), .unset, .unset, .unset] [(.int (1 : Int32))])
    refine OwnGo.iconst X7 hx (z := (1 : Int32)) (hb hby at_45) (by decide) ?_
    show Go p e below _ T7 (mkF m 46 #[.val (.int p1), .val (.ref b1), .val (.int (1 : Int32)), .val (.ref aREPEATING), .unset, .unset, .unset] [(.int (1 : Int32)), (.int (1 : Int32))])
    refine OwnGo.ic_ne X7 hx (pc' := 55) (hb hby at_46) (by decide) (by decide) (fun q => absurd q (by decide)) (fun _ => ?_)
    show Go p e below _ T7 (mkF m 49 #[.val (.int p1), .val (.ref b1), .val (.int (1 : Int32)), .val (.ref aREPEATING), .unset, .unset, .unset] [])
    refine OwnGo.iconst X7 hx (z := (0 : Int32)) (hb hby at_49) (by decide) ?_
    show Go p e below _ T7 (mkF m 50 #[.val (.int p1), .val (.ref b1), .val (.int (1 : Int32)), .val (.ref aREPEATING), .unset, .unset, .unset] [(.int (0 : Int32))])
    refine OwnGo.istore X7 hx (hb hby at_50) (Ls' := #[.val (.int p1), .val (.ref b1), .val (.int (1 : Int32)), .val (.ref aREPEATING), .val (.int (0 : Int32)), .unset, .unset]) rfl ?_
    show Go p e below _ T7 (mkF m 52 #[.val (.int p1), .val (.ref b1), .val (.int (1 : Int32)), .val (.ref aREPEATING), .val (.int (0 : Int32)), .unset, .unset] [])
    refine OwnGo.goto X7 hx (pc' := 58) (hb hby at_52) (by decide) (by decide) ?_
    show Go p e below _ T7 (mkF m 58 #[.val (.int p1), .val (.ref b1), .val (.int (1 : Int32)), .val (.ref aREPEATING), .val (.int (0 : Int32)), .unset, .unset] [])
    refine OwnGo.aloadN X7 hx (hb hby at_58) rfl rfl ?_
    show Go p e below _ T7 (mkF m 59 #[.val (.int p1), .val (.ref b1), .val (.int (1 : Int32)), .val (.ref aREPEATING), .val (.int (0 : Int32)), .unset, .unset] [(.ref aREPEATING)])
    refine OwnGo.callV X7 hx hZ hown (y := (⟨"com/example/itchen/itchen/TaskKind", "endsAfterBody", "()Z"⟩ : MethodName)) (z := (⟨"com/example/itchen/itchen/TaskKind", "endsAfterBody", "()Z"⟩ : MethodName)) (hw _ (List.mem_of_getElem? (i := 11) rfl)) (hw _ (List.mem_of_getElem? (i := 12) rfl)) (notFace_of_selects (args := #[]) (mvT hZ (hw _ (List.mem_of_getElem? (i := 14) rfl)))) (hw _ (List.mem_of_getElem? (i := 14) rfl)) (hw _ (List.mem_of_getElem? (i := 13) rfl)) (hw _ (List.mem_of_getElem? (i := 3) rfl)) (hw _ (List.mem_of_getElem? (i := 15) rfl)) (by decide) e7 EREPEATING_c7 (as := []) (rm1 l Z a0 hw aREPEATING aONESHOT (0 : Int32) h7 SONESHOT_c7 (by simp [neR, neP])) (W := 0) (by decide) (by decide) (by decide) (by decide) (by rw [hml]; rfl) (lenOf own_pd1 rfl) (rest := []) rfl rfl (hb hby at_59) fun v14 T14 L14 X14 q14 => ?_
    obtain ⟨rfl, e14, rfl⟩ := q14
    rw [List.append_nil] at X14
    show Go p e below _ T14 (mkF m 62 #[.val (.int p1), .val (.ref b1), .val (.int (1 : Int32)), .val (.ref aREPEATING), .val (.int (0 : Int32)), .unset, .unset] [(.int (0 : Int32))])
    refine OwnGo.istore X14 hx (hb hby at_62) (Ls' := #[.val (.int p1), .val (.ref b1), .val (.int (1 : Int32)), .val (.ref aREPEATING), .val (.int (0 : Int32)), .val (.int (0 : Int32)), .unset]) rfl ?_
    show Go p e below _ T14 (mkF m 64 #[.val (.int p1), .val (.ref b1), .val (.int (1 : Int32)), .val (.ref aREPEATING), .val (.int (0 : Int32)), .val (.int (0 : Int32)), .unset] [])
    refine OwnGo.aloadN X14 hx (hb hby at_64) rfl rfl ?_
    show Go p e below _ T14 (mkF m 65 #[.val (.int p1), .val (.ref b1), .val (.int (1 : Int32)), .val (.ref aREPEATING), .val (.int (0 : Int32)), .val (.int (0 : Int32)), .unset] [(.ref aREPEATING)])
    refine OwnGo.callV X14 hx hZ hown (y := (⟨"com/example/itchen/itchen/TaskKind", "getKeyword", "()Ljava/lang/String;"⟩ : MethodName)) (z := (⟨"com/example/itchen/itchen/TaskKind", "getKeyword", "()Ljava/lang/String;"⟩ : MethodName)) (hw _ (List.mem_of_getElem? (i := 17) rfl)) (hw _ (List.mem_of_getElem? (i := 18) rfl)) (notFace_of_selects (args := #[]) (mvT hZ (hw _ (List.mem_of_getElem? (i := 20) rfl)))) (hw _ (List.mem_of_getElem? (i := 20) rfl)) (hw _ (List.mem_of_getElem? (i := 19) rfl)) (hw _ (List.mem_of_getElem? (i := 3) rfl)) (hw _ (List.mem_of_getElem? (i := 21) rfl)) (by decide) e14 EREPEATING_c7 (as := []) (rm2 l Z a0 hw aREPEATING sREPEATING h7 FkREPEATING_c7) (W := 0) (by decide) (by decide) (by decide) (by decide) (by rw [hml]; rfl) (lenOf own_pd2 rfl) (rest := []) rfl rfl (hb hby at_65) fun v15 T15 L15 X15 q15 => ?_
    obtain ⟨rfl, e15, rfl⟩ := q15
    rw [List.append_nil] at X15
    show Go p e below _ T15 (mkF m 68 #[.val (.int p1), .val (.ref b1), .val (.int (1 : Int32)), .val (.ref aREPEATING), .val (.int (0 : Int32)), .val (.int (0 : Int32)), .unset] [(.ref sREPEATING)])
    refine OwnGo.ldcSV (s := Z) (vm0 := Z.vm) X15 hx hZ hown (hw _ (List.mem_of_getElem? (i := 24) rfl)) own_atoms e15 (State.WarmedH.since (State.WarmedH.refl Z) _) (Nat.le_refl _) (hn0 ▸ N7_) (fun _ _ q => q) IB.start (by simp) hh hcw (vs := [(.int (111 : Int32)), (.int (110 : Int32)), (.int (101 : Int32)), (.int (115 : Int32)), (.int (104 : Int32)), (.int (111 : Int32)), (.int (116 : Int32))]) (z := (7 : Int32)) ⟨by decide, by decide⟩ (by decide) (by decide) (hb hby at_68) (n := 28) (by decide) (by decide) (by decide) (by decide) fun aL T16 h16 kk16 bL kL X16 e16 E16 hS16 hk16 hZ hown EL CL VL AL => ?_
    have SONESHOT_c16 := SONESHOT_c7.ext E16
    have EONESHOT_c16 := EONESHOT_c7.ext E16
    have FkONESHOT_c16 := FkONESHOT_c7.ext E16
    have EsONESHOT_c16 := EsONESHOT_c7.ext E16
    have FcONESHOT_c16 := FcONESHOT_c7.ext E16
    have FvONESHOT_c16 := FvONESHOT_c7.ext E16
    have VONESHOT_c16 := VONESHOT_c7.ext E16
    have SREPEATING_c16 := SREPEATING_c7.ext E16
    have EREPEATING_c16 := EREPEATING_c7.ext E16
    have FkREPEATING_c16 := FkREPEATING_c7.ext E16
    have EsREPEATING_c16 := EsREPEATING_c7.ext E16
    have FcREPEATING_c16 := FcREPEATING_c7.ext E16
    have FvREPEATING_c16 := FvREPEATING_c7.ext E16
    have VREPEATING_c16 := VREPEATING_c7.ext E16
    have SPERIODIC_c16 := SPERIODIC_c7.ext E16
    have EPERIODIC_c16 := EPERIODIC_c7.ext E16
    have FkPERIODIC_c16 := FkPERIODIC_c7.ext E16
    have EsPERIODIC_c16 := EsPERIODIC_c7.ext E16
    have FcPERIODIC_c16 := FcPERIODIC_c7.ext E16
    have FvPERIODIC_c16 := FvPERIODIC_c7.ext E16
    have VPERIODIC_c16 := VPERIODIC_c7.ext E16
    have SC_c16 := SC_c7.ext E16
    have V7_c16 := V7.ext E16
    have Z16 := Nat.le_trans Z7 E16.1
    have K16_ := K7_.ext E16
    show Go p e below _ T16 (mkF m 70 #[.val (.int p1), .val (.ref b1), .val (.int (1 : Int32)), .val (.ref aREPEATING), .val (.int (0 : Int32)), .val (.int (0 : Int32)), .unset] [(.ref aL), (.ref sREPEATING)])
    refine OwnGo.callV X16 hx hZ hown (y := (⟨"java/lang/String", "equals", "(Ljava/lang/Object;)Z"⟩ : MethodName)) (z := (⟨"java/lang/String", "equals", "(Ljava/lang/Object;)Z"⟩ : MethodName)) (hw _ (List.mem_of_getElem? (i := 32) rfl)) (hw _ (List.mem_of_getElem? (i := 33) rfl)) (notFace_of_selects (args := #[]) (mvT hZ (hw _ (List.mem_of_getElem? (i := 35) rfl)))) (hw _ (List.mem_of_getElem? (i := 35) rfl)) (hw _ (List.mem_of_getElem? (i := 34) rfl)) (hw _ (List.mem_of_getElem? (i := 25) rfl)) (hw _ (List.mem_of_getElem? (i := 36) rfl)) (by decide) e16 EsREPEATING_c16 (as := [(.ref aL)]) (rmE1 l Z a0 hw sREPEATING aL vREPEATING bL kREPEATING kL pz h16 EL FcREPEATING_c16 CL FvREPEATING_c16 VL VREPEATING_c16 AL SC_c16 hpz) (W := 0) (by decide) (by decide) (by decide) (by decide) (by rw [hml]; rfl) (lenOf own_pd3 rfl) (rest := []) rfl rfl (hb hby at_70) fun v17 T17 L17 X17 q17 => ?_
    obtain ⟨rfl, e17, rfl⟩ := q17
    rw [List.append_nil] at X17
    show Go p e below _ T17 (mkF m 73 #[.val (.int p1), .val (.ref b1), .val (.int (1 : Int32)), .val (.ref aREPEATING), .val (.int (0 : Int32)), .val (.int (0 : Int32)), .unset] [(.int (0 : Int32))])
    refine OwnGo.istore X17 hx (hb hby at_73) (Ls' := #[.val (.int p1), .val (.ref b1), .val (.int (1 : Int32)), .val (.ref aREPEATING), .val (.int (0 : Int32)), .val (.int (0 : Int32)), .val (.int (0 : Int32))]) rfl ?_
    show Go p e below _ T17 (mkF m 75 #[.val (.int p1), .val (.ref b1), .val (.int (1 : Int32)), .val (.ref aREPEATING), .val (.int (0 : Int32)), .val (.int (0 : Int32)), .val (.int (0 : Int32))] [])
    refine OwnGo.iload X17 hx (hb hby at_75) rfl ?_
    show Go p e below _ T17 (mkF m 77 #[.val (.int p1), .val (.ref b1), .val (.int (1 : Int32)), .val (.ref aREPEATING), .val (.int (0 : Int32)), .val (.int (0 : Int32)), .val (.int (0 : Int32))] [(.int (0 : Int32))])
    refine OwnGo.iload X17 hx (hb hby at_77) rfl ?_
    show Go p e below _ T17 (mkF m 79 #[.val (.int p1), .val (.ref b1), .val (.int (1 : Int32)), .val (.ref aREPEATING), .val (.int (0 : Int32)), .val (.int (0 : Int32)), .val (.int (0 : Int32))] [(.int (0 : Int32)), (.int (0 : Int32))])
    refine OwnGo.ic_ne X17 hx (pc' := 93) (hb hby at_79) (by decide) (by decide) (fun q => absurd q (by decide)) (fun _ => ?_)
    show Go p e below _ T17 (mkF m 82 #[.val (.int p1), .val (.ref b1), .val (.int (1 : Int32)), .val (.ref aREPEATING), .val (.int (0 : Int32)), .val (.int (0 : Int32)), .val (.int (0 : Int32))] [])
    refine OwnGo.iload X17 hx (hb hby at_82) rfl ?_
    show Go p e below _ T17 (mkF m 84 #[.val (.int p1), .val (.ref b1), .val (.int (1 : Int32)), .val (.ref aREPEATING), .val (.int (0 : Int32)), .val (.int (0 : Int32)), .val (.int (0 : Int32))] [(.int (0 : Int32))])
    refine OwnGo.iload X17 hx (hb hby at_84) rfl ?_
    show Go p e below _ T17 (mkF m 86 #[.val (.int p1), .val (.ref b1), .val (.int (1 : Int32)), .val (.ref aREPEATING), .val (.int (0 : Int32)), .val (.int (0 : Int32)), .val (.int (0 : Int32))] [(.int (0 : Int32)), (.int (0 : Int32))])
    refine OwnGo.ic_ne X17 hx (pc' := 93) (hb hby at_86) (by decide) (by decide) (fun q => absurd q (by decide)) (fun _ => ?_)
    show Go p e below _ T17 (mkF m 89 #[.val (.int p1), .val (.ref b1), .val (.int (1 : Int32)), .val (.ref aREPEATING), .val (.int (0 : Int32)), .val (.int (0 : Int32)), .val (.int (0 : Int32))] [])
    refine OwnGo.iconst X17 hx (z := (1 : Int32)) (hb hby at_89) (by decide) ?_
    show Go p e below _ T17 (mkF m 90 #[.val (.int p1), .val (.ref b1), .val (.int (1 : Int32)), .val (.ref aREPEATING), .val (.int (0 : Int32)), .val (.int (0 : Int32)), .val (.int (0 : Int32))] [(.int (1 : Int32))])
    refine OwnGo.goto X17 hx (pc' := 94) (hb hby at_90) (by decide) (by decide) ?_
    show Go p e below _ T17 (mkF m 94 #[.val (.int p1), .val (.ref b1), .val (.int (1 : Int32)), .val (.ref aREPEATING), .val (.int (0 : Int32)), .val (.int (0 : Int32)), .val (.int (0 : Int32))] [(.int (1 : Int32))])
    exact OwnGo.retBW X17 hx hS16 (by rw [e17]; exact hk16) hlk (z' := (1 : Int32)) hret (hb hby at_94) rfl ⟨rfl, hn0 ▸ N7_⟩ (by decide) (by decide)
  ·
    rw [hi]
    show Go p e below _ T7 (mkF m 30 #[.val (.int p1), .val (.ref b1), .val (.int (2 : Int32)), .unset, .unset, .unset, .unset] [])
    refine OwnGo.aloadN X7 hx (hb hby at_30) rfl rfl ?_
    show Go p e below _ T7 (mkF m 31 #[.val (.int p1), .val (.ref b1), .val (.int (2 : Int32)), .unset, .unset, .unset, .unset] [(.ref b1)])
    refine OwnGo.iloadN X7 hx (hb hby at_31) rfl ?_
    show Go p e below _ T7 (mkF m 32 #[.val (.int p1), .val (.ref b1), .val (.int (2 : Int32)), .unset, .unset, .unset, .unset] [(.int (2 : Int32)), (.ref b1)])
    obtain ⟨cl18, Ar18, Kq18, Sz18, Nn18, Hh18, Gg18⟩ := (id V7)
    have hin18 : ¬ ((2 : Int32) < 0 ∨ cl18.slots.size ≤ ((2 : Int32)).toNatClampNeg) := inb_of Sz18 ⟨by decide, by decide⟩
    refine OwnGo.aaload X7 hx hZ e7 Ar18 rfl hin18 (Has.at Hh18 hin18 (v := (.ref aPERIODIC)) rfl) (hb hby at_32) ?_
    show Go p e below _ T7 (mkF m 33 #[.val (.int p1), .val (.ref b1), .val (.int (2 : Int32)), .unset, .unset, .unset, .unset] [(.ref aPERIODIC)])
    refine OwnGo.astoreN X7 hx (hb hby at_33) rfl (Ls' := #[.val (.int p1), .val (.ref b1), .val (.int (2 : Int32)), .val (.ref aPERIODIC), .unset, .unset, .unset]) rfl ?_
    show Go p e below _ T7 (mkF m 34 #[.val (.int p1), .val (.ref b1), .val (.int (2 : Int32)), .val (.ref aPERIODIC), .unset, .unset, .unset] [])
    refine OwnGo.iloadN X7 hx (hb hby at_34) rfl ?_
    show Go p e below _ T7 (mkF m 35 #[.val (.int p1), .val (.ref b1), .val (.int (2 : Int32)), .val (.ref aPERIODIC), .unset, .unset, .unset] [(.int (2 : Int32))])
    refine OwnGo.if_ne X7 hx (pc' := 44) (hb hby at_35) (by decide) (by decide) (fun _ => ?_) (fun q => absurd q (by decide))
    show Go p e below _ T7 (mkF m 44 #[.val (.int p1), .val (.ref b1), .val (.int (2 : Int32)), .val (.ref aPERIODIC), .unset, .unset, .unset] [])
    refine OwnGo.iloadN X7 hx (hb hby at_44) rfl ?_
    show Go p e below _ T7 (mkF m 45 #[.val (.int p1), .val (.ref b1), .val (.int (2 : Int32)), .val (.ref aPERIODIC), .unset, .unset, .unset] [(.int (2 : Int32))])
    refine OwnGo.iconst X7 hx (z := (1 : Int32)) (hb hby at_45) (by decide) ?_
    show Go p e below _ T7 (mkF m 46 #[.val (.int p1), .val (.ref b1), .val (.int (2 : Int32)), .val (.ref aPERIODIC), .unset, .unset, .unset] [(.int (1 : Int32)), (.int (2 : Int32))])
    refine OwnGo.ic_ne X7 hx (pc' := 55) (hb hby at_46) (by decide) (by decide) (fun _ => ?_) (fun q => absurd q (by decide))
    show Go p e below _ T7 (mkF m 55 #[.val (.int p1), .val (.ref b1), .val (.int (2 : Int32)), .val (.ref aPERIODIC), .unset, .unset, .unset] [])
    refine OwnGo.iconst X7 hx (z := (0 : Int32)) (hb hby at_55) (by decide) ?_
    show Go p e below _ T7 (mkF m 56 #[.val (.int p1), .val (.ref b1), .val (.int (2 : Int32)), .val (.ref aPERIODIC), .unset, .unset, .unset] [(.int (0 : Int32))])
    refine OwnGo.istore X7 hx (hb hby at_56) (Ls' := #[.val (.int p1), .val (.ref b1), .val (.int (2 : Int32)), .val (.ref aPERIODIC), .val (.int (0 : Int32)), .unset, .unset]) rfl ?_
    show Go p e below _ T7 (mkF m 58 #[.val (.int p1), .val (.ref b1), .val (.int (2 : Int32)), .val (.ref aPERIODIC), .val (.int (0 : Int32)), .unset, .unset] [])
    refine OwnGo.aloadN X7 hx (hb hby at_58) rfl rfl ?_
    show Go p e below _ T7 (mkF m 59 #[.val (.int p1), .val (.ref b1), .val (.int (2 : Int32)), .val (.ref aPERIODIC), .val (.int (0 : Int32)), .unset, .unset] [(.ref aPERIODIC)])
    refine OwnGo.callV X7 hx hZ hown (y := (⟨"com/example/itchen/itchen/TaskKind", "endsAfterBody", "()Z"⟩ : MethodName)) (z := (⟨"com/example/itchen/itchen/TaskKind", "endsAfterBody", "()Z"⟩ : MethodName)) (hw _ (List.mem_of_getElem? (i := 11) rfl)) (hw _ (List.mem_of_getElem? (i := 12) rfl)) (notFace_of_selects (args := #[]) (mvT hZ (hw _ (List.mem_of_getElem? (i := 14) rfl)))) (hw _ (List.mem_of_getElem? (i := 14) rfl)) (hw _ (List.mem_of_getElem? (i := 13) rfl)) (hw _ (List.mem_of_getElem? (i := 3) rfl)) (hw _ (List.mem_of_getElem? (i := 15) rfl)) (by decide) e7 EPERIODIC_c7 (as := []) (rm1 l Z a0 hw aPERIODIC aONESHOT (0 : Int32) h7 SONESHOT_c7 (by simp [neR, neP])) (W := 0) (by decide) (by decide) (by decide) (by decide) (by rw [hml]; rfl) (lenOf own_pd1 rfl) (rest := []) rfl rfl (hb hby at_59) fun v19 T19 L19 X19 q19 => ?_
    obtain ⟨rfl, e19, rfl⟩ := q19
    rw [List.append_nil] at X19
    show Go p e below _ T19 (mkF m 62 #[.val (.int p1), .val (.ref b1), .val (.int (2 : Int32)), .val (.ref aPERIODIC), .val (.int (0 : Int32)), .unset, .unset] [(.int (0 : Int32))])
    refine OwnGo.istore X19 hx (hb hby at_62) (Ls' := #[.val (.int p1), .val (.ref b1), .val (.int (2 : Int32)), .val (.ref aPERIODIC), .val (.int (0 : Int32)), .val (.int (0 : Int32)), .unset]) rfl ?_
    show Go p e below _ T19 (mkF m 64 #[.val (.int p1), .val (.ref b1), .val (.int (2 : Int32)), .val (.ref aPERIODIC), .val (.int (0 : Int32)), .val (.int (0 : Int32)), .unset] [])
    refine OwnGo.aloadN X19 hx (hb hby at_64) rfl rfl ?_
    show Go p e below _ T19 (mkF m 65 #[.val (.int p1), .val (.ref b1), .val (.int (2 : Int32)), .val (.ref aPERIODIC), .val (.int (0 : Int32)), .val (.int (0 : Int32)), .unset] [(.ref aPERIODIC)])
    refine OwnGo.callV X19 hx hZ hown (y := (⟨"com/example/itchen/itchen/TaskKind", "getKeyword", "()Ljava/lang/String;"⟩ : MethodName)) (z := (⟨"com/example/itchen/itchen/TaskKind", "getKeyword", "()Ljava/lang/String;"⟩ : MethodName)) (hw _ (List.mem_of_getElem? (i := 17) rfl)) (hw _ (List.mem_of_getElem? (i := 18) rfl)) (notFace_of_selects (args := #[]) (mvT hZ (hw _ (List.mem_of_getElem? (i := 20) rfl)))) (hw _ (List.mem_of_getElem? (i := 20) rfl)) (hw _ (List.mem_of_getElem? (i := 19) rfl)) (hw _ (List.mem_of_getElem? (i := 3) rfl)) (hw _ (List.mem_of_getElem? (i := 21) rfl)) (by decide) e19 EPERIODIC_c7 (as := []) (rm2 l Z a0 hw aPERIODIC sPERIODIC h7 FkPERIODIC_c7) (W := 0) (by decide) (by decide) (by decide) (by decide) (by rw [hml]; rfl) (lenOf own_pd2 rfl) (rest := []) rfl rfl (hb hby at_65) fun v20 T20 L20 X20 q20 => ?_
    obtain ⟨rfl, e20, rfl⟩ := q20
    rw [List.append_nil] at X20
    show Go p e below _ T20 (mkF m 68 #[.val (.int p1), .val (.ref b1), .val (.int (2 : Int32)), .val (.ref aPERIODIC), .val (.int (0 : Int32)), .val (.int (0 : Int32)), .unset] [(.ref sPERIODIC)])
    refine OwnGo.ldcSV (s := Z) (vm0 := Z.vm) X20 hx hZ hown (hw _ (List.mem_of_getElem? (i := 24) rfl)) own_atoms e20 (State.WarmedH.since (State.WarmedH.refl Z) _) (Nat.le_refl _) (hn0 ▸ N7_) (fun _ _ q => q) IB.start (by simp) hh hcw (vs := [(.int (111 : Int32)), (.int (110 : Int32)), (.int (101 : Int32)), (.int (115 : Int32)), (.int (104 : Int32)), (.int (111 : Int32)), (.int (116 : Int32))]) (z := (7 : Int32)) ⟨by decide, by decide⟩ (by decide) (by decide) (hb hby at_68) (n := 28) (by decide) (by decide) (by decide) (by decide) fun aL T21 h21 kk21 bL kL X21 e21 E21 hS21 hk21 hZ hown EL CL VL AL => ?_
    have SONESHOT_c21 := SONESHOT_c7.ext E21
    have EONESHOT_c21 := EONESHOT_c7.ext E21
    have FkONESHOT_c21 := FkONESHOT_c7.ext E21
    have EsONESHOT_c21 := EsONESHOT_c7.ext E21
    have FcONESHOT_c21 := FcONESHOT_c7.ext E21
    have FvONESHOT_c21 := FvONESHOT_c7.ext E21
    have VONESHOT_c21 := VONESHOT_c7.ext E21
    have SREPEATING_c21 := SREPEATING_c7.ext E21
    have EREPEATING_c21 := EREPEATING_c7.ext E21
    have FkREPEATING_c21 := FkREPEATING_c7.ext E21
    have EsREPEATING_c21 := EsREPEATING_c7.ext E21
    have FcREPEATING_c21 := FcREPEATING_c7.ext E21
    have FvREPEATING_c21 := FvREPEATING_c7.ext E21
    have VREPEATING_c21 := VREPEATING_c7.ext E21
    have SPERIODIC_c21 := SPERIODIC_c7.ext E21
    have EPERIODIC_c21 := EPERIODIC_c7.ext E21
    have FkPERIODIC_c21 := FkPERIODIC_c7.ext E21
    have EsPERIODIC_c21 := EsPERIODIC_c7.ext E21
    have FcPERIODIC_c21 := FcPERIODIC_c7.ext E21
    have FvPERIODIC_c21 := FvPERIODIC_c7.ext E21
    have VPERIODIC_c21 := VPERIODIC_c7.ext E21
    have SC_c21 := SC_c7.ext E21
    have V7_c21 := V7.ext E21
    have Z21 := Nat.le_trans Z7 E21.1
    have K21_ := K7_.ext E21
    show Go p e below _ T21 (mkF m 70 #[.val (.int p1), .val (.ref b1), .val (.int (2 : Int32)), .val (.ref aPERIODIC), .val (.int (0 : Int32)), .val (.int (0 : Int32)), .unset] [(.ref aL), (.ref sPERIODIC)])
    refine OwnGo.callV X21 hx hZ hown (y := (⟨"java/lang/String", "equals", "(Ljava/lang/Object;)Z"⟩ : MethodName)) (z := (⟨"java/lang/String", "equals", "(Ljava/lang/Object;)Z"⟩ : MethodName)) (hw _ (List.mem_of_getElem? (i := 32) rfl)) (hw _ (List.mem_of_getElem? (i := 33) rfl)) (notFace_of_selects (args := #[]) (mvT hZ (hw _ (List.mem_of_getElem? (i := 35) rfl)))) (hw _ (List.mem_of_getElem? (i := 35) rfl)) (hw _ (List.mem_of_getElem? (i := 34) rfl)) (hw _ (List.mem_of_getElem? (i := 25) rfl)) (hw _ (List.mem_of_getElem? (i := 36) rfl)) (by decide) e21 EsPERIODIC_c21 (as := [(.ref aL)]) (rmE2 l Z a0 hw sPERIODIC aL vPERIODIC bL kPERIODIC kL pz h21 EL FcPERIODIC_c21 CL FvPERIODIC_c21 VL VPERIODIC_c21 AL SC_c21 hpz) (W := 0) (by decide) (by decide) (by decide) (by decide) (by rw [hml]; rfl) (lenOf own_pd3 rfl) (rest := []) rfl rfl (hb hby at_70) fun v22 T22 L22 X22 q22 => ?_
    obtain ⟨rfl, e22, rfl⟩ := q22
    rw [List.append_nil] at X22
    show Go p e below _ T22 (mkF m 73 #[.val (.int p1), .val (.ref b1), .val (.int (2 : Int32)), .val (.ref aPERIODIC), .val (.int (0 : Int32)), .val (.int (0 : Int32)), .unset] [(.int (0 : Int32))])
    refine OwnGo.istore X22 hx (hb hby at_73) (Ls' := #[.val (.int p1), .val (.ref b1), .val (.int (2 : Int32)), .val (.ref aPERIODIC), .val (.int (0 : Int32)), .val (.int (0 : Int32)), .val (.int (0 : Int32))]) rfl ?_
    show Go p e below _ T22 (mkF m 75 #[.val (.int p1), .val (.ref b1), .val (.int (2 : Int32)), .val (.ref aPERIODIC), .val (.int (0 : Int32)), .val (.int (0 : Int32)), .val (.int (0 : Int32))] [])
    refine OwnGo.iload X22 hx (hb hby at_75) rfl ?_
    show Go p e below _ T22 (mkF m 77 #[.val (.int p1), .val (.ref b1), .val (.int (2 : Int32)), .val (.ref aPERIODIC), .val (.int (0 : Int32)), .val (.int (0 : Int32)), .val (.int (0 : Int32))] [(.int (0 : Int32))])
    refine OwnGo.iload X22 hx (hb hby at_77) rfl ?_
    show Go p e below _ T22 (mkF m 79 #[.val (.int p1), .val (.ref b1), .val (.int (2 : Int32)), .val (.ref aPERIODIC), .val (.int (0 : Int32)), .val (.int (0 : Int32)), .val (.int (0 : Int32))] [(.int (0 : Int32)), (.int (0 : Int32))])
    refine OwnGo.ic_ne X22 hx (pc' := 93) (hb hby at_79) (by decide) (by decide) (fun q => absurd q (by decide)) (fun _ => ?_)
    show Go p e below _ T22 (mkF m 82 #[.val (.int p1), .val (.ref b1), .val (.int (2 : Int32)), .val (.ref aPERIODIC), .val (.int (0 : Int32)), .val (.int (0 : Int32)), .val (.int (0 : Int32))] [])
    refine OwnGo.iload X22 hx (hb hby at_82) rfl ?_
    show Go p e below _ T22 (mkF m 84 #[.val (.int p1), .val (.ref b1), .val (.int (2 : Int32)), .val (.ref aPERIODIC), .val (.int (0 : Int32)), .val (.int (0 : Int32)), .val (.int (0 : Int32))] [(.int (0 : Int32))])
    refine OwnGo.iload X22 hx (hb hby at_84) rfl ?_
    show Go p e below _ T22 (mkF m 86 #[.val (.int p1), .val (.ref b1), .val (.int (2 : Int32)), .val (.ref aPERIODIC), .val (.int (0 : Int32)), .val (.int (0 : Int32)), .val (.int (0 : Int32))] [(.int (0 : Int32)), (.int (0 : Int32))])
    refine OwnGo.ic_ne X22 hx (pc' := 93) (hb hby at_86) (by decide) (by decide) (fun q => absurd q (by decide)) (fun _ => ?_)
    show Go p e below _ T22 (mkF m 89 #[.val (.int p1), .val (.ref b1), .val (.int (2 : Int32)), .val (.ref aPERIODIC), .val (.int (0 : Int32)), .val (.int (0 : Int32)), .val (.int (0 : Int32))] [])
    refine OwnGo.iconst X22 hx (z := (1 : Int32)) (hb hby at_89) (by decide) ?_
    show Go p e below _ T22 (mkF m 90 #[.val (.int p1), .val (.ref b1), .val (.int (2 : Int32)), .val (.ref aPERIODIC), .val (.int (0 : Int32)), .val (.int (0 : Int32)), .val (.int (0 : Int32))] [(.int (1 : Int32))])
    refine OwnGo.goto X22 hx (pc' := 94) (hb hby at_90) (by decide) (by decide) ?_
    show Go p e below _ T22 (mkF m 94 #[.val (.int p1), .val (.ref b1), .val (.int (2 : Int32)), .val (.ref aPERIODIC), .val (.int (0 : Int32)), .val (.int (0 : Int32)), .val (.int (0 : Int32))] [(.int (1 : Int32))])
    exact OwnGo.retBW X22 hx hS21 (by rw [e22]; exact hk21) hlk (z' := (1 : Int32)) hret (hb hby at_94) rfl ⟨rfl, hn0 ▸ N7_⟩ (by decide) (by decide)
set_option maxRecDepth 65536 in
set_option maxHeartbeats 40000000 in
theorem comes_1 {Post : Tables → Env → Array Value → State → Outcome → State → Prop} (hpost : ∀ tb e args s v u, (limb_1_1.after args s (.returned v) u = true ∧ limb_1_2.after args s (.returned v) u = true ∧ True) → ReturnedEndW s (.returned v) u (Jvm.fieldLocs frame_1_writes args s ++ Jvm.arrayLocs frame_1_arrays args s ++ Jvm.staticLocs frame_1_statics s) 16 1152 → Post tb e args s (.returned v) u) :
    ArmFor flags0 classFile x code maxLocals ret World_1 tables_1 room_1 Calls_1 rest_1 Pre_1 Post := by
  intro l hfl _ _ p e ha hc hk s m args below hf hA hF happ hP
  obtain ⟨hcalls, hrest, hpre⟩ := hP
  obtain ⟨-, -, -, hnamed, -, -, -, hat⟩ := (Spec.applies_iff hf).mp happ
  obtain ⟨hg, hn⟩ := and_e (Cond.before_iff.mp (show (Jvm.Cond.and given_1 narrow_1).before args s = true from hpre))
  obtain ⟨gc0, gr0⟩ := and_e hg
  obtain ⟨w0, rfl⟩ : ∃ w0 : Value, args = #[w0] := by
    have hs : args.size = 1 := by simpa [Cond.value, given_1] using gc0
    obtain ⟨L⟩ := args
    match L, hs with
    | [w0], _ => exact ⟨w0, rfl⟩
  have hw := fun d (hd : d ∈ tables_1) => atoms_spec (ws := Jvm.Cond.code x code maxLocals ret :: tables_1) hat d (List.mem_cons_of_mem _ hd)
  obtain ⟨i0, ei0⟩ := is_v gr0
  obtain rfl : w0 = (.int i0) := Option.some.inj ei0
  obtain ⟨n0a, n0b⟩ := and_e hn
  obtain ⟨n1a, n1b⟩ := and_e n0b
  obtain ⟨n2a, n2b⟩ := and_e n1b
  obtain ⟨n3a, n3b⟩ := and_e n2b
  obtain ⟨n4a, n4b⟩ := and_e n3b
  obtain ⟨n5a, n5b⟩ := and_e n4b
  obtain ⟨n6a, n6b⟩ := and_e n5b
  obtain ⟨n7a, n7b⟩ := and_e n6b
  obtain ⟨n8a, n8b⟩ := and_e n7b
  obtain ⟨n9a, n9b⟩ := and_e n8b
  obtain ⟨n10a, n10b⟩ := and_e n9b
  obtain ⟨n11a, n11b⟩ := and_e n10b
  obtain ⟨n12a, n12b⟩ := and_e n11b
  obtain ⟨n13a, n13b⟩ := and_e n12b
  obtain ⟨n14a, n14b⟩ := and_e n13b
  obtain ⟨n15a, n15b⟩ := and_e n14b
  obtain ⟨n16a, n16b⟩ := and_e n15b
  obtain ⟨n17a, n17b⟩ := and_e n16b
  obtain ⟨n18a, n18b⟩ := and_e n17b
  obtain ⟨n19a, n19b⟩ := and_e n18b
  obtain ⟨n20a, n20b⟩ := and_e n19b
  obtain ⟨n21a, n21b⟩ := and_e n20b
  obtain ⟨n22a, n22b⟩ := and_e n21b
  obtain ⟨n23a, n23b⟩ := and_e n22b
  obtain ⟨n24a, n24b⟩ := and_e n23b
  obtain ⟨n25a, n25b⟩ := and_e n24b
  obtain ⟨n26a, n26b⟩ := and_e n25b
  obtain ⟨n27a, n27b⟩ := and_e n26b
  obtain ⟨n28a, n28b⟩ := and_e n27b
  obtain ⟨n29a, n29b⟩ := and_e n28b
  obtain ⟨n30a, n30b⟩ := and_e n29b
  obtain ⟨n31a, n31b⟩ := and_e n30b
  obtain ⟨n32a, n32b⟩ := and_e n31b
  obtain ⟨n33a, n33b⟩ := and_e n32b
  obtain ⟨n34a, n34b⟩ := and_e n33b
  obtain ⟨n35a, n35b⟩ := and_e n34b
  obtain ⟨n36a, n36b⟩ := and_e n35b
  obtain ⟨n37a, n37b⟩ := and_e n36b
  obtain ⟨n38a, n38b⟩ := and_e n37b
  obtain ⟨n39a, n39b⟩ := and_e n38b
  obtain ⟨n40a, n40b⟩ := and_e n39b
  have hfit : Fit s := fun {y c} hc i hi => by
    obtain ⟨ha, rfl⟩ := Array.getElem?_eq_some_iff.mp hc
    have q := List.all_eq_true.mp ((Array.all_eq_true_iff_forall_mem.mp hF) _ (Array.getElem_mem ha)) i (List.mem_range.mpr hi)
    simpa [Array.getElem?_eq_getElem hi] using q
  obtain ⟨aONESHOT, tONESHOT, SONESHOT, EONESHOT⟩ := own_pin n0a (hw _ (List.mem_of_getElem? (i := 3) rfl)) (hw _ (List.mem_of_getElem? (i := 4) rfl))
  have OONESHOT := own_fldpin tONESHOT n8a
  obtain ⟨sONESHOT, tsONESHOT⟩ := exa_v n3a
  have EsONESHOT := Exa.start tsONESHOT n3a
  have FkONESHOT := own_fref tONESHOT tsONESHOT
  have FcONESHOT := own_fldpin tsONESHOT n4a
  obtain ⟨vONESHOT, tvONESHOT⟩ := arr_v n5a
  have FvONESHOT := own_fref tsONESHOT tvONESHOT
  obtain ⟨clONESHOT, ArONESHOT⟩ := Arr.start tvONESHOT n5a
  obtain ⟨ltONESHOT, lnONESHOT⟩ := own_len tvONESHOT ArONESHOT n6a
  have VONESHOT := Arv.start (dv := .int 0) (vs := [(.int (111 : Int32)), (.int (110 : Int32)), (.int (101 : Int32)), (.int (115 : Int32)), (.int (104 : Int32)), (.int (111 : Int32)), (.int (116 : Int32))]) hfit ArONESHOT ltONESHOT lnONESHOT (by decide) (by decide) ⟨own_elem 0 (by decide) tvONESHOT ArONESHOT n18a, own_elem 1 (by decide) tvONESHOT ArONESHOT n19a, own_elem 2 (by decide) tvONESHOT ArONESHOT n20a, own_elem 3 (by decide) tvONESHOT ArONESHOT n21a, own_elem 4 (by decide) tvONESHOT ArONESHOT n22a, own_elem 5 (by decide) tvONESHOT ArONESHOT n23a, own_elem 6 (by decide) tvONESHOT ArONESHOT n24a, trivial⟩
  obtain ⟨aREPEATING, tREPEATING, SREPEATING, EREPEATING⟩ := own_pin n1a (hw _ (List.mem_of_getElem? (i := 3) rfl)) (hw _ (List.mem_of_getElem? (i := 7) rfl))
  have OREPEATING := own_fldpin tREPEATING n13a
  obtain ⟨sREPEATING, tsREPEATING⟩ := exa_v n14a
  have EsREPEATING := Exa.start tsREPEATING n14a
  have FkREPEATING := own_fref tREPEATING tsREPEATING
  have FcREPEATING := own_fldpin tsREPEATING n15a
  obtain ⟨vREPEATING, tvREPEATING⟩ := arr_v n16a
  have FvREPEATING := own_fref tsREPEATING tvREPEATING
  obtain ⟨clREPEATING, ArREPEATING⟩ := Arr.start tvREPEATING n16a
  obtain ⟨ltREPEATING, lnREPEATING⟩ := own_len tvREPEATING ArREPEATING n17a
  have VREPEATING := Arv.start (dv := .int 0) (vs := [(.int (114 : Int32)), (.int (101 : Int32)), (.int (112 : Int32)), (.int (101 : Int32)), (.int (97 : Int32)), (.int (116 : Int32)), (.int (105 : Int32)), (.int (110 : Int32)), (.int (103 : Int32))]) hfit ArREPEATING ltREPEATING lnREPEATING (by decide) (by decide) ⟨own_elem 0 (by decide) tvREPEATING ArREPEATING n33a, own_elem 1 (by decide) tvREPEATING ArREPEATING n34a, own_elem 2 (by decide) tvREPEATING ArREPEATING n35a, own_elem 3 (by decide) tvREPEATING ArREPEATING n36a, own_elem 4 (by decide) tvREPEATING ArREPEATING n37a, own_elem 5 (by decide) tvREPEATING ArREPEATING n38a, own_elem 6 (by decide) tvREPEATING ArREPEATING n39a, own_elem 7 (by decide) tvREPEATING ArREPEATING n40a, own_elem 8 (by decide) tvREPEATING ArREPEATING n40b, trivial⟩
  obtain ⟨aPERIODIC, tPERIODIC, SPERIODIC, EPERIODIC⟩ := own_pin n2a (hw _ (List.mem_of_getElem? (i := 3) rfl)) (hw _ (List.mem_of_getElem? (i := 9) rfl))
  have OPERIODIC := own_fldpin tPERIODIC n7a
  obtain ⟨sPERIODIC, tsPERIODIC⟩ := exa_v n9a
  have EsPERIODIC := Exa.start tsPERIODIC n9a
  have FkPERIODIC := own_fref tPERIODIC tsPERIODIC
  have FcPERIODIC := own_fldpin tsPERIODIC n10a
  obtain ⟨vPERIODIC, tvPERIODIC⟩ := arr_v n11a
  have FvPERIODIC := own_fref tsPERIODIC tvPERIODIC
  obtain ⟨clPERIODIC, ArPERIODIC⟩ := Arr.start tvPERIODIC n11a
  obtain ⟨ltPERIODIC, lnPERIODIC⟩ := own_len tvPERIODIC ArPERIODIC n12a
  have VPERIODIC := Arv.start (dv := .int 0) (vs := [(.int (112 : Int32)), (.int (101 : Int32)), (.int (114 : Int32)), (.int (105 : Int32)), (.int (111 : Int32)), (.int (100 : Int32)), (.int (105 : Int32)), (.int (99 : Int32))]) hfit ArPERIODIC ltPERIODIC lnPERIODIC (by decide) (by decide) ⟨own_elem 0 (by decide) tvPERIODIC ArPERIODIC n25a, own_elem 1 (by decide) tvPERIODIC ArPERIODIC n26a, own_elem 2 (by decide) tvPERIODIC ArPERIODIC n27a, own_elem 3 (by decide) tvPERIODIC ArPERIODIC n28a, own_elem 4 (by decide) tvPERIODIC ArPERIODIC n29a, own_elem 5 (by decide) tvPERIODIC ArPERIODIC n30a, own_elem 6 (by decide) tvPERIODIC ArPERIODIC n31a, own_elem 7 (by decide) tvPERIODIC ArPERIODIC n32a, trivial⟩
  have hr0 := Cond.before_iff.mp (show rest_1_c.before _ s = true from hrest)
  obtain ⟨r0, hr1⟩ := and_e hr0
  obtain ⟨r1, hr2⟩ := and_e hr1
  obtain ⟨r2, hr3⟩ := and_e hr2
  obtain ⟨pz, ez⟩ := is_v r1
  have hpz : ¬ pz = 0 := gotF (by simp only [Cond.value, ez]; rfl) (not_v r2)
  have SC := Sta.start ez (Or.inl (Cond.before_iff.mpr r0))
  obtain ⟨n, o, h1, h2, h3, _, L, rfl, ⟨rfl, N⟩, hq⟩ := rm0 l s _ hw i0 pz aONESHOT sONESHOT vONESHOT aREPEATING sREPEATING vREPEATING aPERIODIC sPERIODIC vPERIODIC clONESHOT.cls clREPEATING.cls clPERIODIC.cls s.heap rfl s.heap.size rfl (Nat.le_refl _) (hcalls.1 _ (List.mem_cons_self ..)) (Cond.before_iff.mpr r2) hpz (own_ne OREPEATING OONESHOT (by decide)) (own_ne OPERIODIC OONESHOT (by decide)) SONESHOT EONESHOT FkONESHOT EsONESHOT FcONESHOT FvONESHOT VONESHOT SREPEATING EREPEATING FkREPEATING EsREPEATING FcREPEATING FvREPEATING VREPEATING SPERIODIC EPERIODIC FkPERIODIC EsPERIODIC FcPERIODIC FvPERIODIC VPERIODIC SC tables_1 p e ha hc hk s m _ below hf ((Spec.applies_iff_loose hf).mp happ).1 ⟨rfl, rfl⟩ trivial
  refine ⟨n, _, h1, h2, h3, hpost _ _ _ _ _ _ ⟨Cond.after_iff.mpr rfl, Cond.after_iff.mpr (eq_i res_at (Term.int_eval (1)) rfl), trivial⟩ ⟨hq.1, hq.2.1, hq.2.2.1, (hq.2.2.2.sift fun y hy => Or.inr (N y hy)).mono (by decide) (by decide)⟩⟩
theorem main_1_1 : Claimed_1_1 := comes_1 fun _ _ _ _ _ _ h hF => ⟨h.1, hF⟩
theorem main_1_2 : Claimed_1_2 := comes_1 fun _ _ _ _ _ _ h hF => ⟨h.2.1, hF⟩
end Jvm.Pilot.@@N@@
namespace Jvm.Pilot.@@N@@
open Jvm Jvm.ClassFile Sem Op Lib Jvm.Free Jvm.Stand Jvm.Pilot.@@N@@.Jvm.D
/-! MADE BY PROGRAM (witnessworld.py) out of the Statement's table words and the real class files: 19 classes; the members and pool entries that the words name. The judged class is class 1, her method 1. -/
namespace start1
open Jvm.ClassFile
def u (s : String) : CpInfo := .utf8 (stringToUtf16 s)
/-- a pool by its gaps: so many unusable entries, then the entry; so many at the end -/
def gap : Nat → List CpInfo → List CpInfo
  | 0, r => r
  | n + 1, r => .unusable :: gap n r
def poolList (es : List (Nat × CpInfo)) (last : Nat) : List CpInfo := es.foldr (fun e r => gap e.1 (e.2 :: r)) (gap last [])
def pool (es : List (Nat × CpInfo)) (last : Nat) : Array CpInfo := ⟨poolList es last⟩
def fileOf (pool : Array CpInfo) (this : Nat) (attrs : Array Attribute := #[]) (ms : Array MethodInfo := #[]) (fl : Nat := 33) (sup : Nat := 0) (ifs : Array Nat := #[]) (fds : Array FieldInfo := #[]) : ClassFile where
  minorVersion := 0
  majorVersion := 65
  constantPool := pool
  accessFlags := fl
  thisClass := this
  superClass := sup
  interfaces := ifs
  fields := fds
  methods := ms
  attributes := attrs
def plain (name : String) (sup : Option ClassId) : Class where
  name := name
  kind := .ordinary
  loader := none
  accessFlags := 33
  super := sup
  interfaces := #[]
  cf := none
  fields := #[]
  methods := #[]
  instanceTypes := #[]
  staticTypes := #[]
  resolved := #[]
  callSites := []
  init := .initialized
  statics := none
  mirror := none

def pool0 : Array CpInfo := pool [(5, u "<init>"), (0, u "()V"), (1, .class_ 10), (1, u "java/lang/Object")] 113

def k0m0 : Method := { name := "<init>", desc := "()V", sig := { parameters := [], returnType := none }, accessFlags := 1, code := none }
/-- java/lang/Object -/
def k0 : Class := { plain "java/lang/Object" none with
  accessFlags := 33
  interfaces := #[]
  cf := some (fileOf pool0 8 #[] #[{ accessFlags := 1, nameIndex := 5, descriptorIndex := 6, attributes := #[] }] 33 0 #[] #[])
  fields := #[]
  methods := #[k0m0]
  instanceTypes := #[]
  staticTypes := #[]
  resolved := Array.replicate 124 none
  statics := none }

def pool1 : Array CpInfo := pool [(2, .class_ 4), (1, u "java/lang/Object"), (0, u "<init>"), (0, u "()V"), (0, .class_ 8), (0, u "com/example/itchen/itchen/TaskKind"), (0, .fieldref 7 10), (0, .nameAndType 11 12), (0, u "ONESHOT"), (0, u "Lcom/example/itchen/itchen/TaskKind;"), (0, .fieldref 7 14), (0, .nameAndType 15 12), (0, u "REPEATING"), (0, .fieldref 7 17), (0, .nameAndType 18 12), (0, u "PERIODIC"), (0, .integer 2147483647), (0, .methodref 7 21), (0, .nameAndType 22 23), (0, u "endsAfterBody"), (0, u "()Z"), (0, .methodref 7 25), (0, .nameAndType 26 27), (0, u "getKeyword"), (0, u "()Ljava/lang/String;"), (0, .string 29), (0, u "oneshot"), (0, .methodref 31 32), (0, .class_ 33), (0, .nameAndType 34 35), (0, u "java/lang/String"), (0, u "equals"), (0, u "(Ljava/lang/Object;)Z"), (0, .class_ 37), (0, u "com/example/itchen/itchen/TaskKindEndsAfterBodyPinLaw"), (2, u "law"), (0, u "(I)Z")] 5

def k1m0 : Method := { name := "<init>", desc := "()V", sig := { parameters := [], returnType := none }, accessFlags := 1, code := none }
def k1c1 : Code := { maxStack := 3, maxLocals := 7, code := code, exceptionTable := #[], attributes := #[] }
def k1m1 : Method := { name := "law", desc := "(I)Z", sig := { parameters := [.int], returnType := some .boolean }, accessFlags := 9, code := some k1c1 }
/-- com/example/itchen/itchen/TaskKindEndsAfterBodyPinLaw -/
def k1 : Class := { plain "com/example/itchen/itchen/TaskKindEndsAfterBodyPinLaw" (some 0) with
  accessFlags := 49
  interfaces := #[]
  cf := some (fileOf pool1 36 #[] #[{ accessFlags := 1, nameIndex := 5, descriptorIndex := 6, attributes := #[] }, { accessFlags := 9, nameIndex := 40, descriptorIndex := 41, attributes := #[] }] 49 2 #[] #[])
  fields := #[]
  methods := #[k1m0, k1m1]
  instanceTypes := #[]
  staticTypes := #[]
  resolved := Array.replicate 47 none
  statics := none }

def pool2 : Array CpInfo := pool [(1, .class_ 2), (0, u "java/lang/constant/Constable"), (0, .class_ 4), (0, u "java/lang/Object")] 6

/-- java/lang/constant/Constable -/
def k2 : Class := { plain "java/lang/constant/Constable" (some 0) with
  accessFlags := 1537
  interfaces := #[]
  cf := some (fileOf pool2 1 #[] #[] 1537 3 #[] #[])
  fields := #[]
  methods := #[]
  instanceTypes := #[]
  staticTypes := #[]
  resolved := Array.replicate 11 none
  statics := none }

def pool3 : Array CpInfo := pool [(1, .class_ 2), (0, u "java/lang/Comparable"), (0, .class_ 4), (0, u "java/lang/Object")] 7

/-- java/lang/Comparable -/
def k3 : Class := { plain "java/lang/Comparable" (some 0) with
  accessFlags := 1537
  interfaces := #[]
  cf := some (fileOf pool3 1 #[] #[] 1537 3 #[] #[])
  fields := #[]
  methods := #[]
  instanceTypes := #[]
  staticTypes := #[]
  resolved := Array.replicate 12 none
  statics := none }

def pool4 : Array CpInfo := pool [(1, .class_ 2), (0, u "java/io/Serializable"), (0, .class_ 4), (0, u "java/lang/Object")] 2

/-- java/io/Serializable -/
def k4 : Class := { plain "java/io/Serializable" (some 0) with
  accessFlags := 1537
  interfaces := #[]
  cf := some (fileOf pool4 1 #[] #[] 1537 3 #[] #[])
  fields := #[]
  methods := #[]
  instanceTypes := #[]
  staticTypes := #[]
  resolved := Array.replicate 7 none
  statics := none }

def pool5 : Array CpInfo := pool [(2, .class_ 4), (1, u "java/lang/Enum"), (0, u "name"), (0, u "Ljava/lang/String;"), (2, u "ordinal"), (0, u "I"), (1, .class_ 14), (1, u "java/lang/Object"), (4, u "hash"), (86, .class_ 108), (1, u "java/lang/Enum$EnumDesc"), (2, .class_ 112), (0, u "java/lang/constant/Constable"), (0, .class_ 114), (0, u "java/lang/Comparable"), (0, .class_ 116), (0, u "java/io/Serializable")] 87

/-- java/lang/Enum -/
def k5 : Class := { plain "java/lang/Enum" (some 0) with
  accessFlags := 1057
  interfaces := #[2, 3, 4]
  cf := some (fileOf pool5 2 #[.nestMembers #[106]] #[] 1057 12 #[111, 113, 115] #[{ accessFlags := 18, nameIndex := 5, descriptorIndex := 6, attributes := #[] }, { accessFlags := 18, nameIndex := 9, descriptorIndex := 10, attributes := #[] }, { accessFlags := 2, nameIndex := 19, descriptorIndex := 10, attributes := #[] }])
  fields := #[{ name := "name", type := (.object "java/lang/String"), accessFlags := 18, slot := 0, constantValue := 0 }, { name := "ordinal", type := .int, accessFlags := 18, slot := 1, constantValue := 0 }, { name := "hash", type := .int, accessFlags := 2, slot := 2, constantValue := 0 }]
  methods := #[]
  instanceTypes := #[(.object "java/lang/String"), .int, .int]
  staticTypes := #[]
  resolved := Array.replicate 204 none
  statics := none }

def pool6 : Array CpInfo := pool [(1, .class_ 2), (0, u "com/example/itchen/itchen/TaskKind"), (0, .fieldref 1 4), (0, .nameAndType 5 6), (0, u "ONESHOT"), (0, u "Lcom/example/itchen/itchen/TaskKind;"), (2, u "REPEATING"), (2, u "PERIODIC"), (2, u "$VALUES"), (0, u "[Lcom/example/itchen/itchen/TaskKind;"), (6, .class_ 25), (1, u "java/lang/Enum"), (6, .fieldref 1 33), (0, .nameAndType 34 35), (0, u "keyword"), (0, u "Ljava/lang/String;"), (23, u "getKeyword"), (0, u "()Ljava/lang/String;"), (0, u "endsAfterBody"), (0, u "()Z")] 6

def k6c0 : Code := { maxStack := 1, maxLocals := 1, code := prog_41_method_4_code, exceptionTable := #[], attributes := #[] }
def k6m0 : Method := { name := "getKeyword", desc := "()Ljava/lang/String;", sig := { parameters := [], returnType := some (.object "java/lang/String") }, accessFlags := 1, code := some k6c0 }
def k6c1 : Code := { maxStack := 2, maxLocals := 1, code := prog_41_method_5_code, exceptionTable := #[], attributes := #[] }
def k6m1 : Method := { name := "endsAfterBody", desc := "()Z", sig := { parameters := [], returnType := some .boolean }, accessFlags := 1, code := some k6c1 }
/-- com/example/itchen/itchen/TaskKind -/
def k6 : Class := { plain "com/example/itchen/itchen/TaskKind" (some 5) with
  accessFlags := 16433
  interfaces := #[]
  cf := some (fileOf pool6 1 #[] #[{ accessFlags := 1, nameIndex := 59, descriptorIndex := 60, attributes := #[] }, { accessFlags := 1, nameIndex := 61, descriptorIndex := 62, attributes := #[] }] 16433 23 #[] #[{ accessFlags := 16409, nameIndex := 5, descriptorIndex := 6, attributes := #[] }, { accessFlags := 16409, nameIndex := 9, descriptorIndex := 6, attributes := #[] }, { accessFlags := 16409, nameIndex := 12, descriptorIndex := 6, attributes := #[] }, { accessFlags := 18, nameIndex := 34, descriptorIndex := 35, attributes := #[] }, { accessFlags := 4122, nameIndex := 15, descriptorIndex := 16, attributes := #[] }])
  fields := #[{ name := "ONESHOT", type := (.object "com/example/itchen/itchen/TaskKind"), accessFlags := 16409, slot := 0, constantValue := 0 }, { name := "REPEATING", type := (.object "com/example/itchen/itchen/TaskKind"), accessFlags := 16409, slot := 1, constantValue := 0 }, { name := "PERIODIC", type := (.object "com/example/itchen/itchen/TaskKind"), accessFlags := 16409, slot := 2, constantValue := 0 }, { name := "keyword", type := (.object "java/lang/String"), accessFlags := 18, slot := 3, constantValue := 0 }, { name := "$VALUES", type := (.array (.object "com/example/itchen/itchen/TaskKind")), accessFlags := 4122, slot := 3, constantValue := 0 }]
  methods := #[k6m0, k6m1]
  instanceTypes := #[(.object "java/lang/String"), .int, .int, (.object "java/lang/String")]
  staticTypes := #[(.object "com/example/itchen/itchen/TaskKind"), (.object "com/example/itchen/itchen/TaskKind"), (.object "com/example/itchen/itchen/TaskKind"), (.array (.object "com/example/itchen/itchen/TaskKind"))]
  resolved := Array.replicate 69 none
  statics := some 0 }

def pool7 : Array CpInfo := pool [(2, .class_ 4), (1, u "java/lang/CharSequence"), (42, .class_ 48), (0, u "java/lang/CharSequence$1CodePointIterator"), (10, .class_ 60), (0, u "java/lang/CharSequence$1CharIterator"), (5, .class_ 67), (0, u "java/lang/Object")] 63

/-- java/lang/CharSequence -/
def k7 : Class := { plain "java/lang/CharSequence" (some 0) with
  accessFlags := 1537
  interfaces := #[]
  cf := some (fileOf pool7 2 #[.nestMembers #[47, 59]] #[] 1537 66 #[] #[])
  fields := #[]
  methods := #[]
  instanceTypes := #[]
  staticTypes := #[]
  resolved := Array.replicate 131 none
  statics := none }

def pool8 : Array CpInfo := pool [(1, .class_ 2), (0, u "java/lang/constant/ConstantDesc"), (0, .class_ 4), (0, u "java/lang/Object")] 32

/-- java/lang/constant/ConstantDesc -/
def k8 : Class := { plain "java/lang/constant/ConstantDesc" (some 0) with
  accessFlags := 1537
  interfaces := #[]
  cf := some (fileOf pool8 1 #[] #[] 1537 3 #[] #[])
  fields := #[]
  methods := #[]
  instanceTypes := #[]
  staticTypes := #[]
  resolved := Array.replicate 37 none
  statics := none }

def pool9 : Array CpInfo := pool [(2, .class_ 4), (1, u "java/lang/Object"), (0, u "<init>"), (0, u "()V"), (2, .fieldref 10 11), (0, .class_ 12), (0, .nameAndType 13 14), (0, u "java/lang/String"), (0, u "value"), (0, u "[B"), (0, .fieldref 10 16), (0, .nameAndType 17 18), (0, u "coder"), (0, u "B"), (2, u "hash"), (0, u "I"), (2, u "hashIsZero"), (0, u "Z"), (11, .fieldref 10 39), (0, .nameAndType 40 26), (0, u "COMPACT_STRINGS"), (66, .class_ 109), (1, u "java/lang/StringLatin1"), (431, .methodref 107 542), (0, .nameAndType 543 544), (0, u "equals"), (0, u "([B[B)Z"), (28, u "(Ljava/lang/Object;)Z"), (1, .class_ 576), (0, u "java/lang/CharSequence"), (22, u "CASE_INSENSITIVE_ORDER"), (0, u "Ljava/util/Comparator;"), (500, u "serialPersistentFields"), (0, u "[Ljava/io/ObjectStreamField;"), (0, .class_ 1104), (0, u "java/lang/String$CaseInsensitiveComparator"), (1, .class_ 1107), (0, u "java/io/Serializable"), (0, .class_ 1109), (0, u "java/lang/Comparable"), (0, .class_ 1111), (0, u "java/lang/constant/Constable"), (0, .class_ 1113), (0, u "java/lang/constant/ConstantDesc"), (2, u "serialVersionUID"), (0, u "J"), (3, u "REPL"), (0, u "C"), (2, u "LATIN1"), (1, u "UTF16")] 323

def k9m0 : Method := { name := "<init>", desc := "()V", sig := { parameters := [], returnType := none }, accessFlags := 1, code := none }
def k9c1 : Code := { maxStack := 2, maxLocals := 3, code := jdk_42_method_66_code, exceptionTable := #[], attributes := #[] }
def k9m1 : Method := { name := "equals", desc := "(Ljava/lang/Object;)Z", sig := { parameters := [(.object "java/lang/Object")], returnType := some .boolean }, accessFlags := 1, code := some k9c1 }
/-- java/lang/String -/
def k9 : Class := { plain "java/lang/String" (some 0) with
  accessFlags := 49
  interfaces := #[4, 3, 7, 2, 8]
  cf := some (fileOf pool9 10 #[.nestMembers #[1103]] #[{ accessFlags := 1, nameIndex := 5, descriptorIndex := 6, attributes := #[] }, { accessFlags := 1, nameIndex := 543, descriptorIndex := 573, attributes := #[] }] 49 2 #[1106, 1108, 575, 1110, 1112] #[{ accessFlags := 18, nameIndex := 13, descriptorIndex := 14, attributes := #[] }, { accessFlags := 18, nameIndex := 17, descriptorIndex := 18, attributes := #[] }, { accessFlags := 2, nameIndex := 21, descriptorIndex := 22, attributes := #[] }, { accessFlags := 2, nameIndex := 25, descriptorIndex := 26, attributes := #[] }, { accessFlags := 26, nameIndex := 1116, descriptorIndex := 1117, attributes := #[] }, { accessFlags := 24, nameIndex := 40, descriptorIndex := 26, attributes := #[] }, { accessFlags := 26, nameIndex := 1101, descriptorIndex := 1102, attributes := #[] }, { accessFlags := 26, nameIndex := 1121, descriptorIndex := 1122, attributes := #[] }, { accessFlags := 25, nameIndex := 599, descriptorIndex := 600, attributes := #[] }, { accessFlags := 24, nameIndex := 1125, descriptorIndex := 18, attributes := #[] }, { accessFlags := 24, nameIndex := 1127, descriptorIndex := 18, attributes := #[] }])
  fields := #[{ name := "value", type := (.array .byte), accessFlags := 18, slot := 0, constantValue := 0 }, { name := "coder", type := .byte, accessFlags := 18, slot := 1, constantValue := 0 }, { name := "hash", type := .int, accessFlags := 2, slot := 2, constantValue := 0 }, { name := "hashIsZero", type := .boolean, accessFlags := 2, slot := 3, constantValue := 0 }, { name := "serialVersionUID", type := .long, accessFlags := 26, slot := 0, constantValue := 0 }, { name := "COMPACT_STRINGS", type := .boolean, accessFlags := 24, slot := 1, constantValue := 0 }, { name := "serialPersistentFields", type := (.array (.object "java/io/ObjectStreamField")), accessFlags := 26, slot := 2, constantValue := 0 }, { name := "REPL", type := .char, accessFlags := 26, slot := 3, constantValue := 0 }, { name := "CASE_INSENSITIVE_ORDER", type := (.object "java/util/Comparator"), accessFlags := 25, slot := 4, constantValue := 0 }, { name := "LATIN1", type := .byte, accessFlags := 24, slot := 5, constantValue := 0 }, { name := "UTF16", type := .byte, accessFlags := 24, slot := 6, constantValue := 0 }]
  methods := #[k9m0, k9m1]
  instanceTypes := #[(.array .byte), .byte, .int, .boolean]
  staticTypes := #[.long, .boolean, (.array (.object "java/io/ObjectStreamField")), .char, (.object "java/util/Comparator"), .byte, .byte]
  resolved := Array.replicate 1451 none
  statics := some 1 }

def pool10 : Array CpInfo := pool [(4, .class_ 6), (1, u "java/lang/Object"), (0, u "<init>"), (0, u "()V"), (5, .class_ 16), (1, u "java/lang/StringLatin1"), (104, u "$assertionsDisabled"), (0, u "Z"), (98, .class_ 223), (1, u "java/lang/StringLatin1$LinesSpliterator"), (57, u "equals"), (0, u "([B[B)Z"), (107, .class_ 391), (0, u "java/lang/StringLatin1$CharsSpliterator")] 3

def k10m0 : Method := { name := "<init>", desc := "()V", sig := { parameters := [], returnType := none }, accessFlags := 0, code := none }
def k10c1 : Code := { maxStack := 3, maxLocals := 3, code := jdk_43_method_13_code, exceptionTable := #[], attributes := #[] }
def k10m1 : Method := { name := "equals", desc := "([B[B)Z", sig := { parameters := [(.array .byte), (.array .byte)], returnType := some .boolean }, accessFlags := 9, code := some k10c1 }
/-- java/lang/StringLatin1 -/
def k10 : Class := { plain "java/lang/StringLatin1" (some 0) with
  accessFlags := 48
  interfaces := #[]
  cf := some (fileOf pool10 14 #[.nestMembers #[390, 221]] #[{ accessFlags := 0, nameIndex := 7, descriptorIndex := 8, attributes := #[] }, { accessFlags := 9, nameIndex := 281, descriptorIndex := 282, attributes := #[] }] 48 4 #[] #[{ accessFlags := 4120, nameIndex := 121, descriptorIndex := 122, attributes := #[] }])
  fields := #[{ name := "$assertionsDisabled", type := .boolean, accessFlags := 4120, slot := 0, constantValue := 0 }]
  methods := #[k10m0, k10m1]
  instanceTypes := #[]
  staticTypes := #[.boolean]
  resolved := Array.replicate 395 none
  statics := none }

def pool11 : Array CpInfo := pool [(2, .class_ 4), (1, u "java/lang/Object"), (0, u "<init>"), (0, u "()V"), (17, .class_ 26), (1, u "jdk/internal/util/Preconditions"), (28, .class_ 56), (0, u "jdk/internal/util/Preconditions$4"), (57, .class_ 115), (0, u "jdk/internal/util/Preconditions$1"), (7, u "SIOOBE_FORMATTER"), (0, u "Ljava/util/function/BiFunction;"), (0, .class_ 126), (0, u "jdk/internal/util/Preconditions$2"), (3, u "AIOOBE_FORMATTER"), (0, .class_ 132), (0, u "jdk/internal/util/Preconditions$3"), (3, u "IOOBE_FORMATTER")] 57

def k11m0 : Method := { name := "<init>", desc := "()V", sig := { parameters := [], returnType := none }, accessFlags := 1, code := none }
/-- jdk/internal/util/Preconditions -/
def k11 : Class := { plain "jdk/internal/util/Preconditions" (some 0) with
  accessFlags := 33
  interfaces := #[]
  cf := some (fileOf pool11 24 #[.nestMembers #[55, 131, 125, 114]] #[{ accessFlags := 1, nameIndex := 5, descriptorIndex := 6, attributes := #[] }] 33 2 #[] #[{ accessFlags := 25, nameIndex := 123, descriptorIndex := 124, attributes := #[] }, { accessFlags := 25, nameIndex := 130, descriptorIndex := 124, attributes := #[] }, { accessFlags := 25, nameIndex := 136, descriptorIndex := 124, attributes := #[] }])
  fields := #[{ name := "SIOOBE_FORMATTER", type := (.object "java/util/function/BiFunction"), accessFlags := 25, slot := 0, constantValue := 0 }, { name := "AIOOBE_FORMATTER", type := (.object "java/util/function/BiFunction"), accessFlags := 25, slot := 1, constantValue := 0 }, { name := "IOOBE_FORMATTER", type := (.object "java/util/function/BiFunction"), accessFlags := 25, slot := 2, constantValue := 0 }]
  methods := #[k11m0]
  instanceTypes := #[]
  staticTypes := #[(.object "java/util/function/BiFunction"), (.object "java/util/function/BiFunction"), (.object "java/util/function/BiFunction")]
  resolved := Array.replicate 194 none
  statics := some 2 }

def pool12 : Array CpInfo := pool [(9, u "<init>"), (6, .class_ 18), (1, u "java/lang/Object"), (0, u "()V"), (1, .class_ 23), (1, u "jdk/internal/util/ArraysSupport"), (0, u "LOG2_ARRAY_LONG_INDEX_SCALE"), (0, u "I"), (2, u "U"), (0, u "Ljdk/internal/misc/Unsafe;"), (8, u "BIG_ENDIAN"), (0, u "Z"), (8, u "LOG2_BYTE_BIT_SIZE"), (4, u "LOG2_ARRAY_INT_INDEX_SCALE"), (54, u "JLA"), (0, u "Ljdk/internal/access/JavaLangAccess;"), (11, u "LOG2_ARRAY_BOOLEAN_INDEX_SCALE"), (9, u "LOG2_ARRAY_BYTE_INDEX_SCALE"), (5, u "LOG2_ARRAY_CHAR_INDEX_SCALE"), (5, u "LOG2_ARRAY_SHORT_INDEX_SCALE"), (18, u "LOG2_ARRAY_FLOAT_INDEX_SCALE"), (24, u "LOG2_ARRAY_DOUBLE_INDEX_SCALE"), (89, u "T_BOOLEAN"), (2, u "T_CHAR"), (1, u "T_FLOAT"), (1, u "T_DOUBLE"), (1, u "T_BYTE"), (1, u "T_SHORT"), (1, u "T_INT"), (1, u "T_LONG"), (1, u "SOFT_MAX_ARRAY_LENGTH")] 83

def k12m0 : Method := { name := "<init>", desc := "()V", sig := { parameters := [], returnType := none }, accessFlags := 2, code := none }
/-- jdk/internal/util/ArraysSupport -/
def k12 : Class := { plain "jdk/internal/util/ArraysSupport" (some 0) with
  accessFlags := 33
  interfaces := #[]
  cf := some (fileOf pool12 21 #[] #[{ accessFlags := 2, nameIndex := 9, descriptorIndex := 19, attributes := #[] }] 33 16 #[] #[{ accessFlags := 24, nameIndex := 28, descriptorIndex := 29, attributes := #[] }, { accessFlags := 26, nameIndex := 38, descriptorIndex := 39, attributes := #[] }, { accessFlags := 25, nameIndex := 121, descriptorIndex := 25, attributes := #[] }, { accessFlags := 25, nameIndex := 131, descriptorIndex := 25, attributes := #[] }, { accessFlags := 25, nameIndex := 137, descriptorIndex := 25, attributes := #[] }, { accessFlags := 25, nameIndex := 143, descriptorIndex := 25, attributes := #[] }, { accessFlags := 25, nameIndex := 53, descriptorIndex := 25, attributes := #[] }, { accessFlags := 25, nameIndex := 24, descriptorIndex := 25, attributes := #[] }, { accessFlags := 25, nameIndex := 162, descriptorIndex := 25, attributes := #[] }, { accessFlags := 25, nameIndex := 187, descriptorIndex := 25, attributes := #[] }, { accessFlags := 26, nameIndex := 48, descriptorIndex := 25, attributes := #[] }, { accessFlags := 25, nameIndex := 277, descriptorIndex := 25, attributes := #[] }, { accessFlags := 25, nameIndex := 280, descriptorIndex := 25, attributes := #[] }, { accessFlags := 25, nameIndex := 282, descriptorIndex := 25, attributes := #[] }, { accessFlags := 25, nameIndex := 284, descriptorIndex := 25, attributes := #[] }, { accessFlags := 25, nameIndex := 286, descriptorIndex := 25, attributes := #[] }, { accessFlags := 25, nameIndex := 288, descriptorIndex := 25, attributes := #[] }, { accessFlags := 25, nameIndex := 290, descriptorIndex := 25, attributes := #[] }, { accessFlags := 25, nameIndex := 292, descriptorIndex := 25, attributes := #[] }, { accessFlags := 26, nameIndex := 108, descriptorIndex := 109, attributes := #[] }, { accessFlags := 25, nameIndex := 294, descriptorIndex := 25, attributes := #[] }])
  fields := #[{ name := "U", type := (.object "jdk/internal/misc/Unsafe"), accessFlags := 24, slot := 0, constantValue := 0 }, { name := "BIG_ENDIAN", type := .boolean, accessFlags := 26, slot := 1, constantValue := 0 }, { name := "LOG2_ARRAY_BOOLEAN_INDEX_SCALE", type := .int, accessFlags := 25, slot := 2, constantValue := 0 }, { name := "LOG2_ARRAY_BYTE_INDEX_SCALE", type := .int, accessFlags := 25, slot := 3, constantValue := 0 }, { name := "LOG2_ARRAY_CHAR_INDEX_SCALE", type := .int, accessFlags := 25, slot := 4, constantValue := 0 }, { name := "LOG2_ARRAY_SHORT_INDEX_SCALE", type := .int, accessFlags := 25, slot := 5, constantValue := 0 }, { name := "LOG2_ARRAY_INT_INDEX_SCALE", type := .int, accessFlags := 25, slot := 6, constantValue := 0 }, { name := "LOG2_ARRAY_LONG_INDEX_SCALE", type := .int, accessFlags := 25, slot := 7, constantValue := 0 }, { name := "LOG2_ARRAY_FLOAT_INDEX_SCALE", type := .int, accessFlags := 25, slot := 8, constantValue := 0 }, { name := "LOG2_ARRAY_DOUBLE_INDEX_SCALE", type := .int, accessFlags := 25, slot := 9, constantValue := 0 }, { name := "LOG2_BYTE_BIT_SIZE", type := .int, accessFlags := 26, slot := 10, constantValue := 0 }, { name := "T_BOOLEAN", type := .int, accessFlags := 25, slot := 11, constantValue := 0 }, { name := "T_CHAR", type := .int, accessFlags := 25, slot := 12, constantValue := 0 }, { name := "T_FLOAT", type := .int, accessFlags := 25, slot := 13, constantValue := 0 }, { name := "T_DOUBLE", type := .int, accessFlags := 25, slot := 14, constantValue := 0 }, { name := "T_BYTE", type := .int, accessFlags := 25, slot := 15, constantValue := 0 }, { name := "T_SHORT", type := .int, accessFlags := 25, slot := 16, constantValue := 0 }, { name := "T_INT", type := .int, accessFlags := 25, slot := 17, constantValue := 0 }, { name := "T_LONG", type := .int, accessFlags := 25, slot := 18, constantValue := 0 }, { name := "JLA", type := (.object "jdk/internal/access/JavaLangAccess"), accessFlags := 26, slot := 19, constantValue := 0 }, { name := "SOFT_MAX_ARRAY_LENGTH", type := .int, accessFlags := 25, slot := 20, constantValue := 0 }]
  methods := #[k12m0]
  instanceTypes := #[]
  staticTypes := #[(.object "jdk/internal/misc/Unsafe"), .boolean, .int, .int, .int, .int, .int, .int, .int, .int, .int, .int, .int, .int, .int, .int, .int, .int, .int, (.object "jdk/internal/access/JavaLangAccess"), .int]
  resolved := Array.replicate 378 none
  statics := none }

def pool13 : Array CpInfo := pool [(1, u "java/lang/Cloneable"), (0, .class_ 1), (0, u "java/lang/Object"), (0, .class_ 3)] 3

/-- java/lang/Cloneable -/
def k13 : Class := { plain "java/lang/Cloneable" (some 0) with
  accessFlags := 1537
  interfaces := #[]
  cf := some (fileOf pool13 2 #[] #[] 1537 4 #[] #[])
  fields := #[]
  methods := #[]
  instanceTypes := #[]
  staticTypes := #[]
  resolved := Array.replicate 8 none
  statics := none }

/-- the primitive byte -/
def k14 : Class := { plain "byte" none with kind := .primitive 'B', accessFlags := 0x411 }
/-- [B -/
def k15 : Class := { plain "[B" (some 0) with kind := .array 14 .byte, interfaces := #[13, 4], accessFlags := 1041 }

/-- the primitive int -/
def k16 : Class := { plain "int" none with kind := .primitive 'I', accessFlags := 0x411 }
/-- [I -/
def k17 : Class := { plain "[I" (some 0) with kind := .array 16 .int, interfaces := #[13, 4], accessFlags := 1041 }

/-- [Lcom/example/itchen/itchen/TaskKind; -/
def k18 : Class := { plain "[Lcom/example/itchen/itchen/TaskKind;" (some 0) with kind := .array 6 (.object "com/example/itchen/itchen/TaskKind"), interfaces := #[13, 4], accessFlags := 1041 }

def heap : Heap := #[{ cls := 6, slots := #[.ref 9, .ref 10, .ref 11, .null], vm := .statics 6 },
  { cls := 9, slots := #[.long 0, .int 1, .null, .int 0, .null, .int 0, .int 0], vm := .statics 9 },
  { cls := 11, slots := #[.null, .null, .null], vm := .statics 11 },
  { cls := 15, slots := #[.int 111, .int 110, .int 101, .int 115, .int 104, .int 111, .int 116], vm := .none },
  { cls := 15, slots := #[.int 114, .int 101, .int 112, .int 101, .int 97, .int 116, .int 105, .int 110, .int 103], vm := .none },
  { cls := 15, slots := #[.int 112, .int 101, .int 114, .int 105, .int 111, .int 100, .int 105, .int 99], vm := .none },
  { cls := 9, slots := #[.ref 3, .int 0, .int 0, .int 0], vm := .none },
  { cls := 9, slots := #[.ref 4, .int 0, .int 0, .int 0], vm := .none },
  { cls := 9, slots := #[.ref 5, .int 0, .int 0, .int 0], vm := .none },
  { cls := 6, slots := #[.null, .int 0, .int 0, .ref 6], vm := .none },
  { cls := 6, slots := #[.null, .int 1, .int 0, .ref 7], vm := .none },
  { cls := 6, slots := #[.null, .int 2, .int 0, .ref 8], vm := .none }]
def classes : Array Class := #[k0, k1, k2, k3, k4, k5, k6, k7, k8, k9, k10, k11, k12, k13, k14, k15, k16, k17, k18]
def interned : List (Array UInt16 × Addr) := []
def slotsUsed : Nat := 62
def theMethod : MethodId := ⟨1, 1⟩
def args0 : Array Value := #[.int 5]
def aboutOver (below : List Frame) : State where
  vm := { classes := classes, interned := interned.toArray }
  heap := heap
  slotsUsed := slotsUsed
  threads := #[{ frames := .invoking theMethod args0 :: below }]
def below0 : List Frame := [.native { method := ⟨0, 0⟩, args := #[] }]
def about1 : State := aboutOver below0
def p0 : Program := .bare "" "" ""
def e0 : Env := launch0.env 0 0 0
theorem w_frames : about1.frames = Frame.invoking theMethod args0 :: below0 := rfl
set_option maxRecDepth 65536 in
theorem w_args : argsFit about1.vm theMethod args0 = true := by decide +kernel
set_option maxRecDepth 65536 in
theorem w_heap : heapFits about1 = true := by decide +kernel
set_option maxRecDepth 65536 in
theorem w_runnable : about1.curStatus? = some .runnable := by decide +kernel
set_option maxRecDepth 65536 in
theorem w_alone : about1.alone = true := by decide +kernel
set_option maxRecDepth 65536 in
theorem w_named : about1.methodNamed? x = some theMethod := by decide +kernel
set_option maxRecDepth 65536 in
theorem w_hears : about1.hears theMethod below0 = true := by decide +kernel
set_option maxRecDepth 65536 in
theorem w_ripe : about1.ripe theMethod args0 below0 = true := by decide +kernel
theorem w_running : about1.status = .running := rfl
set_option maxRecDepth 65536 in
theorem w_room : about1.hasRoom e0.platform room_1 = true :=
  launch0.hasRoom_least _ room_1 (by decide +kernel) (by decide +kernel) (by decide +kernel) (by decide +kernel) (by decide +kernel) (by decide +kernel)
theorem allAtoms_all (ts : List Jvm.Cond) (a : Array Jvm.Value) (st : Jvm.State) : (allAtoms ts).before a st = ts.all (fun c => c.before a st) := by
  induction ts with
  | nil => rfl
  | cons c t ih =>
    show (Jvm.Cond.and c (allAtoms t)).before a st = _
    rw [Jvm.Cond.before_and, ih, List.all_cons]
def words1 : List Jvm.Cond := Jvm.Cond.code x code maxLocals ret :: tables_1
/-- a 'code' word, met by the world's own term for the bytes: nothing is compared byte by byte -/
theorem code_word {y : MethodName} {bytes : ByteArray} {mx : Nat} {rt : Option FieldType} {a : Array Value} {s : State} {m : MethodId} {meth : Method} {c : Code} (h1 : s.methodNamed? y = some m) (h2 : s.vm.method? m = some meth) (h3 : meth.code = some c) (h4 : c.code = bytes)
    (h5 : (c.maxLocals == mx && c.exceptionTable.isEmpty && decide (c.maxStack ≤ mostOperands) && decide (meth.sig.returnType = rt) && !meth.locks && decide (parseMethodDescriptor y.desc = some meth.sig)) = true) : (Jvm.Cond.code y bytes mx rt).before a s = true := by
  simp only [Bool.and_eq_true, beq_iff_eq, Bool.not_eq_true', decide_eq_true_eq] at h5
  obtain ⟨⟨⟨⟨⟨g1, g2⟩, g3⟩, g4⟩, g5⟩, g6⟩ := h5
  simp [Cond.before, Cond.holds, Cond.value, h1, h2, h3, h4, g1, g2, g3, g4, g5, g6]
def isCode : Jvm.Cond → Bool
  | .code _ _ _ _ => true
  | _ => false
theorem all_split {L : List Jvm.Cond} {P : Jvm.Cond → Bool} (h1 : L.all (fun c => isCode c || P c) = true) (h2 : ∀ c ∈ L.filter isCode, P c = true) : L.all P = true := by
  refine List.all_eq_true.mpr fun c hc => ?_
  have h := List.all_eq_true.mp h1 c hc
  rcases Bool.eq_false_or_eq_true (isCode c) with hi | hi
  · exact h2 c (List.mem_filter.mpr ⟨hc, hi⟩)
  · simpa [hi] using h
set_option maxRecDepth 65536 in
theorem w_c0 : (Jvm.Cond.code x code maxLocals ret).before args0 about1 = true := code_word (m := ⟨1, 1⟩) (meth := k1m1) (c := k1c1) (by decide +kernel) rfl rfl rfl (by decide +kernel)
set_option maxRecDepth 65536 in
theorem w_c1 : (Jvm.Cond.code ({ cls := "com/example/itchen/itchen/TaskKind", name := "endsAfterBody", desc := "()Z" } : Jvm.MethodName) prog_41_method_5_code (1 : Nat) (Option.some Jvm.ClassFile.FieldType.boolean)).before args0 about1 = true := code_word (m := ⟨6, 1⟩) (meth := k6m1) (c := k6c1) (by decide +kernel) rfl rfl rfl (by decide +kernel)
set_option maxRecDepth 65536 in
theorem w_c2 : (Jvm.Cond.code ({ cls := "com/example/itchen/itchen/TaskKind", name := "getKeyword", desc := "()Ljava/lang/String;" } : Jvm.MethodName) prog_41_method_4_code (1 : Nat) (Option.some (Jvm.ClassFile.FieldType.object "java/lang/String"))).before args0 about1 = true := code_word (m := ⟨6, 0⟩) (meth := k6m0) (c := k6c0) (by decide +kernel) rfl rfl rfl (by decide +kernel)
set_option maxRecDepth 65536 in
theorem w_c3 : (Jvm.Cond.code ({ cls := "java/lang/String", name := "equals", desc := "(Ljava/lang/Object;)Z" } : Jvm.MethodName) jdk_42_method_66_code (3 : Nat) (Option.some Jvm.ClassFile.FieldType.boolean)).before args0 about1 = true := code_word (m := ⟨9, 1⟩) (meth := k9m1) (c := k9c1) (by decide +kernel) rfl rfl rfl (by decide +kernel)
set_option maxRecDepth 65536 in
theorem w_c4 : (Jvm.Cond.code ({ cls := "java/lang/StringLatin1", name := "equals", desc := "([B[B)Z" } : Jvm.MethodName) jdk_43_method_13_code (3 : Nat) (Option.some Jvm.ClassFile.FieldType.boolean)).before args0 about1 = true := code_word (m := ⟨10, 1⟩) (meth := k10m1) (c := k10c1) (by decide +kernel) rfl rfl rfl (by decide +kernel)
def codes1 : List Jvm.Cond := [Jvm.Cond.code x code maxLocals ret, Jvm.Cond.code ({ cls := "com/example/itchen/itchen/TaskKind", name := "endsAfterBody", desc := "()Z" } : Jvm.MethodName) prog_41_method_5_code (1 : Nat) (Option.some Jvm.ClassFile.FieldType.boolean), Jvm.Cond.code ({ cls := "com/example/itchen/itchen/TaskKind", name := "getKeyword", desc := "()Ljava/lang/String;" } : Jvm.MethodName) prog_41_method_4_code (1 : Nat) (Option.some (Jvm.ClassFile.FieldType.object "java/lang/String")), Jvm.Cond.code ({ cls := "java/lang/String", name := "equals", desc := "(Ljava/lang/Object;)Z" } : Jvm.MethodName) jdk_42_method_66_code (3 : Nat) (Option.some Jvm.ClassFile.FieldType.boolean), Jvm.Cond.code ({ cls := "java/lang/StringLatin1", name := "equals", desc := "([B[B)Z" } : Jvm.MethodName) jdk_43_method_13_code (3 : Nat) (Option.some Jvm.ClassFile.FieldType.boolean)]
set_option maxRecDepth 65536 in
theorem codes_eq : words1.filter isCode = codes1 := rfl
theorem w_codes : ∀ c ∈ words1.filter isCode, c.before args0 about1 = true := by
  rw [codes_eq]
  intro c hc
  simp only [codes1, List.mem_cons, List.not_mem_nil, or_false] at hc
  rcases hc with rfl | rfl | rfl | rfl | rfl
  · exact w_c0
  · exact w_c1
  · exact w_c2
  · exact w_c3
  · exact w_c4
set_option maxRecDepth 65536 in
theorem w_t1 : (words1.take 24).all (fun c => isCode c || c.before args0 about1) = true := by decide +kernel
set_option maxRecDepth 65536 in
theorem w_t2 : (words1.drop 24).all (fun c => isCode c || c.before args0 about1) = true := by decide +kernel
theorem w_tables : (allAtoms (Jvm.Cond.code x code maxLocals ret :: tables_1)).before args0 about1 = true := by
  rw [allAtoms_all]
  show words1.all (fun c => c.before args0 about1) = true
  refine all_split ?_ w_codes
  rw [← List.take_append_drop 24 words1, List.all_append, w_t1, w_t2]
  rfl
set_option maxRecDepth 65536 in
theorem w_rest : rest_1_c.before args0 about1 = true := by decide +kernel
set_option maxRecDepth 65536 in
theorem w_case : (Jvm.Cond.and given_1 narrow_1).before args0 about1 = true := by decide +kernel
set_option maxRecDepth 65536 in
theorem w_consts : constsHeld consts_1 about1 := Jvm.Lit.constsHeldB_iff.mp (by decide +kernel)
theorem w_applies : (headSpec (Jvm.Cond.code x code maxLocals ret :: tables_1) room_1).applies x e0.platform about1 = true :=
  (Spec.applies_iff w_frames).mpr ⟨w_running, w_runnable, w_alone, w_named, w_hears, w_ripe, w_room, w_tables⟩
theorem atStart : AtStart classFile x code maxLocals ret World_1 tables_1 room_1 Calls_1 rest_1 Pre_1 launch0 p0 e0 about1 theMethod args0 below0 :=
  ⟨lists_1, trivial, launch0.admits_env _ _ _, launch0.least_env, fairChoices_fair.cas, fairChoices_fair.clock, w_frames, w_args, w_heap, w_applies, ⟨w_consts, trivial⟩, w_rest, w_case⟩
end start1
theorem witness_1 : WitnessClaimed_1 := ⟨start1.p0, start1.e0, start1.about1, start1.theMethod, start1.args0, start1.below0, start1.atStart⟩
end Jvm.Pilot.@@N@@
