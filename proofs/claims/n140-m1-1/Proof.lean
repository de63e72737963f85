import JvmDerived
import JvmDerived.Pilot.@@N@@Statement
import JvmDerived.Pilot.@@N@@Code
set_option linter.unusedVariables false
set_option linter.unusedSimpArgs false
namespace Jvm.OwnGo
open Jvm Jvm.ClassFile Sem Op Lib Jvm.Free Jvm.Stand Jvm.LawKit Jvm.RoadKit
/-- from T with the frame g on top the run comes to an end of which En holds -/
def Go (p : Program) (e : Env) (below : List Frame) (En : State → Outcome → Prop) (T : State) (g : JFrame) : Prop :=
  ∃ t o, Steps p.tables e below (T.setTop g) t ∧ t.status = .running ∧ Ended t below o ∧ En t o
/-- it has returned; the value, the heap and the written places meet Q; at most C cells and S slots were made since s -/
def EndN (s : State) (Q : Option Value → Heap → List Loc → Prop) (C S : Nat) : State → Outcome → Prop := fun t o => ∃ v L, o = .returned v ∧ Q v t.heap L ∧ FrameEnd s o t L C S
/-- what a callee's own walk promises -/
def Con (l : Launch) (Z : State) (y : MethodName) (bytes : ByteArray) (maxL : Nat) (ret : Option FieldType) (rm : Room) (as : List Value) (h : Heap) (Q : Option Value → Heap → List Loc → Prop) : Prop :=
  ∀ ws : List Jvm.Cond, MetFree l y (head1 (Jvm.Cond.code y bytes maxL ret :: ws) rm) (fun a U => a = as.toArray ∧ Z.Warmed39 U.vm ∧ U.heap = h) (fun _ _ _ _ _ => True) (fun _ U o U' => ∃ v L, o = .returned v ∧ Q v U'.heap L ∧ FrameEnd U o U' L rm.cells rm.slots)
/-- it returns r and leaves the heap as it was -/
def Ret (r : Option Value) (h : Heap) : Option Value → Heap → List Loc → Prop := fun v h' L => v = r ∧ h' = h ∧ L = []
section Own
variable {p : Program} {l : Launch} {e : Env} {R : Room} {s : State} {m : MethodId} {args : Array Value} {below : List Frame} {meth : Method} {c : Code} {T : State} {locs : List Loc} {cells slots : Nat} {Z : State} {a0 : Array Value} {h : Heap} {Q : Option Value → Heap → List Loc → Prop} {C S : Nat} {En : State → Outcome → Prop} {pc : Nat} {Ls : Array Slot} {st : List Value}
theorem Go.of {T' : State} {g g' : JFrame} (k : ∀ t, Steps p.tables e below (T'.setTop g') t → Steps p.tables e below (T.setTop g) t) (r : Go p e below En T' g') : Go p e below En T g := by
  obtain ⟨t, o, h1, r⟩ := r
  exact ⟨t, o, k t h1, r⟩
theorem Con.of {y : MethodName} {bytes : ByteArray} {maxL : Nat} {ret : Option FieldType} {rm : Room} {as : List Value} {Ls0 : Array Slot} (hp : plainFor y = true) (ef : ∀ m, entryFrame m as.toArray maxL = mkF m 0 Ls0 [])
    (body : ∀ (p : Program) (e : Env) (s : State) (m : MethodId) (below : List Frame) (meth : Method) (c : Code) (T : State), Stand p l e rm s m as.toArray below meth c T [] 0 0 → p.tables.exec = Jvm.exec → Z.Warmed39 s.vm → c.code = bytes → c.maxLocals = maxL → s.vm.findClass y.cls = some m.cls → meth.name = y.name → meth.sig.returnType = ret → meth.locks = false → T.heap = h → Go p e below (EndN s Q rm.cells rm.slots) T (mkF m 0 Ls0 [])) :
    Con l Z y bytes maxL ret rm as h Q := by
  intro ws
  refine MetFree.of_bodySF hp hisR ?_
  intro p e s m args below meth c s₁ Bd hml0 hP hK
  obtain ⟨rfl, hZ, hh⟩ := hP
  have X0 : Stand p l e rm s m as.toArray below meth c s₁ [] 0 0 := Stand.of_body Bd
  have e0 : s₁.heap = h := by rw [← hh, Bd.state]; rfl
  obtain ⟨t, o, h1, r⟩ := body p e s m below meth c s₁ X0 Bd.exec hZ Bd.bytes hml0 (findClass_of_methodNamed Bd.named) (name_of_methodNamed Bd.named Bd.method).1 Bd.returns Bd.notSynchronized e0
  exact ⟨t, o, castTop (ef m) h1, r⟩
theorem iloadN (X : Stand p l e R s m args below meth c T locs cells slots) (hx : p.tables.exec = Jvm.exec) {k : Fin 4} {v : Int32} (hd : decode c.code pc = .ok (.iload_n k, 1)) (hl : Ls[k.val]? = some (.val (.int v))) (r : Go p e below En T (mkF m (pc + 1) Ls (.int v :: st))) : Go p e below En T (mkF m pc Ls st) :=
  Go.of (fun t k => XS.iloadN (g := mkF m pc Ls st) X.here hx rfl hd hl k) r
theorem lloadN (X : Stand p l e R s m args below meth c T locs cells slots) (hx : p.tables.exec = Jvm.exec) {k : Fin 4} {v : Int64} (hd : decode c.code pc = .ok (.lload_n k, 1)) (hl : Ls[k.val]? = some (.val (.long v))) (r : Go p e below En T (mkF m (pc + 1) Ls (.long v :: st))) : Go p e below En T (mkF m pc Ls st) :=
  Go.of (fun t k => XS.lloadN (g := mkF m pc Ls st) X.here hx rfl hd hl k) r
theorem aloadN (X : Stand p l e R s m args below meth c T locs cells slots) (hx : p.tables.exec = Jvm.exec) {k : Fin 4} {v : Value} (hd : decode c.code pc = .ok (.aload_n k, 1)) (hl : Ls[k.val]? = some (.val v)) (hv : v.isRef = true) (r : Go p e below En T (mkF m (pc + 1) Ls (v :: st))) : Go p e below En T (mkF m pc Ls st) :=
  Go.of (fun t k => XS.aloadN (g := mkF m pc Ls st) X.here hx rfl hd hl hv k) r
theorem istoreN (X : Stand p l e R s m args below meth c T locs cells slots) (hx : p.tables.exec = Jvm.exec) {k : Fin 4} {v : Int32} {Ls' : Array Slot} (hd : decode c.code pc = .ok (.istore_n k, 1)) (hl : storeLocals Ls k.val (.int v) = some Ls') (r : Go p e below En T (mkF m (pc + 1) Ls' st)) : Go p e below En T (mkF m pc Ls (.int v :: st)) :=
  Go.of (fun t k => XS.istoreN (g := mkF m pc Ls (.int v :: st)) X.here hx rfl hd rfl hl k) r
theorem lstoreN (X : Stand p l e R s m args below meth c T locs cells slots) (hx : p.tables.exec = Jvm.exec) {k : Fin 4} {v : Int64} {Ls' : Array Slot} (hd : decode c.code pc = .ok (.lstore_n k, 1)) (hl : storeLocals Ls k.val (.long v) = some Ls') (r : Go p e below En T (mkF m (pc + 1) Ls' st)) : Go p e below En T (mkF m pc Ls (.long v :: st)) :=
  Go.of (fun t k => XS.lstoreN (g := mkF m pc Ls (.long v :: st)) X.here hx rfl hd rfl hl k) r
theorem astoreN (X : Stand p l e R s m args below meth c T locs cells slots) (hx : p.tables.exec = Jvm.exec) {k : Fin 4} {v : Value} {Ls' : Array Slot} (hd : decode c.code pc = .ok (.astore_n k, 1)) (hv : v.isRef = true) (hl : storeLocals Ls k.val v = some Ls') (r : Go p e below En T (mkF m (pc + 1) Ls' st)) : Go p e below En T (mkF m pc Ls (v :: st)) :=
  Go.of (fun t k => XS.astoreN (g := mkF m pc Ls (v :: st)) X.here hx rfl hd rfl hv hl k) r
theorem iload (X : Stand p l e R s m args below meth c T locs cells slots) (hx : p.tables.exec = Jvm.exec) {k : Nat} {v : Int32} (hd : decode c.code pc = .ok (.iload k, 2)) (hl : Ls[k]? = some (.val (.int v))) (r : Go p e below En T (mkF m (pc + 2) Ls (.int v :: st))) : Go p e below En T (mkF m pc Ls st) :=
  Go.of (fun t k => XS.iload (g := mkF m pc Ls st) X.here hx rfl hd hl k) r
theorem lload (X : Stand p l e R s m args below meth c T locs cells slots) (hx : p.tables.exec = Jvm.exec) {k : Nat} {v : Int64} (hd : decode c.code pc = .ok (.lload k, 2)) (hl : Ls[k]? = some (.val (.long v))) (r : Go p e below En T (mkF m (pc + 2) Ls (.long v :: st))) : Go p e below En T (mkF m pc Ls st) :=
  Go.of (fun t k => XS.lload (g := mkF m pc Ls st) X.here hx rfl hd hl k) r
theorem aload (X : Stand p l e R s m args below meth c T locs cells slots) (hx : p.tables.exec = Jvm.exec) {k : Nat} {v : Value} (hd : decode c.code pc = .ok (.aload k, 2)) (hl : Ls[k]? = some (.val v)) (hv : v.isRef = true) (r : Go p e below En T (mkF m (pc + 2) Ls (v :: st))) : Go p e below En T (mkF m pc Ls st) :=
  Go.of (fun t k => XS.aload (g := mkF m pc Ls st) X.here hx rfl hd hl hv k) r
theorem istore (X : Stand p l e R s m args below meth c T locs cells slots) (hx : p.tables.exec = Jvm.exec) {k : Nat} {v : Int32} {Ls' : Array Slot} (hd : decode c.code pc = .ok (.istore k, 2)) (hl : storeLocals Ls k (.int v) = some Ls') (r : Go p e below En T (mkF m (pc + 2) Ls' st)) : Go p e below En T (mkF m pc Ls (.int v :: st)) :=
  Go.of (fun t k => XS.istore (g := mkF m pc Ls (.int v :: st)) X.here hx rfl hd rfl hl k) r
theorem lstore (X : Stand p l e R s m args below meth c T locs cells slots) (hx : p.tables.exec = Jvm.exec) {k : Nat} {v : Int64} {Ls' : Array Slot} (hd : decode c.code pc = .ok (.lstore k, 2)) (hl : storeLocals Ls k (.long v) = some Ls') (r : Go p e below En T (mkF m (pc + 2) Ls' st)) : Go p e below En T (mkF m pc Ls (.long v :: st)) :=
  Go.of (fun t k => XS.lstore (g := mkF m pc Ls (.long v :: st)) X.here hx rfl hd rfl hl k) r
theorem astore (X : Stand p l e R s m args below meth c T locs cells slots) (hx : p.tables.exec = Jvm.exec) {k : Nat} {v : Value} {Ls' : Array Slot} (hd : decode c.code pc = .ok (.astore k, 2)) (hv : v.isRef = true) (hl : storeLocals Ls k v = some Ls') (r : Go p e below En T (mkF m (pc + 2) Ls' st)) : Go p e below En T (mkF m pc Ls (v :: st)) :=
  Go.of (fun t k => XS.astore (g := mkF m pc Ls (v :: st)) X.here hx rfl hd rfl hv hl k) r
theorem iconst (X : Stand p l e R s m args below meth c T locs cells slots) (hx : p.tables.exec = Jvm.exec) {i : Int} {z : Int32} (hd : decode c.code pc = .ok (.iconst i, 1)) (hz : Int32.ofInt i = z) (r : Go p e below En T (mkF m (pc + 1) Ls (.int z :: st))) : Go p e below En T (mkF m pc Ls st) :=
  Go.of (fun t k => XS.iconst (g := mkF m pc Ls st) X.here hx rfl hd (by rw [hz]; exact k)) r
theorem bipush (X : Stand p l e R s m args below meth c T locs cells slots) (hx : p.tables.exec = Jvm.exec) {i : Int} {z : Int32} (hd : decode c.code pc = .ok (.bipush i, 2)) (hz : (Int8.ofInt i).toInt32 = z) (r : Go p e below En T (mkF m (pc + 2) Ls (.int z :: st))) : Go p e below En T (mkF m pc Ls st) :=
  Go.of (fun t k => XS.bipush (g := mkF m pc Ls st) X.here hx rfl hd (by rw [hz]; exact k)) r
theorem sipush (X : Stand p l e R s m args below meth c T locs cells slots) (hx : p.tables.exec = Jvm.exec) {i : Int} {z : Int32} (hd : decode c.code pc = .ok (.sipush i, 3)) (hz : (Int16.ofInt i).toInt32 = z) (r : Go p e below En T (mkF m (pc + 3) Ls (.int z :: st))) : Go p e below En T (mkF m pc Ls st) :=
  Go.of (fun t k => XS.sipush (g := mkF m pc Ls st) X.here hx rfl hd (by rw [hz]; exact k)) r
theorem lconst (X : Stand p l e R s m args below meth c T locs cells slots) (hx : p.tables.exec = Jvm.exec) {i : Fin 2} {v : Int64} (hd : decode c.code pc = .ok (.lconst i, 1)) (hv : Int64.ofNat i.val = v) (r : Go p e below En T (mkF m (pc + 1) Ls (.long v :: st))) : Go p e below En T (mkF m pc Ls st) :=
  Go.of (fun t k => XS.lconst (g := mkF m pc Ls st) X.here hx rfl hd (by rw [hv]; exact k)) r
theorem aconstNull (X : Stand p l e R s m args below meth c T locs cells slots) (hx : p.tables.exec = Jvm.exec)  (hd : decode c.code pc = .ok (.aconst_null, 1))  (r : Go p e below En T (mkF m (pc + 1) Ls (.null :: st))) : Go p e below En T (mkF m pc Ls st) :=
  Go.of (fun t k => XS.aconstNull (g := mkF m pc Ls st) X.here hx rfl hd k) r
theorem iadd (X : Stand p l e R s m args below meth c T locs cells slots) (hx : p.tables.exec = Jvm.exec) {x y z : Int32} (hd : decode c.code pc = .ok (.iadd, 1)) (hz : x + y = z) (r : Go p e below En T (mkF m (pc + 1) Ls (.int z :: st))) : Go p e below En T (mkF m pc Ls (.int y :: .int x :: st)) :=
  Go.of (fun t k => XS.iadd (g := mkF m pc Ls (.int y :: .int x :: st)) X.here hx rfl hd rfl (by rw [hz]; exact k)) r
theorem isub (X : Stand p l e R s m args below meth c T locs cells slots) (hx : p.tables.exec = Jvm.exec) {x y z : Int32} (hd : decode c.code pc = .ok (.isub, 1)) (hz : x - y = z) (r : Go p e below En T (mkF m (pc + 1) Ls (.int z :: st))) : Go p e below En T (mkF m pc Ls (.int y :: .int x :: st)) :=
  Go.of (fun t k => XS.isub (g := mkF m pc Ls (.int y :: .int x :: st)) X.here hx rfl hd rfl (by rw [hz]; exact k)) r
theorem imul (X : Stand p l e R s m args below meth c T locs cells slots) (hx : p.tables.exec = Jvm.exec) {x y z : Int32} (hd : decode c.code pc = .ok (.imul, 1)) (hz : x * y = z) (r : Go p e below En T (mkF m (pc + 1) Ls (.int z :: st))) : Go p e below En T (mkF m pc Ls (.int y :: .int x :: st)) :=
  Go.of (fun t k => XS.imul (g := mkF m pc Ls (.int y :: .int x :: st)) X.here hx rfl hd rfl (by rw [hz]; exact k)) r
theorem iand (X : Stand p l e R s m args below meth c T locs cells slots) (hx : p.tables.exec = Jvm.exec) {x y z : Int32} (hd : decode c.code pc = .ok (.iand, 1)) (hz : x &&& y = z) (r : Go p e below En T (mkF m (pc + 1) Ls (.int z :: st))) : Go p e below En T (mkF m pc Ls (.int y :: .int x :: st)) :=
  Go.of (fun t k => XS.iand (g := mkF m pc Ls (.int y :: .int x :: st)) X.here hx rfl hd rfl (by rw [hz]; exact k)) r
theorem ior (X : Stand p l e R s m args below meth c T locs cells slots) (hx : p.tables.exec = Jvm.exec) {x y z : Int32} (hd : decode c.code pc = .ok (.ior, 1)) (hz : x ||| y = z) (r : Go p e below En T (mkF m (pc + 1) Ls (.int z :: st))) : Go p e below En T (mkF m pc Ls (.int y :: .int x :: st)) :=
  Go.of (fun t k => XS.ior (g := mkF m pc Ls (.int y :: .int x :: st)) X.here hx rfl hd rfl (by rw [hz]; exact k)) r
theorem ixor (X : Stand p l e R s m args below meth c T locs cells slots) (hx : p.tables.exec = Jvm.exec) {x y z : Int32} (hd : decode c.code pc = .ok (.ixor, 1)) (hz : x ^^^ y = z) (r : Go p e below En T (mkF m (pc + 1) Ls (.int z :: st))) : Go p e below En T (mkF m pc Ls (.int y :: .int x :: st)) :=
  Go.of (fun t k => XS.ixor (g := mkF m pc Ls (.int y :: .int x :: st)) X.here hx rfl hd rfl (by rw [hz]; exact k)) r
theorem ladd (X : Stand p l e R s m args below meth c T locs cells slots) (hx : p.tables.exec = Jvm.exec) {x y z : Int64} (hd : decode c.code pc = .ok (.ladd, 1)) (hz : x + y = z) (r : Go p e below En T (mkF m (pc + 1) Ls (.long z :: st))) : Go p e below En T (mkF m pc Ls (.long y :: .long x :: st)) :=
  Go.of (fun t k => XS.ladd (g := mkF m pc Ls (.long y :: .long x :: st)) X.here hx rfl hd rfl (by rw [hz]; exact k)) r
theorem lsub (X : Stand p l e R s m args below meth c T locs cells slots) (hx : p.tables.exec = Jvm.exec) {x y z : Int64} (hd : decode c.code pc = .ok (.lsub, 1)) (hz : x - y = z) (r : Go p e below En T (mkF m (pc + 1) Ls (.long z :: st))) : Go p e below En T (mkF m pc Ls (.long y :: .long x :: st)) :=
  Go.of (fun t k => XS.lsub (g := mkF m pc Ls (.long y :: .long x :: st)) X.here hx rfl hd rfl (by rw [hz]; exact k)) r
theorem lmul (X : Stand p l e R s m args below meth c T locs cells slots) (hx : p.tables.exec = Jvm.exec) {x y z : Int64} (hd : decode c.code pc = .ok (.lmul, 1)) (hz : x * y = z) (r : Go p e below En T (mkF m (pc + 1) Ls (.long z :: st))) : Go p e below En T (mkF m pc Ls (.long y :: .long x :: st)) :=
  Go.of (fun t k => XS.lmul (g := mkF m pc Ls (.long y :: .long x :: st)) X.here hx rfl hd rfl (by rw [hz]; exact k)) r
theorem land (X : Stand p l e R s m args below meth c T locs cells slots) (hx : p.tables.exec = Jvm.exec) {x y z : Int64} (hd : decode c.code pc = .ok (.land, 1)) (hz : x &&& y = z) (r : Go p e below En T (mkF m (pc + 1) Ls (.long z :: st))) : Go p e below En T (mkF m pc Ls (.long y :: .long x :: st)) :=
  Go.of (fun t k => XS.land (g := mkF m pc Ls (.long y :: .long x :: st)) X.here hx rfl hd rfl (by rw [hz]; exact k)) r
theorem lor (X : Stand p l e R s m args below meth c T locs cells slots) (hx : p.tables.exec = Jvm.exec) {x y z : Int64} (hd : decode c.code pc = .ok (.lor, 1)) (hz : x ||| y = z) (r : Go p e below En T (mkF m (pc + 1) Ls (.long z :: st))) : Go p e below En T (mkF m pc Ls (.long y :: .long x :: st)) :=
  Go.of (fun t k => XS.lor (g := mkF m pc Ls (.long y :: .long x :: st)) X.here hx rfl hd rfl (by rw [hz]; exact k)) r
theorem lxor (X : Stand p l e R s m args below meth c T locs cells slots) (hx : p.tables.exec = Jvm.exec) {x y z : Int64} (hd : decode c.code pc = .ok (.lxor, 1)) (hz : x ^^^ y = z) (r : Go p e below En T (mkF m (pc + 1) Ls (.long z :: st))) : Go p e below En T (mkF m pc Ls (.long y :: .long x :: st)) :=
  Go.of (fun t k => XS.lxor (g := mkF m pc Ls (.long y :: .long x :: st)) X.here hx rfl hd rfl (by rw [hz]; exact k)) r
theorem iushr (X : Stand p l e R s m args below meth c T locs cells slots) (hx : p.tables.exec = Jvm.exec) {x y z : Int32} (hd : decode c.code pc = .ok (.iushr, 1)) (hz : ((x.toUInt32 >>> (y &&& 31).toUInt32).toInt32) = z) (r : Go p e below En T (mkF m (pc + 1) Ls (.int z :: st))) : Go p e below En T (mkF m pc Ls (.int y :: .int x :: st)) :=
  Go.of (fun t k => XS.iushr (g := mkF m pc Ls (.int y :: .int x :: st)) X.here hx rfl hd rfl (by rw [hz]; exact k)) r
theorem ishr (X : Stand p l e R s m args below meth c T locs cells slots) (hx : p.tables.exec = Jvm.exec) {x y z : Int32} (hd : decode c.code pc = .ok (.ishr, 1)) (hz : (x >>> (y &&& 31)) = z) (r : Go p e below En T (mkF m (pc + 1) Ls (.int z :: st))) : Go p e below En T (mkF m pc Ls (.int y :: .int x :: st)) :=
  Go.of (fun t k => XS.ishr (g := mkF m pc Ls (.int y :: .int x :: st)) X.here hx rfl hd rfl (by rw [hz]; exact k)) r
theorem ishl (X : Stand p l e R s m args below meth c T locs cells slots) (hx : p.tables.exec = Jvm.exec) {x y z : Int32} (hd : decode c.code pc = .ok (.ishl, 1)) (hz : (x <<< (y &&& 31)) = z) (r : Go p e below En T (mkF m (pc + 1) Ls (.int z :: st))) : Go p e below En T (mkF m pc Ls (.int y :: .int x :: st)) :=
  Go.of (fun t k => XS.ishl (g := mkF m pc Ls (.int y :: .int x :: st)) X.here hx rfl hd rfl (by rw [hz]; exact k)) r
theorem irem (X : Stand p l e R s m args below meth c T locs cells slots) (hx : p.tables.exec = Jvm.exec) {x y z : Int32} (hd : decode c.code pc = .ok (.irem, 1)) (hy : y ≠ 0) (hz : x % y = z) (r : Go p e below En T (mkF m (pc + 1) Ls (.int z :: st))) : Go p e below En T (mkF m pc Ls (.int y :: .int x :: st)) :=
  Go.of (fun t k => iremM (g := mkF m pc Ls (.int y :: .int x :: st)) X hx rfl hd rfl hy (by rw [hz]; exact k)) r
theorem i2l (X : Stand p l e R s m args below meth c T locs cells slots) (hx : p.tables.exec = Jvm.exec) {x : Int32} {z : Int64} (hd : decode c.code pc = .ok (.i2l, 1)) (hz : x.toInt64 = z) (r : Go p e below En T (mkF m (pc + 1) Ls (.long z :: st))) : Go p e below En T (mkF m pc Ls (.int x :: st)) :=
  Go.of (fun t k => XS.i2l (g := mkF m pc Ls (.int x :: st)) X.here hx rfl hd rfl (by rw [hz]; exact k)) r
theorem l2i (X : Stand p l e R s m args below meth c T locs cells slots) (hx : p.tables.exec = Jvm.exec) {x : Int64} {z : Int32} (hd : decode c.code pc = .ok (.l2i, 1)) (hz : x.toInt32 = z) (r : Go p e below En T (mkF m (pc + 1) Ls (.int z :: st))) : Go p e below En T (mkF m pc Ls (.long x :: st)) :=
  Go.of (fun t k => XS.l2i (g := mkF m pc Ls (.long x :: st)) X.here hx rfl hd rfl (by rw [hz]; exact k)) r
theorem i2c (X : Stand p l e R s m args below meth c T locs cells slots) (hx : p.tables.exec = Jvm.exec) {x : Int32} {z : Int32} (hd : decode c.code pc = .ok (.i2c, 1)) (hz : (x.toUInt32.toUInt16.toUInt32.toInt32) = z) (r : Go p e below En T (mkF m (pc + 1) Ls (.int z :: st))) : Go p e below En T (mkF m pc Ls (.int x :: st)) :=
  Go.of (fun t k => XS.i2c (g := mkF m pc Ls (.int x :: st)) X.here hx rfl hd rfl (by rw [hz]; exact k)) r
theorem i2b (X : Stand p l e R s m args below meth c T locs cells slots) (hx : p.tables.exec = Jvm.exec) {x : Int32} {z : Int32} (hd : decode c.code pc = .ok (.i2b, 1)) (hz : (x.toInt8.toInt32) = z) (r : Go p e below En T (mkF m (pc + 1) Ls (.int z :: st))) : Go p e below En T (mkF m pc Ls (.int x :: st)) :=
  Go.of (fun t k => XS.i2b (g := mkF m pc Ls (.int x :: st)) X.here hx rfl hd rfl (by rw [hz]; exact k)) r
theorem dup (X : Stand p l e R s m args below meth c T locs cells slots) (hx : p.tables.exec = Jvm.exec) {v : Value} (hd : decode c.code pc = .ok (.dup, 1)) (hc : v.category = 1) (r : Go p e below En T (mkF m (pc + 1) Ls (v :: v :: st))) : Go p e below En T (mkF m pc Ls (v :: st)) :=
  Go.of (fun t k => XS.dup (g := mkF m pc Ls (v :: st)) X.here hx rfl hd rfl hc k) r
theorem pop (X : Stand p l e R s m args below meth c T locs cells slots) (hx : p.tables.exec = Jvm.exec) {v : Value} (hd : decode c.code pc = .ok (.pop, 1)) (hc : v.category = 1) (r : Go p e below En T (mkF m (pc + 1) Ls st)) : Go p e below En T (mkF m pc Ls (v :: st)) :=
  Go.of (fun t k => XS.pop (g := mkF m pc Ls (v :: st)) X.here hx rfl hd rfl hc k) r
theorem iinc (X : Stand p l e R s m args below meth c T locs cells slots) (hx : p.tables.exec = Jvm.exec) {k : Nat} {i : Int} {v z : Int32} {Ls' : Array Slot} (hd : decode c.code pc = .ok (.iinc k i, 3)) (hl : Ls[k]? = some (.val (.int v))) (hz : v + Int32.ofInt i = z) (hl' : storeLocals Ls k (.int z) = some Ls') (r : Go p e below En T (mkF m (pc + 3) Ls' st)) : Go p e below En T (mkF m pc Ls st) :=
  Go.of (fun t k => XS.iinc (g := mkF m pc Ls st) X.here hx rfl hd hl (by rw [hz]; exact hl') k) r
theorem goto (X : Stand p l e R s m args below meth c T locs cells slots) (hx : p.tables.exec = Jvm.exec) {o : Int} {pc' : Nat} (hd : decode c.code pc = .ok (.goto o, 3)) (ho : 0 ≤ (pc : Int) + o) (hp : ((pc : Int) + o).toNat = pc') (r : Go p e below En T (mkF m pc' Ls st)) : Go p e below En T (mkF m pc Ls st) :=
  Go.of (fun t k => XS.goto (g := mkF m pc Ls st) X.here hx rfl rfl hd ho hp k) r
theorem ic_eq (X : Stand p l e R s m args below meth c T locs cells slots) (hx : p.tables.exec = Jvm.exec) {o : Int} {pc' : Nat} {x y : Int32} (hd : decode c.code pc = .ok (.if_icmp .eq o, 3)) (ho : 0 ≤ (pc : Int) + o) (hp : ((pc : Int) + o).toNat = pc') (yes : x = y → Go p e below En T (mkF m pc' Ls st)) (no : ¬ (x = y) → Go p e below En T (mkF m (pc + 3) Ls st)) : Go p e below En T (mkF m pc Ls (.int y :: .int x :: st)) := by
  by_cases q : x = y
  · exact Go.of (fun t k => XS.icmpYes (g := mkF m pc Ls (.int y :: .int x :: st)) X.here hx rfl rfl hd rfl (teq q).1 ho hp k) (yes q)
  · exact Go.of (fun t k => XS.icmpNo (g := mkF m pc Ls (.int y :: .int x :: st)) X.here hx rfl hd rfl (feq q).1 k) (no q)
theorem if_eq (X : Stand p l e R s m args below meth c T locs cells slots) (hx : p.tables.exec = Jvm.exec) {o : Int} {pc' : Nat} {x : Int32} (hd : decode c.code pc = .ok (.ifCond .eq o, 3)) (ho : 0 ≤ (pc : Int) + o) (hp : ((pc : Int) + o).toNat = pc') (yes : x = 0 → Go p e below En T (mkF m pc' Ls st)) (no : ¬ (x = 0) → Go p e below En T (mkF m (pc + 3) Ls st)) : Go p e below En T (mkF m pc Ls (.int x :: st)) := by
  by_cases q : x = 0
  · exact Go.of (fun t k => XS.ifYes (g := mkF m pc Ls (.int x :: st)) X.here hx rfl rfl hd rfl ((if0 _ _).trans (teq q).1) ho hp k) (yes q)
  · exact Go.of (fun t k => XS.ifNo (g := mkF m pc Ls (.int x :: st)) X.here hx rfl hd rfl ((if0 _ _).trans (feq q).1) k) (no q)
theorem ic_ne (X : Stand p l e R s m args below meth c T locs cells slots) (hx : p.tables.exec = Jvm.exec) {o : Int} {pc' : Nat} {x y : Int32} (hd : decode c.code pc = .ok (.if_icmp .ne o, 3)) (ho : 0 ≤ (pc : Int) + o) (hp : ((pc : Int) + o).toNat = pc') (yes : ¬ (x = y) → Go p e below En T (mkF m pc' Ls st)) (no : x = y → Go p e below En T (mkF m (pc + 3) Ls st)) : Go p e below En T (mkF m pc Ls (.int y :: .int x :: st)) := by
  by_cases q : x = y
  · exact Go.of (fun t k => XS.icmpNo (g := mkF m pc Ls (.int y :: .int x :: st)) X.here hx rfl hd rfl (teq q).2 k) (no q)
  · exact Go.of (fun t k => XS.icmpYes (g := mkF m pc Ls (.int y :: .int x :: st)) X.here hx rfl rfl hd rfl (feq q).2 ho hp k) (yes q)
theorem if_ne (X : Stand p l e R s m args below meth c T locs cells slots) (hx : p.tables.exec = Jvm.exec) {o : Int} {pc' : Nat} {x : Int32} (hd : decode c.code pc = .ok (.ifCond .ne o, 3)) (ho : 0 ≤ (pc : Int) + o) (hp : ((pc : Int) + o).toNat = pc') (yes : ¬ (x = 0) → Go p e below En T (mkF m pc' Ls st)) (no : x = 0 → Go p e below En T (mkF m (pc + 3) Ls st)) : Go p e below En T (mkF m pc Ls (.int x :: st)) := by
  by_cases q : x = 0
  · exact Go.of (fun t k => XS.ifNo (g := mkF m pc Ls (.int x :: st)) X.here hx rfl hd rfl ((if0 _ _).trans (teq q).2) k) (no q)
  · exact Go.of (fun t k => XS.ifYes (g := mkF m pc Ls (.int x :: st)) X.here hx rfl rfl hd rfl ((if0 _ _).trans (feq q).2) ho hp k) (yes q)
theorem ic_lt (X : Stand p l e R s m args below meth c T locs cells slots) (hx : p.tables.exec = Jvm.exec) {o : Int} {pc' : Nat} {x y : Int32} (hd : decode c.code pc = .ok (.if_icmp .lt o, 3)) (ho : 0 ≤ (pc : Int) + o) (hp : ((pc : Int) + o).toNat = pc') (yes : x < y → Go p e below En T (mkF m pc' Ls st)) (no : ¬ (x < y) → Go p e below En T (mkF m (pc + 3) Ls st)) : Go p e below En T (mkF m pc Ls (.int y :: .int x :: st)) := by
  by_cases q : x < y
  · exact Go.of (fun t k => XS.icmpYes (g := mkF m pc Ls (.int y :: .int x :: st)) X.here hx rfl rfl hd rfl (tlt q).1 ho hp k) (yes q)
  · exact Go.of (fun t k => XS.icmpNo (g := mkF m pc Ls (.int y :: .int x :: st)) X.here hx rfl hd rfl (flt q).1 k) (no q)
theorem if_lt (X : Stand p l e R s m args below meth c T locs cells slots) (hx : p.tables.exec = Jvm.exec) {o : Int} {pc' : Nat} {x : Int32} (hd : decode c.code pc = .ok (.ifCond .lt o, 3)) (ho : 0 ≤ (pc : Int) + o) (hp : ((pc : Int) + o).toNat = pc') (yes : x < 0 → Go p e below En T (mkF m pc' Ls st)) (no : ¬ (x < 0) → Go p e below En T (mkF m (pc + 3) Ls st)) : Go p e below En T (mkF m pc Ls (.int x :: st)) := by
  by_cases q : x < 0
  · exact Go.of (fun t k => XS.ifYes (g := mkF m pc Ls (.int x :: st)) X.here hx rfl rfl hd rfl ((if0 _ _).trans (tlt q).1) ho hp k) (yes q)
  · exact Go.of (fun t k => XS.ifNo (g := mkF m pc Ls (.int x :: st)) X.here hx rfl hd rfl ((if0 _ _).trans (flt q).1) k) (no q)
theorem ic_ge (X : Stand p l e R s m args below meth c T locs cells slots) (hx : p.tables.exec = Jvm.exec) {o : Int} {pc' : Nat} {x y : Int32} (hd : decode c.code pc = .ok (.if_icmp .ge o, 3)) (ho : 0 ≤ (pc : Int) + o) (hp : ((pc : Int) + o).toNat = pc') (yes : ¬ (x < y) → Go p e below En T (mkF m pc' Ls st)) (no : x < y → Go p e below En T (mkF m (pc + 3) Ls st)) : Go p e below En T (mkF m pc Ls (.int y :: .int x :: st)) := by
  by_cases q : x < y
  · exact Go.of (fun t k => XS.icmpNo (g := mkF m pc Ls (.int y :: .int x :: st)) X.here hx rfl hd rfl (tlt q).2.1 k) (no q)
  · exact Go.of (fun t k => XS.icmpYes (g := mkF m pc Ls (.int y :: .int x :: st)) X.here hx rfl rfl hd rfl (flt q).2.1 ho hp k) (yes q)
theorem if_ge (X : Stand p l e R s m args below meth c T locs cells slots) (hx : p.tables.exec = Jvm.exec) {o : Int} {pc' : Nat} {x : Int32} (hd : decode c.code pc = .ok (.ifCond .ge o, 3)) (ho : 0 ≤ (pc : Int) + o) (hp : ((pc : Int) + o).toNat = pc') (yes : ¬ (x < 0) → Go p e below En T (mkF m pc' Ls st)) (no : x < 0 → Go p e below En T (mkF m (pc + 3) Ls st)) : Go p e below En T (mkF m pc Ls (.int x :: st)) := by
  by_cases q : x < 0
  · exact Go.of (fun t k => XS.ifNo (g := mkF m pc Ls (.int x :: st)) X.here hx rfl hd rfl ((if0 _ _).trans (tlt q).2.1) k) (no q)
  · exact Go.of (fun t k => XS.ifYes (g := mkF m pc Ls (.int x :: st)) X.here hx rfl rfl hd rfl ((if0 _ _).trans (flt q).2.1) ho hp k) (yes q)
theorem ic_gt (X : Stand p l e R s m args below meth c T locs cells slots) (hx : p.tables.exec = Jvm.exec) {o : Int} {pc' : Nat} {x y : Int32} (hd : decode c.code pc = .ok (.if_icmp .gt o, 3)) (ho : 0 ≤ (pc : Int) + o) (hp : ((pc : Int) + o).toNat = pc') (yes : y < x → Go p e below En T (mkF m pc' Ls st)) (no : ¬ (y < x) → Go p e below En T (mkF m (pc + 3) Ls st)) : Go p e below En T (mkF m pc Ls (.int y :: .int x :: st)) := by
  by_cases q : y < x
  · exact Go.of (fun t k => XS.icmpYes (g := mkF m pc Ls (.int y :: .int x :: st)) X.here hx rfl rfl hd rfl (tlt q).2.2.1 ho hp k) (yes q)
  · exact Go.of (fun t k => XS.icmpNo (g := mkF m pc Ls (.int y :: .int x :: st)) X.here hx rfl hd rfl (flt q).2.2.1 k) (no q)
theorem if_gt (X : Stand p l e R s m args below meth c T locs cells slots) (hx : p.tables.exec = Jvm.exec) {o : Int} {pc' : Nat} {x : Int32} (hd : decode c.code pc = .ok (.ifCond .gt o, 3)) (ho : 0 ≤ (pc : Int) + o) (hp : ((pc : Int) + o).toNat = pc') (yes : 0 < x → Go p e below En T (mkF m pc' Ls st)) (no : ¬ (0 < x) → Go p e below En T (mkF m (pc + 3) Ls st)) : Go p e below En T (mkF m pc Ls (.int x :: st)) := by
  by_cases q : 0 < x
  · exact Go.of (fun t k => XS.ifYes (g := mkF m pc Ls (.int x :: st)) X.here hx rfl rfl hd rfl ((if0 _ _).trans (tlt q).2.2.1) ho hp k) (yes q)
  · exact Go.of (fun t k => XS.ifNo (g := mkF m pc Ls (.int x :: st)) X.here hx rfl hd rfl ((if0 _ _).trans (flt q).2.2.1) k) (no q)
theorem ic_le (X : Stand p l e R s m args below meth c T locs cells slots) (hx : p.tables.exec = Jvm.exec) {o : Int} {pc' : Nat} {x y : Int32} (hd : decode c.code pc = .ok (.if_icmp .le o, 3)) (ho : 0 ≤ (pc : Int) + o) (hp : ((pc : Int) + o).toNat = pc') (yes : ¬ (y < x) → Go p e below En T (mkF m pc' Ls st)) (no : y < x → Go p e below En T (mkF m (pc + 3) Ls st)) : Go p e below En T (mkF m pc Ls (.int y :: .int x :: st)) := by
  by_cases q : y < x
  · exact Go.of (fun t k => XS.icmpNo (g := mkF m pc Ls (.int y :: .int x :: st)) X.here hx rfl hd rfl (tlt q).2.2.2 k) (no q)
  · exact Go.of (fun t k => XS.icmpYes (g := mkF m pc Ls (.int y :: .int x :: st)) X.here hx rfl rfl hd rfl (flt q).2.2.2 ho hp k) (yes q)
theorem if_le (X : Stand p l e R s m args below meth c T locs cells slots) (hx : p.tables.exec = Jvm.exec) {o : Int} {pc' : Nat} {x : Int32} (hd : decode c.code pc = .ok (.ifCond .le o, 3)) (ho : 0 ≤ (pc : Int) + o) (hp : ((pc : Int) + o).toNat = pc') (yes : ¬ (0 < x) → Go p e below En T (mkF m pc' Ls st)) (no : 0 < x → Go p e below En T (mkF m (pc + 3) Ls st)) : Go p e below En T (mkF m pc Ls (.int x :: st)) := by
  by_cases q : 0 < x
  · exact Go.of (fun t k => XS.ifNo (g := mkF m pc Ls (.int x :: st)) X.here hx rfl hd rfl ((if0 _ _).trans (tlt q).2.2.2) k) (no q)
  · exact Go.of (fun t k => XS.ifYes (g := mkF m pc Ls (.int x :: st)) X.here hx rfl rfl hd rfl ((if0 _ _).trans (flt q).2.2.2) ho hp k) (yes q)
theorem own_lc_eq (x y : Int64) : (lcmpW x y = 0) = (x = y) := by rw [lcW]; exact propext (Jvm.RoadKit.lc_eq x y)
theorem own_lc_lt (x y : Int64) : (lcmpW x y < 0) = (x < y) := by rw [lcW]; exact propext (Jvm.RoadKit.lc_lt x y)
theorem own_lc_gt (x y : Int64) : (0 < lcmpW x y) = (y < x) := by rw [lcW]; exact propext (Jvm.RoadKit.lc_gt x y)
theorem lcmp (X : Stand p l e R s m args below meth c T locs cells slots) (hx : p.tables.exec = Jvm.exec) {x y : Int64} (hd : decode c.code pc = .ok (.lcmp, 1))  (r : Go p e below En T (mkF m (pc + 1) Ls (.int (lcmpW x y) :: st))) : Go p e below En T (mkF m pc Ls (.long y :: .long x :: st)) :=
  Go.of (fun t k => XS.lcmp (g := mkF m pc Ls (.long y :: .long x :: st)) X.here hx rfl hd rfl k) r
theorem lc_eq_ (X : Stand p l e R s m args below meth c T locs cells slots) (hx : p.tables.exec = Jvm.exec) {o : Int} {pc' : Nat} {x y : Int64} (hd : decode c.code pc = .ok (.lcmp, 1)) (hd' : decode c.code (pc + 1) = .ok (.ifCond .eq o, 3)) (ho : 0 ≤ ((pc + 1 : Nat) : Int) + o) (hp : (((pc + 1 : Nat) : Int) + o).toNat = pc') (yes : x = y → Go p e below En T (mkF m pc' Ls st)) (no : ¬ (x = y) → Go p e below En T (mkF m (pc + 4) Ls st)) : Go p e below En T (mkF m pc Ls (.long y :: .long x :: st)) :=
  lcmp X hx hd (if_eq X hx hd' ho hp (fun q => yes (by rw [own_lc_eq] at q; exact q)) (fun q => no (by rw [own_lc_eq] at q; exact q)))
theorem lc_ne_ (X : Stand p l e R s m args below meth c T locs cells slots) (hx : p.tables.exec = Jvm.exec) {o : Int} {pc' : Nat} {x y : Int64} (hd : decode c.code pc = .ok (.lcmp, 1)) (hd' : decode c.code (pc + 1) = .ok (.ifCond .ne o, 3)) (ho : 0 ≤ ((pc + 1 : Nat) : Int) + o) (hp : (((pc + 1 : Nat) : Int) + o).toNat = pc') (yes : ¬ (x = y) → Go p e below En T (mkF m pc' Ls st)) (no : x = y → Go p e below En T (mkF m (pc + 4) Ls st)) : Go p e below En T (mkF m pc Ls (.long y :: .long x :: st)) :=
  lcmp X hx hd (if_ne X hx hd' ho hp (fun q => yes (by rw [own_lc_eq] at q; exact q)) (fun q => no (by rw [own_lc_eq] at q; exact q)))
theorem lc_lt_ (X : Stand p l e R s m args below meth c T locs cells slots) (hx : p.tables.exec = Jvm.exec) {o : Int} {pc' : Nat} {x y : Int64} (hd : decode c.code pc = .ok (.lcmp, 1)) (hd' : decode c.code (pc + 1) = .ok (.ifCond .lt o, 3)) (ho : 0 ≤ ((pc + 1 : Nat) : Int) + o) (hp : (((pc + 1 : Nat) : Int) + o).toNat = pc') (yes : x < y → Go p e below En T (mkF m pc' Ls st)) (no : ¬ (x < y) → Go p e below En T (mkF m (pc + 4) Ls st)) : Go p e below En T (mkF m pc Ls (.long y :: .long x :: st)) :=
  lcmp X hx hd (if_lt X hx hd' ho hp (fun q => yes (by rw [own_lc_lt] at q; exact q)) (fun q => no (by rw [own_lc_lt] at q; exact q)))
theorem lc_ge_ (X : Stand p l e R s m args below meth c T locs cells slots) (hx : p.tables.exec = Jvm.exec) {o : Int} {pc' : Nat} {x y : Int64} (hd : decode c.code pc = .ok (.lcmp, 1)) (hd' : decode c.code (pc + 1) = .ok (.ifCond .ge o, 3)) (ho : 0 ≤ ((pc + 1 : Nat) : Int) + o) (hp : (((pc + 1 : Nat) : Int) + o).toNat = pc') (yes : ¬ (x < y) → Go p e below En T (mkF m pc' Ls st)) (no : x < y → Go p e below En T (mkF m (pc + 4) Ls st)) : Go p e below En T (mkF m pc Ls (.long y :: .long x :: st)) :=
  lcmp X hx hd (if_ge X hx hd' ho hp (fun q => yes (by rw [own_lc_lt] at q; exact q)) (fun q => no (by rw [own_lc_lt] at q; exact q)))
theorem lc_gt_ (X : Stand p l e R s m args below meth c T locs cells slots) (hx : p.tables.exec = Jvm.exec) {o : Int} {pc' : Nat} {x y : Int64} (hd : decode c.code pc = .ok (.lcmp, 1)) (hd' : decode c.code (pc + 1) = .ok (.ifCond .gt o, 3)) (ho : 0 ≤ ((pc + 1 : Nat) : Int) + o) (hp : (((pc + 1 : Nat) : Int) + o).toNat = pc') (yes : y < x → Go p e below En T (mkF m pc' Ls st)) (no : ¬ (y < x) → Go p e below En T (mkF m (pc + 4) Ls st)) : Go p e below En T (mkF m pc Ls (.long y :: .long x :: st)) :=
  lcmp X hx hd (if_gt X hx hd' ho hp (fun q => yes (by rw [own_lc_gt] at q; exact q)) (fun q => no (by rw [own_lc_gt] at q; exact q)))
theorem lc_le_ (X : Stand p l e R s m args below meth c T locs cells slots) (hx : p.tables.exec = Jvm.exec) {o : Int} {pc' : Nat} {x y : Int64} (hd : decode c.code pc = .ok (.lcmp, 1)) (hd' : decode c.code (pc + 1) = .ok (.ifCond .le o, 3)) (ho : 0 ≤ ((pc + 1 : Nat) : Int) + o) (hp : (((pc + 1 : Nat) : Int) + o).toNat = pc') (yes : ¬ (y < x) → Go p e below En T (mkF m pc' Ls st)) (no : y < x → Go p e below En T (mkF m (pc + 4) Ls st)) : Go p e below En T (mkF m pc Ls (.long y :: .long x :: st)) :=
  lcmp X hx hd (if_le X hx hd' ho hp (fun q => yes (by rw [own_lc_gt] at q; exact q)) (fun q => no (by rw [own_lc_gt] at q; exact q)))
theorem ac_eq (X : Stand p l e R s m args below meth c T locs cells slots) (hx : p.tables.exec = Jvm.exec) {o : Int} {pc' : Nat} {x y : Value} (hx1 : x.isRef = true) (hy1 : y.isRef = true) (hd : decode c.code pc = .ok (.if_acmp .eq o, 3)) (ho : 0 ≤ (pc : Int) + o) (hp : ((pc : Int) + o).toNat = pc') (yes : x = y → Go p e below En T (mkF m pc' Ls st)) (no : ¬ (x = y) → Go p e below En T (mkF m (pc + 3) Ls st)) : Go p e below En T (mkF m pc Ls (y :: x :: st)) := by
  by_cases q : x = y
  · exact Go.of (fun t k => Jvm.RoadKit.acmp (g := mkF m pc Ls (y :: x :: st)) X hx rfl hx1 hy1 (pc0 := pc) (pc' := pc') (same := true) rfl hd rfl (decide_eq_true q) ho (hp.symm) k) (yes q)
  · exact Go.of (fun t k => Jvm.RoadKit.acmp (g := mkF m pc Ls (y :: x :: st)) X hx rfl hx1 hy1 (pc0 := pc) (pc' := pc + 3) (same := false) rfl hd rfl (decide_eq_false q) ho (rfl) k) (no q)
theorem ac_ne (X : Stand p l e R s m args below meth c T locs cells slots) (hx : p.tables.exec = Jvm.exec) {o : Int} {pc' : Nat} {x y : Value} (hx1 : x.isRef = true) (hy1 : y.isRef = true) (hd : decode c.code pc = .ok (.if_acmp .ne o, 3)) (ho : 0 ≤ (pc : Int) + o) (hp : ((pc : Int) + o).toNat = pc') (yes : ¬ (x = y) → Go p e below En T (mkF m pc' Ls st)) (no : x = y → Go p e below En T (mkF m (pc + 3) Ls st)) : Go p e below En T (mkF m pc Ls (y :: x :: st)) := by
  by_cases q : x = y
  · exact Go.of (fun t k => Jvm.RoadKit.acmp (g := mkF m pc Ls (y :: x :: st)) X hx rfl hx1 hy1 (pc0 := pc) (pc' := pc + 3) (same := true) rfl hd rfl (decide_eq_true q) ho (rfl) k) (no q)
  · exact Go.of (fun t k => Jvm.RoadKit.acmp (g := mkF m pc Ls (y :: x :: st)) X hx rfl hx1 hy1 (pc0 := pc) (pc' := pc') (same := false) rfl hd rfl (decide_eq_false q) ho (hp.symm) k) (yes q)
theorem ifnull_y (X : Stand p l e R s m args below meth c T locs cells slots) (hx : p.tables.exec = Jvm.exec) {o : Int} {pc' : Nat} (hd : decode c.code pc = .ok (.ifnull o, 3)) (ho : 0 ≤ (pc : Int) + o) (hp : ((pc : Int) + o).toNat = pc') (r : Go p e below En T (mkF m pc' Ls st)) : Go p e below En T (mkF m pc Ls (.null :: st)) :=
  Go.of (fun t k => XS.ifnullYes (g := mkF m pc Ls (.null :: st)) X.here hx rfl rfl hd rfl ho hp k) r
theorem ifnull_n (X : Stand p l e R s m args below meth c T locs cells slots) (hx : p.tables.exec = Jvm.exec) {o : Int} {b : Addr} (hd : decode c.code pc = .ok (.ifnull o, 3))  (r : Go p e below En T (mkF m (pc + 3) Ls st)) : Go p e below En T (mkF m pc Ls (.ref b :: st)) :=
  Go.of (fun t k => XS.ifnullNo (g := mkF m pc Ls (.ref b :: st)) X.here hx rfl hd rfl k) r
theorem ifnonnull_y (X : Stand p l e R s m args below meth c T locs cells slots) (hx : p.tables.exec = Jvm.exec) {o : Int} {pc' : Nat} {b : Addr} (hd : decode c.code pc = .ok (.ifnonnull o, 3)) (ho : 0 ≤ (pc : Int) + o) (hp : ((pc : Int) + o).toNat = pc') (r : Go p e below En T (mkF m pc' Ls st)) : Go p e below En T (mkF m pc Ls (.ref b :: st)) :=
  Go.of (fun t k => XS.ifnonnullYes (g := mkF m pc Ls (.ref b :: st)) X.here hx rfl rfl hd rfl ho hp k) r
theorem ifnonnull_n (X : Stand p l e R s m args below meth c T locs cells slots) (hx : p.tables.exec = Jvm.exec) {o : Int} (hd : decode c.code pc = .ok (.ifnonnull o, 3))  (r : Go p e below En T (mkF m (pc + 3) Ls st)) : Go p e below En T (mkF m pc Ls (.null :: st)) :=
  Go.of (fun t k => XS.ifnonnullNo (g := mkF m pc Ls (.null :: st)) X.here hx rfl hd rfl k) r
theorem ldcInt (X : Stand p l e R s m args below meth c T locs cells slots) (hx : p.tables.exec = Jvm.exec) (hZ : Z.Warmed39 s.vm) {own : String} {index : Nat} (hown : s.vm.findClass own = some m.cls) {v : Int32} (w : (Cond.constant own index v).before a0 Z = true) (hd : decode c.code pc = .ok (.ldc index, 2)) (r : Go p e below En T (mkF m (pc + 2) Ls (.int v :: st))) : Go p e below En T (mkF m pc Ls st) :=
  Go.of (fun t k => X.ldcInt hx hown (mvT hZ w) (g := mkF m pc Ls st) rfl hd _ k) r
theorem ldc2Long (X : Stand p l e R s m args below meth c T locs cells slots) (hx : p.tables.exec = Jvm.exec) (hZ : Z.Warmed39 s.vm) {own : String} {index : Nat} (hown : s.vm.findClass own = some m.cls) {v : Int64} (w : (Cond.constantLong own index v).before a0 Z = true) (hd : decode c.code pc = .ok (.ldc2_w index, 3)) (r : Go p e below En T (mkF m (pc + 3) Ls (.long v :: st))) : Go p e below En T (mkF m pc Ls st) :=
  Go.of (fun t k => X.ldc2Long hx hown (mvT hZ w) (g := mkF m pc Ls st) rfl hd _ k) r
theorem getS (X : Stand p l e R s m args below meth c T locs cells slots) (hx : p.tables.exec = Jvm.exec) (hZ : Z.Warmed39 s.vm) {own : String} {index : Nat} (hown : s.vm.findClass own = some m.cls) {R0 O n d host : String} (w : (Cond.fieldLink own index R0 n d).before a0 Z = true ∨ (Cond.fieldLinkNest own index R0 n d host).before a0 Z = true) (via : Via Z R0 O n d) (eT : T.heap = h) {v : Value} (F : Sta Z h O n d v) (hd : decode c.code pc = .ok (.getstatic index, 3)) (r : ∀ T', Stand p l e R s m args below meth c T' locs cells slots → T'.heap = h → Go p e below En T' (mkF m (pc + 3) Ls (v :: st))) : Go p e below En T (mkF m pc Ls st) := by
  obtain ⟨T', X', e', k⟩ := getS2 X hx hZ hown w via eT F (g := mkF m pc Ls st) rfl hd
  exact Go.of k (r T' X' e')
theorem getF (X : Stand p l e R s m args below meth c T locs cells slots) (hx : p.tables.exec = Jvm.exec) (hZ : Z.Warmed39 s.vm) {own : String} {index : Nat} (hown : s.vm.findClass own = some m.cls) {R0 O n d host : String} (w : (Cond.fieldLink own index R0 n d).before a0 Z = true ∨ (Cond.fieldLinkNest own index R0 n d host).before a0 Z = true) (via : Via Z R0 O n d) (eT : T.heap = h) {a : Addr} {v : Value} (F : Fld Z h a O n d v) (hd : decode c.code pc = .ok (.getfield index, 3)) (r : ∀ T', Stand p l e R s m args below meth c T' locs cells slots → T'.heap = h → Go p e below En T' (mkF m (pc + 3) Ls (v :: st))) : Go p e below En T (mkF m pc Ls (.ref a :: st)) := by
  obtain ⟨T', X', e', k⟩ := Jvm.RoadKit.getF X hx hZ hown w via eT F (g := mkF m pc Ls (.ref a :: st)) rfl rfl hd
  exact Go.of k (r T' X' e')
theorem newO (X : Stand p l e R s m args below meth c T locs cells slots) (hx : p.tables.exec = Jvm.exec) (hZ : Z.Warmed39 s.vm) {own : String} {index : Nat} (hown : s.vm.findClass own = some m.cls) {C0 : String} {n : Nat} (w : (Cond.classLink own index C0).before a0 Z = true) (wi : (Cond.instantiable C0 n).before a0 Z = true) (wz : (Cond.initialized C0).before a0 Z = true) (eT : T.heap = h) (hd : decode c.code pc = .ok (.new index, 3)) (hc : cells + 1 ≤ R.cells) (hl : slots + n ≤ R.slots) (r : ∀ T' h' a, a = h.size → Stand p l e R s m args below meth c T' locs (cells + 1) (slots + n) → T'.heap = h' → Ext h h' → Exa Z h' a C0 → (∀ {O nm d : String} {ty : FieldType}, Laid Z a0 C0 O nm d → parseFieldDescriptor d = some ty → Fld Z h' a O nm d (defaultValue ty)) → Go p e below En T' (mkF m (pc + 3) Ls (.ref a :: st))) : Go p e below En T (mkF m pc Ls st) := by
  obtain ⟨T', h', X', e', E', A', D', -, k⟩ := Jvm.RoadKit.newO X hx hZ hown w wi wz eT (g := mkF m pc Ls st) rfl hd hc hl
  exact Go.of k (r T' h' h.size rfl X' e' E' A' D')
theorem initO (X : Stand p l e R s m args below meth c T locs cells slots) (hx : p.tables.exec = Jvm.exec) (hZ : Z.Warmed39 s.vm) {own : String} {index : Nat} (hown : s.vm.findClass own = some m.cls) (w1 : (Cond.methodLink own index Lib.objectInit).before a0 Z = true) (w2 : (Cond.instanceMethod Lib.objectInit).before a0 Z = true) (w3 : (Cond.code Lib.objectInit ⟨#[0xb1]⟩ 1 none).before a0 Z = true) (eT : T.heap = h) (hsize : Ls.size = c.maxLocals) {a : Addr} (hd : decode c.code pc = .ok (.invokespecial index, 3)) (hf : 1 ≤ R.frames) (W : Nat) (hW : (st.map fun v => v.category).sum = W) (hl : W + 12 ≤ R.locals) (r : ∀ T', Stand p l e R s m args below meth c T' locs cells slots → T'.heap = h → Go p e below En T' (mkF m (pc + 3) Ls st)) : Go p e below En T (mkF m pc Ls (.ref a :: st)) := by
  obtain ⟨T', X', e', k⟩ := Jvm.RoadKit.initO X hx hZ hown w1 w2 w3 eT (g := mkF m pc Ls (.ref a :: st)) rfl hsize rfl hd hf (W := W) (by show 2 * 0 + _ ≤ _; rw [hW]; omega) hl
  exact Go.of k (r T' X' e')
theorem putF (X : Stand p l e R s m args below meth c T locs cells slots) (hx : p.tables.exec = Jvm.exec) (hZ : Z.Warmed39 s.vm) {own : String} {index : Nat} (hown : s.vm.findClass own = some m.cls) {R0 O n d host C0 : String} {kk : Nat} {ty : FieldType} (w : (Cond.fieldLink own index R0 n d).before a0 Z = true ∨ (Cond.fieldLinkNest own index R0 n d host).before a0 Z = true) (via : Via Z R0 O n d) (eT : T.heap = h) {a : Addr} {v old : Value} (F : Fld Z h a O n d old) (E : Exa Z h a C0) (L : (Cond.lays C0 O n d).before a0 Z = true ∨ ((Cond.laysFinal C0 O n d).before a0 Z = true ∧ own = O ∧ meth.name = "<init>")) (wi : (Cond.instantiable C0 kk).before a0 Z = true) (hty : parseFieldDescriptor d = some ty) (hn : narrow ty v = v) (hf : fits ty v = true) (hd : decode c.code pc = .ok (.putfield index, 3)) (r : ∀ T' h', Stand p l e R s m args below meth c T' (locs ++ [⟨a, Jvm.RoadKit.slotOf Z O n d⟩]) cells slots → T'.heap = h' → Wr h h' a (Jvm.RoadKit.slotOf Z O n d) v → Go p e below En T' (mkF m (pc + 3) Ls st)) : Go p e below En T (mkF m pc Ls (v :: .ref a :: st)) := by
  obtain ⟨T', h', X', e', W', k⟩ := Jvm.RoadKit.putF X hx hZ hown w via eT F E L wi hty hn hf (g := mkF m pc Ls (v :: .ref a :: st)) rfl rfl hd
  exact Go.of k (r T' h' X' e' W')
theorem newP (X : Stand p l e R s m args below meth c T locs cells slots) (hx : p.tables.exec = Jvm.exec) (hZ : Z.Warmed39 s.vm) {aty : ArrayType} (w : (Cond.arrayClass (newarray.typeOf aty)).before a0 Z = true) (eT : T.heap = h) (hd : decode c.code pc = .ok (.newarray aty, 2)) {n : Int32} (hn : ¬ n < 0) (cap : Nat) (hcap : n.toNatClampNeg ≤ cap) (hb : cap * 8 ≤ 536870912) (hc : cells + 1 ≤ R.cells) (hl : slots + cap ≤ R.slots) (r : ∀ T' h' k a, a = h.size → Stand p l e R s m args below meth c T' locs (cells + 1) (slots + cap) → T'.heap = h' → Ext h h' → Arr Z h' a (newA k (newarray.typeOf aty) n) (newarray.typeOf aty) → Go p e below En T' (mkF m (pc + 2) Ls (.ref a :: st))) : Go p e below En T (mkF m pc Ls (.int n :: st)) := by
  obtain ⟨T', h', k', X', e', E', A', k⟩ := Jvm.RoadKit.newP X hx hZ w eT (g := mkF m pc Ls (.int n :: st)) rfl hd rfl hn hcap hb hc hl
  exact Go.of k (r T' h' k' h.size rfl X' e' E' A')
theorem newR (X : Stand p l e R s m args below meth c T locs cells slots) (hx : p.tables.exec = Jvm.exec) (hZ : Z.Warmed39 s.vm) {own : String} {index : Nat} (hown : s.vm.findClass own = some m.cls) {C0 : String} (w1 : (Cond.classLink own index C0).before a0 Z = true) (w2 : (Cond.arrayOver (.object C0)).before a0 Z = true) (eT : T.heap = h) (hd : decode c.code pc = .ok (.anewarray index, 3)) {n : Int32} (hn : ¬ n < 0) (cap : Nat) (hcap : n.toNatClampNeg ≤ cap) (hb : cap * 8 ≤ 536870912) (hc : cells + 1 ≤ R.cells) (hl : slots + cap ≤ R.slots) (r : ∀ T' h' k a, a = h.size → Stand p l e R s m args below meth c T' locs (cells + 1) (slots + cap) → T'.heap = h' → Ext h h' → Arr Z h' a (newA k (.object C0) n) (.object C0) → Ovr Z k C0 → Go p e below En T' (mkF m (pc + 3) Ls (.ref a :: st))) : Go p e below En T (mkF m pc Ls (.int n :: st)) := by
  obtain ⟨T', h', k', X', e', E', A', O', k⟩ := Jvm.RoadKit.newR X hx hZ hown w1 w2 eT (g := mkF m pc Ls (.int n :: st)) rfl hd rfl hn hcap hb hc hl
  exact Go.of k (r T' h' k' h.size rfl X' e' E' A' O')
theorem stI (X : Stand p l e R s m args below meth c T locs cells slots) (hx : p.tables.exec = Jvm.exec) (hZ : Z.Warmed39 s.vm) (eT : T.heap = h) {a : Addr} {cl : Cell} (A : Arr Z h a cl .int) {j x : Int32} (hj : ¬ (j < 0 ∨ cl.slots.size ≤ j.toNatClampNeg)) (hd : decode c.code pc = .ok (.iastore, 1)) (r : ∀ T' h', Stand p l e R s m args below meth c T' (locs ++ [⟨a, j.toNatClampNeg⟩]) cells slots → T'.heap = h' → Wr h h' a j.toNatClampNeg (.int x) → Go p e below En T' (mkF m (pc + 1) Ls st)) : Go p e below En T (mkF m pc Ls ((.int x) :: .int j :: .ref a :: st)) := by
  obtain ⟨T', h', X', e', W', k⟩ := Jvm.RoadKit.stI X hx hZ eT A hj (g := mkF m pc Ls ((.int x) :: .int j :: .ref a :: st)) rfl rfl hd
  exact Go.of k (r T' h' X' e' W')
theorem stC (X : Stand p l e R s m args below meth c T locs cells slots) (hx : p.tables.exec = Jvm.exec) (hZ : Z.Warmed39 s.vm) (eT : T.heap = h) {a : Addr} {cl : Cell} (A : Arr Z h a cl .char) {j x : Int32} (hj : ¬ (j < 0 ∨ cl.slots.size ≤ j.toNatClampNeg)) (hd : decode c.code pc = .ok (.castore, 1)) (r : ∀ T' h', Stand p l e R s m args below meth c T' (locs ++ [⟨a, j.toNatClampNeg⟩]) cells slots → T'.heap = h' → Wr h h' a j.toNatClampNeg (.int (nar .char x)) → Go p e below En T' (mkF m (pc + 1) Ls st)) : Go p e below En T (mkF m pc Ls ((.int x) :: .int j :: .ref a :: st)) := by
  obtain ⟨T', h', X', e', W', k⟩ := Jvm.RoadKit.stC X hx hZ eT A hj (g := mkF m pc Ls ((.int x) :: .int j :: .ref a :: st)) rfl rfl hd
  exact Go.of k (r T' h' X' e' W')
theorem stR (X : Stand p l e R s m args below meth c T locs cells slots) (hx : p.tables.exec = Jvm.exec) (hZ : Z.Warmed39 s.vm) (eT : T.heap = h) {a : Addr} {cl : Cell} {ty : FieldType} (A : Arr Z h a cl ty) {j : Int32} {v : Value} (hj : ¬ (j < 0 ∨ cl.slots.size ≤ j.toNatClampNeg)) (hty : ty.isReference = true) (F : Sto Z h a v) (hd : decode c.code pc = .ok (.aastore, 1)) (r : ∀ T' h', Stand p l e R s m args below meth c T' (locs ++ [⟨a, j.toNatClampNeg⟩]) cells slots → T'.heap = h' → Wr h h' a j.toNatClampNeg v → Go p e below En T' (mkF m (pc + 1) Ls st)) : Go p e below En T (mkF m pc Ls (v :: .int j :: .ref a :: st)) := by
  obtain ⟨T', h', X', e', W', k⟩ := Jvm.RoadKit.stR X hx hZ eT A hj hty F (g := mkF m pc Ls (v :: .int j :: .ref a :: st)) rfl rfl hd
  exact Go.of k (r T' h' X' e' W')
theorem iaload (X : Stand p l e R s m args below meth c T locs cells slots) (hx : p.tables.exec = Jvm.exec) (hZ : Z.Warmed39 s.vm) (eT : T.heap = h) {a : Addr} {cl : Cell} (A : Arr Z h a cl .int) {j : Int32} {v : Value} (hj : ¬ (j < 0 ∨ cl.slots.size ≤ j.toNatClampNeg)) (hv : cl.slots[j.toNatClampNeg]? = some v) (hd : decode c.code pc = .ok (.iaload, 1)) (r : Go p e below En T (mkF m (pc + 1) Ls (v :: st))) : Go p e below En T (mkF m pc Ls (.int j :: .ref a :: st)) :=
  Go.of (fun t k => X.iaload hx (by rw [eT]; exact A.1) (State.isArrayOf_alike hZ.alike A.2.1) A.2.2 hj hv (g := mkF m pc Ls (.int j :: .ref a :: st)) rfl rfl hd t k) r
theorem caload (X : Stand p l e R s m args below meth c T locs cells slots) (hx : p.tables.exec = Jvm.exec) (hZ : Z.Warmed39 s.vm) (eT : T.heap = h) {a : Addr} {cl : Cell} (A : Arr Z h a cl .char) {j : Int32} {v : Value} (hj : ¬ (j < 0 ∨ cl.slots.size ≤ j.toNatClampNeg)) (hv : cl.slots[j.toNatClampNeg]? = some v) (hd : decode c.code pc = .ok (.caload, 1)) (r : Go p e below En T (mkF m (pc + 1) Ls (v :: st))) : Go p e below En T (mkF m pc Ls (.int j :: .ref a :: st)) :=
  Go.of (fun t k => X.caload hx (by rw [eT]; exact A.1) (State.isArrayOf_alike hZ.alike A.2.1) A.2.2 hj hv (g := mkF m pc Ls (.int j :: .ref a :: st)) rfl rfl hd t k) r
theorem aaload (X : Stand p l e R s m args below meth c T locs cells slots) (hx : p.tables.exec = Jvm.exec) (hZ : Z.Warmed39 s.vm) (eT : T.heap = h) {a : Addr} {cl : Cell} {ty : FieldType} (A : Arr Z h a cl ty) (hty : ty.isReference = true) {j : Int32} {v : Value} (hj : ¬ (j < 0 ∨ cl.slots.size ≤ j.toNatClampNeg)) (hv : cl.slots[j.toNatClampNeg]? = some v) (hd : decode c.code pc = .ok (.aaload, 1)) (r : Go p e below En T (mkF m (pc + 1) Ls (v :: st))) : Go p e below En T (mkF m pc Ls (.int j :: .ref a :: st)) :=
  Go.of (fun t k => X.aaload hx (by rw [eT]; exact A.1) (State.isArrayOf_alike hZ.alike A.2.1) hty A.2.2 hj hv (g := mkF m pc Ls (.int j :: .ref a :: st)) rfl rfl hd t k) r
theorem arraylength (X : Stand p l e R s m args below meth c T locs cells slots) (hx : p.tables.exec = Jvm.exec) (hZ : Z.Warmed39 s.vm) (eT : T.heap = h) {a : Addr} {cl : Cell} {ty : FieldType} (A : Arr Z h a cl ty) {n : Int32} (hn : cl.slots.size.toInt32 = n) (hd : decode c.code pc = .ok (.arraylength, 1)) (r : Go p e below En T (mkF m (pc + 1) Ls (.int n :: st))) : Go p e below En T (mkF m pc Ls (.ref a :: st)) := by
  subst hn
  exact Go.of (fun t k => X.arraylength hx (by rw [eT]; exact A.1) (State.isArrayOf_alike hZ.alike A.2.1) (g := mkF m pc Ls (.ref a :: st)) rfl rfl hd t k) r
theorem retB (X : Stand p l e R s m args below meth c T locs cells slots) (hx : p.tables.exec = Jvm.exec) (hlk : meth.locks = false) {z z' : Int32} (hret : meth.sig.returnType = some .boolean) (hd : decode c.code pc = .ok (.ireturn, 1)) (hz : nar .boolean z = z') (hq : Q (some (.int z')) T.heap locs) (hC : cells ≤ C) (hS : slots ≤ S) : Go p e below (EndN s Q C S) T (mkF m pc Ls (.int z :: st)) := by
  obtain ⟨fs, hr, hrun, hended, hW, hsame⟩ := X.leave (v := (some (.int z'))) (fun h => by rw [hret] at h; cases h) hlk
  exact ⟨_, _, (by subst hz; exact retN X hx (t := .boolean) hret (by simp) hd hr), hrun, hended, _, _, rfl, hq, ⟨_, rfl⟩, hW, hsame.mono hC hS⟩
theorem retC (X : Stand p l e R s m args below meth c T locs cells slots) (hx : p.tables.exec = Jvm.exec) (hlk : meth.locks = false) {z z' : Int32} (hret : meth.sig.returnType = some .char) (hd : decode c.code pc = .ok (.ireturn, 1)) (hz : nar .char z = z') (hq : Q (some (.int z')) T.heap locs) (hC : cells ≤ C) (hS : slots ≤ S) : Go p e below (EndN s Q C S) T (mkF m pc Ls (.int z :: st)) := by
  obtain ⟨fs, hr, hrun, hended, hW, hsame⟩ := X.leave (v := (some (.int z'))) (fun h => by rw [hret] at h; cases h) hlk
  exact ⟨_, _, (by subst hz; exact retN X hx (t := .char) hret (by simp) hd hr), hrun, hended, _, _, rfl, hq, ⟨_, rfl⟩, hW, hsame.mono hC hS⟩
theorem own_retI (X : Stand p l e R s m args below meth c T locs cells slots) (hx : p.tables.exec = Jvm.exec) {z : Int32} {rest : List Value} (hret : meth.sig.returnType = some .int) (hd : decode c.code pc = .ok (.ireturn, 1)) {fs : List Frame}
    (hl : ∀ (f : JFrame) (acts : List Action), f.method = m → f.locked = none → f.entered = [] → (doReturn e (T.setTop f) acts (some (.int z))).1 = T.setFrames fs) : Steps p.tables e below (T.setTop (mkF m pc Ls (.int z :: rest))) (T.setFrames fs) := by
  have hm' : T.vm.method? m = some meth := X.method'
  have hn : narrow .int (.int z) = .int z := rfl
  show Steps p.tables e below (T.setTop { method := m, pc := pc, locals := Ls, stack := _ :: rest, locked := none }) _
  jvm_step X.here [X.here.top, hx, hd, hm', hret, hn]
  first | (intro acts; rw [hl _ acts rfl rfl rfl]) | rw [hl _ _ rfl rfl rfl]
  exact Steps.refl _
theorem own_retJ (X : Stand p l e R s m args below meth c T locs cells slots) (hx : p.tables.exec = Jvm.exec) {z : Int64} {rest : List Value} (hret : meth.sig.returnType = some .long) (hd : decode c.code pc = .ok (.lreturn, 1)) {fs : List Frame}
    (hl : ∀ (f : JFrame) (acts : List Action), f.method = m → f.locked = none → f.entered = [] → (doReturn e (T.setTop f) acts (some (.long z))).1 = T.setFrames fs) : Steps p.tables e below (T.setTop (mkF m pc Ls (.long z :: rest))) (T.setFrames fs) := by
  have hm' : T.vm.method? m = some meth := X.method'
  show Steps p.tables e below (T.setTop { method := m, pc := pc, locals := Ls, stack := _ :: rest, locked := none }) _
  jvm_step X.here [X.here.top, hx, hd, hm', hret, narrow]
  first | (intro acts; rw [hl _ acts rfl rfl rfl]) | rw [hl _ _ rfl rfl rfl]
  exact Steps.refl _
theorem own_retA (X : Stand p l e R s m args below meth c T locs cells slots) (hx : p.tables.exec = Jvm.exec) {z : Value} (hz : z.isRef = true) {t : FieldType} (ht : t.isReference = true) {rest : List Value} (hret : meth.sig.returnType = some t) (hd : decode c.code pc = .ok (.areturn, 1)) {fs : List Frame}
    (hl : ∀ (f : JFrame) (acts : List Action), f.method = m → f.locked = none → f.entered = [] → (doReturn e (T.setTop f) acts (some z)).1 = T.setFrames fs) : Steps p.tables e below (T.setTop (mkF m pc Ls (z :: rest))) (T.setFrames fs) := by
  have hm' : T.vm.method? m = some meth := X.method'
  show Steps p.tables e below (T.setTop { method := m, pc := pc, locals := Ls, stack := _ :: rest, locked := none }) _
  rcases ref_cases hz with rfl | ⟨b, rfl⟩
  all_goals
    jvm_step X.here [X.here.top, hx, hd, hm', hret, ht, Value.isRef]
    first | (intro acts; rw [hl _ acts rfl rfl rfl]) | rw [hl _ _ rfl rfl rfl]
    exact Steps.refl _
theorem retI (X : Stand p l e R s m args below meth c T locs cells slots) (hx : p.tables.exec = Jvm.exec) (hlk : meth.locks = false) {z : Int32} (hret : meth.sig.returnType = some .int) (hd : decode c.code pc = .ok (.ireturn, 1)) (hq : Q (some (.int z)) T.heap locs) (hC : cells ≤ C) (hS : slots ≤ S) : Go p e below (EndN s Q C S) T (mkF m pc Ls (.int z :: st)) := by
  obtain ⟨fs, hr, hrun, hended, hW, hsame⟩ := X.leave (v := (some (.int z))) (fun h => by rw [hret] at h; cases h) hlk
  exact ⟨_, _, own_retI X hx hret hd hr, hrun, hended, _, _, rfl, hq, ⟨_, rfl⟩, hW, hsame.mono hC hS⟩
theorem retJ (X : Stand p l e R s m args below meth c T locs cells slots) (hx : p.tables.exec = Jvm.exec) (hlk : meth.locks = false) {z : Int64} (hret : meth.sig.returnType = some .long) (hd : decode c.code pc = .ok (.lreturn, 1)) (hq : Q (some (.long z)) T.heap locs) (hC : cells ≤ C) (hS : slots ≤ S) : Go p e below (EndN s Q C S) T (mkF m pc Ls (.long z :: st)) := by
  obtain ⟨fs, hr, hrun, hended, hW, hsame⟩ := X.leave (v := (some (.long z))) (fun h => by rw [hret] at h; cases h) hlk
  exact ⟨_, _, own_retJ X hx hret hd hr, hrun, hended, _, _, rfl, hq, ⟨_, rfl⟩, hW, hsame.mono hC hS⟩
theorem retA (X : Stand p l e R s m args below meth c T locs cells slots) (hx : p.tables.exec = Jvm.exec) (hlk : meth.locks = false) {z : Value} {t : FieldType} (hz : z.isRef = true) (ht : t.isReference = true) (hret : meth.sig.returnType = some t) (hd : decode c.code pc = .ok (.areturn, 1)) (hq : Q (some z) T.heap locs) (hC : cells ≤ C) (hS : slots ≤ S) : Go p e below (EndN s Q C S) T (mkF m pc Ls (z :: st)) := by
  obtain ⟨fs, hr, hrun, hended, hW, hsame⟩ := X.leave (v := (some z)) (fun h => by rw [hret] at h; cases h) hlk
  exact ⟨_, _, own_retA X hx hz ht hret hd hr, hrun, hended, _, _, rfl, hq, ⟨_, rfl⟩, hW, hsame.mono hC hS⟩
theorem retV (X : Stand p l e R s m args below meth c T locs cells slots) (hx : p.tables.exec = Jvm.exec) (hlk : meth.locks = false)  (hret : meth.sig.returnType = none) (hd : decode c.code pc = .ok (.return_, 1)) (hq : Q none T.heap locs) (hC : cells ≤ C) (hS : slots ≤ S) : Go p e below (EndN s Q C S) T (mkF m pc Ls []) := by
  obtain ⟨fs, hr, hrun, hended, hW, hsame⟩ := X.leave (v := none) (fun _ => rfl) hlk
  exact ⟨_, _, X.returnOut hx hret hd hr, hrun, hended, _, _, rfl, hq, ⟨_, rfl⟩, hW, hsame.mono hC hS⟩
theorem callS (X : Stand p l e R s m args below meth c T locs cells slots) (hx : p.tables.exec = Jvm.exec) (hZ : Z.Warmed39 s.vm) {own : String} {index : Nat} (hown : s.vm.findClass own = some m.cls) {y : MethodName} {bytes : ByteArray} {maxL : Nat} {ret : Option FieldType} {rm : Room} {as : List Value} {Qc : Option Value → Heap → List Loc → Prop} (w1 : (Cond.methodLink own index y).before a0 Z = true) (w2 : (Cond.static y).before a0 Z = true) (w3 : (Cond.initialized y.cls).before a0 Z = true) (w4 : (Cond.code y bytes maxL ret).before a0 Z = true) (hy : y.cls ≠ "java/lang/invoke/MethodHandle" ∧ y.cls ≠ "java/lang/invoke/VarHandle") (eT : T.heap = h) (hM : Con l Z y bytes maxL ret rm as h Qc) {rest : List Value} (W : Nat) (hf : rm.frames + 1 ≤ R.frames) (hlo : W + (maxL + 11) + rm.locals ≤ R.locals) (hc : cells + rm.cells ≤ R.cells) (hs : slots + rm.slots ≤ R.slots) (hsize : Ls.size = c.maxLocals) (hlen : ∀ sig, parseMethodDescriptor y.desc = some sig → as.length = sig.parameters.length) (hst : st = as.reverse ++ rest) (hW : (rest.map fun v => v.category).sum = W) (hd : decode c.code pc = .ok (.invokestatic index, 3)) (r : ∀ v T' L, Stand p l e R s m args below meth c T' (locs ++ L) (cells + rm.cells) (slots + rm.slots) → Qc v T'.heap L → Go p e below En T' (mkF m (pc + 3) Ls (v.toList ++ rest))) : Go p e below En T (mkF m pc Ls st) := by
  obtain ⟨v, _, ⟨T', L', k', n'⟩, -, X', ⟨Lc, hq, e1, e2, e3⟩, k⟩ := Jvm.LawKit.callS X hx hown (mvT hZ w1) (mvT hZ w2) (mvT hZ w3) (mvT hZ w4) hy (backOf (W := W) (len := 3) (hM []) hZ w4 w3 hf hlo) (g := mkF m pc Ls st) rfl hsize (argsL := as) (rest := rest) hlen hst (by show 2 * 0 + _ ≤ _; rw [hW]; omega) hd (fun _ _ => ⟨rfl, eT, hc, hs⟩)
  dsimp only [Pt.U, Pt.locs, Pt.cells, Pt.slots] at X' e1 e2 e3 k hq
  subst e1 e2 e3
  exact Go.of k (r v T' Lc X' hq)
theorem callV (X : Stand p l e R s m args below meth c T locs cells slots) (hx : p.tables.exec = Jvm.exec) (hZ : Z.Warmed39 s.vm) {own : String} {index : Nat} (hown : s.vm.findClass own = some m.cls) {y : MethodName} {bytes : ByteArray} {maxL : Nat} {ret : Option FieldType} {rm : Room} {as : List Value} {Qc : Option Value → Heap → List Loc → Prop} {z : MethodName} {C0 : String} (w1 : (Cond.methodLink own index y).before a0 Z = true) (wd : (Cond.declares y).before a0 Z = true) (nf : NotFace s y) (ws : (Cond.selects C0 y z).before a0 Z = true) (wi : (Cond.instanceMethod z).before a0 Z = true) (w3 : (Cond.initialized z.cls).before a0 Z = true) (w4 : (Cond.code z bytes maxL ret).before a0 Z = true) (hy : y.cls ≠ "java/lang/invoke/MethodHandle" ∧ y.cls ≠ "java/lang/invoke/VarHandle") (eT : T.heap = h) {b : Addr} (E : Exa Z h b C0) (hM : Con l Z z bytes maxL ret rm (.ref b :: as) h Qc) {rest : List Value} (W : Nat) (hf : rm.frames + 1 ≤ R.frames) (hlo : W + (maxL + 11) + rm.locals ≤ R.locals) (hc : cells + rm.cells ≤ R.cells) (hs : slots + rm.slots ≤ R.slots) (hsize : Ls.size = c.maxLocals) (hlen : ∀ sig, parseMethodDescriptor y.desc = some sig → as.length = sig.parameters.length) (hst : st = as.reverse ++ .ref b :: rest) (hW : (rest.map fun v => v.category).sum = W) (hd : decode c.code pc = .ok (.invokevirtual index, 3)) (r : ∀ v T' L, Stand p l e R s m args below meth c T' (locs ++ L) (cells + rm.cells) (slots + rm.slots) → Qc v T'.heap L → Go p e below En T' (mkF m (pc + 3) Ls (v.toList ++ rest))) : Go p e below En T (mkF m pc Ls st) := by
  obtain ⟨cB, kB, q1, -, q3⟩ := isOf hZ eT E
  obtain ⟨v, _, ⟨T', L', k', n'⟩, -, X', ⟨Lc, hq, e1, e2, e3⟩, k⟩ := X.virtualBack hx hown (mvT hZ w1) (mvT hZ wd) nf (mvT hZ ws) (mvT hZ wi) hy (backOf (W := W) (len := 3) (hM []) hZ w4 w3 hf hlo) q1 q3 (g := mkF m pc Ls st) rfl hsize (Steps.refl _) (argsL := as) (rest := rest) hlen hst (by show 2 * 0 + _ ≤ _; rw [hW]; omega) hd (fun _ _ => ⟨rfl, eT, hc, hs⟩)
  dsimp only [Pt.U, Pt.locs, Pt.cells, Pt.slots] at X' e1 e2 e3 k hq
  subst e1 e2 e3
  exact Go.of (fun t q => k.trans q) (r v T' Lc X' hq)
theorem callI (X : Stand p l e R s m args below meth c T locs cells slots) (hx : p.tables.exec = Jvm.exec) (hZ : Z.Warmed39 s.vm) {own : String} {index : Nat} (hown : s.vm.findClass own = some m.cls) {y : MethodName} {bytes : ByteArray} {maxL : Nat} {rm : Room} {as : List Value} {Qc : Option Value → Heap → List Loc → Prop} (hn : y.name = "<init>") (w1 : (Cond.methodLink own index y).before a0 Z = true) (wi : (Cond.instanceMethod y).before a0 Z = true) (w3 : (Cond.initialized y.cls).before a0 Z = true) (w4 : (Cond.code y bytes maxL none).before a0 Z = true) (hy : y.cls ≠ "java/lang/invoke/MethodHandle" ∧ y.cls ≠ "java/lang/invoke/VarHandle") (eT : T.heap = h) {b : Addr} (hM : Con l Z y bytes maxL none rm (.ref b :: as) h Qc) {rest : List Value} (W : Nat) (hf : rm.frames + 1 ≤ R.frames) (hlo : W + (maxL + 11) + rm.locals ≤ R.locals) (hc : cells + rm.cells ≤ R.cells) (hs : slots + rm.slots ≤ R.slots) (hsize : Ls.size = c.maxLocals) (hlen : ∀ sig, parseMethodDescriptor y.desc = some sig → as.length = sig.parameters.length) (hst : st = as.reverse ++ .ref b :: rest) (hW : (rest.map fun v => v.category).sum = W) (hd : decode c.code pc = .ok (.invokespecial index, 3)) (r : ∀ v T' L, Stand p l e R s m args below meth c T' (locs ++ L) (cells + rm.cells) (slots + rm.slots) → Qc v T'.heap L → Go p e below En T' (mkF m (pc + 3) Ls (v.toList ++ rest))) : Go p e below En T (mkF m pc Ls st) := by
  obtain ⟨v, _, ⟨T', L', k', n'⟩, -, X', ⟨Lc, hq, e1, e2, e3⟩, k⟩ := X.specialBack hx hn hown (mvT hZ w1) (mvT hZ wi) (mvT hZ w4) hy (backOf (W := W) (len := 3) (hM []) hZ w4 w3 hf hlo) (g := mkF m pc Ls st) rfl hsize (Steps.refl _) (a := b) (argsL := as) (rest := rest) hlen hst (by show 2 * 0 + _ ≤ _; rw [hW]; omega) hd (fun _ _ => ⟨rfl, eT, hc, hs⟩)
  dsimp only [Pt.U, Pt.locs, Pt.cells, Pt.slots] at X' e1 e2 e3 k hq
  subst e1 e2 e3
  exact Go.of (fun t q => k.trans q) (r v T' Lc X' hq)
end Own
end Jvm.OwnGo
namespace Jvm.Pilot.@@N@@
open Jvm Jvm.ClassFile Sem Op Lib Jvm.Free Jvm.Stand Jvm.LawKit Jvm.RoadKit Bundle Jvm.Pilot.@@N@@.Jvm.D
open Jvm.OwnGo (Go Con Ret)
theorem own_pd0 : parseMethodDescriptor "()Z" = some ⟨[], some .boolean⟩ := by decide +kernel
theorem own_pn0 : plainName "com/example/ulinzi/ulinzi/packetfilter/Target$Kind" = true := by first | (simp [plainName, overriddenIn]; done) | decide +kernel
theorem own_pn1 : plainName "com/example/ulinzi/ulinzi/packetfilter/KindDecidesPinLaw" = true := by first | (simp [plainName, overriddenIn]; done) | decide +kernel
theorem own_pin {s : State} {args : Array Value} {C f d K : String} (hx : (Jvm.Cond.exactly (.static C f d) K).value args s none s [] = some true) (hi : (Jvm.Cond.initialized C).before args s = true) (hl : (Jvm.Cond.laysStatic C f d).before args s = true) :
    ∃ a, (Term.static C f d).eval args s none [] s = some (.ref a) ∧ Sta s s.heap C f d (.ref a) ∧ Exa s s.heap a K := by
  obtain ⟨a, e⟩ := exa_v hx
  exact ⟨a, e, Sta.start e (Or.inr ⟨hi, hl⟩), Exa.start e hx⟩
theorem own_fldpin {s : State} {args : Array Value} {t : Term} {a : Addr} {O n d : String} {k : Int32} (e : t.eval args s none [] s = some (.ref a)) (hq : (Jvm.Cond.eq (.field t O n d) (.int k)).value args s none s [] = some true) : Fld s s.heap a O n d (.int k) := by
  obtain ⟨x, y, h1, h2, h3, h4⟩ := cmp_v (Or.inl hq)
  have hy : y = .int k := (Option.some.inj h2).symm
  subst hy
  obtain ⟨z, rfl⟩ := h4
  have q : z = k := gotT (by simp only [Cond.value, h1, h2] : (Jvm.Cond.eq (.field t O n d) (.int k)).value args s none s [] = some (decide (z = k))) hq
  subst q
  rw [fld_at e] at h1
  exact Fld.start h1
theorem own_fld_inj {Z : State} {h : Heap} {a : Addr} {C n d : String} {v w : Value} (F : Fld Z h a C n d v) (F' : Fld Z h a C n d w) : v = w := by
  obtain ⟨cell, cf, k, i, f, h1, h2, -, -, -, -, h7⟩ := F
  obtain ⟨cell', cf', k', i', f', g1, g2, -, -, -, -, g7⟩ := F'
  cases h1.symm.trans g1
  cases h2.symm.trans g2
  exact Option.some.inj (h7.symm.trans g7)
theorem own_ne {Z : State} {h : Heap} {a b : Addr} {C n d : String} {i j : Int32} (F : Fld Z h a C n d (.int i)) (G : Fld Z h b C n d (.int j)) (q : i ≠ j) : a ≠ b := fun e => by
  subst e
  exact q (Value.int.inj (own_fld_inj F G))
theorem d1_0 : decode prog_78_method_4_code 0 = .ok (.aload_n 0, 1) := by decide +kernel
theorem d1_1 : decode prog_78_method_4_code 1 = .ok (.getstatic 3, 3) := by decide +kernel
theorem d1_4 : decode prog_78_method_4_code 4 = .ok (.if_acmp .eq 17, 3) := by decide +kernel
theorem d1_7 : decode prog_78_method_4_code 7 = .ok (.aload_n 0, 1) := by decide +kernel
theorem d1_8 : decode prog_78_method_4_code 8 = .ok (.getstatic 7, 3) := by decide +kernel
theorem d1_11 : decode prog_78_method_4_code 11 = .ok (.if_acmp .eq 10, 3) := by decide +kernel
theorem d1_14 : decode prog_78_method_4_code 14 = .ok (.aload_n 0, 1) := by decide +kernel
theorem d1_15 : decode prog_78_method_4_code 15 = .ok (.getstatic 10, 3) := by decide +kernel
theorem d1_18 : decode prog_78_method_4_code 18 = .ok (.if_acmp .ne 7, 3) := by decide +kernel
theorem d1_21 : decode prog_78_method_4_code 21 = .ok (.iconst 1, 1) := by decide +kernel
theorem d1_22 : decode prog_78_method_4_code 22 = .ok (.goto 4, 3) := by decide +kernel
theorem d1_25 : decode prog_78_method_4_code 25 = .ok (.iconst 0, 1) := by decide +kernel
theorem d1_26 : decode prog_78_method_4_code 26 = .ok (.ireturn, 1) := by decide +kernel
theorem own_ef_rm1 (m : MethodId) (x0 : Addr) : entryFrame m [(.ref x0)].toArray 1 = mkF m 0 #[.val (.ref x0)] [] := by first | (simp [entryFrame, mkF, argsToLocals, Value.category]; done) | rfl
set_option maxRecDepth 65536 in
set_option maxHeartbeats 40000000 in
theorem rm1 (l : Launch) (Z : State) (a0 : Array Value) (hw : ∀ d ∈ tables_1, d.before a0 Z = true) (a1 aACCEPT aDROP aREJECT : Addr) (r : Int32) (h0 : Heap) (SACCEPT : Sta Z h0 "com/example/ulinzi/ulinzi/packetfilter/Target$Kind" "ACCEPT" "Lcom/example/ulinzi/ulinzi/packetfilter/Target$Kind;" (.ref aACCEPT)) (SDROP : Sta Z h0 "com/example/ulinzi/ulinzi/packetfilter/Target$Kind" "DROP" "Lcom/example/ulinzi/ulinzi/packetfilter/Target$Kind;" (.ref aDROP)) (SREJECT : Sta Z h0 "com/example/ulinzi/ulinzi/packetfilter/Target$Kind" "REJECT" "Lcom/example/ulinzi/ulinzi/packetfilter/Target$Kind;" (.ref aREJECT)) (hr : (if a1 = aACCEPT ∨ a1 = aDROP ∨ a1 = aREJECT then (1 : Int32) else 0) = r) :
    Con l Z (⟨"com/example/ulinzi/ulinzi/packetfilter/Target$Kind", "decides", "()Z"⟩ : MethodName) prog_78_method_4_code 1 (some .boolean) ({ frames := 0, cells := 0, slots := 0, locals := 0 } : Room) [(.ref a1)] h0 (Ret (some (.int r)) h0) := by
  refine Con.of (plainFor_of_name own_pn0) (Ls0 := #[.val (.ref a1)]) (fun m => own_ef_rm1 m a1) ?_
  intro p e s m below meth c T0 X0 hx hZ hby hml hown hnm hret hlk e0
  show Go p e below _ T0 (mkF m 0 #[.val (.ref a1)] [])
  refine OwnGo.aloadN X0 hx (hb hby d1_0) rfl rfl ?_
  show Go p e below _ T0 (mkF m 1 #[.val (.ref a1)] [(.ref a1)])
  refine OwnGo.getS X0 hx hZ hown (host := "") (Or.inl (hw _ (List.mem_of_getElem? (i := 9) rfl))) Via.refl e0 SACCEPT (hb hby d1_1) fun T1 X1 e1 => ?_
  show Go p e below _ T1 (mkF m 4 #[.val (.ref a1)] [(.ref aACCEPT), (.ref a1)])
  refine OwnGo.ac_eq X1 hx (pc' := 21) rfl rfl (hb hby d1_4) (by decide) (by decide) (fun h4 => ?_) (fun h4 => ?_)
  ·
    show Go p e below _ T1 (mkF m 21 #[.val (.ref a1)] [])
    refine OwnGo.iconst X1 hx (z := (1 : Int32)) (hb hby d1_21) (by decide) ?_
    show Go p e below _ T1 (mkF m 22 #[.val (.ref a1)] [(.int (1 : Int32))])
    refine OwnGo.goto X1 hx (pc' := 26) (hb hby d1_22) (by decide) (by decide) ?_
    show Go p e below _ T1 (mkF m 26 #[.val (.ref a1)] [(.int (1 : Int32))])
    exact OwnGo.retB X1 hx hlk (z' := (1 : Int32)) hret (hb hby d1_26) rfl ⟨by rw [← hr]; simp_all, e1, rfl⟩ (by decide) (by decide)
  ·
    show Go p e below _ T1 (mkF m 7 #[.val (.ref a1)] [])
    refine OwnGo.aloadN X1 hx (hb hby d1_7) rfl rfl ?_
    show Go p e below _ T1 (mkF m 8 #[.val (.ref a1)] [(.ref a1)])
    refine OwnGo.getS X1 hx hZ hown (host := "") (Or.inl (hw _ (List.mem_of_getElem? (i := 17) rfl))) Via.refl e1 SDROP (hb hby d1_8) fun T2 X2 e2 => ?_
    show Go p e below _ T2 (mkF m 11 #[.val (.ref a1)] [(.ref aDROP), (.ref a1)])
    refine OwnGo.ac_eq X2 hx (pc' := 21) rfl rfl (hb hby d1_11) (by decide) (by decide) (fun h11 => ?_) (fun h11 => ?_)
    ·
      show Go p e below _ T2 (mkF m 21 #[.val (.ref a1)] [])
      refine OwnGo.iconst X2 hx (z := (1 : Int32)) (hb hby d1_21) (by decide) ?_
      show Go p e below _ T2 (mkF m 22 #[.val (.ref a1)] [(.int (1 : Int32))])
      refine OwnGo.goto X2 hx (pc' := 26) (hb hby d1_22) (by decide) (by decide) ?_
      show Go p e below _ T2 (mkF m 26 #[.val (.ref a1)] [(.int (1 : Int32))])
      exact OwnGo.retB X2 hx hlk (z' := (1 : Int32)) hret (hb hby d1_26) rfl ⟨by rw [← hr]; simp_all, e2, rfl⟩ (by decide) (by decide)
    ·
      show Go p e below _ T2 (mkF m 14 #[.val (.ref a1)] [])
      refine OwnGo.aloadN X2 hx (hb hby d1_14) rfl rfl ?_
      show Go p e below _ T2 (mkF m 15 #[.val (.ref a1)] [(.ref a1)])
      refine OwnGo.getS X2 hx hZ hown (host := "") (Or.inl (hw _ (List.mem_of_getElem? (i := 19) rfl))) Via.refl e2 SREJECT (hb hby d1_15) fun T3 X3 e3 => ?_
      show Go p e below _ T3 (mkF m 18 #[.val (.ref a1)] [(.ref aREJECT), (.ref a1)])
      refine OwnGo.ac_ne X3 hx (pc' := 25) rfl rfl (hb hby d1_18) (by decide) (by decide) (fun h18 => ?_) (fun h18 => ?_)
      ·
        show Go p e below _ T3 (mkF m 25 #[.val (.ref a1)] [])
        refine OwnGo.iconst X3 hx (z := (0 : Int32)) (hb hby d1_25) (by decide) ?_
        show Go p e below _ T3 (mkF m 26 #[.val (.ref a1)] [(.int (0 : Int32))])
        exact OwnGo.retB X3 hx hlk (z' := (0 : Int32)) hret (hb hby d1_26) rfl ⟨by rw [← hr]; simp_all, e3, rfl⟩ (by decide) (by decide)
      ·
        show Go p e below _ T3 (mkF m 21 #[.val (.ref a1)] [])
        refine OwnGo.iconst X3 hx (z := (1 : Int32)) (hb hby d1_21) (by decide) ?_
        show Go p e below _ T3 (mkF m 22 #[.val (.ref a1)] [(.int (1 : Int32))])
        refine OwnGo.goto X3 hx (pc' := 26) (hb hby d1_22) (by decide) (by decide) ?_
        show Go p e below _ T3 (mkF m 26 #[.val (.ref a1)] [(.int (1 : Int32))])
        exact OwnGo.retB X3 hx hlk (z' := (1 : Int32)) hret (hb hby d1_26) rfl ⟨by rw [← hr]; simp_all, e3, rfl⟩ (by decide) (by decide)
theorem d2_0 : decode prog_78_method_5_code 0 = .ok (.aload_n 0, 1) := by decide +kernel
theorem d2_1 : decode prog_78_method_5_code 1 = .ok (.getstatic 3, 3) := by decide +kernel
theorem d2_4 : decode prog_78_method_5_code 4 = .ok (.if_acmp .ne 7, 3) := by decide +kernel
theorem d2_7 : decode prog_78_method_5_code 7 = .ok (.iconst 1, 1) := by decide +kernel
theorem d2_8 : decode prog_78_method_5_code 8 = .ok (.goto 4, 3) := by decide +kernel
theorem d2_11 : decode prog_78_method_5_code 11 = .ok (.iconst 0, 1) := by decide +kernel
theorem d2_12 : decode prog_78_method_5_code 12 = .ok (.ireturn, 1) := by decide +kernel
theorem own_ef_rm2 (m : MethodId) (x0 : Addr) : entryFrame m [(.ref x0)].toArray 1 = mkF m 0 #[.val (.ref x0)] [] := by first | (simp [entryFrame, mkF, argsToLocals, Value.category]; done) | rfl
set_option maxRecDepth 65536 in
set_option maxHeartbeats 40000000 in
theorem rm2 (l : Launch) (Z : State) (a0 : Array Value) (hw : ∀ d ∈ tables_1, d.before a0 Z = true) (a1 aACCEPT : Addr) (r : Int32) (h0 : Heap) (SACCEPT : Sta Z h0 "com/example/ulinzi/ulinzi/packetfilter/Target$Kind" "ACCEPT" "Lcom/example/ulinzi/ulinzi/packetfilter/Target$Kind;" (.ref aACCEPT)) (hr : (if a1 = aACCEPT then (1 : Int32) else 0) = r) :
    Con l Z (⟨"com/example/ulinzi/ulinzi/packetfilter/Target$Kind", "allows", "()Z"⟩ : MethodName) prog_78_method_5_code 1 (some .boolean) ({ frames := 0, cells := 0, slots := 0, locals := 0 } : Room) [(.ref a1)] h0 (Ret (some (.int r)) h0) := by
  refine Con.of (plainFor_of_name own_pn0) (Ls0 := #[.val (.ref a1)]) (fun m => own_ef_rm2 m a1) ?_
  intro p e s m below meth c T0 X0 hx hZ hby hml hown hnm hret hlk e0
  show Go p e below _ T0 (mkF m 0 #[.val (.ref a1)] [])
  refine OwnGo.aloadN X0 hx (hb hby d2_0) rfl rfl ?_
  show Go p e below _ T0 (mkF m 1 #[.val (.ref a1)] [(.ref a1)])
  refine OwnGo.getS X0 hx hZ hown (host := "") (Or.inl (hw _ (List.mem_of_getElem? (i := 9) rfl))) Via.refl e0 SACCEPT (hb hby d2_1) fun T1 X1 e1 => ?_
  show Go p e below _ T1 (mkF m 4 #[.val (.ref a1)] [(.ref aACCEPT), (.ref a1)])
  refine OwnGo.ac_ne X1 hx (pc' := 11) rfl rfl (hb hby d2_4) (by decide) (by decide) (fun h4 => ?_) (fun h4 => ?_)
  ·
    show Go p e below _ T1 (mkF m 11 #[.val (.ref a1)] [])
    refine OwnGo.iconst X1 hx (z := (0 : Int32)) (hb hby d2_11) (by decide) ?_
    show Go p e below _ T1 (mkF m 12 #[.val (.ref a1)] [(.int (0 : Int32))])
    exact OwnGo.retB X1 hx hlk (z' := (0 : Int32)) hret (hb hby d2_12) rfl ⟨by rw [← hr]; simp_all, e1, rfl⟩ (by decide) (by decide)
  ·
    show Go p e below _ T1 (mkF m 7 #[.val (.ref a1)] [])
    refine OwnGo.iconst X1 hx (z := (1 : Int32)) (hb hby d2_7) (by decide) ?_
    show Go p e below _ T1 (mkF m 8 #[.val (.ref a1)] [(.int (1 : Int32))])
    refine OwnGo.goto X1 hx (pc' := 12) (hb hby d2_8) (by decide) (by decide) ?_
    show Go p e below _ T1 (mkF m 12 #[.val (.ref a1)] [(.int (1 : Int32))])
    exact OwnGo.retB X1 hx hlk (z' := (1 : Int32)) hret (hb hby d2_12) rfl ⟨by rw [← hr]; simp_all, e1, rfl⟩ (by decide) (by decide)
theorem own_ef_rm0 (m : MethodId) (x0 : Int32) : entryFrame m [(.int x0)].toArray maxLocals = mkF m 0 #[.val (.int x0), .unset, .unset, .unset, .unset, .unset] [] := by first | (simp [entryFrame, mkF, argsToLocals, Value.category, maxLocals]; done) | rfl
set_option maxRecDepth 65536 in
set_option maxHeartbeats 40000000 in
theorem rm0 (l : Launch) (Z : State) (a0 : Array Value) (hw : ∀ d ∈ tables_1, d.before a0 Z = true) (p1 : Int32) (aACCEPT aDROP aREJECT aLOG aRETURN aJUMP : Addr) (h0 : Heap) (n0 : Nat) (SACCEPT : Sta Z h0 "com/example/ulinzi/ulinzi/packetfilter/Target$Kind" "ACCEPT" "Lcom/example/ulinzi/ulinzi/packetfilter/Target$Kind;" (.ref aACCEPT)) (SDROP : Sta Z h0 "com/example/ulinzi/ulinzi/packetfilter/Target$Kind" "DROP" "Lcom/example/ulinzi/ulinzi/packetfilter/Target$Kind;" (.ref aDROP)) (SREJECT : Sta Z h0 "com/example/ulinzi/ulinzi/packetfilter/Target$Kind" "REJECT" "Lcom/example/ulinzi/ulinzi/packetfilter/Target$Kind;" (.ref aREJECT)) (SLOG : Sta Z h0 "com/example/ulinzi/ulinzi/packetfilter/Target$Kind" "LOG" "Lcom/example/ulinzi/ulinzi/packetfilter/Target$Kind;" (.ref aLOG)) (SRETURN : Sta Z h0 "com/example/ulinzi/ulinzi/packetfilter/Target$Kind" "RETURN" "Lcom/example/ulinzi/ulinzi/packetfilter/Target$Kind;" (.ref aRETURN)) (SJUMP : Sta Z h0 "com/example/ulinzi/ulinzi/packetfilter/Target$Kind" "JUMP" "Lcom/example/ulinzi/ulinzi/packetfilter/Target$Kind;" (.ref aJUMP)) (EACCEPT : Exa Z h0 aACCEPT "com/example/ulinzi/ulinzi/packetfilter/Target$Kind") (EDROP : Exa Z h0 aDROP "com/example/ulinzi/ulinzi/packetfilter/Target$Kind") (EREJECT : Exa Z h0 aREJECT "com/example/ulinzi/ulinzi/packetfilter/Target$Kind") (ELOG : Exa Z h0 aLOG "com/example/ulinzi/ulinzi/packetfilter/Target$Kind") (ERETURN : Exa Z h0 aRETURN "com/example/ulinzi/ulinzi/packetfilter/Target$Kind") (EJUMP : Exa Z h0 aJUMP "com/example/ulinzi/ulinzi/packetfilter/Target$Kind") (neDROPACCEPT : aDROP ≠ aACCEPT) (neREJECTACCEPT : aREJECT ≠ aACCEPT) (neREJECTDROP : aREJECT ≠ aDROP) (neLOGACCEPT : aLOG ≠ aACCEPT) (neLOGDROP : aLOG ≠ aDROP) (neLOGREJECT : aLOG ≠ aREJECT) (neRETURNACCEPT : aRETURN ≠ aACCEPT) (neRETURNDROP : aRETURN ≠ aDROP) (neRETURNREJECT : aRETURN ≠ aREJECT) (neJUMPACCEPT : aJUMP ≠ aACCEPT) (neJUMPDROP : aJUMP ≠ aDROP) (neJUMPREJECT : aJUMP ≠ aREJECT) :
    Con l Z x code maxLocals ret room_1 [(.int p1)] h0 (fun v _ L => v = some (.int 1) ∧ Fr n0 L) := by
  refine Con.of (plainFor_of_name own_pn1) (Ls0 := #[.val (.int p1), .unset, .unset, .unset, .unset, .unset]) (fun m => own_ef_rm0 m p1) ?_
  intro p e s m below meth c T0 X0 hx hZ hby hml hown hnm hret hlk e0
  have hml : c.maxLocals = 6 := hml
  show Go p e below _ T0 (mkF m 0 #[.val (.int p1), .unset, .unset, .unset, .unset, .unset] [])
  refine OwnGo.iloadN X0 hx (hb hby at_0) rfl ?_
  show Go p e below _ T0 (mkF m 1 #[.val (.int p1), .unset, .unset, .unset, .unset, .unset] [(.int p1)])
  refine OwnGo.ldcInt X0 hx hZ hown (v := (2147483647 : Int32)) (hw _ (List.mem_of_getElem? (i := 0) rfl)) (hb hby at_1) ?_
  show Go p e below _ T0 (mkF m 3 #[.val (.int p1), .unset, .unset, .unset, .unset, .unset] [(.int (2147483647 : Int32)), (.int p1)])
  refine OwnGo.iand X0 hx (hb hby at_3) rfl ?_
  show Go p e below _ T0 (mkF m 4 #[.val (.int p1), .unset, .unset, .unset, .unset, .unset] [(.int (p1 &&& (2147483647 : Int32)))])
  refine OwnGo.bipush X0 hx (z := (6 : Int32)) (hb hby at_4) (by decide) ?_
  show Go p e below _ T0 (mkF m 6 #[.val (.int p1), .unset, .unset, .unset, .unset, .unset] [(.int (6 : Int32)), (.int (p1 &&& (2147483647 : Int32)))])
  refine OwnGo.irem X0 hx (hb hby at_6) (by decide) rfl ?_
  show Go p e below _ T0 (mkF m 7 #[.val (.int p1), .unset, .unset, .unset, .unset, .unset] [(.int ((p1 &&& (2147483647 : Int32)) % (6 : Int32)))])
  refine OwnGo.istoreN X0 hx (hb hby at_7) (Ls' := #[.val (.int p1), .val (.int ((p1 &&& (2147483647 : Int32)) % (6 : Int32))), .unset, .unset, .unset, .unset]) rfl ?_
  show Go p e below _ T0 (mkF m 8 #[.val (.int p1), .val (.int ((p1 &&& (2147483647 : Int32)) % (6 : Int32))), .unset, .unset, .unset, .unset] [])
  refine OwnGo.iloadN X0 hx (hb hby at_8) rfl ?_
  show Go p e below _ T0 (mkF m 9 #[.val (.int p1), .val (.int ((p1 &&& (2147483647 : Int32)) % (6 : Int32))), .unset, .unset, .unset, .unset] [(.int ((p1 &&& (2147483647 : Int32)) % (6 : Int32)))])
  refine OwnGo.if_ne X0 hx (pc' := 21) (hb hby at_9) (by decide) (by decide) (fun h9 => ?_) (fun h9 => ?_)
  ·
    show Go p e below _ T0 (mkF m 21 #[.val (.int p1), .val (.int ((p1 &&& (2147483647 : Int32)) % (6 : Int32))), .unset, .unset, .unset, .unset] [])
    refine OwnGo.iloadN X0 hx (hb hby at_21) rfl ?_
    show Go p e below _ T0 (mkF m 22 #[.val (.int p1), .val (.int ((p1 &&& (2147483647 : Int32)) % (6 : Int32))), .unset, .unset, .unset, .unset] [(.int ((p1 &&& (2147483647 : Int32)) % (6 : Int32)))])
    refine OwnGo.iconst X0 hx (z := (1 : Int32)) (hb hby at_22) (by decide) ?_
    show Go p e below _ T0 (mkF m 23 #[.val (.int p1), .val (.int ((p1 &&& (2147483647 : Int32)) % (6 : Int32))), .unset, .unset, .unset, .unset] [(.int (1 : Int32)), (.int ((p1 &&& (2147483647 : Int32)) % (6 : Int32)))])
    refine OwnGo.ic_ne X0 hx (pc' := 35) (hb hby at_23) (by decide) (by decide) (fun h23 => ?_) (fun h23 => ?_)
    ·
      show Go p e below _ T0 (mkF m 35 #[.val (.int p1), .val (.int ((p1 &&& (2147483647 : Int32)) % (6 : Int32))), .unset, .unset, .unset, .unset] [])
      refine OwnGo.iloadN X0 hx (hb hby at_35) rfl ?_
      show Go p e below _ T0 (mkF m 36 #[.val (.int p1), .val (.int ((p1 &&& (2147483647 : Int32)) % (6 : Int32))), .unset, .unset, .unset, .unset] [(.int ((p1 &&& (2147483647 : Int32)) % (6 : Int32)))])
      refine OwnGo.iconst X0 hx (z := (2 : Int32)) (hb hby at_36) (by decide) ?_
      show Go p e below _ T0 (mkF m 37 #[.val (.int p1), .val (.int ((p1 &&& (2147483647 : Int32)) % (6 : Int32))), .unset, .unset, .unset, .unset] [(.int (2 : Int32)), (.int ((p1 &&& (2147483647 : Int32)) % (6 : Int32)))])
      refine OwnGo.ic_ne X0 hx (pc' := 49) (hb hby at_37) (by decide) (by decide) (fun h37 => ?_) (fun h37 => ?_)
      ·
        show Go p e below _ T0 (mkF m 49 #[.val (.int p1), .val (.int ((p1 &&& (2147483647 : Int32)) % (6 : Int32))), .unset, .unset, .unset, .unset] [])
        refine OwnGo.iloadN X0 hx (hb hby at_49) rfl ?_
        show Go p e below _ T0 (mkF m 50 #[.val (.int p1), .val (.int ((p1 &&& (2147483647 : Int32)) % (6 : Int32))), .unset, .unset, .unset, .unset] [(.int ((p1 &&& (2147483647 : Int32)) % (6 : Int32)))])
        refine OwnGo.iconst X0 hx (z := (3 : Int32)) (hb hby at_50) (by decide) ?_
        show Go p e below _ T0 (mkF m 51 #[.val (.int p1), .val (.int ((p1 &&& (2147483647 : Int32)) % (6 : Int32))), .unset, .unset, .unset, .unset] [(.int (3 : Int32)), (.int ((p1 &&& (2147483647 : Int32)) % (6 : Int32)))])
        refine OwnGo.ic_ne X0 hx (pc' := 63) (hb hby at_51) (by decide) (by decide) (fun h51 => ?_) (fun h51 => ?_)
        ·
          show Go p e below _ T0 (mkF m 63 #[.val (.int p1), .val (.int ((p1 &&& (2147483647 : Int32)) % (6 : Int32))), .unset, .unset, .unset, .unset] [])
          refine OwnGo.iloadN X0 hx (hb hby at_63) rfl ?_
          show Go p e below _ T0 (mkF m 64 #[.val (.int p1), .val (.int ((p1 &&& (2147483647 : Int32)) % (6 : Int32))), .unset, .unset, .unset, .unset] [(.int ((p1 &&& (2147483647 : Int32)) % (6 : Int32)))])
          refine OwnGo.iconst X0 hx (z := (4 : Int32)) (hb hby at_64) (by decide) ?_
          show Go p e below _ T0 (mkF m 65 #[.val (.int p1), .val (.int ((p1 &&& (2147483647 : Int32)) % (6 : Int32))), .unset, .unset, .unset, .unset] [(.int (4 : Int32)), (.int ((p1 &&& (2147483647 : Int32)) % (6 : Int32)))])
          refine OwnGo.ic_ne X0 hx (pc' := 77) (hb hby at_65) (by decide) (by decide) (fun h65 => ?_) (fun h65 => ?_)
          ·
            show Go p e below _ T0 (mkF m 77 #[.val (.int p1), .val (.int ((p1 &&& (2147483647 : Int32)) % (6 : Int32))), .unset, .unset, .unset, .unset] [])
            refine OwnGo.getS X0 hx hZ hown (host := "") (Or.inl (hw _ (List.mem_of_getElem? (i := 23) rfl))) Via.refl e0 SJUMP (hb hby at_77) fun T1 X1 e1 => ?_
            show Go p e below _ T1 (mkF m 80 #[.val (.int p1), .val (.int ((p1 &&& (2147483647 : Int32)) % (6 : Int32))), .unset, .unset, .unset, .unset] [(.ref aJUMP)])
            refine OwnGo.astoreN X1 hx (hb hby at_80) rfl (Ls' := #[.val (.int p1), .val (.int ((p1 &&& (2147483647 : Int32)) % (6 : Int32))), .val (.ref aJUMP), .unset, .unset, .unset]) rfl ?_
            show Go p e below _ T1 (mkF m 81 #[.val (.int p1), .val (.int ((p1 &&& (2147483647 : Int32)) % (6 : Int32))), .val (.ref aJUMP), .unset, .unset, .unset] [])
            refine OwnGo.iconst X1 hx (z := (0 : Int32)) (hb hby at_81) (by decide) ?_
            show Go p e below _ T1 (mkF m 82 #[.val (.int p1), .val (.int ((p1 &&& (2147483647 : Int32)) % (6 : Int32))), .val (.ref aJUMP), .unset, .unset, .unset] [(.int (0 : Int32))])
            refine OwnGo.istoreN X1 hx (hb hby at_82) (Ls' := #[.val (.int p1), .val (.int ((p1 &&& (2147483647 : Int32)) % (6 : Int32))), .val (.ref aJUMP), .val (.int (0 : Int32)), .unset, .unset]) rfl ?_
            show Go p e below _ T1 (mkF m 83 #[.val (.int p1), .val (.int ((p1 &&& (2147483647 : Int32)) % (6 : Int32))), .val (.ref aJUMP), .val (.int (0 : Int32)), .unset, .unset] [])
            refine OwnGo.aloadN X1 hx (hb hby at_83) rfl rfl ?_
            show Go p e below _ T1 (mkF m 84 #[.val (.int p1), .val (.int ((p1 &&& (2147483647 : Int32)) % (6 : Int32))), .val (.ref aJUMP), .val (.int (0 : Int32)), .unset, .unset] [(.ref aJUMP)])
            refine OwnGo.callV X1 hx hZ hown (y := (⟨"com/example/ulinzi/ulinzi/packetfilter/Target$Kind", "decides", "()Z"⟩ : MethodName)) (z := (⟨"com/example/ulinzi/ulinzi/packetfilter/Target$Kind", "decides", "()Z"⟩ : MethodName)) (hw _ (List.mem_of_getElem? (i := 4) rfl)) (hw _ (List.mem_of_getElem? (i := 5) rfl)) (notFace_of_selects (args := #[]) (mvT hZ (hw _ (List.mem_of_getElem? (i := 7) rfl)))) (hw _ (List.mem_of_getElem? (i := 7) rfl)) (hw _ (List.mem_of_getElem? (i := 6) rfl)) (hw _ (List.mem_of_getElem? (i := 2) rfl)) (hw _ (List.mem_of_getElem? (i := 8) rfl)) (by decide) e1 EJUMP (as := []) (rm1 l Z a0 hw aJUMP aACCEPT aDROP aREJECT (0 : Int32) h0 SACCEPT SDROP SREJECT (by simp [*])) (W := 0) (by decide) (by decide) (by decide) (by decide) (by rw [hml]; rfl) (lenOf own_pd0 rfl) (rest := []) rfl rfl (hb hby at_84) fun v2 T2 L2 X2 q2 => ?_
            obtain ⟨rfl, e2, rfl⟩ := q2
            rw [List.append_nil] at X2
            show Go p e below _ T2 (mkF m 87 #[.val (.int p1), .val (.int ((p1 &&& (2147483647 : Int32)) % (6 : Int32))), .val (.ref aJUMP), .val (.int (0 : Int32)), .unset, .unset] [(.int (0 : Int32))])
            refine OwnGo.istore X2 hx (hb hby at_87) (Ls' := #[.val (.int p1), .val (.int ((p1 &&& (2147483647 : Int32)) % (6 : Int32))), .val (.ref aJUMP), .val (.int (0 : Int32)), .val (.int (0 : Int32)), .unset]) rfl ?_
            show Go p e below _ T2 (mkF m 89 #[.val (.int p1), .val (.int ((p1 &&& (2147483647 : Int32)) % (6 : Int32))), .val (.ref aJUMP), .val (.int (0 : Int32)), .val (.int (0 : Int32)), .unset] [])
            refine OwnGo.aloadN X2 hx (hb hby at_89) rfl rfl ?_
            show Go p e below _ T2 (mkF m 90 #[.val (.int p1), .val (.int ((p1 &&& (2147483647 : Int32)) % (6 : Int32))), .val (.ref aJUMP), .val (.int (0 : Int32)), .val (.int (0 : Int32)), .unset] [(.ref aJUMP)])
            refine OwnGo.callV X2 hx hZ hown (y := (⟨"com/example/ulinzi/ulinzi/packetfilter/Target$Kind", "allows", "()Z"⟩ : MethodName)) (z := (⟨"com/example/ulinzi/ulinzi/packetfilter/Target$Kind", "allows", "()Z"⟩ : MethodName)) (hw _ (List.mem_of_getElem? (i := 10) rfl)) (hw _ (List.mem_of_getElem? (i := 11) rfl)) (notFace_of_selects (args := #[]) (mvT hZ (hw _ (List.mem_of_getElem? (i := 13) rfl)))) (hw _ (List.mem_of_getElem? (i := 13) rfl)) (hw _ (List.mem_of_getElem? (i := 12) rfl)) (hw _ (List.mem_of_getElem? (i := 2) rfl)) (hw _ (List.mem_of_getElem? (i := 14) rfl)) (by decide) e2 EJUMP (as := []) (rm2 l Z a0 hw aJUMP aACCEPT (0 : Int32) h0 SACCEPT (by simp [*])) (W := 0) (by decide) (by decide) (by decide) (by decide) (by rw [hml]; rfl) (lenOf own_pd0 rfl) (rest := []) rfl rfl (hb hby at_90) fun v3 T3 L3 X3 q3 => ?_
            obtain ⟨rfl, e3, rfl⟩ := q3
            rw [List.append_nil] at X3
            show Go p e below _ T3 (mkF m 93 #[.val (.int p1), .val (.int ((p1 &&& (2147483647 : Int32)) % (6 : Int32))), .val (.ref aJUMP), .val (.int (0 : Int32)), .val (.int (0 : Int32)), .unset] [(.int (0 : Int32))])
            refine OwnGo.istore X3 hx (hb hby at_93) (Ls' := #[.val (.int p1), .val (.int ((p1 &&& (2147483647 : Int32)) % (6 : Int32))), .val (.ref aJUMP), .val (.int (0 : Int32)), .val (.int (0 : Int32)), .val (.int (0 : Int32))]) rfl ?_
            show Go p e below _ T3 (mkF m 95 #[.val (.int p1), .val (.int ((p1 &&& (2147483647 : Int32)) % (6 : Int32))), .val (.ref aJUMP), .val (.int (0 : Int32)), .val (.int (0 : Int32)), .val (.int (0 : Int32))] [])
            refine OwnGo.iload X3 hx (hb hby at_95) rfl ?_
            show Go p e below _ T3 (mkF m 97 #[.val (.int p1), .val (.int ((p1 &&& (2147483647 : Int32)) % (6 : Int32))), .val (.ref aJUMP), .val (.int (0 : Int32)), .val (.int (0 : Int32)), .val (.int (0 : Int32))] [(.int (0 : Int32))])
            refine OwnGo.iloadN X3 hx (hb hby at_97) rfl ?_
            show Go p e below _ T3 (mkF m 98 #[.val (.int p1), .val (.int ((p1 &&& (2147483647 : Int32)) % (6 : Int32))), .val (.ref aJUMP), .val (.int (0 : Int32)), .val (.int (0 : Int32)), .val (.int (0 : Int32))] [(.int (0 : Int32)), (.int (0 : Int32))])
            refine OwnGo.ic_ne X3 hx (pc' := 115) (hb hby at_98) (by decide) (by decide) (fun q => absurd q (by decide)) (fun _ => ?_)
            show Go p e below _ T3 (mkF m 101 #[.val (.int p1), .val (.int ((p1 &&& (2147483647 : Int32)) % (6 : Int32))), .val (.ref aJUMP), .val (.int (0 : Int32)), .val (.int (0 : Int32)), .val (.int (0 : Int32))] [])
            refine OwnGo.iload X3 hx (hb hby at_101) rfl ?_
            show Go p e below _ T3 (mkF m 103 #[.val (.int p1), .val (.int ((p1 &&& (2147483647 : Int32)) % (6 : Int32))), .val (.ref aJUMP), .val (.int (0 : Int32)), .val (.int (0 : Int32)), .val (.int (0 : Int32))] [(.int (0 : Int32))])
            refine OwnGo.if_eq X3 hx (pc' := 111) (hb hby at_103) (by decide) (by decide) (fun _ => ?_) (fun q => absurd q (by decide))
            show Go p e below _ T3 (mkF m 111 #[.val (.int p1), .val (.int ((p1 &&& (2147483647 : Int32)) % (6 : Int32))), .val (.ref aJUMP), .val (.int (0 : Int32)), .val (.int (0 : Int32)), .val (.int (0 : Int32))] [])
            refine OwnGo.iconst X3 hx (z := (1 : Int32)) (hb hby at_111) (by decide) ?_
            show Go p e below _ T3 (mkF m 112 #[.val (.int p1), .val (.int ((p1 &&& (2147483647 : Int32)) % (6 : Int32))), .val (.ref aJUMP), .val (.int (0 : Int32)), .val (.int (0 : Int32)), .val (.int (0 : Int32))] [(.int (1 : Int32))])
            refine OwnGo.goto X3 hx (pc' := 116) (hb hby at_112) (by decide) (by decide) ?_
            show Go p e below _ T3 (mkF m 116 #[.val (.int p1), .val (.int ((p1 &&& (2147483647 : Int32)) % (6 : Int32))), .val (.ref aJUMP), .val (.int (0 : Int32)), .val (.int (0 : Int32)), .val (.int (0 : Int32))] [(.int (1 : Int32))])
            exact OwnGo.retB X3 hx hlk (z' := (1 : Int32)) hret (hb hby at_116) rfl ⟨rfl, Fr.nil _⟩ (by decide) (by decide)
          ·
            show Go p e below _ T0 (mkF m 68 #[.val (.int p1), .val (.int ((p1 &&& (2147483647 : Int32)) % (6 : Int32))), .unset, .unset, .unset, .unset] [])
            refine OwnGo.getS X0 hx hZ hown (host := "") (Or.inl (hw _ (List.mem_of_getElem? (i := 25) rfl))) Via.refl e0 SRETURN (hb hby at_68) fun T4 X4 e4 => ?_
            show Go p e below _ T4 (mkF m 71 #[.val (.int p1), .val (.int ((p1 &&& (2147483647 : Int32)) % (6 : Int32))), .unset, .unset, .unset, .unset] [(.ref aRETURN)])
            refine OwnGo.astoreN X4 hx (hb hby at_71) rfl (Ls' := #[.val (.int p1), .val (.int ((p1 &&& (2147483647 : Int32)) % (6 : Int32))), .val (.ref aRETURN), .unset, .unset, .unset]) rfl ?_
            show Go p e below _ T4 (mkF m 72 #[.val (.int p1), .val (.int ((p1 &&& (2147483647 : Int32)) % (6 : Int32))), .val (.ref aRETURN), .unset, .unset, .unset] [])
            refine OwnGo.iconst X4 hx (z := (0 : Int32)) (hb hby at_72) (by decide) ?_
            show Go p e below _ T4 (mkF m 73 #[.val (.int p1), .val (.int ((p1 &&& (2147483647 : Int32)) % (6 : Int32))), .val (.ref aRETURN), .unset, .unset, .unset] [(.int (0 : Int32))])
            refine OwnGo.istoreN X4 hx (hb hby at_73) (Ls' := #[.val (.int p1), .val (.int ((p1 &&& (2147483647 : Int32)) % (6 : Int32))), .val (.ref aRETURN), .val (.int (0 : Int32)), .unset, .unset]) rfl ?_
            show Go p e below _ T4 (mkF m 74 #[.val (.int p1), .val (.int ((p1 &&& (2147483647 : Int32)) % (6 : Int32))), .val (.ref aRETURN), .val (.int (0 : Int32)), .unset, .unset] [])
            refine OwnGo.goto X4 hx (pc' := 83) (hb hby at_74) (by decide) (by decide) ?_
            show Go p e below _ T4 (mkF m 83 #[.val (.int p1), .val (.int ((p1 &&& (2147483647 : Int32)) % (6 : Int32))), .val (.ref aRETURN), .val (.int (0 : Int32)), .unset, .unset] [])
            refine OwnGo.aloadN X4 hx (hb hby at_83) rfl rfl ?_
            show Go p e below _ T4 (mkF m 84 #[.val (.int p1), .val (.int ((p1 &&& (2147483647 : Int32)) % (6 : Int32))), .val (.ref aRETURN), .val (.int (0 : Int32)), .unset, .unset] [(.ref aRETURN)])
            refine OwnGo.callV X4 hx hZ hown (y := (⟨"com/example/ulinzi/ulinzi/packetfilter/Target$Kind", "decides", "()Z"⟩ : MethodName)) (z := (⟨"com/example/ulinzi/ulinzi/packetfilter/Target$Kind", "decides", "()Z"⟩ : MethodName)) (hw _ (List.mem_of_getElem? (i := 4) rfl)) (hw _ (List.mem_of_getElem? (i := 5) rfl)) (notFace_of_selects (args := #[]) (mvT hZ (hw _ (List.mem_of_getElem? (i := 7) rfl)))) (hw _ (List.mem_of_getElem? (i := 7) rfl)) (hw _ (List.mem_of_getElem? (i := 6) rfl)) (hw _ (List.mem_of_getElem? (i := 2) rfl)) (hw _ (List.mem_of_getElem? (i := 8) rfl)) (by decide) e4 ERETURN (as := []) (rm1 l Z a0 hw aRETURN aACCEPT aDROP aREJECT (0 : Int32) h0 SACCEPT SDROP SREJECT (by simp [*])) (W := 0) (by decide) (by decide) (by decide) (by decide) (by rw [hml]; rfl) (lenOf own_pd0 rfl) (rest := []) rfl rfl (hb hby at_84) fun v5 T5 L5 X5 q5 => ?_
            obtain ⟨rfl, e5, rfl⟩ := q5
            rw [List.append_nil] at X5
            show Go p e below _ T5 (mkF m 87 #[.val (.int p1), .val (.int ((p1 &&& (2147483647 : Int32)) % (6 : Int32))), .val (.ref aRETURN), .val (.int (0 : Int32)), .unset, .unset] [(.int (0 : Int32))])
            refine OwnGo.istore X5 hx (hb hby at_87) (Ls' := #[.val (.int p1), .val (.int ((p1 &&& (2147483647 : Int32)) % (6 : Int32))), .val (.ref aRETURN), .val (.int (0 : Int32)), .val (.int (0 : Int32)), .unset]) rfl ?_
            show Go p e below _ T5 (mkF m 89 #[.val (.int p1), .val (.int ((p1 &&& (2147483647 : Int32)) % (6 : Int32))), .val (.ref aRETURN), .val (.int (0 : Int32)), .val (.int (0 : Int32)), .unset] [])
            refine OwnGo.aloadN X5 hx (hb hby at_89) rfl rfl ?_
            show Go p e below _ T5 (mkF m 90 #[.val (.int p1), .val (.int ((p1 &&& (2147483647 : Int32)) % (6 : Int32))), .val (.ref aRETURN), .val (.int (0 : Int32)), .val (.int (0 : Int32)), .unset] [(.ref aRETURN)])
            refine OwnGo.callV X5 hx hZ hown (y := (⟨"com/example/ulinzi/ulinzi/packetfilter/Target$Kind", "allows", "()Z"⟩ : MethodName)) (z := (⟨"com/example/ulinzi/ulinzi/packetfilter/Target$Kind", "allows", "()Z"⟩ : MethodName)) (hw _ (List.mem_of_getElem? (i := 10) rfl)) (hw _ (List.mem_of_getElem? (i := 11) rfl)) (notFace_of_selects (args := #[]) (mvT hZ (hw _ (List.mem_of_getElem? (i := 13) rfl)))) (hw _ (List.mem_of_getElem? (i := 13) rfl)) (hw _ (List.mem_of_getElem? (i := 12) rfl)) (hw _ (List.mem_of_getElem? (i := 2) rfl)) (hw _ (List.mem_of_getElem? (i := 14) rfl)) (by decide) e5 ERETURN (as := []) (rm2 l Z a0 hw aRETURN aACCEPT (0 : Int32) h0 SACCEPT (by simp [*])) (W := 0) (by decide) (by decide) (by decide) (by decide) (by rw [hml]; rfl) (lenOf own_pd0 rfl) (rest := []) rfl rfl (hb hby at_90) fun v6 T6 L6 X6 q6 => ?_
            obtain ⟨rfl, e6, rfl⟩ := q6
            rw [List.append_nil] at X6
            show Go p e below _ T6 (mkF m 93 #[.val (.int p1), .val (.int ((p1 &&& (2147483647 : Int32)) % (6 : Int32))), .val (.ref aRETURN), .val (.int (0 : Int32)), .val (.int (0 : Int32)), .unset] [(.int (0 : Int32))])
            refine OwnGo.istore X6 hx (hb hby at_93) (Ls' := #[.val (.int p1), .val (.int ((p1 &&& (2147483647 : Int32)) % (6 : Int32))), .val (.ref aRETURN), .val (.int (0 : Int32)), .val (.int (0 : Int32)), .val (.int (0 : Int32))]) rfl ?_
            show Go p e below _ T6 (mkF m 95 #[.val (.int p1), .val (.int ((p1 &&& (2147483647 : Int32)) % (6 : Int32))), .val (.ref aRETURN), .val (.int (0 : Int32)), .val (.int (0 : Int32)), .val (.int (0 : Int32))] [])
            refine OwnGo.iload X6 hx (hb hby at_95) rfl ?_
            show Go p e below _ T6 (mkF m 97 #[.val (.int p1), .val (.int ((p1 &&& (2147483647 : Int32)) % (6 : Int32))), .val (.ref aRETURN), .val (.int (0 : Int32)), .val (.int (0 : Int32)), .val (.int (0 : Int32))] [(.int (0 : Int32))])
            refine OwnGo.iloadN X6 hx (hb hby at_97) rfl ?_
            show Go p e below _ T6 (mkF m 98 #[.val (.int p1), .val (.int ((p1 &&& (2147483647 : Int32)) % (6 : Int32))), .val (.ref aRETURN), .val (.int (0 : Int32)), .val (.int (0 : Int32)), .val (.int (0 : Int32))] [(.int (0 : Int32)), (.int (0 : Int32))])
            refine OwnGo.ic_ne X6 hx (pc' := 115) (hb hby at_98) (by decide) (by decide) (fun q => absurd q (by decide)) (fun _ => ?_)
            show Go p e below _ T6 (mkF m 101 #[.val (.int p1), .val (.int ((p1 &&& (2147483647 : Int32)) % (6 : Int32))), .val (.ref aRETURN), .val (.int (0 : Int32)), .val (.int (0 : Int32)), .val (.int (0 : Int32))] [])
            refine OwnGo.iload X6 hx (hb hby at_101) rfl ?_
            show Go p e below _ T6 (mkF m 103 #[.val (.int p1), .val (.int ((p1 &&& (2147483647 : Int32)) % (6 : Int32))), .val (.ref aRETURN), .val (.int (0 : Int32)), .val (.int (0 : Int32)), .val (.int (0 : Int32))] [(.int (0 : Int32))])
            refine OwnGo.if_eq X6 hx (pc' := 111) (hb hby at_103) (by decide) (by decide) (fun _ => ?_) (fun q => absurd q (by decide))
            show Go p e below _ T6 (mkF m 111 #[.val (.int p1), .val (.int ((p1 &&& (2147483647 : Int32)) % (6 : Int32))), .val (.ref aRETURN), .val (.int (0 : Int32)), .val (.int (0 : Int32)), .val (.int (0 : Int32))] [])
            refine OwnGo.iconst X6 hx (z := (1 : Int32)) (hb hby at_111) (by decide) ?_
            show Go p e below _ T6 (mkF m 112 #[.val (.int p1), .val (.int ((p1 &&& (2147483647 : Int32)) % (6 : Int32))), .val (.ref aRETURN), .val (.int (0 : Int32)), .val (.int (0 : Int32)), .val (.int (0 : Int32))] [(.int (1 : Int32))])
            refine OwnGo.goto X6 hx (pc' := 116) (hb hby at_112) (by decide) (by decide) ?_
            show Go p e below _ T6 (mkF m 116 #[.val (.int p1), .val (.int ((p1 &&& (2147483647 : Int32)) % (6 : Int32))), .val (.ref aRETURN), .val (.int (0 : Int32)), .val (.int (0 : Int32)), .val (.int (0 : Int32))] [(.int (1 : Int32))])
            exact OwnGo.retB X6 hx hlk (z' := (1 : Int32)) hret (hb hby at_116) rfl ⟨rfl, Fr.nil _⟩ (by decide) (by decide)
        ·
          show Go p e below _ T0 (mkF m 54 #[.val (.int p1), .val (.int ((p1 &&& (2147483647 : Int32)) % (6 : Int32))), .unset, .unset, .unset, .unset] [])
          refine OwnGo.getS X0 hx hZ hown (host := "") (Or.inl (hw _ (List.mem_of_getElem? (i := 15) rfl))) Via.refl e0 SLOG (hb hby at_54) fun T7 X7 e7 => ?_
          show Go p e below _ T7 (mkF m 57 #[.val (.int p1), .val (.int ((p1 &&& (2147483647 : Int32)) % (6 : Int32))), .unset, .unset, .unset, .unset] [(.ref aLOG)])
          refine OwnGo.astoreN X7 hx (hb hby at_57) rfl (Ls' := #[.val (.int p1), .val (.int ((p1 &&& (2147483647 : Int32)) % (6 : Int32))), .val (.ref aLOG), .unset, .unset, .unset]) rfl ?_
          show Go p e below _ T7 (mkF m 58 #[.val (.int p1), .val (.int ((p1 &&& (2147483647 : Int32)) % (6 : Int32))), .val (.ref aLOG), .unset, .unset, .unset] [])
          refine OwnGo.iconst X7 hx (z := (0 : Int32)) (hb hby at_58) (by decide) ?_
          show Go p e below _ T7 (mkF m 59 #[.val (.int p1), .val (.int ((p1 &&& (2147483647 : Int32)) % (6 : Int32))), .val (.ref aLOG), .unset, .unset, .unset] [(.int (0 : Int32))])
          refine OwnGo.istoreN X7 hx (hb hby at_59) (Ls' := #[.val (.int p1), .val (.int ((p1 &&& (2147483647 : Int32)) % (6 : Int32))), .val (.ref aLOG), .val (.int (0 : Int32)), .unset, .unset]) rfl ?_
          show Go p e below _ T7 (mkF m 60 #[.val (.int p1), .val (.int ((p1 &&& (2147483647 : Int32)) % (6 : Int32))), .val (.ref aLOG), .val (.int (0 : Int32)), .unset, .unset] [])
          refine OwnGo.goto X7 hx (pc' := 83) (hb hby at_60) (by decide) (by decide) ?_
          show Go p e below _ T7 (mkF m 83 #[.val (.int p1), .val (.int ((p1 &&& (2147483647 : Int32)) % (6 : Int32))), .val (.ref aLOG), .val (.int (0 : Int32)), .unset, .unset] [])
          refine OwnGo.aloadN X7 hx (hb hby at_83) rfl rfl ?_
          show Go p e below _ T7 (mkF m 84 #[.val (.int p1), .val (.int ((p1 &&& (2147483647 : Int32)) % (6 : Int32))), .val (.ref aLOG), .val (.int (0 : Int32)), .unset, .unset] [(.ref aLOG)])
          refine OwnGo.callV X7 hx hZ hown (y := (⟨"com/example/ulinzi/ulinzi/packetfilter/Target$Kind", "decides", "()Z"⟩ : MethodName)) (z := (⟨"com/example/ulinzi/ulinzi/packetfilter/Target$Kind", "decides", "()Z"⟩ : MethodName)) (hw _ (List.mem_of_getElem? (i := 4) rfl)) (hw _ (List.mem_of_getElem? (i := 5) rfl)) (notFace_of_selects (args := #[]) (mvT hZ (hw _ (List.mem_of_getElem? (i := 7) rfl)))) (hw _ (List.mem_of_getElem? (i := 7) rfl)) (hw _ (List.mem_of_getElem? (i := 6) rfl)) (hw _ (List.mem_of_getElem? (i := 2) rfl)) (hw _ (List.mem_of_getElem? (i := 8) rfl)) (by decide) e7 ELOG (as := []) (rm1 l Z a0 hw aLOG aACCEPT aDROP aREJECT (0 : Int32) h0 SACCEPT SDROP SREJECT (by simp [*])) (W := 0) (by decide) (by decide) (by decide) (by decide) (by rw [hml]; rfl) (lenOf own_pd0 rfl) (rest := []) rfl rfl (hb hby at_84) fun v8 T8 L8 X8 q8 => ?_
          obtain ⟨rfl, e8, rfl⟩ := q8
          rw [List.append_nil] at X8
          show Go p e below _ T8 (mkF m 87 #[.val (.int p1), .val (.int ((p1 &&& (2147483647 : Int32)) % (6 : Int32))), .val (.ref aLOG), .val (.int (0 : Int32)), .unset, .unset] [(.int (0 : Int32))])
          refine OwnGo.istore X8 hx (hb hby at_87) (Ls' := #[.val (.int p1), .val (.int ((p1 &&& (2147483647 : Int32)) % (6 : Int32))), .val (.ref aLOG), .val (.int (0 : Int32)), .val (.int (0 : Int32)), .unset]) rfl ?_
          show Go p e below _ T8 (mkF m 89 #[.val (.int p1), .val (.int ((p1 &&& (2147483647 : Int32)) % (6 : Int32))), .val (.ref aLOG), .val (.int (0 : Int32)), .val (.int (0 : Int32)), .unset] [])
          refine OwnGo.aloadN X8 hx (hb hby at_89) rfl rfl ?_
          show Go p e below _ T8 (mkF m 90 #[.val (.int p1), .val (.int ((p1 &&& (2147483647 : Int32)) % (6 : Int32))), .val (.ref aLOG), .val (.int (0 : Int32)), .val (.int (0 : Int32)), .unset] [(.ref aLOG)])
          refine OwnGo.callV X8 hx hZ hown (y := (⟨"com/example/ulinzi/ulinzi/packetfilter/Target$Kind", "allows", "()Z"⟩ : MethodName)) (z := (⟨"com/example/ulinzi/ulinzi/packetfilter/Target$Kind", "allows", "()Z"⟩ : MethodName)) (hw _ (List.mem_of_getElem? (i := 10) rfl)) (hw _ (List.mem_of_getElem? (i := 11) rfl)) (notFace_of_selects (args := #[]) (mvT hZ (hw _ (List.mem_of_getElem? (i := 13) rfl)))) (hw _ (List.mem_of_getElem? (i := 13) rfl)) (hw _ (List.mem_of_getElem? (i := 12) rfl)) (hw _ (List.mem_of_getElem? (i := 2) rfl)) (hw _ (List.mem_of_getElem? (i := 14) rfl)) (by decide) e8 ELOG (as := []) (rm2 l Z a0 hw aLOG aACCEPT (0 : Int32) h0 SACCEPT (by simp [*])) (W := 0) (by decide) (by decide) (by decide) (by decide) (by rw [hml]; rfl) (lenOf own_pd0 rfl) (rest := []) rfl rfl (hb hby at_90) fun v9 T9 L9 X9 q9 => ?_
          obtain ⟨rfl, e9, rfl⟩ := q9
          rw [List.append_nil] at X9
          show Go p e below _ T9 (mkF m 93 #[.val (.int p1), .val (.int ((p1 &&& (2147483647 : Int32)) % (6 : Int32))), .val (.ref aLOG), .val (.int (0 : Int32)), .val (.int (0 : Int32)), .unset] [(.int (0 : Int32))])
          refine OwnGo.istore X9 hx (hb hby at_93) (Ls' := #[.val (.int p1), .val (.int ((p1 &&& (2147483647 : Int32)) % (6 : Int32))), .val (.ref aLOG), .val (.int (0 : Int32)), .val (.int (0 : Int32)), .val (.int (0 : Int32))]) rfl ?_
          show Go p e below _ T9 (mkF m 95 #[.val (.int p1), .val (.int ((p1 &&& (2147483647 : Int32)) % (6 : Int32))), .val (.ref aLOG), .val (.int (0 : Int32)), .val (.int (0 : Int32)), .val (.int (0 : Int32))] [])
          refine OwnGo.iload X9 hx (hb hby at_95) rfl ?_
          show Go p e below _ T9 (mkF m 97 #[.val (.int p1), .val (.int ((p1 &&& (2147483647 : Int32)) % (6 : Int32))), .val (.ref aLOG), .val (.int (0 : Int32)), .val (.int (0 : Int32)), .val (.int (0 : Int32))] [(.int (0 : Int32))])
          refine OwnGo.iloadN X9 hx (hb hby at_97) rfl ?_
          show Go p e below _ T9 (mkF m 98 #[.val (.int p1), .val (.int ((p1 &&& (2147483647 : Int32)) % (6 : Int32))), .val (.ref aLOG), .val (.int (0 : Int32)), .val (.int (0 : Int32)), .val (.int (0 : Int32))] [(.int (0 : Int32)), (.int (0 : Int32))])
          refine OwnGo.ic_ne X9 hx (pc' := 115) (hb hby at_98) (by decide) (by decide) (fun q => absurd q (by decide)) (fun _ => ?_)
          show Go p e below _ T9 (mkF m 101 #[.val (.int p1), .val (.int ((p1 &&& (2147483647 : Int32)) % (6 : Int32))), .val (.ref aLOG), .val (.int (0 : Int32)), .val (.int (0 : Int32)), .val (.int (0 : Int32))] [])
          refine OwnGo.iload X9 hx (hb hby at_101) rfl ?_
          show Go p e below _ T9 (mkF m 103 #[.val (.int p1), .val (.int ((p1 &&& (2147483647 : Int32)) % (6 : Int32))), .val (.ref aLOG), .val (.int (0 : Int32)), .val (.int (0 : Int32)), .val (.int (0 : Int32))] [(.int (0 : Int32))])
          refine OwnGo.if_eq X9 hx (pc' := 111) (hb hby at_103) (by decide) (by decide) (fun _ => ?_) (fun q => absurd q (by decide))
          show Go p e below _ T9 (mkF m 111 #[.val (.int p1), .val (.int ((p1 &&& (2147483647 : Int32)) % (6 : Int32))), .val (.ref aLOG), .val (.int (0 : Int32)), .val (.int (0 : Int32)), .val (.int (0 : Int32))] [])
          refine OwnGo.iconst X9 hx (z := (1 : Int32)) (hb hby at_111) (by decide) ?_
          show Go p e below _ T9 (mkF m 112 #[.val (.int p1), .val (.int ((p1 &&& (2147483647 : Int32)) % (6 : Int32))), .val (.ref aLOG), .val (.int (0 : Int32)), .val (.int (0 : Int32)), .val (.int (0 : Int32))] [(.int (1 : Int32))])
          refine OwnGo.goto X9 hx (pc' := 116) (hb hby at_112) (by decide) (by decide) ?_
          show Go p e below _ T9 (mkF m 116 #[.val (.int p1), .val (.int ((p1 &&& (2147483647 : Int32)) % (6 : Int32))), .val (.ref aLOG), .val (.int (0 : Int32)), .val (.int (0 : Int32)), .val (.int (0 : Int32))] [(.int (1 : Int32))])
          exact OwnGo.retB X9 hx hlk (z' := (1 : Int32)) hret (hb hby at_116) rfl ⟨rfl, Fr.nil _⟩ (by decide) (by decide)
      ·
        show Go p e below _ T0 (mkF m 40 #[.val (.int p1), .val (.int ((p1 &&& (2147483647 : Int32)) % (6 : Int32))), .unset, .unset, .unset, .unset] [])
        refine OwnGo.getS X0 hx hZ hown (host := "") (Or.inl (hw _ (List.mem_of_getElem? (i := 21) rfl))) Via.refl e0 SREJECT (hb hby at_40) fun T10 X10 e10 => ?_
        show Go p e below _ T10 (mkF m 43 #[.val (.int p1), .val (.int ((p1 &&& (2147483647 : Int32)) % (6 : Int32))), .unset, .unset, .unset, .unset] [(.ref aREJECT)])
        refine OwnGo.astoreN X10 hx (hb hby at_43) rfl (Ls' := #[.val (.int p1), .val (.int ((p1 &&& (2147483647 : Int32)) % (6 : Int32))), .val (.ref aREJECT), .unset, .unset, .unset]) rfl ?_
        show Go p e below _ T10 (mkF m 44 #[.val (.int p1), .val (.int ((p1 &&& (2147483647 : Int32)) % (6 : Int32))), .val (.ref aREJECT), .unset, .unset, .unset] [])
        refine OwnGo.iconst X10 hx (z := (1 : Int32)) (hb hby at_44) (by decide) ?_
        show Go p e below _ T10 (mkF m 45 #[.val (.int p1), .val (.int ((p1 &&& (2147483647 : Int32)) % (6 : Int32))), .val (.ref aREJECT), .unset, .unset, .unset] [(.int (1 : Int32))])
        refine OwnGo.istoreN X10 hx (hb hby at_45) (Ls' := #[.val (.int p1), .val (.int ((p1 &&& (2147483647 : Int32)) % (6 : Int32))), .val (.ref aREJECT), .val (.int (1 : Int32)), .unset, .unset]) rfl ?_
        show Go p e below _ T10 (mkF m 46 #[.val (.int p1), .val (.int ((p1 &&& (2147483647 : Int32)) % (6 : Int32))), .val (.ref aREJECT), .val (.int (1 : Int32)), .unset, .unset] [])
        refine OwnGo.goto X10 hx (pc' := 83) (hb hby at_46) (by decide) (by decide) ?_
        show Go p e below _ T10 (mkF m 83 #[.val (.int p1), .val (.int ((p1 &&& (2147483647 : Int32)) % (6 : Int32))), .val (.ref aREJECT), .val (.int (1 : Int32)), .unset, .unset] [])
        refine OwnGo.aloadN X10 hx (hb hby at_83) rfl rfl ?_
        show Go p e below _ T10 (mkF m 84 #[.val (.int p1), .val (.int ((p1 &&& (2147483647 : Int32)) % (6 : Int32))), .val (.ref aREJECT), .val (.int (1 : Int32)), .unset, .unset] [(.ref aREJECT)])
        refine OwnGo.callV X10 hx hZ hown (y := (⟨"com/example/ulinzi/ulinzi/packetfilter/Target$Kind", "decides", "()Z"⟩ : MethodName)) (z := (⟨"com/example/ulinzi/ulinzi/packetfilter/Target$Kind", "decides", "()Z"⟩ : MethodName)) (hw _ (List.mem_of_getElem? (i := 4) rfl)) (hw _ (List.mem_of_getElem? (i := 5) rfl)) (notFace_of_selects (args := #[]) (mvT hZ (hw _ (List.mem_of_getElem? (i := 7) rfl)))) (hw _ (List.mem_of_getElem? (i := 7) rfl)) (hw _ (List.mem_of_getElem? (i := 6) rfl)) (hw _ (List.mem_of_getElem? (i := 2) rfl)) (hw _ (List.mem_of_getElem? (i := 8) rfl)) (by decide) e10 EREJECT (as := []) (rm1 l Z a0 hw aREJECT aACCEPT aDROP aREJECT (1 : Int32) h0 SACCEPT SDROP SREJECT (by simp [*])) (W := 0) (by decide) (by decide) (by decide) (by decide) (by rw [hml]; rfl) (lenOf own_pd0 rfl) (rest := []) rfl rfl (hb hby at_84) fun v11 T11 L11 X11 q11 => ?_
        obtain ⟨rfl, e11, rfl⟩ := q11
        rw [List.append_nil] at X11
        show Go p e below _ T11 (mkF m 87 #[.val (.int p1), .val (.int ((p1 &&& (2147483647 : Int32)) % (6 : Int32))), .val (.ref aREJECT), .val (.int (1 : Int32)), .unset, .unset] [(.int (1 : Int32))])
        refine OwnGo.istore X11 hx (hb hby at_87) (Ls' := #[.val (.int p1), .val (.int ((p1 &&& (2147483647 : Int32)) % (6 : Int32))), .val (.ref aREJECT), .val (.int (1 : Int32)), .val (.int (1 : Int32)), .unset]) rfl ?_
        show Go p e below _ T11 (mkF m 89 #[.val (.int p1), .val (.int ((p1 &&& (2147483647 : Int32)) % (6 : Int32))), .val (.ref aREJECT), .val (.int (1 : Int32)), .val (.int (1 : Int32)), .unset] [])
        refine OwnGo.aloadN X11 hx (hb hby at_89) rfl rfl ?_
        show Go p e below _ T11 (mkF m 90 #[.val (.int p1), .val (.int ((p1 &&& (2147483647 : Int32)) % (6 : Int32))), .val (.ref aREJECT), .val (.int (1 : Int32)), .val (.int (1 : Int32)), .unset] [(.ref aREJECT)])
        refine OwnGo.callV X11 hx hZ hown (y := (⟨"com/example/ulinzi/ulinzi/packetfilter/Target$Kind", "allows", "()Z"⟩ : MethodName)) (z := (⟨"com/example/ulinzi/ulinzi/packetfilter/Target$Kind", "allows", "()Z"⟩ : MethodName)) (hw _ (List.mem_of_getElem? (i := 10) rfl)) (hw _ (List.mem_of_getElem? (i := 11) rfl)) (notFace_of_selects (args := #[]) (mvT hZ (hw _ (List.mem_of_getElem? (i := 13) rfl)))) (hw _ (List.mem_of_getElem? (i := 13) rfl)) (hw _ (List.mem_of_getElem? (i := 12) rfl)) (hw _ (List.mem_of_getElem? (i := 2) rfl)) (hw _ (List.mem_of_getElem? (i := 14) rfl)) (by decide) e11 EREJECT (as := []) (rm2 l Z a0 hw aREJECT aACCEPT (0 : Int32) h0 SACCEPT (by simp [*])) (W := 0) (by decide) (by decide) (by decide) (by decide) (by rw [hml]; rfl) (lenOf own_pd0 rfl) (rest := []) rfl rfl (hb hby at_90) fun v12 T12 L12 X12 q12 => ?_
        obtain ⟨rfl, e12, rfl⟩ := q12
        rw [List.append_nil] at X12
        show Go p e below _ T12 (mkF m 93 #[.val (.int p1), .val (.int ((p1 &&& (2147483647 : Int32)) % (6 : Int32))), .val (.ref aREJECT), .val (.int (1 : Int32)), .val (.int (1 : Int32)), .unset] [(.int (0 : Int32))])
        refine OwnGo.istore X12 hx (hb hby at_93) (Ls' := #[.val (.int p1), .val (.int ((p1 &&& (2147483647 : Int32)) % (6 : Int32))), .val (.ref aREJECT), .val (.int (1 : Int32)), .val (.int (1 : Int32)), .val (.int (0 : Int32))]) rfl ?_
        show Go p e below _ T12 (mkF m 95 #[.val (.int p1), .val (.int ((p1 &&& (2147483647 : Int32)) % (6 : Int32))), .val (.ref aREJECT), .val (.int (1 : Int32)), .val (.int (1 : Int32)), .val (.int (0 : Int32))] [])
        refine OwnGo.iload X12 hx (hb hby at_95) rfl ?_
        show Go p e below _ T12 (mkF m 97 #[.val (.int p1), .val (.int ((p1 &&& (2147483647 : Int32)) % (6 : Int32))), .val (.ref aREJECT), .val (.int (1 : Int32)), .val (.int (1 : Int32)), .val (.int (0 : Int32))] [(.int (1 : Int32))])
        refine OwnGo.iloadN X12 hx (hb hby at_97) rfl ?_
        show Go p e below _ T12 (mkF m 98 #[.val (.int p1), .val (.int ((p1 &&& (2147483647 : Int32)) % (6 : Int32))), .val (.ref aREJECT), .val (.int (1 : Int32)), .val (.int (1 : Int32)), .val (.int (0 : Int32))] [(.int (1 : Int32)), (.int (1 : Int32))])
        refine OwnGo.ic_ne X12 hx (pc' := 115) (hb hby at_98) (by decide) (by decide) (fun q => absurd q (by decide)) (fun _ => ?_)
        show Go p e below _ T12 (mkF m 101 #[.val (.int p1), .val (.int ((p1 &&& (2147483647 : Int32)) % (6 : Int32))), .val (.ref aREJECT), .val (.int (1 : Int32)), .val (.int (1 : Int32)), .val (.int (0 : Int32))] [])
        refine OwnGo.iload X12 hx (hb hby at_101) rfl ?_
        show Go p e below _ T12 (mkF m 103 #[.val (.int p1), .val (.int ((p1 &&& (2147483647 : Int32)) % (6 : Int32))), .val (.ref aREJECT), .val (.int (1 : Int32)), .val (.int (1 : Int32)), .val (.int (0 : Int32))] [(.int (0 : Int32))])
        refine OwnGo.if_eq X12 hx (pc' := 111) (hb hby at_103) (by decide) (by decide) (fun _ => ?_) (fun q => absurd q (by decide))
        show Go p e below _ T12 (mkF m 111 #[.val (.int p1), .val (.int ((p1 &&& (2147483647 : Int32)) % (6 : Int32))), .val (.ref aREJECT), .val (.int (1 : Int32)), .val (.int (1 : Int32)), .val (.int (0 : Int32))] [])
        refine OwnGo.iconst X12 hx (z := (1 : Int32)) (hb hby at_111) (by decide) ?_
        show Go p e below _ T12 (mkF m 112 #[.val (.int p1), .val (.int ((p1 &&& (2147483647 : Int32)) % (6 : Int32))), .val (.ref aREJECT), .val (.int (1 : Int32)), .val (.int (1 : Int32)), .val (.int (0 : Int32))] [(.int (1 : Int32))])
        refine OwnGo.goto X12 hx (pc' := 116) (hb hby at_112) (by decide) (by decide) ?_
        show Go p e below _ T12 (mkF m 116 #[.val (.int p1), .val (.int ((p1 &&& (2147483647 : Int32)) % (6 : Int32))), .val (.ref aREJECT), .val (.int (1 : Int32)), .val (.int (1 : Int32)), .val (.int (0 : Int32))] [(.int (1 : Int32))])
        exact OwnGo.retB X12 hx hlk (z' := (1 : Int32)) hret (hb hby at_116) rfl ⟨rfl, Fr.nil _⟩ (by decide) (by decide)
    ·
      show Go p e below _ T0 (mkF m 26 #[.val (.int p1), .val (.int ((p1 &&& (2147483647 : Int32)) % (6 : Int32))), .unset, .unset, .unset, .unset] [])
      refine OwnGo.getS X0 hx hZ hown (host := "") (Or.inl (hw _ (List.mem_of_getElem? (i := 22) rfl))) Via.refl e0 SDROP (hb hby at_26) fun T13 X13 e13 => ?_
      show Go p e below _ T13 (mkF m 29 #[.val (.int p1), .val (.int ((p1 &&& (2147483647 : Int32)) % (6 : Int32))), .unset, .unset, .unset, .unset] [(.ref aDROP)])
      refine OwnGo.astoreN X13 hx (hb hby at_29) rfl (Ls' := #[.val (.int p1), .val (.int ((p1 &&& (2147483647 : Int32)) % (6 : Int32))), .val (.ref aDROP), .unset, .unset, .unset]) rfl ?_
      show Go p e below _ T13 (mkF m 30 #[.val (.int p1), .val (.int ((p1 &&& (2147483647 : Int32)) % (6 : Int32))), .val (.ref aDROP), .unset, .unset, .unset] [])
      refine OwnGo.iconst X13 hx (z := (1 : Int32)) (hb hby at_30) (by decide) ?_
      show Go p e below _ T13 (mkF m 31 #[.val (.int p1), .val (.int ((p1 &&& (2147483647 : Int32)) % (6 : Int32))), .val (.ref aDROP), .unset, .unset, .unset] [(.int (1 : Int32))])
      refine OwnGo.istoreN X13 hx (hb hby at_31) (Ls' := #[.val (.int p1), .val (.int ((p1 &&& (2147483647 : Int32)) % (6 : Int32))), .val (.ref aDROP), .val (.int (1 : Int32)), .unset, .unset]) rfl ?_
      show Go p e below _ T13 (mkF m 32 #[.val (.int p1), .val (.int ((p1 &&& (2147483647 : Int32)) % (6 : Int32))), .val (.ref aDROP), .val (.int (1 : Int32)), .unset, .unset] [])
      refine OwnGo.goto X13 hx (pc' := 83) (hb hby at_32) (by decide) (by decide) ?_
      show Go p e below _ T13 (mkF m 83 #[.val (.int p1), .val (.int ((p1 &&& (2147483647 : Int32)) % (6 : Int32))), .val (.ref aDROP), .val (.int (1 : Int32)), .unset, .unset] [])
      refine OwnGo.aloadN X13 hx (hb hby at_83) rfl rfl ?_
      show Go p e below _ T13 (mkF m 84 #[.val (.int p1), .val (.int ((p1 &&& (2147483647 : Int32)) % (6 : Int32))), .val (.ref aDROP), .val (.int (1 : Int32)), .unset, .unset] [(.ref aDROP)])
      refine OwnGo.callV X13 hx hZ hown (y := (⟨"com/example/ulinzi/ulinzi/packetfilter/Target$Kind", "decides", "()Z"⟩ : MethodName)) (z := (⟨"com/example/ulinzi/ulinzi/packetfilter/Target$Kind", "decides", "()Z"⟩ : MethodName)) (hw _ (List.mem_of_getElem? (i := 4) rfl)) (hw _ (List.mem_of_getElem? (i := 5) rfl)) (notFace_of_selects (args := #[]) (mvT hZ (hw _ (List.mem_of_getElem? (i := 7) rfl)))) (hw _ (List.mem_of_getElem? (i := 7) rfl)) (hw _ (List.mem_of_getElem? (i := 6) rfl)) (hw _ (List.mem_of_getElem? (i := 2) rfl)) (hw _ (List.mem_of_getElem? (i := 8) rfl)) (by decide) e13 EDROP (as := []) (rm1 l Z a0 hw aDROP aACCEPT aDROP aREJECT (1 : Int32) h0 SACCEPT SDROP SREJECT (by simp [*])) (W := 0) (by decide) (by decide) (by decide) (by decide) (by rw [hml]; rfl) (lenOf own_pd0 rfl) (rest := []) rfl rfl (hb hby at_84) fun v14 T14 L14 X14 q14 => ?_
      obtain ⟨rfl, e14, rfl⟩ := q14
      rw [List.append_nil] at X14
      show Go p e below _ T14 (mkF m 87 #[.val (.int p1), .val (.int ((p1 &&& (2147483647 : Int32)) % (6 : Int32))), .val (.ref aDROP), .val (.int (1 : Int32)), .unset, .unset] [(.int (1 : Int32))])
      refine OwnGo.istore X14 hx (hb hby at_87) (Ls' := #[.val (.int p1), .val (.int ((p1 &&& (2147483647 : Int32)) % (6 : Int32))), .val (.ref aDROP), .val (.int (1 : Int32)), .val (.int (1 : Int32)), .unset]) rfl ?_
      show Go p e below _ T14 (mkF m 89 #[.val (.int p1), .val (.int ((p1 &&& (2147483647 : Int32)) % (6 : Int32))), .val (.ref aDROP), .val (.int (1 : Int32)), .val (.int (1 : Int32)), .unset] [])
      refine OwnGo.aloadN X14 hx (hb hby at_89) rfl rfl ?_
      show Go p e below _ T14 (mkF m 90 #[.val (.int p1), .val (.int ((p1 &&& (2147483647 : Int32)) % (6 : Int32))), .val (.ref aDROP), .val (.int (1 : Int32)), .val (.int (1 : Int32)), .unset] [(.ref aDROP)])
      refine OwnGo.callV X14 hx hZ hown (y := (⟨"com/example/ulinzi/ulinzi/packetfilter/Target$Kind", "allows", "()Z"⟩ : MethodName)) (z := (⟨"com/example/ulinzi/ulinzi/packetfilter/Target$Kind", "allows", "()Z"⟩ : MethodName)) (hw _ (List.mem_of_getElem? (i := 10) rfl)) (hw _ (List.mem_of_getElem? (i := 11) rfl)) (notFace_of_selects (args := #[]) (mvT hZ (hw _ (List.mem_of_getElem? (i := 13) rfl)))) (hw _ (List.mem_of_getElem? (i := 13) rfl)) (hw _ (List.mem_of_getElem? (i := 12) rfl)) (hw _ (List.mem_of_getElem? (i := 2) rfl)) (hw _ (List.mem_of_getElem? (i := 14) rfl)) (by decide) e14 EDROP (as := []) (rm2 l Z a0 hw aDROP aACCEPT (0 : Int32) h0 SACCEPT (by simp [*])) (W := 0) (by decide) (by decide) (by decide) (by decide) (by rw [hml]; rfl) (lenOf own_pd0 rfl) (rest := []) rfl rfl (hb hby at_90) fun v15 T15 L15 X15 q15 => ?_
      obtain ⟨rfl, e15, rfl⟩ := q15
      rw [List.append_nil] at X15
      show Go p e below _ T15 (mkF m 93 #[.val (.int p1), .val (.int ((p1 &&& (2147483647 : Int32)) % (6 : Int32))), .val (.ref aDROP), .val (.int (1 : Int32)), .val (.int (1 : Int32)), .unset] [(.int (0 : Int32))])
      refine OwnGo.istore X15 hx (hb hby at_93) (Ls' := #[.val (.int p1), .val (.int ((p1 &&& (2147483647 : Int32)) % (6 : Int32))), .val (.ref aDROP), .val (.int (1 : Int32)), .val (.int (1 : Int32)), .val (.int (0 : Int32))]) rfl ?_
      show Go p e below _ T15 (mkF m 95 #[.val (.int p1), .val (.int ((p1 &&& (2147483647 : Int32)) % (6 : Int32))), .val (.ref aDROP), .val (.int (1 : Int32)), .val (.int (1 : Int32)), .val (.int (0 : Int32))] [])
      refine OwnGo.iload X15 hx (hb hby at_95) rfl ?_
      show Go p e below _ T15 (mkF m 97 #[.val (.int p1), .val (.int ((p1 &&& (2147483647 : Int32)) % (6 : Int32))), .val (.ref aDROP), .val (.int (1 : Int32)), .val (.int (1 : Int32)), .val (.int (0 : Int32))] [(.int (1 : Int32))])
      refine OwnGo.iloadN X15 hx (hb hby at_97) rfl ?_
      show Go p e below _ T15 (mkF m 98 #[.val (.int p1), .val (.int ((p1 &&& (2147483647 : Int32)) % (6 : Int32))), .val (.ref aDROP), .val (.int (1 : Int32)), .val (.int (1 : Int32)), .val (.int (0 : Int32))] [(.int (1 : Int32)), (.int (1 : Int32))])
      refine OwnGo.ic_ne X15 hx (pc' := 115) (hb hby at_98) (by decide) (by decide) (fun q => absurd q (by decide)) (fun _ => ?_)
      show Go p e below _ T15 (mkF m 101 #[.val (.int p1), .val (.int ((p1 &&& (2147483647 : Int32)) % (6 : Int32))), .val (.ref aDROP), .val (.int (1 : Int32)), .val (.int (1 : Int32)), .val (.int (0 : Int32))] [])
      refine OwnGo.iload X15 hx (hb hby at_101) rfl ?_
      show Go p e below _ T15 (mkF m 103 #[.val (.int p1), .val (.int ((p1 &&& (2147483647 : Int32)) % (6 : Int32))), .val (.ref aDROP), .val (.int (1 : Int32)), .val (.int (1 : Int32)), .val (.int (0 : Int32))] [(.int (0 : Int32))])
      refine OwnGo.if_eq X15 hx (pc' := 111) (hb hby at_103) (by decide) (by decide) (fun _ => ?_) (fun q => absurd q (by decide))
      show Go p e below _ T15 (mkF m 111 #[.val (.int p1), .val (.int ((p1 &&& (2147483647 : Int32)) % (6 : Int32))), .val (.ref aDROP), .val (.int (1 : Int32)), .val (.int (1 : Int32)), .val (.int (0 : Int32))] [])
      refine OwnGo.iconst X15 hx (z := (1 : Int32)) (hb hby at_111) (by decide) ?_
      show Go p e below _ T15 (mkF m 112 #[.val (.int p1), .val (.int ((p1 &&& (2147483647 : Int32)) % (6 : Int32))), .val (.ref aDROP), .val (.int (1 : Int32)), .val (.int (1 : Int32)), .val (.int (0 : Int32))] [(.int (1 : Int32))])
      refine OwnGo.goto X15 hx (pc' := 116) (hb hby at_112) (by decide) (by decide) ?_
      show Go p e below _ T15 (mkF m 116 #[.val (.int p1), .val (.int ((p1 &&& (2147483647 : Int32)) % (6 : Int32))), .val (.ref aDROP), .val (.int (1 : Int32)), .val (.int (1 : Int32)), .val (.int (0 : Int32))] [(.int (1 : Int32))])
      exact OwnGo.retB X15 hx hlk (z' := (1 : Int32)) hret (hb hby at_116) rfl ⟨rfl, Fr.nil _⟩ (by decide) (by decide)
  ·
    show Go p e below _ T0 (mkF m 12 #[.val (.int p1), .val (.int ((p1 &&& (2147483647 : Int32)) % (6 : Int32))), .unset, .unset, .unset, .unset] [])
    refine OwnGo.getS X0 hx hZ hown (host := "") (Or.inl (hw _ (List.mem_of_getElem? (i := 1) rfl))) Via.refl e0 SACCEPT (hb hby at_12) fun T16 X16 e16 => ?_
    show Go p e below _ T16 (mkF m 15 #[.val (.int p1), .val (.int ((p1 &&& (2147483647 : Int32)) % (6 : Int32))), .unset, .unset, .unset, .unset] [(.ref aACCEPT)])
    refine OwnGo.astoreN X16 hx (hb hby at_15) rfl (Ls' := #[.val (.int p1), .val (.int ((p1 &&& (2147483647 : Int32)) % (6 : Int32))), .val (.ref aACCEPT), .unset, .unset, .unset]) rfl ?_
    show Go p e below _ T16 (mkF m 16 #[.val (.int p1), .val (.int ((p1 &&& (2147483647 : Int32)) % (6 : Int32))), .val (.ref aACCEPT), .unset, .unset, .unset] [])
    refine OwnGo.iconst X16 hx (z := (1 : Int32)) (hb hby at_16) (by decide) ?_
    show Go p e below _ T16 (mkF m 17 #[.val (.int p1), .val (.int ((p1 &&& (2147483647 : Int32)) % (6 : Int32))), .val (.ref aACCEPT), .unset, .unset, .unset] [(.int (1 : Int32))])
    refine OwnGo.istoreN X16 hx (hb hby at_17) (Ls' := #[.val (.int p1), .val (.int ((p1 &&& (2147483647 : Int32)) % (6 : Int32))), .val (.ref aACCEPT), .val (.int (1 : Int32)), .unset, .unset]) rfl ?_
    show Go p e below _ T16 (mkF m 18 #[.val (.int p1), .val (.int ((p1 &&& (2147483647 : Int32)) % (6 : Int32))), .val (.ref aACCEPT), .val (.int (1 : Int32)), .unset, .unset] [])
    refine OwnGo.goto X16 hx (pc' := 83) (hb hby at_18) (by decide) (by decide) ?_
    show Go p e below _ T16 (mkF m 83 #[.val (.int p1), .val (.int ((p1 &&& (2147483647 : Int32)) % (6 : Int32))), .val (.ref aACCEPT), .val (.int (1 : Int32)), .unset, .unset] [])
    refine OwnGo.aloadN X16 hx (hb hby at_83) rfl rfl ?_
    show Go p e below _ T16 (mkF m 84 #[.val (.int p1), .val (.int ((p1 &&& (2147483647 : Int32)) % (6 : Int32))), .val (.ref aACCEPT), .val (.int (1 : Int32)), .unset, .unset] [(.ref aACCEPT)])
    refine OwnGo.callV X16 hx hZ hown (y := (⟨"com/example/ulinzi/ulinzi/packetfilter/Target$Kind", "decides", "()Z"⟩ : MethodName)) (z := (⟨"com/example/ulinzi/ulinzi/packetfilter/Target$Kind", "decides", "()Z"⟩ : MethodName)) (hw _ (List.mem_of_getElem? (i := 4) rfl)) (hw _ (List.mem_of_getElem? (i := 5) rfl)) (notFace_of_selects (args := #[]) (mvT hZ (hw _ (List.mem_of_getElem? (i := 7) rfl)))) (hw _ (List.mem_of_getElem? (i := 7) rfl)) (hw _ (List.mem_of_getElem? (i := 6) rfl)) (hw _ (List.mem_of_getElem? (i := 2) rfl)) (hw _ (List.mem_of_getElem? (i := 8) rfl)) (by decide) e16 EACCEPT (as := []) (rm1 l Z a0 hw aACCEPT aACCEPT aDROP aREJECT (1 : Int32) h0 SACCEPT SDROP SREJECT (by simp [*])) (W := 0) (by decide) (by decide) (by decide) (by decide) (by rw [hml]; rfl) (lenOf own_pd0 rfl) (rest := []) rfl rfl (hb hby at_84) fun v17 T17 L17 X17 q17 => ?_
    obtain ⟨rfl, e17, rfl⟩ := q17
    rw [List.append_nil] at X17
    show Go p e below _ T17 (mkF m 87 #[.val (.int p1), .val (.int ((p1 &&& (2147483647 : Int32)) % (6 : Int32))), .val (.ref aACCEPT), .val (.int (1 : Int32)), .unset, .unset] [(.int (1 : Int32))])
    refine OwnGo.istore X17 hx (hb hby at_87) (Ls' := #[.val (.int p1), .val (.int ((p1 &&& (2147483647 : Int32)) % (6 : Int32))), .val (.ref aACCEPT), .val (.int (1 : Int32)), .val (.int (1 : Int32)), .unset]) rfl ?_
    show Go p e below _ T17 (mkF m 89 #[.val (.int p1), .val (.int ((p1 &&& (2147483647 : Int32)) % (6 : Int32))), .val (.ref aACCEPT), .val (.int (1 : Int32)), .val (.int (1 : Int32)), .unset] [])
    refine OwnGo.aloadN X17 hx (hb hby at_89) rfl rfl ?_
    show Go p e below _ T17 (mkF m 90 #[.val (.int p1), .val (.int ((p1 &&& (2147483647 : Int32)) % (6 : Int32))), .val (.ref aACCEPT), .val (.int (1 : Int32)), .val (.int (1 : Int32)), .unset] [(.ref aACCEPT)])
    refine OwnGo.callV X17 hx hZ hown (y := (⟨"com/example/ulinzi/ulinzi/packetfilter/Target$Kind", "allows", "()Z"⟩ : MethodName)) (z := (⟨"com/example/ulinzi/ulinzi/packetfilter/Target$Kind", "allows", "()Z"⟩ : MethodName)) (hw _ (List.mem_of_getElem? (i := 10) rfl)) (hw _ (List.mem_of_getElem? (i := 11) rfl)) (notFace_of_selects (args := #[]) (mvT hZ (hw _ (List.mem_of_getElem? (i := 13) rfl)))) (hw _ (List.mem_of_getElem? (i := 13) rfl)) (hw _ (List.mem_of_getElem? (i := 12) rfl)) (hw _ (List.mem_of_getElem? (i := 2) rfl)) (hw _ (List.mem_of_getElem? (i := 14) rfl)) (by decide) e17 EACCEPT (as := []) (rm2 l Z a0 hw aACCEPT aACCEPT (1 : Int32) h0 SACCEPT (by simp [*])) (W := 0) (by decide) (by decide) (by decide) (by decide) (by rw [hml]; rfl) (lenOf own_pd0 rfl) (rest := []) rfl rfl (hb hby at_90) fun v18 T18 L18 X18 q18 => ?_
    obtain ⟨rfl, e18, rfl⟩ := q18
    rw [List.append_nil] at X18
    show Go p e below _ T18 (mkF m 93 #[.val (.int p1), .val (.int ((p1 &&& (2147483647 : Int32)) % (6 : Int32))), .val (.ref aACCEPT), .val (.int (1 : Int32)), .val (.int (1 : Int32)), .unset] [(.int (1 : Int32))])
    refine OwnGo.istore X18 hx (hb hby at_93) (Ls' := #[.val (.int p1), .val (.int ((p1 &&& (2147483647 : Int32)) % (6 : Int32))), .val (.ref aACCEPT), .val (.int (1 : Int32)), .val (.int (1 : Int32)), .val (.int (1 : Int32))]) rfl ?_
    show Go p e below _ T18 (mkF m 95 #[.val (.int p1), .val (.int ((p1 &&& (2147483647 : Int32)) % (6 : Int32))), .val (.ref aACCEPT), .val (.int (1 : Int32)), .val (.int (1 : Int32)), .val (.int (1 : Int32))] [])
    refine OwnGo.iload X18 hx (hb hby at_95) rfl ?_
    show Go p e below _ T18 (mkF m 97 #[.val (.int p1), .val (.int ((p1 &&& (2147483647 : Int32)) % (6 : Int32))), .val (.ref aACCEPT), .val (.int (1 : Int32)), .val (.int (1 : Int32)), .val (.int (1 : Int32))] [(.int (1 : Int32))])
    refine OwnGo.iloadN X18 hx (hb hby at_97) rfl ?_
    show Go p e below _ T18 (mkF m 98 #[.val (.int p1), .val (.int ((p1 &&& (2147483647 : Int32)) % (6 : Int32))), .val (.ref aACCEPT), .val (.int (1 : Int32)), .val (.int (1 : Int32)), .val (.int (1 : Int32))] [(.int (1 : Int32)), (.int (1 : Int32))])
    refine OwnGo.ic_ne X18 hx (pc' := 115) (hb hby at_98) (by decide) (by decide) (fun q => absurd q (by decide)) (fun _ => ?_)
    show Go p e below _ T18 (mkF m 101 #[.val (.int p1), .val (.int ((p1 &&& (2147483647 : Int32)) % (6 : Int32))), .val (.ref aACCEPT), .val (.int (1 : Int32)), .val (.int (1 : Int32)), .val (.int (1 : Int32))] [])
    refine OwnGo.iload X18 hx (hb hby at_101) rfl ?_
    show Go p e below _ T18 (mkF m 103 #[.val (.int p1), .val (.int ((p1 &&& (2147483647 : Int32)) % (6 : Int32))), .val (.ref aACCEPT), .val (.int (1 : Int32)), .val (.int (1 : Int32)), .val (.int (1 : Int32))] [(.int (1 : Int32))])
    refine OwnGo.if_eq X18 hx (pc' := 111) (hb hby at_103) (by decide) (by decide) (fun q => absurd q (by decide)) (fun _ => ?_)
    show Go p e below _ T18 (mkF m 106 #[.val (.int p1), .val (.int ((p1 &&& (2147483647 : Int32)) % (6 : Int32))), .val (.ref aACCEPT), .val (.int (1 : Int32)), .val (.int (1 : Int32)), .val (.int (1 : Int32))] [])
    refine OwnGo.iload X18 hx (hb hby at_106) rfl ?_
    show Go p e below _ T18 (mkF m 108 #[.val (.int p1), .val (.int ((p1 &&& (2147483647 : Int32)) % (6 : Int32))), .val (.ref aACCEPT), .val (.int (1 : Int32)), .val (.int (1 : Int32)), .val (.int (1 : Int32))] [(.int (1 : Int32))])
    refine OwnGo.if_eq X18 hx (pc' := 115) (hb hby at_108) (by decide) (by decide) (fun q => absurd q (by decide)) (fun _ => ?_)
    show Go p e below _ T18 (mkF m 111 #[.val (.int p1), .val (.int ((p1 &&& (2147483647 : Int32)) % (6 : Int32))), .val (.ref aACCEPT), .val (.int (1 : Int32)), .val (.int (1 : Int32)), .val (.int (1 : Int32))] [])
    refine OwnGo.iconst X18 hx (z := (1 : Int32)) (hb hby at_111) (by decide) ?_
    show Go p e below _ T18 (mkF m 112 #[.val (.int p1), .val (.int ((p1 &&& (2147483647 : Int32)) % (6 : Int32))), .val (.ref aACCEPT), .val (.int (1 : Int32)), .val (.int (1 : Int32)), .val (.int (1 : Int32))] [(.int (1 : Int32))])
    refine OwnGo.goto X18 hx (pc' := 116) (hb hby at_112) (by decide) (by decide) ?_
    show Go p e below _ T18 (mkF m 116 #[.val (.int p1), .val (.int ((p1 &&& (2147483647 : Int32)) % (6 : Int32))), .val (.ref aACCEPT), .val (.int (1 : Int32)), .val (.int (1 : Int32)), .val (.int (1 : Int32))] [(.int (1 : Int32))])
    exact OwnGo.retB X18 hx hlk (z' := (1 : Int32)) hret (hb hby at_116) rfl ⟨rfl, Fr.nil _⟩ (by decide) (by decide)
set_option maxRecDepth 65536 in
set_option maxHeartbeats 40000000 in
theorem comes_1 {Post : Tables → Env → Array Value → State → Outcome → State → Prop} (hpost : ∀ tb e args s v u, (limb_1_1.after args s (.returned v) u = true ∧ limb_1_2.after args s (.returned v) u = true ∧ True) → FrameEnd s (.returned v) u (Jvm.fieldLocs frame_1_writes args s ++ Jvm.arrayLocs frame_1_arrays args s ++ Jvm.staticLocs frame_1_statics s) 0 0 → Post tb e args s (.returned v) u) :
    ArmFor flags0 classFile x code maxLocals ret World_1 tables_1 room_1 Calls_1 rest_1 Pre_1 Post := by
  intro l hfl _ _ p e ha hc hk s m args below hf hA hF happ hP
  obtain ⟨hcalls, hrest, hpre⟩ := hP
  obtain ⟨-, -, -, hnamed, -, -, -, hat⟩ := (Spec.applies_iff hf).mp happ
  obtain ⟨hg, hn⟩ := and_e (Cond.before_iff.mp (show (Jvm.Cond.and given_1 narrow_1).before args s = true from hpre))
  obtain ⟨gc0, gr0⟩ := and_e hg
  obtain ⟨w0, rfl⟩ : ∃ w0 : Value, args = #[w0] := by
    have hs : args.size = 1 := by simpa [Cond.value, given_1] using gc0
    obtain ⟨L⟩ := args
    match L, hs with
    | [w0], _ => exact ⟨w0, rfl⟩
  have hw := fun d (hd : d ∈ tables_1) => atoms_spec (ws := Jvm.Cond.code x code maxLocals ret :: tables_1) hat d (List.mem_cons_of_mem _ hd)
  obtain ⟨i0, ei0⟩ := is_v gr0
  obtain rfl : w0 = (.int i0) := Option.some.inj ei0
  obtain ⟨n0a, n0b⟩ := and_e hn
  obtain ⟨n1a, n1b⟩ := and_e n0b
  obtain ⟨n2a, n2b⟩ := and_e n1b
  obtain ⟨n3a, n3b⟩ := and_e n2b
  obtain ⟨n4a, n4b⟩ := and_e n3b
  obtain ⟨n5a, n5b⟩ := and_e n4b
  obtain ⟨n6a, n6b⟩ := and_e n5b
  obtain ⟨n7a, n7b⟩ := and_e n6b
  obtain ⟨n8a, n8b⟩ := and_e n7b
  obtain ⟨n9a, n9b⟩ := and_e n8b
  obtain ⟨n10a, n10b⟩ := and_e n9b
  obtain ⟨aACCEPT, tACCEPT, SACCEPT, EACCEPT⟩ := own_pin n0a (hw _ (List.mem_of_getElem? (i := 2) rfl)) (hw _ (List.mem_of_getElem? (i := 3) rfl))
  obtain ⟨aLOG, tLOG, SLOG, ELOG⟩ := own_pin n1a (hw _ (List.mem_of_getElem? (i := 2) rfl)) (hw _ (List.mem_of_getElem? (i := 16) rfl))
  obtain ⟨aDROP, tDROP, SDROP, EDROP⟩ := own_pin n4a (hw _ (List.mem_of_getElem? (i := 2) rfl)) (hw _ (List.mem_of_getElem? (i := 18) rfl))
  obtain ⟨aREJECT, tREJECT, SREJECT, EREJECT⟩ := own_pin n6a (hw _ (List.mem_of_getElem? (i := 2) rfl)) (hw _ (List.mem_of_getElem? (i := 20) rfl))
  obtain ⟨aJUMP, tJUMP, SJUMP, EJUMP⟩ := own_pin n8a (hw _ (List.mem_of_getElem? (i := 2) rfl)) (hw _ (List.mem_of_getElem? (i := 24) rfl))
  obtain ⟨aRETURN, tRETURN, SRETURN, ERETURN⟩ := own_pin n10a (hw _ (List.mem_of_getElem? (i := 2) rfl)) (hw _ (List.mem_of_getElem? (i := 26) rfl))
  have OLOG := own_fldpin tLOG n2a
  have OACCEPT := own_fldpin tACCEPT n3a
  have ODROP := own_fldpin tDROP n5a
  have OREJECT := own_fldpin tREJECT n7a
  have OJUMP := own_fldpin tJUMP n9a
  have ORETURN := own_fldpin tRETURN n10b
  obtain ⟨n, o, h1, h2, h3, _, L, rfl, ⟨rfl, N⟩, hq⟩ := rm0 l s _ hw i0 aACCEPT aDROP aREJECT aLOG aRETURN aJUMP s.heap s.heap.size SACCEPT SDROP SREJECT SLOG SRETURN SJUMP EACCEPT EDROP EREJECT ELOG ERETURN EJUMP (own_ne ODROP OACCEPT (by decide)) (own_ne OREJECT OACCEPT (by decide)) (own_ne OREJECT ODROP (by decide)) (own_ne OLOG OACCEPT (by decide)) (own_ne OLOG ODROP (by decide)) (own_ne OLOG OREJECT (by decide)) (own_ne ORETURN OACCEPT (by decide)) (own_ne ORETURN ODROP (by decide)) (own_ne ORETURN OREJECT (by decide)) (own_ne OJUMP OACCEPT (by decide)) (own_ne OJUMP ODROP (by decide)) (own_ne OJUMP OREJECT (by decide)) tables_1 p e ha hc hk s m _ below hf ((Spec.applies_iff_loose hf).mp happ).1 ⟨rfl, State.Warmed39.refl s, rfl⟩ trivial
  refine ⟨n, _, h1, h2, h3, hpost _ _ _ _ _ _ ⟨Cond.after_iff.mpr rfl, Cond.after_iff.mpr (eq_i res_at (Term.int_eval (1)) rfl), trivial⟩ ⟨hq.1, hq.2.1, (hq.2.2.sift fun y hy => Or.inr (N y hy)).mono (by decide) (by decide)⟩⟩
theorem main_1_1 : Claimed_1_1 := comes_1 fun _ _ _ _ _ _ h hF => ⟨h.1, hF⟩
theorem main_1_2 : Claimed_1_2 := comes_1 fun _ _ _ _ _ _ h hF => ⟨h.2.1, hF⟩
end Jvm.Pilot.@@N@@
namespace Jvm.Pilot.@@N@@
open Jvm Jvm.ClassFile Sem Op Lib Jvm.Free Jvm.Stand Jvm.Pilot.@@N@@.Jvm.D
/-! MADE BY PROGRAM (witnessworld.py) out of the Statement's table words and the real class files: 12 classes; the members and pool entries that the words name. The judged class is class 1, her method 1. -/
namespace start1
open Jvm.ClassFile
def u (s : String) : CpInfo := .utf8 (stringToUtf16 s)
/-- a pool by its gaps: so many unusable entries, then the entry; so many at the end -/
def gap : Nat → List CpInfo → List CpInfo
  | 0, r => r
  | n + 1, r => .unusable :: gap n r
def poolList (es : List (Nat × CpInfo)) (last : Nat) : List CpInfo := es.foldr (fun e r => gap e.1 (e.2 :: r)) (gap last [])
def pool (es : List (Nat × CpInfo)) (last : Nat) : Array CpInfo := ⟨poolList es last⟩
def fileOf (pool : Array CpInfo) (this : Nat) (attrs : Array Attribute := #[]) (ms : Array MethodInfo := #[]) (fl : Nat := 33) (sup : Nat := 0) (ifs : Array Nat := #[]) (fds : Array FieldInfo := #[]) : ClassFile where
  minorVersion := 0
  majorVersion := 65
  constantPool := pool
  accessFlags := fl
  thisClass := this
  superClass := sup
  interfaces := ifs
  fields := fds
  methods := ms
  attributes := attrs
def plain (name : String) (sup : Option ClassId) : Class where
  name := name
  kind := .ordinary
  loader := none
  accessFlags := 33
  super := sup
  interfaces := #[]
  cf := none
  fields := #[]
  methods := #[]
  instanceTypes := #[]
  staticTypes := #[]
  resolved := #[]
  callSites := []
  init := .initialized
  statics := none
  mirror := none

def pool0 : Array CpInfo := pool [(5, u "<init>"), (0, u "()V"), (1, .class_ 10), (1, u "java/lang/Object")] 113

def k0m0 : Method := { name := "<init>", desc := "()V", sig := { parameters := [], returnType := none }, accessFlags := 1, code := none }
/-- java/lang/Object -/
def k0 : Class := { plain "java/lang/Object" none with
  accessFlags := 33
  interfaces := #[]
  cf := some (fileOf pool0 8 #[] #[{ accessFlags := 1, nameIndex := 5, descriptorIndex := 6, attributes := #[] }] 33 0 #[] #[])
  fields := #[]
  methods := #[k0m0]
  instanceTypes := #[]
  staticTypes := #[]
  resolved := Array.replicate 124 none
  statics := none }

def pool1 : Array CpInfo := pool [(2, .class_ 4), (1, u "java/lang/Object"), (0, u "<init>"), (0, u "()V"), (0, .integer 2147483647), (0, .fieldref 9 10), (0, .class_ 11), (0, .nameAndType 12 13), (0, u "com/example/ulinzi/ulinzi/packetfilter/Target$Kind"), (0, u "ACCEPT"), (0, u "Lcom/example/ulinzi/ulinzi/packetfilter/Target$Kind;"), (0, .fieldref 9 15), (0, .nameAndType 16 13), (0, u "DROP"), (0, .fieldref 9 18), (0, .nameAndType 19 13), (0, u "REJECT"), (0, .fieldref 9 21), (0, .nameAndType 22 13), (0, u "LOG"), (0, .fieldref 9 24), (0, .nameAndType 25 13), (0, u "RETURN"), (0, .fieldref 9 27), (0, .nameAndType 28 13), (0, u "JUMP"), (0, .methodref 9 30), (0, .nameAndType 31 32), (0, u "decides"), (0, u "()Z"), (0, .methodref 9 34), (0, .nameAndType 35 32), (0, u "allows"), (0, .class_ 37), (0, u "com/example/ulinzi/ulinzi/packetfilter/KindDecidesPinLaw"), (2, u "law"), (0, u "(I)Z")] 7

def k1m0 : Method := { name := "<init>", desc := "()V", sig := { parameters := [], returnType := none }, accessFlags := 1, code := none }
def k1c1 : Code := { maxStack := 2, maxLocals := 6, code := code, exceptionTable := #[], attributes := #[] }
def k1m1 : Method := { name := "law", desc := "(I)Z", sig := { parameters := [.int], returnType := some .boolean }, accessFlags := 9, code := some k1c1 }
/-- com/example/ulinzi/ulinzi/packetfilter/KindDecidesPinLaw -/
def k1 : Class := { plain "com/example/ulinzi/ulinzi/packetfilter/KindDecidesPinLaw" (some 0) with
  accessFlags := 49
  interfaces := #[]
  cf := some (fileOf pool1 36 #[] #[{ accessFlags := 1, nameIndex := 5, descriptorIndex := 6, attributes := #[] }, { accessFlags := 9, nameIndex := 40, descriptorIndex := 41, attributes := #[] }] 49 2 #[] #[])
  fields := #[]
  methods := #[k1m0, k1m1]
  instanceTypes := #[]
  staticTypes := #[]
  resolved := Array.replicate 49 none
  statics := none }

def pool2 : Array CpInfo := pool [(1, .class_ 2), (0, u "java/lang/constant/Constable"), (0, .class_ 4), (0, u "java/lang/Object")] 6

/-- java/lang/constant/Constable -/
def k2 : Class := { plain "java/lang/constant/Constable" (some 0) with
  accessFlags := 1537
  interfaces := #[]
  cf := some (fileOf pool2 1 #[] #[] 1537 3 #[] #[])
  fields := #[]
  methods := #[]
  instanceTypes := #[]
  staticTypes := #[]
  resolved := Array.replicate 11 none
  statics := none }

def pool3 : Array CpInfo := pool [(1, .class_ 2), (0, u "java/lang/Comparable"), (0, .class_ 4), (0, u "java/lang/Object")] 7

/-- java/lang/Comparable -/
def k3 : Class := { plain "java/lang/Comparable" (some 0) with
  accessFlags := 1537
  interfaces := #[]
  cf := some (fileOf pool3 1 #[] #[] 1537 3 #[] #[])
  fields := #[]
  methods := #[]
  instanceTypes := #[]
  staticTypes := #[]
  resolved := Array.replicate 12 none
  statics := none }

def pool4 : Array CpInfo := pool [(1, .class_ 2), (0, u "java/io/Serializable"), (0, .class_ 4), (0, u "java/lang/Object")] 2

/-- java/io/Serializable -/
def k4 : Class := { plain "java/io/Serializable" (some 0) with
  accessFlags := 1537
  interfaces := #[]
  cf := some (fileOf pool4 1 #[] #[] 1537 3 #[] #[])
  fields := #[]
  methods := #[]
  instanceTypes := #[]
  staticTypes := #[]
  resolved := Array.replicate 7 none
  statics := none }

def pool5 : Array CpInfo := pool [(2, .class_ 4), (1, u "java/lang/Enum"), (0, u "name"), (0, u "Ljava/lang/String;"), (2, u "ordinal"), (0, u "I"), (1, .class_ 14), (1, u "java/lang/Object"), (4, u "hash"), (86, .class_ 108), (1, u "java/lang/Enum$EnumDesc"), (2, .class_ 112), (0, u "java/lang/constant/Constable"), (0, .class_ 114), (0, u "java/lang/Comparable"), (0, .class_ 116), (0, u "java/io/Serializable")] 87

/-- java/lang/Enum -/
def k5 : Class := { plain "java/lang/Enum" (some 0) with
  accessFlags := 1057
  interfaces := #[2, 3, 4]
  cf := some (fileOf pool5 2 #[.nestMembers #[106]] #[] 1057 12 #[111, 113, 115] #[{ accessFlags := 18, nameIndex := 5, descriptorIndex := 6, attributes := #[] }, { accessFlags := 18, nameIndex := 9, descriptorIndex := 10, attributes := #[] }, { accessFlags := 2, nameIndex := 19, descriptorIndex := 10, attributes := #[] }])
  fields := #[{ name := "name", type := (.object "java/lang/String"), accessFlags := 18, slot := 0, constantValue := 0 }, { name := "ordinal", type := .int, accessFlags := 18, slot := 1, constantValue := 0 }, { name := "hash", type := .int, accessFlags := 2, slot := 2, constantValue := 0 }]
  methods := #[]
  instanceTypes := #[(.object "java/lang/String"), .int, .int]
  staticTypes := #[]
  resolved := Array.replicate 204 none
  statics := none }

def pool6 : Array CpInfo := pool [(1, .class_ 2), (0, u "com/example/ulinzi/ulinzi/packetfilter/Target$Kind"), (0, .fieldref 1 4), (0, .nameAndType 5 6), (0, u "ACCEPT"), (0, u "Lcom/example/ulinzi/ulinzi/packetfilter/Target$Kind;"), (0, .fieldref 1 8), (0, .nameAndType 9 6), (0, u "DROP"), (0, .fieldref 1 11), (0, .nameAndType 12 6), (0, u "REJECT"), (2, u "LOG"), (2, u "RETURN"), (2, u "JUMP"), (2, u "$VALUES"), (0, u "[Lcom/example/ulinzi/ulinzi/packetfilter/Target$Kind;"), (6, .class_ 34), (1, u "java/lang/Enum"), (24, u "decides"), (0, u "()Z"), (1, u "allows"), (5, .class_ 69), (0, u "com/example/ulinzi/ulinzi/packetfilter/Target")] 2

def k6c0 : Code := { maxStack := 2, maxLocals := 1, code := prog_78_method_4_code, exceptionTable := #[], attributes := #[] }
def k6m0 : Method := { name := "decides", desc := "()Z", sig := { parameters := [], returnType := some .boolean }, accessFlags := 0, code := some k6c0 }
def k6c1 : Code := { maxStack := 2, maxLocals := 1, code := prog_78_method_5_code, exceptionTable := #[], attributes := #[] }
def k6m1 : Method := { name := "allows", desc := "()Z", sig := { parameters := [], returnType := some .boolean }, accessFlags := 0, code := some k6c1 }
/-- com/example/ulinzi/ulinzi/packetfilter/Target$Kind -/
def k6 : Class := { plain "com/example/ulinzi/ulinzi/packetfilter/Target$Kind" (some 5) with
  accessFlags := 16432
  interfaces := #[]
  cf := some (fileOf pool6 1 #[.nestHost 68] #[{ accessFlags := 0, nameIndex := 59, descriptorIndex := 60, attributes := #[] }, { accessFlags := 0, nameIndex := 62, descriptorIndex := 60, attributes := #[] }] 16432 32 #[] #[{ accessFlags := 16409, nameIndex := 5, descriptorIndex := 6, attributes := #[] }, { accessFlags := 16409, nameIndex := 9, descriptorIndex := 6, attributes := #[] }, { accessFlags := 16409, nameIndex := 12, descriptorIndex := 6, attributes := #[] }, { accessFlags := 16409, nameIndex := 15, descriptorIndex := 6, attributes := #[] }, { accessFlags := 16409, nameIndex := 18, descriptorIndex := 6, attributes := #[] }, { accessFlags := 16409, nameIndex := 21, descriptorIndex := 6, attributes := #[] }, { accessFlags := 4122, nameIndex := 24, descriptorIndex := 25, attributes := #[] }])
  fields := #[{ name := "ACCEPT", type := (.object "com/example/ulinzi/ulinzi/packetfilter/Target$Kind"), accessFlags := 16409, slot := 0, constantValue := 0 }, { name := "DROP", type := (.object "com/example/ulinzi/ulinzi/packetfilter/Target$Kind"), accessFlags := 16409, slot := 1, constantValue := 0 }, { name := "REJECT", type := (.object "com/example/ulinzi/ulinzi/packetfilter/Target$Kind"), accessFlags := 16409, slot := 2, constantValue := 0 }, { name := "LOG", type := (.object "com/example/ulinzi/ulinzi/packetfilter/Target$Kind"), accessFlags := 16409, slot := 3, constantValue := 0 }, { name := "RETURN", type := (.object "com/example/ulinzi/ulinzi/packetfilter/Target$Kind"), accessFlags := 16409, slot := 4, constantValue := 0 }, { name := "JUMP", type := (.object "com/example/ulinzi/ulinzi/packetfilter/Target$Kind"), accessFlags := 16409, slot := 5, constantValue := 0 }, { name := "$VALUES", type := (.array (.object "com/example/ulinzi/ulinzi/packetfilter/Target$Kind")), accessFlags := 4122, slot := 6, constantValue := 0 }]
  methods := #[k6m0, k6m1]
  instanceTypes := #[(.object "java/lang/String"), .int, .int]
  staticTypes := #[(.object "com/example/ulinzi/ulinzi/packetfilter/Target$Kind"), (.object "com/example/ulinzi/ulinzi/packetfilter/Target$Kind"), (.object "com/example/ulinzi/ulinzi/packetfilter/Target$Kind"), (.object "com/example/ulinzi/ulinzi/packetfilter/Target$Kind"), (.object "com/example/ulinzi/ulinzi/packetfilter/Target$Kind"), (.object "com/example/ulinzi/ulinzi/packetfilter/Target$Kind"), (.array (.object "com/example/ulinzi/ulinzi/packetfilter/Target$Kind"))]
  resolved := Array.replicate 72 none
  statics := some 0 }

def pool7 : Array CpInfo := pool [(1, u "java/lang/Cloneable"), (0, .class_ 1), (0, u "java/lang/Object"), (0, .class_ 3)] 3

/-- java/lang/Cloneable -/
def k7 : Class := { plain "java/lang/Cloneable" (some 0) with
  accessFlags := 1537
  interfaces := #[]
  cf := some (fileOf pool7 2 #[] #[] 1537 4 #[] #[])
  fields := #[]
  methods := #[]
  instanceTypes := #[]
  staticTypes := #[]
  resolved := Array.replicate 8 none
  statics := none }

/-- the primitive byte -/
def k8 : Class := { plain "byte" none with kind := .primitive 'B', accessFlags := 0x411 }
/-- [B -/
def k9 : Class := { plain "[B" (some 0) with kind := .array 8 .byte, interfaces := #[7, 4], accessFlags := 1041 }

/-- the primitive int -/
def k10 : Class := { plain "int" none with kind := .primitive 'I', accessFlags := 0x411 }
/-- [I -/
def k11 : Class := { plain "[I" (some 0) with kind := .array 10 .int, interfaces := #[7, 4], accessFlags := 1041 }

def heap : Heap := #[{ cls := 6, slots := #[.ref 1, .ref 2, .ref 3, .ref 4, .ref 5, .ref 6, .null], vm := .statics 6 },
  { cls := 6, slots := #[.null, .int 0, .int 0], vm := .none },
  { cls := 6, slots := #[.null, .int 1, .int 0], vm := .none },
  { cls := 6, slots := #[.null, .int 2, .int 0], vm := .none },
  { cls := 6, slots := #[.null, .int 3, .int 0], vm := .none },
  { cls := 6, slots := #[.null, .int 4, .int 0], vm := .none },
  { cls := 6, slots := #[.null, .int 5, .int 0], vm := .none }]
def classes : Array Class := #[k0, k1, k2, k3, k4, k5, k6, k7, k8, k9, k10, k11]
def interned : List (Array UInt16 × Addr) := []
def slotsUsed : Nat := 25
def theMethod : MethodId := ⟨1, 1⟩
def args0 : Array Value := #[.int 5]
def aboutOver (below : List Frame) : State where
  vm := { classes := classes, interned := interned.toArray }
  heap := heap
  slotsUsed := slotsUsed
  threads := #[{ frames := .invoking theMethod args0 :: below }]
def below0 : List Frame := [.native { method := ⟨0, 0⟩, args := #[] }]
def about1 : State := aboutOver below0
def p0 : Program := .bare "" "" ""
def e0 : Env := launch0.env 0 0 0
theorem w_frames : about1.frames = Frame.invoking theMethod args0 :: below0 := rfl
set_option maxRecDepth 65536 in
theorem w_args : argsFit about1.vm theMethod args0 = true := by decide +kernel
set_option maxRecDepth 65536 in
theorem w_heap : heapFits about1 = true := by decide +kernel
set_option maxRecDepth 65536 in
theorem w_runnable : about1.curStatus? = some .runnable := by decide +kernel
set_option maxRecDepth 65536 in
theorem w_alone : about1.alone = true := by decide +kernel
set_option maxRecDepth 65536 in
theorem w_named : about1.methodNamed? x = some theMethod := by decide +kernel
set_option maxRecDepth 65536 in
theorem w_hears : about1.hears theMethod below0 = true := by decide +kernel
set_option maxRecDepth 65536 in
theorem w_ripe : about1.ripe theMethod args0 below0 = true := by decide +kernel
theorem w_running : about1.status = .running := rfl
set_option maxRecDepth 65536 in
theorem w_room : about1.hasRoom e0.platform room_1 = true :=
  launch0.hasRoom_least _ room_1 (by decide +kernel) (by decide +kernel) (by decide +kernel) (by decide +kernel) (by decide +kernel) (by decide +kernel)
theorem allAtoms_all (ts : List Jvm.Cond) (a : Array Jvm.Value) (st : Jvm.State) : (allAtoms ts).before a st = ts.all (fun c => c.before a st) := by
  induction ts with
  | nil => rfl
  | cons c t ih =>
    show (Jvm.Cond.and c (allAtoms t)).before a st = _
    rw [Jvm.Cond.before_and, ih, List.all_cons]
def words1 : List Jvm.Cond := Jvm.Cond.code x code maxLocals ret :: tables_1
/-- a 'code' word, met by the world's own term for the bytes: nothing is compared byte by byte -/
theorem code_word {y : MethodName} {bytes : ByteArray} {mx : Nat} {rt : Option FieldType} {a : Array Value} {s : State} {m : MethodId} {meth : Method} {c : Code} (h1 : s.methodNamed? y = some m) (h2 : s.vm.method? m = some meth) (h3 : meth.code = some c) (h4 : c.code = bytes)
    (h5 : (c.maxLocals == mx && c.exceptionTable.isEmpty && decide (c.maxStack ≤ mostOperands) && decide (meth.sig.returnType = rt) && !meth.locks && decide (parseMethodDescriptor y.desc = some meth.sig)) = true) : (Jvm.Cond.code y bytes mx rt).before a s = true := by
  simp only [Bool.and_eq_true, beq_iff_eq, Bool.not_eq_true', decide_eq_true_eq] at h5
  obtain ⟨⟨⟨⟨⟨g1, g2⟩, g3⟩, g4⟩, g5⟩, g6⟩ := h5
  simp [Cond.before, Cond.holds, Cond.value, h1, h2, h3, h4, g1, g2, g3, g4, g5, g6]
def isCode : Jvm.Cond → Bool
  | .code _ _ _ _ => true
  | _ => false
theorem all_split {L : List Jvm.Cond} {P : Jvm.Cond → Bool} (h1 : L.all (fun c => isCode c || P c) = true) (h2 : ∀ c ∈ L.filter isCode, P c = true) : L.all P = true := by
  refine List.all_eq_true.mpr fun c hc => ?_
  have h := List.all_eq_true.mp h1 c hc
  rcases Bool.eq_false_or_eq_true (isCode c) with hi | hi
  · exact h2 c (List.mem_filter.mpr ⟨hc, hi⟩)
  · simpa [hi] using h
set_option maxRecDepth 65536 in
theorem w_c0 : (Jvm.Cond.code x code maxLocals ret).before args0 about1 = true := code_word (m := ⟨1, 1⟩) (meth := k1m1) (c := k1c1) (by decide +kernel) rfl rfl rfl (by decide +kernel)
set_option maxRecDepth 65536 in
theorem w_c1 : (Jvm.Cond.code ({ cls := "com/example/ulinzi/ulinzi/packetfilter/Target$Kind", name := "decides", desc := "()Z" } : Jvm.MethodName) prog_78_method_4_code (1 : Nat) (Option.some Jvm.ClassFile.FieldType.boolean)).before args0 about1 = true := code_word (m := ⟨6, 0⟩) (meth := k6m0) (c := k6c0) (by decide +kernel) rfl rfl rfl (by decide +kernel)
set_option maxRecDepth 65536 in
theorem w_c2 : (Jvm.Cond.code ({ cls := "com/example/ulinzi/ulinzi/packetfilter/Target$Kind", name := "allows", desc := "()Z" } : Jvm.MethodName) prog_78_method_5_code (1 : Nat) (Option.some Jvm.ClassFile.FieldType.boolean)).before args0 about1 = true := code_word (m := ⟨6, 1⟩) (meth := k6m1) (c := k6c1) (by decide +kernel) rfl rfl rfl (by decide +kernel)
def codes1 : List Jvm.Cond := [Jvm.Cond.code x code maxLocals ret, Jvm.Cond.code ({ cls := "com/example/ulinzi/ulinzi/packetfilter/Target$Kind", name := "decides", desc := "()Z" } : Jvm.MethodName) prog_78_method_4_code (1 : Nat) (Option.some Jvm.ClassFile.FieldType.boolean), Jvm.Cond.code ({ cls := "com/example/ulinzi/ulinzi/packetfilter/Target$Kind", name := "allows", desc := "()Z" } : Jvm.MethodName) prog_78_method_5_code (1 : Nat) (Option.some Jvm.ClassFile.FieldType.boolean)]
set_option maxRecDepth 65536 in
theorem codes_eq : words1.filter isCode = codes1 := rfl
theorem w_codes : ∀ c ∈ words1.filter isCode, c.before args0 about1 = true := by
  rw [codes_eq]
  intro c hc
  simp only [codes1, List.mem_cons, List.not_mem_nil, or_false] at hc
  rcases hc with rfl | rfl | rfl
  · exact w_c0
  · exact w_c1
  · exact w_c2
set_option maxRecDepth 65536 in
theorem w_t1 : (words1.take 24).all (fun c => isCode c || c.before args0 about1) = true := by decide +kernel
set_option maxRecDepth 65536 in
theorem w_t2 : (words1.drop 24).all (fun c => isCode c || c.before args0 about1) = true := by decide +kernel
theorem w_tables : (allAtoms (Jvm.Cond.code x code maxLocals ret :: tables_1)).before args0 about1 = true := by
  rw [allAtoms_all]
  show words1.all (fun c => c.before args0 about1) = true
  refine all_split ?_ w_codes
  rw [← List.take_append_drop 24 words1, List.all_append, w_t1, w_t2]
  rfl
set_option maxRecDepth 65536 in
theorem w_case : (Jvm.Cond.and given_1 narrow_1).before args0 about1 = true := by decide +kernel
theorem w_applies : (headSpec (Jvm.Cond.code x code maxLocals ret :: tables_1) room_1).applies x e0.platform about1 = true :=
  (Spec.applies_iff w_frames).mpr ⟨w_running, w_runnable, w_alone, w_named, w_hears, w_ripe, w_room, w_tables⟩
theorem atStart : AtStart classFile x code maxLocals ret World_1 tables_1 room_1 Calls_1 rest_1 Pre_1 launch0 p0 e0 about1 theMethod args0 below0 :=
  ⟨lists_1, trivial, launch0.admits_env _ _ _, launch0.least_env, fairChoices_fair.cas, fairChoices_fair.clock, w_frames, w_args, w_heap, w_applies, trivial, trivial, w_case⟩
end start1
theorem witness_1 : WitnessClaimed_1 := ⟨start1.p0, start1.e0, start1.about1, start1.theMethod, start1.args0, start1.below0, start1.atStart⟩
end Jvm.Pilot.@@N@@
