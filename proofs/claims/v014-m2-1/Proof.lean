import JvmDerived
import JvmDerived.Pilot.@@N@@Statement
import JvmDerived.Pilot.@@N@@Code
set_option linter.unusedVariables false
set_option linter.unusedSimpArgs false
namespace Jvm.Pilot.@@N@@
open Jvm Jvm.ClassFile Sem Op Lib Jvm.Free Jvm.Stand Jvm.LawKit Jvm.RoadKit Bundle Jvm.Pilot.@@N@@.Jvm.D

section OwnWalk
variable {p : Program} {l : Launch} {e : Env} {R : Room} {s : State} {m : MethodId} {args : Array Value} {below : List Frame} {meth : Method} {c : Code} {T : State} {locs : List Loc} {cells slots : Nat} {Z : State} {h : Heap} {Q : Option Value → Heap → List Loc → Prop} {ce sl : Nat} {pc q q' : Nat} {ls : Array Slot} {st : List Value} {a0 : Array Value}
/-- the rest of a body's run, from the frame g on -/
def Go (p : Program) (e : Env) (below : List Frame) (s : State) (Q : Option Value → Heap → List Loc → Prop) (ce sl : Nat) (T : State) (g : JFrame) : Prop :=
  ∃ s₂ o, Steps p.tables e below (T.setTop g) s₂ ∧ s₂.status = .running ∧ Ended s₂ below o ∧ ∃ v L, o = .returned v ∧ Q v s₂.heap L ∧ FrameEnd s o s₂ L ce sl
theorem Go.to {T' : State} {g g' : JFrame} (k : Go p e below s Q ce sl T' g') (f : ∀ t, Steps p.tables e below (T'.setTop g') t → Steps p.tables e below (T.setTop g) t) : Go p e below s Q ce sl T g := by
  obtain ⟨s2, o, h1, r⟩ := k
  exact ⟨s2, o, f _ h1, r⟩
theorem Go.cast {g g' : JFrame} (w : g = g') (k : Go p e below s Q ce sl T g') : Go p e below s Q ce sl T g := w ▸ k
/-- a body's contract: from these arguments, over this heap, it returns with Q -/
abbrev Con (l : Launch) (y : MethodName) (bytes : ByteArray) (maxL : Nat) (ret : Option FieldType) (ws : List Jvm.Cond) (rm : Room) (Z : State) (as' : Array Value) (h : Heap) (Q : Option Value → Heap → List Loc → Prop) : Prop :=
  MetFree l y (head1 (Jvm.Cond.code y bytes maxL ret :: ws) rm) (fun a U => a = as' ∧ Z.Warmed39 U.vm ∧ U.heap = h) (fun _ _ _ _ _ => True) (fun _ U o U' => ∃ v L, o = .returned v ∧ Q v U'.heap L ∧ FrameEnd U o U' L rm.cells rm.slots)
theorem con_of {y : MethodName} {bytes : ByteArray} {maxL : Nat} {ret : Option FieldType} {ws : List Jvm.Cond} {rm : Room} {as' : Array Value} (hpl : plainFor y = true)
    (body : ∀ (p : Program) (e : Env) (s : State) (m : MethodId) (below : List Frame) (meth : Method) (c : Code) (s₁ : State), Stand p l e rm s m as' below meth c s₁ [] 0 0 → p.tables.exec = Jvm.exec → c.code = bytes → c.maxLocals = maxL → meth.sig.returnType = ret → meth.locks = false → s.vm.findClass y.cls = some m.cls → meth.name = y.name → Z.Warmed39 s.vm → s₁.heap = h → Go p e below s Q rm.cells rm.slots s₁ (entryFrame m as' maxL)) :
    Con l y bytes maxL ret ws rm Z as' h Q := by
  refine MetFree.of_bodySF hpl hisR ?_
  intro p e s m args below meth c s₁ Bd hml0 hP hK
  obtain ⟨rfl, hZ, hh⟩ := hP
  exact body p e s m below meth c s₁ (Stand.of_body Bd) Bd.exec Bd.bytes hml0 Bd.returns Bd.notSynchronized (findClass_of_methodNamed Bd.named) (name_of_methodNamed Bd.named Bd.method).1 hZ (by rw [← hh, Bd.state]; rfl)
theorem go_iload (X : Stand p l e R s m args below meth c T locs cells slots) (hx : p.tables.exec = Jvm.exec) {k : Nat} {v : Int32} (hd : decode c.code pc = .ok (.iload k, 2)) (hp : pc + 2 = q) (hl : ls[k]? = some (.val (.int v))) (K : Go p e below s Q ce sl T (mkF m q ls (.int v :: st))) : Go p e below s Q ce sl T (mkF m pc ls st) := by
  subst hp
  exact K.to fun _ r => XS.iload X.here hx rfl hd hl r
theorem go_iloadN (X : Stand p l e R s m args below meth c T locs cells slots) (hx : p.tables.exec = Jvm.exec) {k : Fin 4} {v : Int32} (hd : decode c.code pc = .ok (.iload_n k, 1)) (hp : pc + 1 = q) (hl : ls[k.val]? = some (.val (.int v))) (K : Go p e below s Q ce sl T (mkF m q ls (.int v :: st))) : Go p e below s Q ce sl T (mkF m pc ls st) := by
  subst hp
  exact K.to fun _ r => XS.iloadN X.here hx rfl hd hl r
theorem go_istore (X : Stand p l e R s m args below meth c T locs cells slots) (hx : p.tables.exec = Jvm.exec) {k : Nat} {v : Int32} {l' : Array Slot} (hd : decode c.code pc = .ok (.istore k, 2)) (hp : pc + 2 = q) (hl : storeLocals ls k (.int v) = some l') (K : Go p e below s Q ce sl T (mkF m q l' st)) : Go p e below s Q ce sl T (mkF m pc ls (.int v :: st)) := by
  subst hp
  exact K.to fun _ r => XS.istore X.here hx rfl hd rfl hl r
theorem go_istoreN (X : Stand p l e R s m args below meth c T locs cells slots) (hx : p.tables.exec = Jvm.exec) {k : Fin 4} {v : Int32} {l' : Array Slot} (hd : decode c.code pc = .ok (.istore_n k, 1)) (hp : pc + 1 = q) (hl : storeLocals ls k.val (.int v) = some l') (K : Go p e below s Q ce sl T (mkF m q l' st)) : Go p e below s Q ce sl T (mkF m pc ls (.int v :: st)) := by
  subst hp
  exact K.to fun _ r => XS.istoreN X.here hx rfl hd rfl hl r
theorem go_lload (X : Stand p l e R s m args below meth c T locs cells slots) (hx : p.tables.exec = Jvm.exec) {k : Nat} {v : Int64} (hd : decode c.code pc = .ok (.lload k, 2)) (hp : pc + 2 = q) (hl : ls[k]? = some (.val (.long v))) (K : Go p e below s Q ce sl T (mkF m q ls (.long v :: st))) : Go p e below s Q ce sl T (mkF m pc ls st) := by
  subst hp
  exact K.to fun _ r => XS.lload X.here hx rfl hd hl r
theorem go_lloadN (X : Stand p l e R s m args below meth c T locs cells slots) (hx : p.tables.exec = Jvm.exec) {k : Fin 4} {v : Int64} (hd : decode c.code pc = .ok (.lload_n k, 1)) (hp : pc + 1 = q) (hl : ls[k.val]? = some (.val (.long v))) (K : Go p e below s Q ce sl T (mkF m q ls (.long v :: st))) : Go p e below s Q ce sl T (mkF m pc ls st) := by
  subst hp
  exact K.to fun _ r => XS.lloadN X.here hx rfl hd hl r
theorem go_lstore (X : Stand p l e R s m args below meth c T locs cells slots) (hx : p.tables.exec = Jvm.exec) {k : Nat} {v : Int64} {l' : Array Slot} (hd : decode c.code pc = .ok (.lstore k, 2)) (hp : pc + 2 = q) (hl : storeLocals ls k (.long v) = some l') (K : Go p e below s Q ce sl T (mkF m q l' st)) : Go p e below s Q ce sl T (mkF m pc ls (.long v :: st)) := by
  subst hp
  exact K.to fun _ r => XS.lstore X.here hx rfl hd rfl hl r
theorem go_lstoreN (X : Stand p l e R s m args below meth c T locs cells slots) (hx : p.tables.exec = Jvm.exec) {k : Fin 4} {v : Int64} {l' : Array Slot} (hd : decode c.code pc = .ok (.lstore_n k, 1)) (hp : pc + 1 = q) (hl : storeLocals ls k.val (.long v) = some l') (K : Go p e below s Q ce sl T (mkF m q l' st)) : Go p e below s Q ce sl T (mkF m pc ls (.long v :: st)) := by
  subst hp
  exact K.to fun _ r => XS.lstoreN X.here hx rfl hd rfl hl r
theorem go_dload (X : Stand p l e R s m args below meth c T locs cells slots) (hx : p.tables.exec = Jvm.exec) {k : Nat} {v : UInt64} (hd : decode c.code pc = .ok (.dload k, 2)) (hp : pc + 2 = q) (hl : ls[k]? = some (.val (.double v))) (K : Go p e below s Q ce sl T (mkF m q ls (.double v :: st))) : Go p e below s Q ce sl T (mkF m pc ls st) := by
  subst hp
  exact K.to fun _ r => XS.dload X.here hx rfl hd hl r
theorem go_dloadN (X : Stand p l e R s m args below meth c T locs cells slots) (hx : p.tables.exec = Jvm.exec) {k : Fin 4} {v : UInt64} (hd : decode c.code pc = .ok (.dload_n k, 1)) (hp : pc + 1 = q) (hl : ls[k.val]? = some (.val (.double v))) (K : Go p e below s Q ce sl T (mkF m q ls (.double v :: st))) : Go p e below s Q ce sl T (mkF m pc ls st) := by
  subst hp
  exact K.to fun _ r => XS.dloadN X.here hx rfl hd hl r
theorem go_dstore (X : Stand p l e R s m args below meth c T locs cells slots) (hx : p.tables.exec = Jvm.exec) {k : Nat} {v : UInt64} {l' : Array Slot} (hd : decode c.code pc = .ok (.dstore k, 2)) (hp : pc + 2 = q) (hl : storeLocals ls k (.double v) = some l') (K : Go p e below s Q ce sl T (mkF m q l' st)) : Go p e below s Q ce sl T (mkF m pc ls (.double v :: st)) := by
  subst hp
  exact K.to fun _ r => XS.dstore X.here hx rfl hd rfl hl r
theorem go_dstoreN (X : Stand p l e R s m args below meth c T locs cells slots) (hx : p.tables.exec = Jvm.exec) {k : Fin 4} {v : UInt64} {l' : Array Slot} (hd : decode c.code pc = .ok (.dstore_n k, 1)) (hp : pc + 1 = q) (hl : storeLocals ls k.val (.double v) = some l') (K : Go p e below s Q ce sl T (mkF m q l' st)) : Go p e below s Q ce sl T (mkF m pc ls (.double v :: st)) := by
  subst hp
  exact K.to fun _ r => XS.dstoreN X.here hx rfl hd rfl hl r
theorem go_fload (X : Stand p l e R s m args below meth c T locs cells slots) (hx : p.tables.exec = Jvm.exec) {k : Nat} {v : UInt32} (hd : decode c.code pc = .ok (.fload k, 2)) (hp : pc + 2 = q) (hl : ls[k]? = some (.val (.float v))) (K : Go p e below s Q ce sl T (mkF m q ls (.float v :: st))) : Go p e below s Q ce sl T (mkF m pc ls st) := by
  subst hp
  exact K.to fun _ r => XS.fload X.here hx rfl hd hl r
theorem go_floadN (X : Stand p l e R s m args below meth c T locs cells slots) (hx : p.tables.exec = Jvm.exec) {k : Fin 4} {v : UInt32} (hd : decode c.code pc = .ok (.fload_n k, 1)) (hp : pc + 1 = q) (hl : ls[k.val]? = some (.val (.float v))) (K : Go p e below s Q ce sl T (mkF m q ls (.float v :: st))) : Go p e below s Q ce sl T (mkF m pc ls st) := by
  subst hp
  exact K.to fun _ r => XS.floadN X.here hx rfl hd hl r
theorem go_fstore (X : Stand p l e R s m args below meth c T locs cells slots) (hx : p.tables.exec = Jvm.exec) {k : Nat} {v : UInt32} {l' : Array Slot} (hd : decode c.code pc = .ok (.fstore k, 2)) (hp : pc + 2 = q) (hl : storeLocals ls k (.float v) = some l') (K : Go p e below s Q ce sl T (mkF m q l' st)) : Go p e below s Q ce sl T (mkF m pc ls (.float v :: st)) := by
  subst hp
  exact K.to fun _ r => XS.fstore X.here hx rfl hd rfl hl r
theorem go_fstoreN (X : Stand p l e R s m args below meth c T locs cells slots) (hx : p.tables.exec = Jvm.exec) {k : Fin 4} {v : UInt32} {l' : Array Slot} (hd : decode c.code pc = .ok (.fstore_n k, 1)) (hp : pc + 1 = q) (hl : storeLocals ls k.val (.float v) = some l') (K : Go p e below s Q ce sl T (mkF m q l' st)) : Go p e below s Q ce sl T (mkF m pc ls (.float v :: st)) := by
  subst hp
  exact K.to fun _ r => XS.fstoreN X.here hx rfl hd rfl hl r
theorem go_aload (X : Stand p l e R s m args below meth c T locs cells slots) (hx : p.tables.exec = Jvm.exec) {k : Nat} {v : Value} (hd : decode c.code pc = .ok (.aload k, 2)) (hp : pc + 2 = q) (hl : ls[k]? = some (.val v)) (hv : v.isRef = true) (K : Go p e below s Q ce sl T (mkF m q ls (v :: st))) : Go p e below s Q ce sl T (mkF m pc ls st) := by
  subst hp
  exact K.to fun _ r => XS.aload X.here hx rfl hd hl hv r
theorem go_aloadN (X : Stand p l e R s m args below meth c T locs cells slots) (hx : p.tables.exec = Jvm.exec) {k : Fin 4} {v : Value} (hd : decode c.code pc = .ok (.aload_n k, 1)) (hp : pc + 1 = q) (hl : ls[k.val]? = some (.val v)) (hv : v.isRef = true) (K : Go p e below s Q ce sl T (mkF m q ls (v :: st))) : Go p e below s Q ce sl T (mkF m pc ls st) := by
  subst hp
  exact K.to fun _ r => XS.aloadN X.here hx rfl hd hl hv r
theorem go_astore (X : Stand p l e R s m args below meth c T locs cells slots) (hx : p.tables.exec = Jvm.exec) {k : Nat} {v : Value} {l' : Array Slot} (hd : decode c.code pc = .ok (.astore k, 2)) (hp : pc + 2 = q) (hv : v.isRef = true) (hl : storeLocals ls k v = some l') (K : Go p e below s Q ce sl T (mkF m q l' st)) : Go p e below s Q ce sl T (mkF m pc ls (v :: st)) := by
  subst hp
  exact K.to fun _ r => XS.astore X.here hx rfl hd rfl hv hl r
theorem go_astoreN (X : Stand p l e R s m args below meth c T locs cells slots) (hx : p.tables.exec = Jvm.exec) {k : Fin 4} {v : Value} {l' : Array Slot} (hd : decode c.code pc = .ok (.astore_n k, 1)) (hp : pc + 1 = q) (hv : v.isRef = true) (hl : storeLocals ls k.val v = some l') (K : Go p e below s Q ce sl T (mkF m q l' st)) : Go p e below s Q ce sl T (mkF m pc ls (v :: st)) := by
  subst hp
  exact K.to fun _ r => XS.astoreN X.here hx rfl hd rfl hv hl r
theorem go_iconst (X : Stand p l e R s m args below meth c T locs cells slots) (hx : p.tables.exec = Jvm.exec) {i : Int} {v : Int32} (hd : decode c.code pc = .ok (.iconst i, 1)) (hp : pc + 1 = q) (hv : Int32.ofInt i = v) (K : Go p e below s Q ce sl T (mkF m q ls (.int v :: st))) : Go p e below s Q ce sl T (mkF m pc ls st) := by
  subst hp
  exact K.to fun _ r => XS.iconst X.here hx rfl hd (hv ▸ r)
theorem go_bipush (X : Stand p l e R s m args below meth c T locs cells slots) (hx : p.tables.exec = Jvm.exec) {i : Int} {v : Int32} (hd : decode c.code pc = .ok (.bipush i, 2)) (hp : pc + 2 = q) (hv : (Int8.ofInt i).toInt32 = v) (K : Go p e below s Q ce sl T (mkF m q ls (.int v :: st))) : Go p e below s Q ce sl T (mkF m pc ls st) := by
  subst hp
  exact K.to fun _ r => XS.bipush X.here hx rfl hd (hv ▸ r)
theorem go_sipush (X : Stand p l e R s m args below meth c T locs cells slots) (hx : p.tables.exec = Jvm.exec) {i : Int} {v : Int32} (hd : decode c.code pc = .ok (.sipush i, 3)) (hp : pc + 3 = q) (hv : (Int16.ofInt i).toInt32 = v) (K : Go p e below s Q ce sl T (mkF m q ls (.int v :: st))) : Go p e below s Q ce sl T (mkF m pc ls st) := by
  subst hp
  exact K.to fun _ r => XS.sipush X.here hx rfl hd (hv ▸ r)
theorem go_lconst (X : Stand p l e R s m args below meth c T locs cells slots) (hx : p.tables.exec = Jvm.exec) {k : Fin 2} {v : Int64} (hd : decode c.code pc = .ok (.lconst k, 1)) (hp : pc + 1 = q) (hv : Int64.ofNat k = v) (K : Go p e below s Q ce sl T (mkF m q ls (.long v :: st))) : Go p e below s Q ce sl T (mkF m pc ls st) := by
  subst hp
  exact K.to fun _ r => XS.lconst X.here hx rfl hd (hv ▸ r)
theorem go_aconstNull (X : Stand p l e R s m args below meth c T locs cells slots) (hx : p.tables.exec = Jvm.exec)  (hd : decode c.code pc = .ok (.aconst_null, 1)) (hp : pc + 1 = q)  (K : Go p e below s Q ce sl T (mkF m q ls (.null :: st))) : Go p e below s Q ce sl T (mkF m pc ls st) := by
  subst hp
  exact K.to fun _ r => XS.aconstNull X.here hx rfl hd r
theorem go_dconst0 (X : Stand p l e R s m args below meth c T locs cells slots) (hx : p.tables.exec = Jvm.exec) {v : UInt64} (hd : decode c.code pc = .ok (.dconst 0, 1)) (hp : pc + 1 = q) (hv : FP.dconst0 = v) (K : Go p e below s Q ce sl T (mkF m q ls (.double v :: st))) : Go p e below s Q ce sl T (mkF m pc ls st) := by
  subst hp
  exact K.to fun _ r => XS.dconst0 X.here hx rfl hd hv r
theorem go_dconst1 (X : Stand p l e R s m args below meth c T locs cells slots) (hx : p.tables.exec = Jvm.exec) {v : UInt64} (hd : decode c.code pc = .ok (.dconst 1, 1)) (hp : pc + 1 = q) (hv : FP.dconst1 = v) (K : Go p e below s Q ce sl T (mkF m q ls (.double v :: st))) : Go p e below s Q ce sl T (mkF m pc ls st) := by
  subst hp
  exact K.to fun _ r => XS.dconst1 X.here hx rfl hd hv r
theorem go_iadd (X : Stand p l e R s m args below meth c T locs cells slots) (hx : p.tables.exec = Jvm.exec) {x y v : Int32} (hd : decode c.code pc = .ok (.iadd, 1)) (hp : pc + 1 = q) (hv : x + y = v) (K : Go p e below s Q ce sl T (mkF m q ls (.int v :: st))) : Go p e below s Q ce sl T (mkF m pc ls (.int y :: .int x :: st)) := by
  subst hp
  exact K.to fun _ r => XS.iadd X.here hx rfl hd rfl (hv ▸ r)
theorem go_isub (X : Stand p l e R s m args below meth c T locs cells slots) (hx : p.tables.exec = Jvm.exec) {x y v : Int32} (hd : decode c.code pc = .ok (.isub, 1)) (hp : pc + 1 = q) (hv : x - y = v) (K : Go p e below s Q ce sl T (mkF m q ls (.int v :: st))) : Go p e below s Q ce sl T (mkF m pc ls (.int y :: .int x :: st)) := by
  subst hp
  exact K.to fun _ r => XS.isub X.here hx rfl hd rfl (hv ▸ r)
theorem go_imul (X : Stand p l e R s m args below meth c T locs cells slots) (hx : p.tables.exec = Jvm.exec) {x y v : Int32} (hd : decode c.code pc = .ok (.imul, 1)) (hp : pc + 1 = q) (hv : x * y = v) (K : Go p e below s Q ce sl T (mkF m q ls (.int v :: st))) : Go p e below s Q ce sl T (mkF m pc ls (.int y :: .int x :: st)) := by
  subst hp
  exact K.to fun _ r => XS.imul X.here hx rfl hd rfl (hv ▸ r)
theorem go_iand (X : Stand p l e R s m args below meth c T locs cells slots) (hx : p.tables.exec = Jvm.exec) {x y v : Int32} (hd : decode c.code pc = .ok (.iand, 1)) (hp : pc + 1 = q) (hv : x &&& y = v) (K : Go p e below s Q ce sl T (mkF m q ls (.int v :: st))) : Go p e below s Q ce sl T (mkF m pc ls (.int y :: .int x :: st)) := by
  subst hp
  exact K.to fun _ r => XS.iand X.here hx rfl hd rfl (hv ▸ r)
theorem go_ior (X : Stand p l e R s m args below meth c T locs cells slots) (hx : p.tables.exec = Jvm.exec) {x y v : Int32} (hd : decode c.code pc = .ok (.ior, 1)) (hp : pc + 1 = q) (hv : x ||| y = v) (K : Go p e below s Q ce sl T (mkF m q ls (.int v :: st))) : Go p e below s Q ce sl T (mkF m pc ls (.int y :: .int x :: st)) := by
  subst hp
  exact K.to fun _ r => XS.ior X.here hx rfl hd rfl (hv ▸ r)
theorem go_ixor (X : Stand p l e R s m args below meth c T locs cells slots) (hx : p.tables.exec = Jvm.exec) {x y v : Int32} (hd : decode c.code pc = .ok (.ixor, 1)) (hp : pc + 1 = q) (hv : x ^^^ y = v) (K : Go p e below s Q ce sl T (mkF m q ls (.int v :: st))) : Go p e below s Q ce sl T (mkF m pc ls (.int y :: .int x :: st)) := by
  subst hp
  exact K.to fun _ r => XS.ixor X.here hx rfl hd rfl (hv ▸ r)
theorem go_ineg (X : Stand p l e R s m args below meth c T locs cells slots) (hx : p.tables.exec = Jvm.exec) {x v : Int32} (hd : decode c.code pc = .ok (.ineg, 1)) (hp : pc + 1 = q) (hv : -x = v) (K : Go p e below s Q ce sl T (mkF m q ls (.int v :: st))) : Go p e below s Q ce sl T (mkF m pc ls (.int x :: st)) := by
  subst hp
  exact K.to fun _ r => XS.ineg X.here hx rfl hd rfl (hv ▸ r)
theorem go_idiv (X : Stand p l e R s m args below meth c T locs cells slots) (hx : p.tables.exec = Jvm.exec) {x y v : Int32} (hd : decode c.code pc = .ok (.idiv, 1)) (hp : pc + 1 = q) (hy : y ≠ 0) (hv : x / y = v) (K : Go p e below s Q ce sl T (mkF m q ls (.int v :: st))) : Go p e below s Q ce sl T (mkF m pc ls (.int y :: .int x :: st)) := by
  subst hp
  exact K.to fun _ r => XS.idiv X.here hx rfl hd rfl hy (hv ▸ r)
theorem go_ladd (X : Stand p l e R s m args below meth c T locs cells slots) (hx : p.tables.exec = Jvm.exec) {x y v : Int64} (hd : decode c.code pc = .ok (.ladd, 1)) (hp : pc + 1 = q) (hv : x + y = v) (K : Go p e below s Q ce sl T (mkF m q ls (.long v :: st))) : Go p e below s Q ce sl T (mkF m pc ls (.long y :: .long x :: st)) := by
  subst hp
  exact K.to fun _ r => XS.ladd X.here hx rfl hd rfl (hv ▸ r)
theorem go_lsub (X : Stand p l e R s m args below meth c T locs cells slots) (hx : p.tables.exec = Jvm.exec) {x y v : Int64} (hd : decode c.code pc = .ok (.lsub, 1)) (hp : pc + 1 = q) (hv : x - y = v) (K : Go p e below s Q ce sl T (mkF m q ls (.long v :: st))) : Go p e below s Q ce sl T (mkF m pc ls (.long y :: .long x :: st)) := by
  subst hp
  exact K.to fun _ r => XS.lsub X.here hx rfl hd rfl (hv ▸ r)
theorem go_lmul (X : Stand p l e R s m args below meth c T locs cells slots) (hx : p.tables.exec = Jvm.exec) {x y v : Int64} (hd : decode c.code pc = .ok (.lmul, 1)) (hp : pc + 1 = q) (hv : x * y = v) (K : Go p e below s Q ce sl T (mkF m q ls (.long v :: st))) : Go p e below s Q ce sl T (mkF m pc ls (.long y :: .long x :: st)) := by
  subst hp
  exact K.to fun _ r => XS.lmul X.here hx rfl hd rfl (hv ▸ r)
theorem go_land (X : Stand p l e R s m args below meth c T locs cells slots) (hx : p.tables.exec = Jvm.exec) {x y v : Int64} (hd : decode c.code pc = .ok (.land, 1)) (hp : pc + 1 = q) (hv : x &&& y = v) (K : Go p e below s Q ce sl T (mkF m q ls (.long v :: st))) : Go p e below s Q ce sl T (mkF m pc ls (.long y :: .long x :: st)) := by
  subst hp
  exact K.to fun _ r => XS.land X.here hx rfl hd rfl (hv ▸ r)
theorem go_lor (X : Stand p l e R s m args below meth c T locs cells slots) (hx : p.tables.exec = Jvm.exec) {x y v : Int64} (hd : decode c.code pc = .ok (.lor, 1)) (hp : pc + 1 = q) (hv : x ||| y = v) (K : Go p e below s Q ce sl T (mkF m q ls (.long v :: st))) : Go p e below s Q ce sl T (mkF m pc ls (.long y :: .long x :: st)) := by
  subst hp
  exact K.to fun _ r => XS.lor X.here hx rfl hd rfl (hv ▸ r)
theorem go_lxor (X : Stand p l e R s m args below meth c T locs cells slots) (hx : p.tables.exec = Jvm.exec) {x y v : Int64} (hd : decode c.code pc = .ok (.lxor, 1)) (hp : pc + 1 = q) (hv : x ^^^ y = v) (K : Go p e below s Q ce sl T (mkF m q ls (.long v :: st))) : Go p e below s Q ce sl T (mkF m pc ls (.long y :: .long x :: st)) := by
  subst hp
  exact K.to fun _ r => XS.lxor X.here hx rfl hd rfl (hv ▸ r)
theorem go_lneg (X : Stand p l e R s m args below meth c T locs cells slots) (hx : p.tables.exec = Jvm.exec) {x v : Int64} (hd : decode c.code pc = .ok (.lneg, 1)) (hp : pc + 1 = q) (hv : -x = v) (K : Go p e below s Q ce sl T (mkF m q ls (.long v :: st))) : Go p e below s Q ce sl T (mkF m pc ls (.long x :: st)) := by
  subst hp
  exact K.to fun _ r => XS.lneg X.here hx rfl hd rfl (hv ▸ r)
theorem go_ldiv (X : Stand p l e R s m args below meth c T locs cells slots) (hx : p.tables.exec = Jvm.exec) {x y v : Int64} (hd : decode c.code pc = .ok (.ldiv, 1)) (hp : pc + 1 = q) (hy : y ≠ 0) (hv : x / y = v) (K : Go p e below s Q ce sl T (mkF m q ls (.long v :: st))) : Go p e below s Q ce sl T (mkF m pc ls (.long y :: .long x :: st)) := by
  subst hp
  exact K.to fun _ r => XS.ldiv X.here hx rfl hd rfl hy (hv ▸ r)
theorem go_irem (X : Stand p l e R s m args below meth c T locs cells slots) (hx : p.tables.exec = Jvm.exec) {x y v : Int32} (hd : decode c.code pc = .ok (.irem, 1)) (hp : pc + 1 = q) (hy : y ≠ 0) (hv : x % y = v) (K : Go p e below s Q ce sl T (mkF m q ls (.int v :: st))) : Go p e below s Q ce sl T (mkF m pc ls (.int y :: .int x :: st)) := by
  subst hp
  exact K.to fun _ r => iremM X hx rfl hd rfl hy (hv ▸ r)
theorem go_lrem (X : Stand p l e R s m args below meth c T locs cells slots) (hx : p.tables.exec = Jvm.exec) {x y v : Int64} (hd : decode c.code pc = .ok (.lrem, 1)) (hp : pc + 1 = q) (hy : y ≠ 0) (hv : x % y = v) (K : Go p e below s Q ce sl T (mkF m q ls (.long v :: st))) : Go p e below s Q ce sl T (mkF m pc ls (.long y :: .long x :: st)) := by
  subst hp
  exact K.to fun _ r => XS.lrem X.here hx rfl hd rfl hy ((lrem_mod x y).symm ▸ hv ▸ r)
theorem go_ishl (X : Stand p l e R s m args below meth c T locs cells slots) (hx : p.tables.exec = Jvm.exec) {x v : Int32} {y : Int32} (hd : decode c.code pc = .ok (.ishl, 1)) (hp : pc + 1 = q) (hv : (x <<< (y &&& 31)) = v) (K : Go p e below s Q ce sl T (mkF m q ls (.int v :: st))) : Go p e below s Q ce sl T (mkF m pc ls (.int y :: .int x :: st)) := by
  subst hp
  exact K.to fun _ r => XS.ishl X.here hx rfl hd rfl (hv ▸ r)
theorem go_ishr (X : Stand p l e R s m args below meth c T locs cells slots) (hx : p.tables.exec = Jvm.exec) {x v : Int32} {y : Int32} (hd : decode c.code pc = .ok (.ishr, 1)) (hp : pc + 1 = q) (hv : (x >>> (y &&& 31)) = v) (K : Go p e below s Q ce sl T (mkF m q ls (.int v :: st))) : Go p e below s Q ce sl T (mkF m pc ls (.int y :: .int x :: st)) := by
  subst hp
  exact K.to fun _ r => XS.ishr X.here hx rfl hd rfl (hv ▸ r)
theorem go_iushr (X : Stand p l e R s m args below meth c T locs cells slots) (hx : p.tables.exec = Jvm.exec) {x v : Int32} {y : Int32} (hd : decode c.code pc = .ok (.iushr, 1)) (hp : pc + 1 = q) (hv : ((x.toUInt32 >>> (y &&& 31).toUInt32).toInt32) = v) (K : Go p e below s Q ce sl T (mkF m q ls (.int v :: st))) : Go p e below s Q ce sl T (mkF m pc ls (.int y :: .int x :: st)) := by
  subst hp
  exact K.to fun _ r => XS.iushr X.here hx rfl hd rfl (hv ▸ r)
theorem go_lshl (X : Stand p l e R s m args below meth c T locs cells slots) (hx : p.tables.exec = Jvm.exec) {x v : Int64} {y : Int32} (hd : decode c.code pc = .ok (.lshl, 1)) (hp : pc + 1 = q) (hv : (x <<< (y &&& 0x3f).toInt64) = v) (K : Go p e below s Q ce sl T (mkF m q ls (.long v :: st))) : Go p e below s Q ce sl T (mkF m pc ls (.int y :: .long x :: st)) := by
  subst hp
  exact K.to fun _ r => XS.lshl X.here hx rfl hd rfl (hv ▸ r)
theorem go_lshr (X : Stand p l e R s m args below meth c T locs cells slots) (hx : p.tables.exec = Jvm.exec) {x v : Int64} {y : Int32} (hd : decode c.code pc = .ok (.lshr, 1)) (hp : pc + 1 = q) (hv : (x >>> (y &&& 0x3f).toInt64) = v) (K : Go p e below s Q ce sl T (mkF m q ls (.long v :: st))) : Go p e below s Q ce sl T (mkF m pc ls (.int y :: .long x :: st)) := by
  subst hp
  exact K.to fun _ r => XS.lshr X.here hx rfl hd rfl (hv ▸ r)
theorem go_lushr (X : Stand p l e R s m args below meth c T locs cells slots) (hx : p.tables.exec = Jvm.exec) {x v : Int64} {y : Int32} (hd : decode c.code pc = .ok (.lushr, 1)) (hp : pc + 1 = q) (hv : ((x.toUInt64 >>> (y &&& 0x3f).toInt64.toUInt64).toInt64) = v) (K : Go p e below s Q ce sl T (mkF m q ls (.long v :: st))) : Go p e below s Q ce sl T (mkF m pc ls (.int y :: .long x :: st)) := by
  subst hp
  exact K.to fun _ r => XS.lushr X.here hx rfl hd rfl (hv ▸ r)
theorem go_i2l (X : Stand p l e R s m args below meth c T locs cells slots) (hx : p.tables.exec = Jvm.exec) {x : Int32} {v : Int64} (hd : decode c.code pc = .ok (.i2l, 1)) (hp : pc + 1 = q) (hv : x.toInt64 = v) (K : Go p e below s Q ce sl T (mkF m q ls (.long v :: st))) : Go p e below s Q ce sl T (mkF m pc ls (.int x :: st)) := by
  subst hp
  exact K.to fun _ r => XS.i2l X.here hx rfl hd rfl (hv ▸ r)
theorem go_l2i (X : Stand p l e R s m args below meth c T locs cells slots) (hx : p.tables.exec = Jvm.exec) {x : Int64} {v : Int32} (hd : decode c.code pc = .ok (.l2i, 1)) (hp : pc + 1 = q) (hv : x.toInt32 = v) (K : Go p e below s Q ce sl T (mkF m q ls (.int v :: st))) : Go p e below s Q ce sl T (mkF m pc ls (.long x :: st)) := by
  subst hp
  exact K.to fun _ r => XS.l2i X.here hx rfl hd rfl (hv ▸ r)
theorem go_i2b (X : Stand p l e R s m args below meth c T locs cells slots) (hx : p.tables.exec = Jvm.exec) {x : Int32} {v : Int32} (hd : decode c.code pc = .ok (.i2b, 1)) (hp : pc + 1 = q) (hv : x.toInt8.toInt32 = v) (K : Go p e below s Q ce sl T (mkF m q ls (.int v :: st))) : Go p e below s Q ce sl T (mkF m pc ls (.int x :: st)) := by
  subst hp
  exact K.to fun _ r => XS.i2b X.here hx rfl hd rfl (hv ▸ r)
theorem go_i2s (X : Stand p l e R s m args below meth c T locs cells slots) (hx : p.tables.exec = Jvm.exec) {x : Int32} {v : Int32} (hd : decode c.code pc = .ok (.i2s, 1)) (hp : pc + 1 = q) (hv : x.toInt16.toInt32 = v) (K : Go p e below s Q ce sl T (mkF m q ls (.int v :: st))) : Go p e below s Q ce sl T (mkF m pc ls (.int x :: st)) := by
  subst hp
  exact K.to fun _ r => XS.i2s X.here hx rfl hd rfl (hv ▸ r)
theorem go_i2c (X : Stand p l e R s m args below meth c T locs cells slots) (hx : p.tables.exec = Jvm.exec) {x : Int32} {v : Int32} (hd : decode c.code pc = .ok (.i2c, 1)) (hp : pc + 1 = q) (hv : x.toUInt32.toUInt16.toUInt32.toInt32 = v) (K : Go p e below s Q ce sl T (mkF m q ls (.int v :: st))) : Go p e below s Q ce sl T (mkF m pc ls (.int x :: st)) := by
  subst hp
  exact K.to fun _ r => XS.i2c X.here hx rfl hd rfl (hv ▸ r)
theorem go_lcmp (X : Stand p l e R s m args below meth c T locs cells slots) (hx : p.tables.exec = Jvm.exec) {x y : Int64} (hd : decode c.code pc = .ok (.lcmp, 1)) (hp : pc + 1 = q)  (K : Go p e below s Q ce sl T (mkF m q ls (.int (lcmpW x y) :: st))) : Go p e below s Q ce sl T (mkF m pc ls (.long y :: .long x :: st)) := by
  subst hp
  exact K.to fun _ r => XS.lcmp X.here hx rfl hd rfl r
theorem go_i2d (X : Stand p l e R s m args below meth c T locs cells slots) (hx : p.tables.exec = Jvm.exec) {x : Int32} {v : UInt64} (hd : decode c.code pc = .ok (.i2d, 1)) (hp : pc + 1 = q) (hv : FP.i2d x = v) (K : Go p e below s Q ce sl T (mkF m q ls (.double v :: st))) : Go p e below s Q ce sl T (mkF m pc ls (.int x :: st)) := by
  subst hp
  exact K.to fun _ r => XS.i2dS X.here hx rfl hd rfl hv r
theorem go_l2d (X : Stand p l e R s m args below meth c T locs cells slots) (hx : p.tables.exec = Jvm.exec) {x : Int64} {v : UInt64} (hd : decode c.code pc = .ok (.l2d, 1)) (hp : pc + 1 = q) (hv : FP.l2d x = v) (K : Go p e below s Q ce sl T (mkF m q ls (.double v :: st))) : Go p e below s Q ce sl T (mkF m pc ls (.long x :: st)) := by
  subst hp
  exact K.to fun _ r => XS.l2dS X.here hx rfl hd rfl hv r
theorem go_d2l (X : Stand p l e R s m args below meth c T locs cells slots) (hx : p.tables.exec = Jvm.exec) {x : UInt64} {v : Int64} (hd : decode c.code pc = .ok (.d2l, 1)) (hp : pc + 1 = q) (hv : FP.d2l x = v) (K : Go p e below s Q ce sl T (mkF m q ls (.long v :: st))) : Go p e below s Q ce sl T (mkF m pc ls (.double x :: st)) := by
  subst hp
  exact K.to fun _ r => XS.d2lS X.here hx rfl hd rfl hv r
theorem go_i2f (X : Stand p l e R s m args below meth c T locs cells slots) (hx : p.tables.exec = Jvm.exec) {x : Int32} {v : UInt32} (hd : decode c.code pc = .ok (.i2f, 1)) (hp : pc + 1 = q) (hv : FP.i2f x = v) (K : Go p e below s Q ce sl T (mkF m q ls (.float v :: st))) : Go p e below s Q ce sl T (mkF m pc ls (.int x :: st)) := by
  subst hp
  exact K.to fun _ r => XS.i2fS X.here hx rfl hd rfl hv r
theorem go_f2d (X : Stand p l e R s m args below meth c T locs cells slots) (hx : p.tables.exec = Jvm.exec) {x : UInt32} {v : UInt64} (hd : decode c.code pc = .ok (.f2d, 1)) (hp : pc + 1 = q) (hn : Jvm.Free.Fl.NoNaN64 (FP.f2d x)) (hv : FP.f2d x = v) (K : Go p e below s Q ce sl T (mkF m q ls (.double v :: st))) : Go p e below s Q ce sl T (mkF m pc ls (.float x :: st)) := by
  subst hp
  exact K.to fun _ r => XS.f2dS X.here hx rfl hd rfl hn hv r
theorem go_dcmp (X : Stand p l e R s m args below meth c T locs cells slots) (hx : p.tables.exec = Jvm.exec) {o : CmpOp} {x y : UInt64} {v : Int32} (hd : decode c.code pc = .ok (.dcmp o, 1)) (hp : pc + 1 = q) (hv : cmpValue (FP.dcmp x y) o = v) (K : Go p e below s Q ce sl T (mkF m q ls (.int v :: st))) : Go p e below s Q ce sl T (mkF m pc ls (.double y :: .double x :: st)) := by
  subst hp
  exact K.to fun _ r => XS.dcmpS X.here hx rfl hd rfl hv r
theorem go_dadd (X : Stand p l e R s m args below meth c T locs cells slots) (hx : p.tables.exec = Jvm.exec) {x y v : UInt64} (hd : decode c.code pc = .ok (.dadd, 1)) (hp : pc + 1 = q) (hn : Jvm.Free.Fl.NoNaN64 (FP.dadd x y)) (hv : FP.dadd x y = v) (K : Go p e below s Q ce sl T (mkF m q ls (.double v :: st))) : Go p e below s Q ce sl T (mkF m pc ls (.double y :: .double x :: st)) := by
  subst hp
  exact K.to fun _ r => XS.daddS X.here hx rfl hd rfl hn hv r
theorem go_dsub (X : Stand p l e R s m args below meth c T locs cells slots) (hx : p.tables.exec = Jvm.exec) {x y v : UInt64} (hd : decode c.code pc = .ok (.dsub, 1)) (hp : pc + 1 = q) (hn : Jvm.Free.Fl.NoNaN64 (FP.dsub x y)) (hv : FP.dsub x y = v) (K : Go p e below s Q ce sl T (mkF m q ls (.double v :: st))) : Go p e below s Q ce sl T (mkF m pc ls (.double y :: .double x :: st)) := by
  subst hp
  exact K.to fun _ r => XS.dsubS X.here hx rfl hd rfl hn hv r
theorem go_dmul (X : Stand p l e R s m args below meth c T locs cells slots) (hx : p.tables.exec = Jvm.exec) {x y v : UInt64} (hd : decode c.code pc = .ok (.dmul, 1)) (hp : pc + 1 = q) (hn : Jvm.Free.Fl.NoNaN64 (FP.dmul x y)) (hv : FP.dmul x y = v) (K : Go p e below s Q ce sl T (mkF m q ls (.double v :: st))) : Go p e below s Q ce sl T (mkF m pc ls (.double y :: .double x :: st)) := by
  subst hp
  exact K.to fun _ r => XS.dmulS X.here hx rfl hd rfl hn hv r
theorem go_ddiv (X : Stand p l e R s m args below meth c T locs cells slots) (hx : p.tables.exec = Jvm.exec) {x y v : UInt64} (hd : decode c.code pc = .ok (.ddiv, 1)) (hp : pc + 1 = q) (hn : Jvm.Free.Fl.NoNaN64 (FP.ddiv x y)) (hv : FP.ddiv x y = v) (K : Go p e below s Q ce sl T (mkF m q ls (.double v :: st))) : Go p e below s Q ce sl T (mkF m pc ls (.double y :: .double x :: st)) := by
  subst hp
  exact K.to fun _ r => XS.ddivS X.here hx rfl hd rfl hn hv r
theorem go_dup (X : Stand p l e R s m args below meth c T locs cells slots) (hx : p.tables.exec = Jvm.exec) {v : Value} (hd : decode c.code pc = .ok (.dup, 1)) (hp : pc + 1 = q) (hv : v.category = 1) (K : Go p e below s Q ce sl T (mkF m q ls (v :: v :: st))) : Go p e below s Q ce sl T (mkF m pc ls (v :: st)) := by
  subst hp
  exact K.to fun _ r => XS.dup X.here hx rfl hd rfl hv r
theorem go_pop (X : Stand p l e R s m args below meth c T locs cells slots) (hx : p.tables.exec = Jvm.exec) {v : Value} (hd : decode c.code pc = .ok (.pop, 1)) (hp : pc + 1 = q) (hv : v.category = 1) (K : Go p e below s Q ce sl T (mkF m q ls st)) : Go p e below s Q ce sl T (mkF m pc ls (v :: st)) := by
  subst hp
  exact K.to fun _ r => XS.pop X.here hx rfl hd rfl hv r
theorem go_iinc (X : Stand p l e R s m args below meth c T locs cells slots) (hx : p.tables.exec = Jvm.exec) {k : Nat} {i : Int} {v : Int32} {l' : Array Slot} (hd : decode c.code pc = .ok (.iinc k i, 3)) (hp : pc + 3 = q) (hl : ls[k]? = some (.val (.int v))) (hs : storeLocals ls k (.int (v + Int32.ofInt i)) = some l') (K : Go p e below s Q ce sl T (mkF m q l' st)) : Go p e below s Q ce sl T (mkF m pc ls st) := by
  subst hp
  exact K.to fun _ r => XS.iinc X.here hx rfl hd hl hs r
theorem go_goto (X : Stand p l e R s m args below meth c T locs cells slots) (hx : p.tables.exec = Jvm.exec) {o : Int} (hd : decode c.code pc = .ok (.goto o, 3)) (ho : 0 ≤ (pc : Int) + o) (hq : ((pc : Int) + o).toNat = q) (K : Go p e below s Q ce sl T (mkF m q ls st)) : Go p e below s Q ce sl T (mkF m pc ls st) :=
  K.to fun _ r => XS.goto X.here hx rfl (pc0 := pc) rfl hd ho hq r
theorem go_icmp_lt (X : Stand p l e R s m args below meth c T locs cells slots) (hx : p.tables.exec = Jvm.exec) {x y : Int32} {o : Int} (hd : decode c.code pc = .ok (.if_icmp .lt o, 3)) (hp : pc + 3 = q) (ho : 0 ≤ (pc : Int) + o) (hq : ((pc : Int) + o).toNat = q') (KY : x < y → Go p e below s Q ce sl T (mkF m q' ls st)) (KN : ¬ x < y → Go p e below s Q ce sl T (mkF m q ls st)) : Go p e below s Q ce sl T (mkF m pc ls (.int y :: .int x :: st)) := by
  subst hp
  by_cases hc : x < y
  · exact (KY hc).to fun _ r => XS.icmpYes X.here hx rfl (pc0 := pc) rfl hd rfl (tlt hc).1 ho hq r
  · exact (KN hc).to fun _ r => XS.icmpNo X.here hx rfl hd rfl (flt hc).1 r
theorem go_if_lt (X : Stand p l e R s m args below meth c T locs cells slots) (hx : p.tables.exec = Jvm.exec) {x : Int32} {o : Int} (hd : decode c.code pc = .ok (.ifCond .lt o, 3)) (hp : pc + 3 = q) (ho : 0 ≤ (pc : Int) + o) (hq : ((pc : Int) + o).toNat = q') (KY : x < (0 : Int32) → Go p e below s Q ce sl T (mkF m q' ls st)) (KN : ¬ x < (0 : Int32) → Go p e below s Q ce sl T (mkF m q ls st)) : Go p e below s Q ce sl T (mkF m pc ls (.int x :: st)) := by
  subst hp
  by_cases hc : x < (0 : Int32)
  · exact (KY hc).to fun _ r => XS.ifYes X.here hx rfl (pc0 := pc) rfl hd rfl ((if0 _ _).trans (tlt hc).1) ho hq r
  · exact (KN hc).to fun _ r => XS.ifNo X.here hx rfl hd rfl ((if0 _ _).trans (flt hc).1) r
theorem go_lif_lt (X : Stand p l e R s m args below meth c T locs cells slots) (hx : p.tables.exec = Jvm.exec) {a b : Int64} {o : Int} (hd : decode c.code pc = .ok (.ifCond .lt o, 3)) (hp : pc + 3 = q) (ho : 0 ≤ (pc : Int) + o) (hq : ((pc : Int) + o).toNat = q') (KY : a < b → Go p e below s Q ce sl T (mkF m q' ls st)) (KN : ¬ a < b → Go p e below s Q ce sl T (mkF m q ls st)) : Go p e below s Q ce sl T (mkF m pc ls (.int (lcmpW a b) :: st)) :=
  go_if_lt X hx hd hp ho hq (fun w => KY ((lw_lt _ _).mp w)) (fun w => KN (fun z => w ((lw_lt _ _).mpr z)))
theorem go_icmp_ge (X : Stand p l e R s m args below meth c T locs cells slots) (hx : p.tables.exec = Jvm.exec) {x y : Int32} {o : Int} (hd : decode c.code pc = .ok (.if_icmp .ge o, 3)) (hp : pc + 3 = q) (ho : 0 ≤ (pc : Int) + o) (hq : ((pc : Int) + o).toNat = q') (KY : ¬ x < y → Go p e below s Q ce sl T (mkF m q' ls st)) (KN : x < y → Go p e below s Q ce sl T (mkF m q ls st)) : Go p e below s Q ce sl T (mkF m pc ls (.int y :: .int x :: st)) := by
  subst hp
  by_cases hc : x < y
  · exact (KN hc).to fun _ r => XS.icmpNo X.here hx rfl hd rfl (tlt hc).2.1 r
  · exact (KY hc).to fun _ r => XS.icmpYes X.here hx rfl (pc0 := pc) rfl hd rfl (flt hc).2.1 ho hq r
theorem go_if_ge (X : Stand p l e R s m args below meth c T locs cells slots) (hx : p.tables.exec = Jvm.exec) {x : Int32} {o : Int} (hd : decode c.code pc = .ok (.ifCond .ge o, 3)) (hp : pc + 3 = q) (ho : 0 ≤ (pc : Int) + o) (hq : ((pc : Int) + o).toNat = q') (KY : ¬ x < (0 : Int32) → Go p e below s Q ce sl T (mkF m q' ls st)) (KN : x < (0 : Int32) → Go p e below s Q ce sl T (mkF m q ls st)) : Go p e below s Q ce sl T (mkF m pc ls (.int x :: st)) := by
  subst hp
  by_cases hc : x < (0 : Int32)
  · exact (KN hc).to fun _ r => XS.ifNo X.here hx rfl hd rfl ((if0 _ _).trans (tlt hc).2.1) r
  · exact (KY hc).to fun _ r => XS.ifYes X.here hx rfl (pc0 := pc) rfl hd rfl ((if0 _ _).trans (flt hc).2.1) ho hq r
theorem go_lif_ge (X : Stand p l e R s m args below meth c T locs cells slots) (hx : p.tables.exec = Jvm.exec) {a b : Int64} {o : Int} (hd : decode c.code pc = .ok (.ifCond .ge o, 3)) (hp : pc + 3 = q) (ho : 0 ≤ (pc : Int) + o) (hq : ((pc : Int) + o).toNat = q') (KY : ¬ a < b → Go p e below s Q ce sl T (mkF m q' ls st)) (KN : a < b → Go p e below s Q ce sl T (mkF m q ls st)) : Go p e below s Q ce sl T (mkF m pc ls (.int (lcmpW a b) :: st)) :=
  go_if_ge X hx hd hp ho hq (fun w => KY (fun z => w ((lw_lt _ _).mpr z))) (fun w => KN ((lw_lt _ _).mp w))
theorem go_icmp_gt (X : Stand p l e R s m args below meth c T locs cells slots) (hx : p.tables.exec = Jvm.exec) {x y : Int32} {o : Int} (hd : decode c.code pc = .ok (.if_icmp .gt o, 3)) (hp : pc + 3 = q) (ho : 0 ≤ (pc : Int) + o) (hq : ((pc : Int) + o).toNat = q') (KY : y < x → Go p e below s Q ce sl T (mkF m q' ls st)) (KN : ¬ y < x → Go p e below s Q ce sl T (mkF m q ls st)) : Go p e below s Q ce sl T (mkF m pc ls (.int y :: .int x :: st)) := by
  subst hp
  by_cases hc : y < x
  · exact (KY hc).to fun _ r => XS.icmpYes X.here hx rfl (pc0 := pc) rfl hd rfl (tlt hc).2.2.1 ho hq r
  · exact (KN hc).to fun _ r => XS.icmpNo X.here hx rfl hd rfl (flt hc).2.2.1 r
theorem go_if_gt (X : Stand p l e R s m args below meth c T locs cells slots) (hx : p.tables.exec = Jvm.exec) {x : Int32} {o : Int} (hd : decode c.code pc = .ok (.ifCond .gt o, 3)) (hp : pc + 3 = q) (ho : 0 ≤ (pc : Int) + o) (hq : ((pc : Int) + o).toNat = q') (KY : (0 : Int32) < x → Go p e below s Q ce sl T (mkF m q' ls st)) (KN : ¬ (0 : Int32) < x → Go p e below s Q ce sl T (mkF m q ls st)) : Go p e below s Q ce sl T (mkF m pc ls (.int x :: st)) := by
  subst hp
  by_cases hc : (0 : Int32) < x
  · exact (KY hc).to fun _ r => XS.ifYes X.here hx rfl (pc0 := pc) rfl hd rfl ((if0 _ _).trans (tlt hc).2.2.1) ho hq r
  · exact (KN hc).to fun _ r => XS.ifNo X.here hx rfl hd rfl ((if0 _ _).trans (flt hc).2.2.1) r
theorem go_lif_gt (X : Stand p l e R s m args below meth c T locs cells slots) (hx : p.tables.exec = Jvm.exec) {a b : Int64} {o : Int} (hd : decode c.code pc = .ok (.ifCond .gt o, 3)) (hp : pc + 3 = q) (ho : 0 ≤ (pc : Int) + o) (hq : ((pc : Int) + o).toNat = q') (KY : b < a → Go p e below s Q ce sl T (mkF m q' ls st)) (KN : ¬ b < a → Go p e below s Q ce sl T (mkF m q ls st)) : Go p e below s Q ce sl T (mkF m pc ls (.int (lcmpW a b) :: st)) :=
  go_if_gt X hx hd hp ho hq (fun w => KY ((lw_gt _ _).mp w)) (fun w => KN (fun z => w ((lw_gt _ _).mpr z)))
theorem go_icmp_le (X : Stand p l e R s m args below meth c T locs cells slots) (hx : p.tables.exec = Jvm.exec) {x y : Int32} {o : Int} (hd : decode c.code pc = .ok (.if_icmp .le o, 3)) (hp : pc + 3 = q) (ho : 0 ≤ (pc : Int) + o) (hq : ((pc : Int) + o).toNat = q') (KY : ¬ y < x → Go p e below s Q ce sl T (mkF m q' ls st)) (KN : y < x → Go p e below s Q ce sl T (mkF m q ls st)) : Go p e below s Q ce sl T (mkF m pc ls (.int y :: .int x :: st)) := by
  subst hp
  by_cases hc : y < x
  · exact (KN hc).to fun _ r => XS.icmpNo X.here hx rfl hd rfl (tlt hc).2.2.2 r
  · exact (KY hc).to fun _ r => XS.icmpYes X.here hx rfl (pc0 := pc) rfl hd rfl (flt hc).2.2.2 ho hq r
theorem go_if_le (X : Stand p l e R s m args below meth c T locs cells slots) (hx : p.tables.exec = Jvm.exec) {x : Int32} {o : Int} (hd : decode c.code pc = .ok (.ifCond .le o, 3)) (hp : pc + 3 = q) (ho : 0 ≤ (pc : Int) + o) (hq : ((pc : Int) + o).toNat = q') (KY : ¬ (0 : Int32) < x → Go p e below s Q ce sl T (mkF m q' ls st)) (KN : (0 : Int32) < x → Go p e below s Q ce sl T (mkF m q ls st)) : Go p e below s Q ce sl T (mkF m pc ls (.int x :: st)) := by
  subst hp
  by_cases hc : (0 : Int32) < x
  · exact (KN hc).to fun _ r => XS.ifNo X.here hx rfl hd rfl ((if0 _ _).trans (tlt hc).2.2.2) r
  · exact (KY hc).to fun _ r => XS.ifYes X.here hx rfl (pc0 := pc) rfl hd rfl ((if0 _ _).trans (flt hc).2.2.2) ho hq r
theorem go_lif_le (X : Stand p l e R s m args below meth c T locs cells slots) (hx : p.tables.exec = Jvm.exec) {a b : Int64} {o : Int} (hd : decode c.code pc = .ok (.ifCond .le o, 3)) (hp : pc + 3 = q) (ho : 0 ≤ (pc : Int) + o) (hq : ((pc : Int) + o).toNat = q') (KY : ¬ b < a → Go p e below s Q ce sl T (mkF m q' ls st)) (KN : b < a → Go p e below s Q ce sl T (mkF m q ls st)) : Go p e below s Q ce sl T (mkF m pc ls (.int (lcmpW a b) :: st)) :=
  go_if_le X hx hd hp ho hq (fun w => KY (fun z => w ((lw_gt _ _).mpr z))) (fun w => KN ((lw_gt _ _).mp w))
theorem go_icmp_eq (X : Stand p l e R s m args below meth c T locs cells slots) (hx : p.tables.exec = Jvm.exec) {x y : Int32} {o : Int} (hd : decode c.code pc = .ok (.if_icmp .eq o, 3)) (hp : pc + 3 = q) (ho : 0 ≤ (pc : Int) + o) (hq : ((pc : Int) + o).toNat = q') (KY : x = y → Go p e below s Q ce sl T (mkF m q' ls st)) (KN : ¬ x = y → Go p e below s Q ce sl T (mkF m q ls st)) : Go p e below s Q ce sl T (mkF m pc ls (.int y :: .int x :: st)) := by
  subst hp
  by_cases hc : x = y
  · exact (KY hc).to fun _ r => XS.icmpYes X.here hx rfl (pc0 := pc) rfl hd rfl (teq hc).1 ho hq r
  · exact (KN hc).to fun _ r => XS.icmpNo X.here hx rfl hd rfl (feq hc).1 r
theorem go_if_eq (X : Stand p l e R s m args below meth c T locs cells slots) (hx : p.tables.exec = Jvm.exec) {x : Int32} {o : Int} (hd : decode c.code pc = .ok (.ifCond .eq o, 3)) (hp : pc + 3 = q) (ho : 0 ≤ (pc : Int) + o) (hq : ((pc : Int) + o).toNat = q') (KY : x = (0 : Int32) → Go p e below s Q ce sl T (mkF m q' ls st)) (KN : ¬ x = (0 : Int32) → Go p e below s Q ce sl T (mkF m q ls st)) : Go p e below s Q ce sl T (mkF m pc ls (.int x :: st)) := by
  subst hp
  by_cases hc : x = (0 : Int32)
  · exact (KY hc).to fun _ r => XS.ifYes X.here hx rfl (pc0 := pc) rfl hd rfl ((if0 _ _).trans (teq hc).1) ho hq r
  · exact (KN hc).to fun _ r => XS.ifNo X.here hx rfl hd rfl ((if0 _ _).trans (feq hc).1) r
theorem go_lif_eq (X : Stand p l e R s m args below meth c T locs cells slots) (hx : p.tables.exec = Jvm.exec) {a b : Int64} {o : Int} (hd : decode c.code pc = .ok (.ifCond .eq o, 3)) (hp : pc + 3 = q) (ho : 0 ≤ (pc : Int) + o) (hq : ((pc : Int) + o).toNat = q') (KY : a = b → Go p e below s Q ce sl T (mkF m q' ls st)) (KN : ¬ a = b → Go p e below s Q ce sl T (mkF m q ls st)) : Go p e below s Q ce sl T (mkF m pc ls (.int (lcmpW a b) :: st)) :=
  go_if_eq X hx hd hp ho hq (fun w => KY ((lw_eq _ _).mp w)) (fun w => KN (fun z => w ((lw_eq _ _).mpr z)))
theorem go_icmp_ne (X : Stand p l e R s m args below meth c T locs cells slots) (hx : p.tables.exec = Jvm.exec) {x y : Int32} {o : Int} (hd : decode c.code pc = .ok (.if_icmp .ne o, 3)) (hp : pc + 3 = q) (ho : 0 ≤ (pc : Int) + o) (hq : ((pc : Int) + o).toNat = q') (KY : ¬ x = y → Go p e below s Q ce sl T (mkF m q' ls st)) (KN : x = y → Go p e below s Q ce sl T (mkF m q ls st)) : Go p e below s Q ce sl T (mkF m pc ls (.int y :: .int x :: st)) := by
  subst hp
  by_cases hc : x = y
  · exact (KN hc).to fun _ r => XS.icmpNo X.here hx rfl hd rfl (teq hc).2 r
  · exact (KY hc).to fun _ r => XS.icmpYes X.here hx rfl (pc0 := pc) rfl hd rfl (feq hc).2 ho hq r
theorem go_if_ne (X : Stand p l e R s m args below meth c T locs cells slots) (hx : p.tables.exec = Jvm.exec) {x : Int32} {o : Int} (hd : decode c.code pc = .ok (.ifCond .ne o, 3)) (hp : pc + 3 = q) (ho : 0 ≤ (pc : Int) + o) (hq : ((pc : Int) + o).toNat = q') (KY : ¬ x = (0 : Int32) → Go p e below s Q ce sl T (mkF m q' ls st)) (KN : x = (0 : Int32) → Go p e below s Q ce sl T (mkF m q ls st)) : Go p e below s Q ce sl T (mkF m pc ls (.int x :: st)) := by
  subst hp
  by_cases hc : x = (0 : Int32)
  · exact (KN hc).to fun _ r => XS.ifNo X.here hx rfl hd rfl ((if0 _ _).trans (teq hc).2) r
  · exact (KY hc).to fun _ r => XS.ifYes X.here hx rfl (pc0 := pc) rfl hd rfl ((if0 _ _).trans (feq hc).2) ho hq r
theorem go_lif_ne (X : Stand p l e R s m args below meth c T locs cells slots) (hx : p.tables.exec = Jvm.exec) {a b : Int64} {o : Int} (hd : decode c.code pc = .ok (.ifCond .ne o, 3)) (hp : pc + 3 = q) (ho : 0 ≤ (pc : Int) + o) (hq : ((pc : Int) + o).toNat = q') (KY : ¬ a = b → Go p e below s Q ce sl T (mkF m q' ls st)) (KN : a = b → Go p e below s Q ce sl T (mkF m q ls st)) : Go p e below s Q ce sl T (mkF m pc ls (.int (lcmpW a b) :: st)) :=
  go_if_ne X hx hd hp ho hq (fun w => KY (fun z => w ((lw_eq _ _).mpr z))) (fun w => KN ((lw_eq _ _).mp w))
theorem go_ret (X : Stand p l e R s m args below meth c T locs cells slots) (hx : p.tables.exec = Jvm.exec) {w : Value} {t : FieldType} {i : Instr} (hret : meth.sig.returnType = some t) (hlk : meth.locks = false) (hn : narrow t w = w)
    (hi : (i = .ireturn ∧ (t = .int ∨ t = .boolean ∨ t = .byte ∨ t = .char ∨ t = .short) ∧ ∃ z, w = .int z) ∨ (i = .lreturn ∧ t = .long ∧ ∃ z, w = .long z) ∨ (i = .dreturn ∧ t = .double ∧ ∃ z, w = .double z) ∨ (i = .freturn ∧ t = .float ∧ ∃ z, w = .float z) ∨ (i = .areturn ∧ t.isReference = true ∧ w.isRef = true))
    (hd : decode c.code pc = .ok (i, 1)) (hc : cells ≤ ce) (hs : slots ≤ sl) (hQ : Q (some w) T.heap locs) : Go p e below s Q ce sl T (mkF m pc ls (w :: st)) := by
  obtain ⟨fs, hr, hrun, hended, hW, hsame⟩ := X.leave (v := some w) (fun h => by rw [hret] at h; cases h) hlk
  exact ⟨_, _, retOut X hx hret hn hi hd hr, hrun, hended, _, _, rfl, hQ, ⟨_, rfl⟩, hW, hsame.mono hc hs⟩
theorem go_retD (X : Stand p l e R s m args below meth c T locs cells slots) (hx : p.tables.exec = Jvm.exec) {v : UInt64} (hret : meth.sig.returnType = some .double) (hlk : meth.locks = false) (hd : decode c.code pc = .ok (.dreturn, 1)) (hc : cells ≤ ce) (hs : slots ≤ sl) (hQ : Q (some (.double v)) T.heap locs) : Go p e below s Q ce sl T (mkF m pc ls (.double v :: st)) :=
  go_ret X hx hret hlk rfl (Or.inr (Or.inr (Or.inl ⟨rfl, rfl, v, rfl⟩))) hd hc hs hQ
theorem go_retJ (X : Stand p l e R s m args below meth c T locs cells slots) (hx : p.tables.exec = Jvm.exec) {v : Int64} (hret : meth.sig.returnType = some .long) (hlk : meth.locks = false) (hd : decode c.code pc = .ok (.lreturn, 1)) (hc : cells ≤ ce) (hs : slots ≤ sl) (hQ : Q (some (.long v)) T.heap locs) : Go p e below s Q ce sl T (mkF m pc ls (.long v :: st)) :=
  go_ret X hx hret hlk rfl (Or.inr (Or.inl ⟨rfl, rfl, v, rfl⟩)) hd hc hs hQ
theorem go_retI (X : Stand p l e R s m args below meth c T locs cells slots) (hx : p.tables.exec = Jvm.exec) {v : Int32} (hret : meth.sig.returnType = some .int) (hlk : meth.locks = false) (hd : decode c.code pc = .ok (.ireturn, 1)) (hc : cells ≤ ce) (hs : slots ≤ sl) (hQ : Q (some (.int v)) T.heap locs) : Go p e below s Q ce sl T (mkF m pc ls (.int v :: st)) :=
  go_ret X hx hret hlk rfl (Or.inl ⟨rfl, Or.inl rfl, v, rfl⟩) hd hc hs hQ
theorem go_retA (X : Stand p l e R s m args below meth c T locs cells slots) (hx : p.tables.exec = Jvm.exec) {v : Value} {t : FieldType} (hret : meth.sig.returnType = some t) (hlk : meth.locks = false) (ht : t.isReference = true) (hv : v.isRef = true) (hn : narrow t v = v) (hd : decode c.code pc = .ok (.areturn, 1)) (hc : cells ≤ ce) (hs : slots ≤ sl) (hQ : Q (some v) T.heap locs) : Go p e below s Q ce sl T (mkF m pc ls (v :: st)) :=
  go_ret X hx hret hlk hn (Or.inr (Or.inr (Or.inr (Or.inr ⟨rfl, ht, hv⟩)))) hd hc hs hQ
theorem go_retN (X : Stand p l e R s m args below meth c T locs cells slots) (hx : p.tables.exec = Jvm.exec) {z : Int32} {t : FieldType} (ht : t = .boolean ∨ t = .byte ∨ t = .char ∨ t = .short) (hret : meth.sig.returnType = some t) (hlk : meth.locks = false) (hd : decode c.code pc = .ok (.ireturn, 1)) (hc : cells ≤ ce) (hs : slots ≤ sl) (hQ : Q (some (.int (nar t z))) T.heap locs) : Go p e below s Q ce sl T (mkF m pc ls (.int z :: st)) := by
  obtain ⟨fs, hr, hrun, hended, hW, hsame⟩ := X.leave (v := some (.int (nar t z))) (fun h => by rw [hret] at h; cases h) hlk
  exact ⟨_, _, retN X hx hret ht hd hr, hrun, hended, _, _, rfl, hQ, ⟨_, rfl⟩, hW, hsame.mono hc hs⟩
theorem go_retV (X : Stand p l e R s m args below meth c T locs cells slots) (hx : p.tables.exec = Jvm.exec) (hret : meth.sig.returnType = none) (hlk : meth.locks = false) (hd : decode c.code pc = .ok (.return_, 1)) (hc : cells ≤ ce) (hs : slots ≤ sl) (hQ : Q none T.heap locs) : Go p e below s Q ce sl T (mkF m pc ls []) := by
  obtain ⟨fs, hr, hrun, hended, hW, hsame⟩ := X.leave (v := none) (fun _ => rfl) hlk
  exact ⟨_, _, X.returnOut hx hret hd hr, hrun, hended, _, _, rfl, hQ, ⟨_, rfl⟩, hW, hsame.mono hc hs⟩
theorem go_ldcI (X : Stand p l e R s m args below meth c T locs cells slots) (hx : p.tables.exec = Jvm.exec) (hZ : Z.Warmed39 s.vm) {own : String} {index : Nat} {v : Int32} (hown : s.vm.findClass own = some m.cls) (w : (Jvm.Cond.constant own index v).before a0 Z = true) (hd : decode c.code pc = .ok (.ldc index, 2)) (hp : pc + 2 = q) (K : Go p e below s Q ce sl T (mkF m q ls (.int v :: st))) : Go p e below s Q ce sl T (mkF m pc ls st) := by
  subst hp
  exact K.to fun t r => X.ldcInt hx hown (mvT hZ w) (g := mkF m pc ls st) rfl hd t r
theorem go_ldc2J (X : Stand p l e R s m args below meth c T locs cells slots) (hx : p.tables.exec = Jvm.exec) (hZ : Z.Warmed39 s.vm) {own : String} {index : Nat} {v : Int64} (hown : s.vm.findClass own = some m.cls) (w : (Jvm.Cond.constantLong own index v).before a0 Z = true) (hd : decode c.code pc = .ok (.ldc2_w index, 3)) (hp : pc + 3 = q) (K : Go p e below s Q ce sl T (mkF m q ls (.long v :: st))) : Go p e below s Q ce sl T (mkF m pc ls st) := by
  subst hp
  exact K.to fun t r => X.ldc2Long hx hown (mvT hZ w) (g := mkF m pc ls st) rfl hd t r
theorem go_ldc2D (X : Stand p l e R s m args below meth c T locs cells slots) (hx : p.tables.exec = Jvm.exec) (hZ : Z.Warmed39 s.vm) {own : String} {index : Nat} {v : UInt64} (hown : s.vm.findClass own = some m.cls) (w : (Jvm.Cond.constantDouble own index v).before a0 Z = true) (hd : decode c.code pc = .ok (.ldc2_w index, 3)) (hp : pc + 3 = q) (K : Go p e below s Q ce sl T (mkF m q ls (.double v :: st))) : Go p e below s Q ce sl T (mkF m pc ls st) := by
  subst hp
  exact K.to fun t r => X.ldc2DoubleC hx hown (mvT hZ w) (g := mkF m pc ls st) rfl hd t r
theorem go_callS (X : Stand p l e R s m args below meth c T locs cells slots) (hx : p.tables.exec = Jvm.exec) (hZ : Z.Warmed39 s.vm) {own : String} {index : Nat} {y : MethodName} {bytes : ByteArray} {maxL : Nat} {ret : Option FieldType} {rm : Room} {W : Nat} {Qc : Option Value → Heap → List Loc → Prop} (hown : s.vm.findClass own = some m.cls) (eT : T.heap = h)
    (w1 : (Jvm.Cond.methodLink own index y).before a0 Z = true) (w2 : (Jvm.Cond.static y).before a0 Z = true) (w3 : (Jvm.Cond.initialized y.cls).before a0 Z = true) (w4 : (Jvm.Cond.code y bytes maxL ret).before a0 Z = true) (hy : y.cls ≠ "java/lang/invoke/MethodHandle" ∧ y.cls ≠ "java/lang/invoke/VarHandle")
    (argsL rest : List Value) (hM : Con l y bytes maxL ret [] rm Z argsL.toArray h Qc) (hsz : ls.size = c.maxLocals) (hst : st = argsL.reverse ++ rest) (hlen : ∀ sig, parseMethodDescriptor y.desc = some sig → argsL.length = sig.parameters.length) (hW : (rest.map fun v => v.category).sum ≤ W)
    (hf : rm.frames + 1 ≤ R.frames) (hl : W + (maxL + 11) + rm.locals ≤ R.locals) (hd : decode c.code pc = .ok (.invokestatic index, 3)) (hp : pc + 3 = q) (hc : cells + rm.cells ≤ R.cells) (hs : slots + rm.slots ≤ R.slots)
    (K : ∀ (T' : State) (L : List Loc) (v : Option Value), Stand p l e R s m args below meth c T' (locs ++ L) (cells + rm.cells) (slots + rm.slots) → Qc v T'.heap L → Go p e below s Q ce sl T' (mkF m q ls (v.toList ++ rest))) : Go p e below s Q ce sl T (mkF m pc ls st) := by
  subst hp
  obtain ⟨v, _, ⟨T', L', k', n'⟩, -, X', ⟨Lc, hQ, l1, y1, z1⟩, stp⟩ := Jvm.LawKit.callS X hx (y := y) hown (mvT hZ w1) (mvT hZ w2) (mvT hZ w3) (mvT hZ w4) hy (backOf (W := W) hM hZ w4 w3 hf hl) (g := mkF m pc ls st) rfl hsz (argsL := argsL) (rest := rest) hlen hst (by show 2 * 0 + _ ≤ _; omega) hd (fun _ _ => ⟨rfl, eT, hc, hs⟩)
  dsimp only [Pt.U, Pt.locs, Pt.cells, Pt.slots] at X' l1 y1 z1 stp hQ
  subst l1 y1 z1
  exact (K T' Lc v X' hQ).to fun t r => stp t r
theorem go_callI (X : Stand p l e R s m args below meth c T locs cells slots) (hx : p.tables.exec = Jvm.exec) (hZ : Z.Warmed39 s.vm) {own : String} {index : Nat} {y : MethodName} {bytes : ByteArray} {maxL : Nat} {rm : Room} {W : Nat} {Qc : Option Value → Heap → List Loc → Prop} (hown : s.vm.findClass own = some m.cls) (eT : T.heap = h) (hy1 : y.name = "<init>")
    (w1 : (Jvm.Cond.methodLink own index y).before a0 Z = true) (w2 : (Jvm.Cond.instanceMethod y).before a0 Z = true) (w3 : (Jvm.Cond.initialized y.cls).before a0 Z = true) (w4 : (Jvm.Cond.code y bytes maxL none).before a0 Z = true) (hy : y.cls ≠ "java/lang/invoke/MethodHandle" ∧ y.cls ≠ "java/lang/invoke/VarHandle")
    (a : Addr) (argsL rest : List Value) (hM : Con l y bytes maxL none [] rm Z (.ref a :: argsL).toArray h Qc) (hsz : ls.size = c.maxLocals) (hst : st = argsL.reverse ++ .ref a :: rest) (hlen : ∀ sig, parseMethodDescriptor y.desc = some sig → argsL.length = sig.parameters.length) (hW : (rest.map fun v => v.category).sum ≤ W)
    (hf : rm.frames + 1 ≤ R.frames) (hl : W + (maxL + 11) + rm.locals ≤ R.locals) (hd : decode c.code pc = .ok (.invokespecial index, 3)) (hp : pc + 3 = q) (hc : cells + rm.cells ≤ R.cells) (hs : slots + rm.slots ≤ R.slots)
    (K : ∀ (T' : State) (L : List Loc) (v : Option Value), Stand p l e R s m args below meth c T' (locs ++ L) (cells + rm.cells) (slots + rm.slots) → Qc v T'.heap L → Go p e below s Q ce sl T' (mkF m q ls (v.toList ++ rest))) : Go p e below s Q ce sl T (mkF m pc ls st) := by
  subst hp
  obtain ⟨v, _, ⟨T', L', k', n'⟩, -, X', ⟨Lc, hQ, l1, y1, z1⟩, stp⟩ := X.specialBack hx (y := y) hy1 hown (mvT hZ w1) (mvT hZ w2) (mvT hZ w4) hy (backOf (W := W) hM hZ w4 w3 hf hl) (g := mkF m pc ls st) rfl hsz (Steps.refl _) (a := a) (argsL := argsL) (rest := rest) hlen hst (by show 2 * 0 + _ ≤ _; omega) hd (fun _ _ => ⟨rfl, eT, hc, hs⟩)
  dsimp only [Pt.U, Pt.locs, Pt.cells, Pt.slots] at X' l1 y1 z1 stp hQ
  subst l1 y1 z1
  exact (K T' Lc v X' hQ).to fun t r => stp.trans r
theorem go_callV (X : Stand p l e R s m args below meth c T locs cells slots) (hx : p.tables.exec = Jvm.exec) (hZ : Z.Warmed39 s.vm) {own C : String} {index : Nat} {y : MethodName} {bytes : ByteArray} {maxL : Nat} {ret : Option FieldType} {rm : Room} {W : Nat} {Qc : Option Value → Heap → List Loc → Prop} {z : MethodName} (hown : s.vm.findClass own = some m.cls) (eT : T.heap = h)
    (w1 : (Jvm.Cond.methodLink own index y).before a0 Z = true) (w2 : (Jvm.Cond.declares y).before a0 Z = true) (hnf : NotFace s y) (w3 : (Jvm.Cond.selects C y z).before a0 Z = true) (w5 : (Jvm.Cond.instanceMethod z).before a0 Z = true) (w6 : (Jvm.Cond.initialized z.cls).before a0 Z = true) (w4 : (Jvm.Cond.code z bytes maxL ret).before a0 Z = true) (hy : y.cls ≠ "java/lang/invoke/MethodHandle" ∧ y.cls ≠ "java/lang/invoke/VarHandle")
    (a : Addr) (argsL rest : List Value) (E : Exa Z h a C) (hM : Con l z bytes maxL ret [] rm Z (.ref a :: argsL).toArray h Qc) (hsz : ls.size = c.maxLocals) (hst : st = argsL.reverse ++ .ref a :: rest) (hlen : ∀ sig, parseMethodDescriptor y.desc = some sig → argsL.length = sig.parameters.length) (hW : (rest.map fun v => v.category).sum ≤ W)
    (hf : rm.frames + 1 ≤ R.frames) (hl : W + (maxL + 11) + rm.locals ≤ R.locals) (hd : decode c.code pc = .ok (.invokevirtual index, 3)) (hp : pc + 3 = q) (hc : cells + rm.cells ≤ R.cells) (hs : slots + rm.slots ≤ R.slots)
    (K : ∀ (T' : State) (L : List Loc) (v : Option Value), Stand p l e R s m args below meth c T' (locs ++ L) (cells + rm.cells) (slots + rm.slots) → Qc v T'.heap L → Go p e below s Q ce sl T' (mkF m q ls (v.toList ++ rest))) : Go p e below s Q ce sl T (mkF m pc ls st) := by
  subst hp
  obtain ⟨cq, kq, qa, qb, qc⟩ := isOf hZ eT E
  obtain ⟨v, _, ⟨T', L', k', n'⟩, -, X', ⟨Lc, hQ, l1, y1, z1⟩, stp⟩ := X.virtualBack hx (y := y) (z := z) hown (mvT hZ w1) (mvT hZ w2) hnf (mvT hZ w3) (mvT hZ w5) hy (backOf (W := W) hM hZ w4 w6 hf hl) qa qc (g := mkF m pc ls st) rfl hsz (Steps.refl _) (argsL := argsL) (rest := rest) hlen hst (by show 2 * 0 + _ ≤ _; omega) hd (fun _ _ => ⟨rfl, eT, hc, hs⟩)
  dsimp only [Pt.U, Pt.locs, Pt.cells, Pt.slots] at X' l1 y1 z1 stp hQ
  subst l1 y1 z1
  exact (K T' Lc v X' hQ).to fun t r => stp.trans r
end OwnWalk

section OwnHeap
variable {p : Program} {l : Launch} {e : Env} {R : Room} {s : State} {m : MethodId} {args : Array Value} {below : List Frame} {meth : Method} {c : Code} {T : State} {locs : List Loc} {cells slots : Nat} {Z : State} {h : Heap} {Q : Option Value → Heap → List Loc → Prop} {ce sl : Nat} {pc q q' : Nat} {ls : Array Slot} {st : List Value} {a0 : Array Value} {n0 : Nat} {a : Addr}
theorem go_getS (X : Stand p l e R s m args below meth c T locs cells slots) (hx : p.tables.exec = Jvm.exec) (hZ : Z.Warmed39 s.vm) {own R0 O n d host : String} {index : Nat} (hown : s.vm.findClass own = some m.cls) (w : (Jvm.Cond.fieldLink own index R0 n d).before a0 Z = true ∨ (Jvm.Cond.fieldLinkNest own index R0 n d host).before a0 Z = true) (via : Via Z R0 O n d) (eT : T.heap = h) {v : Value} (F : Sta Z h O n d v) (hd : decode c.code pc = .ok (.getstatic index, 3)) (hp : pc + 3 = q) (K : ∀ T', Stand p l e R s m args below meth c T' locs cells slots → T'.heap = h → Go p e below s Q ce sl T' (mkF m q ls (v :: st))) : Go p e below s Q ce sl T (mkF m pc ls st) := by
  subst hp
  obtain ⟨T', X', e', st'⟩ := getS2 X hx hZ hown w via eT F (g := mkF m pc ls st) rfl hd
  exact (K T' X' e').to fun t r => st' t r
theorem go_getF (X : Stand p l e R s m args below meth c T locs cells slots) (hx : p.tables.exec = Jvm.exec) (hZ : Z.Warmed39 s.vm) {own R0 O n d host : String} {index : Nat} (hown : s.vm.findClass own = some m.cls) (w : (Jvm.Cond.fieldLink own index R0 n d).before a0 Z = true ∨ (Jvm.Cond.fieldLinkNest own index R0 n d host).before a0 Z = true) (via : Via Z R0 O n d) (eT : T.heap = h) {v : Value} (F : Fld Z h a O n d v) (hd : decode c.code pc = .ok (.getfield index, 3)) (hp : pc + 3 = q) (K : ∀ T', Stand p l e R s m args below meth c T' locs cells slots → T'.heap = h → Go p e below s Q ce sl T' (mkF m q ls (v :: st))) : Go p e below s Q ce sl T (mkF m pc ls (.ref a :: st)) := by
  subst hp
  obtain ⟨T', X', e', st'⟩ := getF X hx hZ hown w via eT F (g := mkF m pc ls (.ref a :: st)) rfl rfl hd
  exact (K T' X' e').to fun t r => st' t r
theorem go_putF (X : Stand p l e R s m args below meth c T locs cells slots) (hx : p.tables.exec = Jvm.exec) (hZ : Z.Warmed39 s.vm) {own R0 O n d host : String} {index : Nat} (hown : s.vm.findClass own = some m.cls) (w : (Jvm.Cond.fieldLink own index R0 n d).before a0 Z = true ∨ (Jvm.Cond.fieldLinkNest own index R0 n d host).before a0 Z = true) (via : Via Z R0 O n d) (eT : T.heap = h) {C : String} {kk : Nat} {ty : FieldType} {v old : Value} (F : Fld Z h a O n d old) (E : Exa Z h a C) (L : (Jvm.Cond.lays C O n d).before a0 Z = true ∨ ((Jvm.Cond.laysFinal C O n d).before a0 Z = true ∧ own = O ∧ meth.name = "<init>")) (wi : (Jvm.Cond.instantiable C kk).before a0 Z = true) (hty : parseFieldDescriptor d = some ty) (hn : narrow ty v = v) (hf : fits ty v = true) (N : Fr n0 locs) (ha : n0 ≤ a) (hd : decode c.code pc = .ok (.putfield index, 3)) (hp : pc + 3 = q)
    (K : ∀ T' h' locs', Stand p l e R s m args below meth c T' locs' cells slots → Fr n0 locs' → T'.heap = h' → Wr h h' a (Jvm.RoadKit.slotOf Z O n d) v → Go p e below s Q ce sl T' (mkF m q ls st)) : Go p e below s Q ce sl T (mkF m pc ls (v :: .ref a :: st)) := by
  subst hp
  obtain ⟨T', h', X', e', W', st'⟩ := putF X hx hZ hown w via eT F E L wi hty hn hf (g := mkF m pc ls (v :: .ref a :: st)) rfl rfl hd
  exact (K T' h' _ X' (Fr.snoc X' N ha) e' W').to fun t r => st' t r
theorem go_newO (X : Stand p l e R s m args below meth c T locs cells slots) (hx : p.tables.exec = Jvm.exec) (hZ : Z.Warmed39 s.vm) {own C : String} {index n : Nat} (hown : s.vm.findClass own = some m.cls) (w : (Jvm.Cond.classLink own index C).before a0 Z = true) (wi : (Jvm.Cond.instantiable C n).before a0 Z = true) (wz : (Jvm.Cond.initialized C).before a0 Z = true) (eT : T.heap = h) (hd : decode c.code pc = .ok (.new index, 3)) (hp : pc + 3 = q) (hc : cells + 1 ≤ R.cells) (hl : slots + n ≤ R.slots)
    (K : ∀ T' h' b, b = h.size → Stand p l e R s m args below meth c T' locs (cells + 1) (slots + n) → T'.heap = h' → Ext h h' → Exa Z h' b C → (∀ {O nm d : String} {ty : FieldType}, Laid Z a0 C O nm d → parseFieldDescriptor d = some ty → Fld Z h' b O nm d (defaultValue ty)) → Go p e below s Q ce sl T' (mkF m q ls (.ref b :: st))) : Go p e below s Q ce sl T (mkF m pc ls st) := by
  subst hp
  obtain ⟨T', h', X', e', E', A', D', -, st'⟩ := newO X hx hZ hown w wi wz eT (g := mkF m pc ls st) rfl hd hc hl
  exact (K T' h' _ rfl X' e' E' A' D').to fun t r => st' t r
theorem go_newP (X : Stand p l e R s m args below meth c T locs cells slots) (hx : p.tables.exec = Jvm.exec) (hZ : Z.Warmed39 s.vm) {aty : ArrayType} (w : (Jvm.Cond.arrayClass (newarray.typeOf aty)).before a0 Z = true) (eT : T.heap = h) (hd : decode c.code pc = .ok (.newarray aty, 2)) (hp : pc + 2 = q) {n : Int32} (hn : ¬ n < 0) (cap : Nat) (hcap : n.toNatClampNeg ≤ cap) (hb : cap * 8 ≤ 536870912) (hc : cells + 1 ≤ R.cells) (hl : slots + cap ≤ R.slots)
    (K : ∀ T' h' kc b, b = h.size → Stand p l e R s m args below meth c T' locs (cells + 1) (slots + cap) → T'.heap = h' → Ext h h' → Arv Z h' b kc (newarray.typeOf aty) n [] (defaultValue (newarray.typeOf aty)) → Go p e below s Q ce sl T' (mkF m q ls (.ref b :: st))) : Go p e below s Q ce sl T (mkF m pc ls (.int n :: st)) := by
  subst hp
  obtain ⟨T', h', kc, X', e', E', A', st'⟩ := newP X hx hZ w eT (g := mkF m pc ls (.int n :: st)) rfl hd rfl hn (cap := cap) hcap hb hc hl
  exact (K T' h' kc _ rfl X' e' E' (Arv.new A' hn)).to fun t r => st' t r
theorem go_initO (X : Stand p l e R s m args below meth c T locs cells slots) (hx : p.tables.exec = Jvm.exec) (hZ : Z.Warmed39 s.vm) {own : String} {index W : Nat} (hown : s.vm.findClass own = some m.cls) (w1 : (Jvm.Cond.methodLink own index Lib.objectInit).before a0 Z = true) (w2 : (Jvm.Cond.instanceMethod Lib.objectInit).before a0 Z = true) (w3 : (Jvm.Cond.code Lib.objectInit ⟨#[0xb1]⟩ 1 none).before a0 Z = true) (eT : T.heap = h) (hsz : ls.size = c.maxLocals) (hd : decode c.code pc = .ok (.invokespecial index, 3)) (hp : pc + 3 = q) (hf : 1 ≤ R.frames) (hW : (st.map fun v => v.category).sum ≤ W) (hl : W + 12 ≤ R.locals) (K : ∀ T', Stand p l e R s m args below meth c T' locs cells slots → T'.heap = h → Go p e below s Q ce sl T' (mkF m q ls st)) : Go p e below s Q ce sl T (mkF m pc ls (.ref a :: st)) := by
  subst hp
  obtain ⟨T', X', e', st'⟩ := initO X hx hZ hown w1 w2 w3 eT (g := mkF m pc ls (.ref a :: st)) rfl hsz rfl hd hf (W := W) (by show 2 * 0 + _ ≤ _; omega) hl
  exact (K T' X' e').to fun t r => st' t r
theorem go_iaload (X : Stand p l e R s m args below meth c T locs cells slots) (hx : p.tables.exec = Jvm.exec) (hZ : Z.Warmed39 s.vm) (eT : T.heap = h) {k : ClassId} {z j : Int32} {vs : List Value} {dv : Value} {v : Value} (F : Arv Z h a k .int z vs dv) (hj : ¬ j < 0 ∧ j < z) (hv : vs.getD j.toNatClampNeg dv = v) (hd : decode c.code pc = .ok (.iaload, 1)) (hp : pc + 1 = q) (K : Go p e below s Q ce sl T (mkF m q ls (v :: st))) : Go p e below s Q ce sl T (mkF m pc ls (.int j :: .ref a :: st)) := by
  subst hp
  obtain ⟨cl, A, -, S, -, H, -⟩ := F
  exact K.to fun t r => X.iaload hx (by rw [eT]; exact A.1) (State.isArrayOf_alike hZ.alike A.2.1) A.2.2 (inb_of S hj) (H.at (inb_of S hj) hv) (g := mkF m pc ls (.int j :: .ref a :: st)) rfl rfl hd t r
theorem go_daload (X : Stand p l e R s m args below meth c T locs cells slots) (hx : p.tables.exec = Jvm.exec) (hZ : Z.Warmed39 s.vm) (eT : T.heap = h) {k : ClassId} {z j : Int32} {vs : List Value} {dv : Value} {v : Value} (F : Arv Z h a k .double z vs dv) (hj : ¬ j < 0 ∧ j < z) (hv : vs.getD j.toNatClampNeg dv = v) (hd : decode c.code pc = .ok (.daload, 1)) (hp : pc + 1 = q) (K : Go p e below s Q ce sl T (mkF m q ls (v :: st))) : Go p e below s Q ce sl T (mkF m pc ls (.int j :: .ref a :: st)) := by
  subst hp
  obtain ⟨cl, A, -, S, -, H, -⟩ := F
  exact K.to fun t r => X.daload hx (by rw [eT]; exact A.1) (State.isArrayOf_alike hZ.alike A.2.1) A.2.2 (inb_of S hj) (H.at (inb_of S hj) hv) (g := mkF m pc ls (.int j :: .ref a :: st)) rfl rfl hd t r
theorem go_faload (X : Stand p l e R s m args below meth c T locs cells slots) (hx : p.tables.exec = Jvm.exec) (hZ : Z.Warmed39 s.vm) (eT : T.heap = h) {k : ClassId} {z j : Int32} {vs : List Value} {dv : Value} {v : Value} (F : Arv Z h a k .float z vs dv) (hj : ¬ j < 0 ∧ j < z) (hv : vs.getD j.toNatClampNeg dv = v) (hd : decode c.code pc = .ok (.faload, 1)) (hp : pc + 1 = q) (K : Go p e below s Q ce sl T (mkF m q ls (v :: st))) : Go p e below s Q ce sl T (mkF m pc ls (.int j :: .ref a :: st)) := by
  subst hp
  obtain ⟨cl, A, -, S, -, H, -⟩ := F
  exact K.to fun t r => X.faload hx (by rw [eT]; exact A.1) (State.isArrayOf_alike hZ.alike A.2.1) A.2.2 (inb_of S hj) (H.at (inb_of S hj) hv) (g := mkF m pc ls (.int j :: .ref a :: st)) rfl rfl hd t r
theorem go_baload (X : Stand p l e R s m args below meth c T locs cells slots) (hx : p.tables.exec = Jvm.exec) (hZ : Z.Warmed39 s.vm) (eT : T.heap = h) {k : ClassId} {z j : Int32} {vs : List Value} {dv : Value} {v : Value} (F : Arv Z h a k .boolean z vs dv) (hj : ¬ j < 0 ∧ j < z) (hv : vs.getD j.toNatClampNeg dv = v) (hd : decode c.code pc = .ok (.baload, 1)) (hp : pc + 1 = q) (K : Go p e below s Q ce sl T (mkF m q ls (v :: st))) : Go p e below s Q ce sl T (mkF m pc ls (.int j :: .ref a :: st)) := by
  subst hp
  obtain ⟨cl, A, -, S, -, H, -⟩ := F
  exact K.to fun t r => X.baloadBooleans hx (by rw [eT]; exact A.1) (State.isArrayOf_alike hZ.alike A.2.1) A.2.2 (inb_of S hj) (H.at (inb_of S hj) hv) (g := mkF m pc ls (.int j :: .ref a :: st)) rfl rfl hd t r
theorem go_baloadB (X : Stand p l e R s m args below meth c T locs cells slots) (hx : p.tables.exec = Jvm.exec) (hZ : Z.Warmed39 s.vm) (eT : T.heap = h) {k : ClassId} {z j : Int32} {vs : List Value} {dv : Value} {v : Value} (F : Arv Z h a k .byte z vs dv) (hj : ¬ j < 0 ∧ j < z) (hv : vs.getD j.toNatClampNeg dv = v) (hd : decode c.code pc = .ok (.baload, 1)) (hp : pc + 1 = q) (K : Go p e below s Q ce sl T (mkF m q ls (v :: st))) : Go p e below s Q ce sl T (mkF m pc ls (.int j :: .ref a :: st)) := by
  subst hp
  obtain ⟨cl, A, -, S, -, H, -⟩ := F
  exact K.to fun t r => X.baloadBytes hx (by rw [eT]; exact A.1) (State.isArrayOf_alike hZ.alike A.2.1) A.2.2 (inb_of S hj) (H.at (inb_of S hj) hv) (g := mkF m pc ls (.int j :: .ref a :: st)) rfl rfl hd t r
theorem go_caload (X : Stand p l e R s m args below meth c T locs cells slots) (hx : p.tables.exec = Jvm.exec) (hZ : Z.Warmed39 s.vm) (eT : T.heap = h) {k : ClassId} {z j : Int32} {vs : List Value} {dv : Value} {v : Value} (F : Arv Z h a k .char z vs dv) (hj : ¬ j < 0 ∧ j < z) (hv : vs.getD j.toNatClampNeg dv = v) (hd : decode c.code pc = .ok (.caload, 1)) (hp : pc + 1 = q) (K : Go p e below s Q ce sl T (mkF m q ls (v :: st))) : Go p e below s Q ce sl T (mkF m pc ls (.int j :: .ref a :: st)) := by
  subst hp
  obtain ⟨cl, A, -, S, -, H, -⟩ := F
  exact K.to fun t r => X.caload hx (by rw [eT]; exact A.1) (State.isArrayOf_alike hZ.alike A.2.1) A.2.2 (inb_of S hj) (H.at (inb_of S hj) hv) (g := mkF m pc ls (.int j :: .ref a :: st)) rfl rfl hd t r
theorem go_alen (X : Stand p l e R s m args below meth c T locs cells slots) (hx : p.tables.exec = Jvm.exec) (hZ : Z.Warmed39 s.vm) (eT : T.heap = h) {k : ClassId} {z : Int32} {vs : List Value} {dv : Value} {ty : FieldType} (F : Arv Z h a k ty z vs dv) (hd : decode c.code pc = .ok (.arraylength, 1)) (hp : pc + 1 = q) (K : Go p e below s Q ce sl T (mkF m q ls (.int z :: st))) : Go p e below s Q ce sl T (mkF m pc ls (.ref a :: st)) := by
  subst hp
  obtain ⟨cl, A, -, S, N, -, -⟩ := F
  exact K.to fun t r => X.arraylength hx (by rw [eT]; exact A.1) (State.isArrayOf_alike hZ.alike A.2.1) (g := mkF m pc ls (.ref a :: st)) rfl rfl hd t (by rw [len_of S N]; exact r)
theorem go_iastore (X : Stand p l e R s m args below meth c T locs cells slots) (hx : p.tables.exec = Jvm.exec) (hZ : Z.Warmed39 s.vm) (eT : T.heap = h) {k : ClassId} {z j : Int32} {vs : List Value} {dv : Value} {x : Int32} (F : Arv Z h a k .int z vs dv) (hj : ¬ j < 0 ∧ j < z) (i : Nat) (hi : j.toNatClampNeg = i) (hl : i < vs.length) (N : Fr n0 locs) (ha : n0 ≤ a) (hd : decode c.code pc = .ok (.iastore, 1)) (hp : pc + 1 = q)
    (K : ∀ T' h' locs', Stand p l e R s m args below meth c T' locs' cells slots → Fr n0 locs' → T'.heap = h' → Wr h h' a j.toNatClampNeg (.int x) → Arv Z h' a k .int z (vs.set i (.int x)) dv → Go p e below s Q ce sl T' (mkF m q ls st)) : Go p e below s Q ce sl T (mkF m pc ls ((.int x) :: .int j :: .ref a :: st)) := by
  subst hp
  obtain ⟨cl, A, q1, S, q3, H, G⟩ := F
  obtain ⟨T', h', X', e', W', st'⟩ := stI X hx hZ eT A (inb_of S hj) (g := mkF m pc ls ((.int x) :: .int j :: .ref a :: st)) rfl rfl hd
  exact (K T' h' _ X' (Fr.snoc X' N ha) e' W' (Arv.set A q1 S q3 H G rfl W' i hi hl)).to fun t r => st' t r
theorem go_dastore (X : Stand p l e R s m args below meth c T locs cells slots) (hx : p.tables.exec = Jvm.exec) (hZ : Z.Warmed39 s.vm) (eT : T.heap = h) {k : ClassId} {z j : Int32} {vs : List Value} {dv : Value} {x : UInt64} (F : Arv Z h a k .double z vs dv) (hj : ¬ j < 0 ∧ j < z) (i : Nat) (hi : j.toNatClampNeg = i) (hl : i < vs.length) (N : Fr n0 locs) (ha : n0 ≤ a) (hd : decode c.code pc = .ok (.dastore, 1)) (hp : pc + 1 = q)
    (K : ∀ T' h' locs', Stand p l e R s m args below meth c T' locs' cells slots → Fr n0 locs' → T'.heap = h' → Wr h h' a j.toNatClampNeg (.double x) → Arv Z h' a k .double z (vs.set i (.double x)) dv → Go p e below s Q ce sl T' (mkF m q ls st)) : Go p e below s Q ce sl T (mkF m pc ls ((.double x) :: .int j :: .ref a :: st)) := by
  subst hp
  obtain ⟨cl, A, q1, S, q3, H, G⟩ := F
  obtain ⟨T', h', X', e', W', st'⟩ := stD X hx hZ eT A (inb_of S hj) (g := mkF m pc ls ((.double x) :: .int j :: .ref a :: st)) rfl rfl hd
  exact (K T' h' _ X' (Fr.snoc X' N ha) e' W' (Arv.set A q1 S q3 H G rfl W' i hi hl)).to fun t r => st' t r
theorem go_fastore (X : Stand p l e R s m args below meth c T locs cells slots) (hx : p.tables.exec = Jvm.exec) (hZ : Z.Warmed39 s.vm) (eT : T.heap = h) {k : ClassId} {z j : Int32} {vs : List Value} {dv : Value} {x : UInt32} (F : Arv Z h a k .float z vs dv) (hj : ¬ j < 0 ∧ j < z) (i : Nat) (hi : j.toNatClampNeg = i) (hl : i < vs.length) (N : Fr n0 locs) (ha : n0 ≤ a) (hd : decode c.code pc = .ok (.fastore, 1)) (hp : pc + 1 = q)
    (K : ∀ T' h' locs', Stand p l e R s m args below meth c T' locs' cells slots → Fr n0 locs' → T'.heap = h' → Wr h h' a j.toNatClampNeg (.float x) → Arv Z h' a k .float z (vs.set i (.float x)) dv → Go p e below s Q ce sl T' (mkF m q ls st)) : Go p e below s Q ce sl T (mkF m pc ls ((.float x) :: .int j :: .ref a :: st)) := by
  subst hp
  obtain ⟨cl, A, q1, S, q3, H, G⟩ := F
  obtain ⟨T', h', X', e', W', st'⟩ := stF X hx hZ eT A (inb_of S hj) (g := mkF m pc ls ((.float x) :: .int j :: .ref a :: st)) rfl rfl hd
  exact (K T' h' _ X' (Fr.snoc X' N ha) e' W' (Arv.set A q1 S q3 H G rfl W' i hi hl)).to fun t r => st' t r
theorem go_bastore (X : Stand p l e R s m args below meth c T locs cells slots) (hx : p.tables.exec = Jvm.exec) (hZ : Z.Warmed39 s.vm) (eT : T.heap = h) {k : ClassId} {z j : Int32} {vs : List Value} {dv : Value} {x : Int32} (F : Arv Z h a k .boolean z vs dv) (hj : ¬ j < 0 ∧ j < z) (i : Nat) (hi : j.toNatClampNeg = i) (hl : i < vs.length) (N : Fr n0 locs) (ha : n0 ≤ a) (hd : decode c.code pc = .ok (.bastore, 1)) (hp : pc + 1 = q)
    (K : ∀ T' h' locs', Stand p l e R s m args below meth c T' locs' cells slots → Fr n0 locs' → T'.heap = h' → Wr h h' a j.toNatClampNeg (.int (nar .boolean x)) → Arv Z h' a k .boolean z (vs.set i (.int (nar .boolean x))) dv → Go p e below s Q ce sl T' (mkF m q ls st)) : Go p e below s Q ce sl T (mkF m pc ls ((.int x) :: .int j :: .ref a :: st)) := by
  subst hp
  obtain ⟨cl, A, q1, S, q3, H, G⟩ := F
  obtain ⟨T', h', X', e', W', st'⟩ := stZ X hx hZ eT A (inb_of S hj) (g := mkF m pc ls ((.int x) :: .int j :: .ref a :: st)) rfl rfl hd
  exact (K T' h' _ X' (Fr.snoc X' N ha) e' W' (Arv.set A q1 S q3 H G (fits_nar_bool _) W' i hi hl)).to fun t r => st' t r
theorem go_castore (X : Stand p l e R s m args below meth c T locs cells slots) (hx : p.tables.exec = Jvm.exec) (hZ : Z.Warmed39 s.vm) (eT : T.heap = h) {k : ClassId} {z j : Int32} {vs : List Value} {dv : Value} {x : Int32} (F : Arv Z h a k .char z vs dv) (hj : ¬ j < 0 ∧ j < z) (i : Nat) (hi : j.toNatClampNeg = i) (hl : i < vs.length) (N : Fr n0 locs) (ha : n0 ≤ a) (hd : decode c.code pc = .ok (.castore, 1)) (hp : pc + 1 = q)
    (K : ∀ T' h' locs', Stand p l e R s m args below meth c T' locs' cells slots → Fr n0 locs' → T'.heap = h' → Wr h h' a j.toNatClampNeg (.int (nar .char x)) → Arv Z h' a k .char z (vs.set i (.int (nar .char x))) dv → Go p e below s Q ce sl T' (mkF m q ls st)) : Go p e below s Q ce sl T (mkF m pc ls ((.int x) :: .int j :: .ref a :: st)) := by
  subst hp
  obtain ⟨cl, A, q1, S, q3, H, G⟩ := F
  obtain ⟨T', h', X', e', W', st'⟩ := stC X hx hZ eT A (inb_of S hj) (g := mkF m pc ls ((.int x) :: .int j :: .ref a :: st)) rfl rfl hd
  exact (K T' h' _ X' (Fr.snoc X' N ha) e' W' (Arv.set A q1 S q3 H G (fits_nar_char _) W' i hi hl)).to fun t r => st' t r
theorem go_bastoreB (X : Stand p l e R s m args below meth c T locs cells slots) (hx : p.tables.exec = Jvm.exec) (hZ : Z.Warmed39 s.vm) (eT : T.heap = h) {k : ClassId} {z j : Int32} {vs : List Value} {dv : Value} {x : Int32} (F : Arv Z h a k .byte z vs dv) (hj : ¬ j < 0 ∧ j < z) (i : Nat) (hi : j.toNatClampNeg = i) (hl : i < vs.length) (N : Fr n0 locs) (ha : n0 ≤ a) (hd : decode c.code pc = .ok (.bastore, 1)) (hp : pc + 1 = q)
    (K : ∀ T' h' locs', Stand p l e R s m args below meth c T' locs' cells slots → Fr n0 locs' → T'.heap = h' → Wr h h' a j.toNatClampNeg (.int (nar .byte x)) → Arv Z h' a k .byte z (vs.set i (.int (nar .byte x))) dv → Go p e below s Q ce sl T' (mkF m q ls st)) : Go p e below s Q ce sl T (mkF m pc ls ((.int x) :: .int j :: .ref a :: st)) := by
  subst hp
  obtain ⟨cl, A, q1, S, q3, H, G⟩ := F
  obtain ⟨T', h', X', e', W', st'⟩ := stB X hx hZ eT A (inb_of S hj) (g := mkF m pc ls ((.int x) :: .int j :: .ref a :: st)) rfl rfl hd
  exact (K T' h' _ X' (Fr.snoc X' N ha) e' W' (Arv.set A q1 S q3 H G (fits_nar_byte _) W' i hi hl)).to fun t r => st' t r
theorem go_acmp_eq (X : Stand p l e R s m args below meth c T locs cells slots) (hx : p.tables.exec = Jvm.exec) {x y : Value} (h1 : x.isRef = true) (h2 : y.isRef = true) {o : Int} (hd : decode c.code pc = .ok (.if_acmp .eq o, 3)) (hp : pc + 3 = q) (ho : 0 ≤ (pc : Int) + o) (hq : ((pc : Int) + o).toNat = q') (KY : x = y → Go p e below s Q ce sl T (mkF m q' ls st)) (KN : ¬ x = y → Go p e below s Q ce sl T (mkF m q ls st)) : Go p e below s Q ce sl T (mkF m pc ls (y :: x :: st)) := by
  subst hp hq
  by_cases w : x = y
  · exact (KY w).to fun t r => Jvm.RoadKit.acmp (g := mkF m pc ls (y :: x :: st)) X hx rfl h1 h2 (pc0 := pc) (same := true) rfl hd rfl (decide_eq_true w) ho rfl r
  · exact (KN w).to fun t r => Jvm.RoadKit.acmp (g := mkF m pc ls (y :: x :: st)) X hx rfl h1 h2 (pc0 := pc) (same := false) rfl hd rfl (decide_eq_false w) ho rfl r
theorem go_acmp_ne (X : Stand p l e R s m args below meth c T locs cells slots) (hx : p.tables.exec = Jvm.exec) {x y : Value} (h1 : x.isRef = true) (h2 : y.isRef = true) {o : Int} (hd : decode c.code pc = .ok (.if_acmp .ne o, 3)) (hp : pc + 3 = q) (ho : 0 ≤ (pc : Int) + o) (hq : ((pc : Int) + o).toNat = q') (KY : ¬ x = y → Go p e below s Q ce sl T (mkF m q' ls st)) (KN : x = y → Go p e below s Q ce sl T (mkF m q ls st)) : Go p e below s Q ce sl T (mkF m pc ls (y :: x :: st)) := by
  subst hp hq
  by_cases w : x = y
  · exact (KN w).to fun t r => Jvm.RoadKit.acmp (g := mkF m pc ls (y :: x :: st)) X hx rfl h1 h2 (pc0 := pc) (same := true) rfl hd rfl (decide_eq_true w) ho rfl r
  · exact (KY w).to fun t r => Jvm.RoadKit.acmp (g := mkF m pc ls (y :: x :: st)) X hx rfl h1 h2 (pc0 := pc) (same := false) rfl hd rfl (decide_eq_false w) ho rfl r
theorem go_ifnullR (X : Stand p l e R s m args below meth c T locs cells slots) (hx : p.tables.exec = Jvm.exec) {b : Addr} {o : Int} (hd : decode c.code pc = .ok (.ifnull o, 3)) (hp : pc + 3 = q) (K : Go p e below s Q ce sl T (mkF m q ls st)) : Go p e below s Q ce sl T (mkF m pc ls (.ref b :: st)) := by
  subst hp
  exact K.to fun t r => XS.ifnullNo X.here hx rfl hd rfl r
theorem go_ifnonnullR (X : Stand p l e R s m args below meth c T locs cells slots) (hx : p.tables.exec = Jvm.exec) {b : Addr} {o : Int} (hd : decode c.code pc = .ok (.ifnonnull o, 3)) (ho : 0 ≤ (pc : Int) + o) (hq : ((pc : Int) + o).toNat = q') (K : Go p e below s Q ce sl T (mkF m q' ls st)) : Go p e below s Q ce sl T (mkF m pc ls (.ref b :: st)) :=
  K.to fun t r => XS.ifnonnullYes X.here hx rfl (pc0 := pc) rfl hd rfl ho hq r
theorem go_tsw (X : Stand p l e R s m args below meth c T locs cells slots) (hx : p.tables.exec = Jvm.exec) {dflt low high off : Int} {offs : Array Int} {len : Nat} {i : Int32} (hd : decode c.code pc = .ok (.tableswitch dflt low high offs, len)) (hin : ¬ (i.toInt < low ∨ i.toInt > high)) (hoff : offs[(i.toInt - low).toNat]? = some off) (ho : 0 ≤ (pc : Int) + off) (hq : ((pc : Int) + off).toNat = q) (K : Go p e below s Q ce sl T (mkF m q ls st)) : Go p e below s Q ce sl T (mkF m pc ls (.int i :: st)) :=
  K.to fun t r => XS.tswIn X.here hx rfl (pc0 := pc) rfl hd rfl hin hoff ho hq r
theorem go_callVU (X : Stand p l e R s m args below meth c T locs cells slots) (hx : p.tables.exec = Jvm.exec) (hZ : Z.Warmed39 s.vm) {own C owner : String} {index : Nat} {y : MethodName} {bytes : ByteArray} {maxL : Nat} {ret : Option FieldType} {rm : Room} {W : Nat} {Qc : Option Value → Heap → List Loc → Prop} {z : MethodName} (hown : s.vm.findClass own = some m.cls) (eT : T.heap = h)
    (w1 : (Jvm.Cond.methodLink own index y).before a0 Z = true) (w2 : (Jvm.Cond.sameMethod y.cls owner y.name y.desc).before a0 Z = true) (w7 : (Jvm.Cond.declares ⟨owner, y.name, y.desc⟩).before a0 Z = true) (hy : owner ≠ "java/lang/invoke/MethodHandle" ∧ owner ≠ "java/lang/invoke/VarHandle") (w3 : (Jvm.Cond.selects C y z).before a0 Z = true) (w5 : (Jvm.Cond.instanceMethod z).before a0 Z = true) (w6 : (Jvm.Cond.initialized z.cls).before a0 Z = true) (w4 : (Jvm.Cond.code z bytes maxL ret).before a0 Z = true)
    (a : Addr) (argsL rest : List Value) (E : Exa Z h a C) (hM : Con l z bytes maxL ret [] rm Z (.ref a :: argsL).toArray h Qc) (hsz : ls.size = c.maxLocals) (hst : st = argsL.reverse ++ .ref a :: rest) (hlen : ∀ sig, parseMethodDescriptor y.desc = some sig → argsL.length = sig.parameters.length) (hW : (rest.map fun v => v.category).sum ≤ W)
    (hf : rm.frames + 1 ≤ R.frames) (hl : W + (maxL + 11) + rm.locals ≤ R.locals) (hd : decode c.code pc = .ok (.invokevirtual index, 3)) (hp : pc + 3 = q) (hc : cells + rm.cells ≤ R.cells) (hs : slots + rm.slots ≤ R.slots)
    (K : ∀ (T' : State) (L : List Loc) (v : Option Value), Stand p l e R s m args below meth c T' (locs ++ L) (cells + rm.cells) (slots + rm.slots) → Qc v T'.heap L → Go p e below s Q ce sl T' (mkF m q ls (v.toList ++ rest))) : Go p e below s Q ce sl T (mkF m pc ls st) := by
  subst hp
  obtain ⟨cq, kq, qa, qb, qc⟩ := isOf hZ eT E
  obtain ⟨v, _, ⟨T', L', k', n'⟩, -, X', ⟨Lc, hQ, l1, y1, z1⟩, stp⟩ := X.virtualBackUp hx (x := y) (y := z) hown (mvT hZ w1) (mvT hZ w2) (mvT hZ w7) hy (mvT hZ w3) (mvT hZ w5) (backOf (W := W) hM hZ w4 w6 hf hl) qa qc (g := mkF m pc ls st) rfl hsz (Steps.refl _) (argsL := argsL) (rest := rest) hlen hst (by show 2 * 0 + _ ≤ _; omega) hd (fun _ _ => ⟨rfl, eT, hc, hs⟩)
  dsimp only [Pt.U, Pt.locs, Pt.cells, Pt.slots] at X' l1 y1 z1 stp hQ
  subst l1 y1 z1
  exact (K T' Lc v X' hQ).to fun t r => stp.trans r
end OwnHeap

section OwnFloat
open Jvm.FP Jvm.FP.Core
/-- the datum with its exponent moved down by k -/
def sh (k : Int) : Datum → Datum
  | .fin s c q => .fin s c (q - k)
  | d => d
/-- the datum's value is i * 2^k -/
def Dy (k i : Int) (d : Datum) : Prop := Whole i (sh k d)
theorem dy_zero_iff {i : Int} {d : Datum} : Dy 0 i d ↔ Whole i d := by
  cases d <;> simp [Dy, sh]
theorem sh_sum (k : Int) (x y : Datum) : exactSum (sh k x) (sh k y) = sh k (exactSum x y) := by
  cases x <;> cases y <;> try rfl
  · rename_i a b; by_cases q : a = b <;> simp [sh, exactSum, q]
  · rename_i s c q t d r
    have e1 : min (q - k) (r - k) = min q r - k := by omega
    have e2 : q - k - (min q r - k) = q - min q r := by omega
    have e3 : r - k - (min q r - k) = r - min q r := by omega
    simp [sh, exactSum, sumUnits, inUnits, e1, e2, e3]
theorem sh_product (k l : Int) {x y : Datum} {s t : Bool} {c d : Nat} {q r : Int} (hx : x = .fin s c q) (hy : y = .fin t d r) : exactProduct (sh k x) (sh l y) = sh (k + l) (exactProduct x y) := by
  subst hx hy
  have e1 : q - k + (r - l) = q + r - (k + l) := by omega
  simp [sh, exactProduct, e1]
theorem sh_negate (k : Int) (x : Datum) : negate (sh k x) = sh k (negate x) := by cases x <;> rfl
theorem sh_order (k : Int) (x y : Datum) : order (sh k x) (sh k y) = order x y := by
  cases x <;> cases y <;> try rfl
  rename_i s c q t d r
  have e1 : min (q - k) (r - k) = min q r - k := by omega
  have e2 : q - k - (min q r - k) = q - min q r := by omega
  have e3 : r - k - (min q r - k) = r - min q r := by omega
  simp [sh, order, inUnits, e1, e2, e3]
theorem dy_fin {k i : Int} {d : Datum} (h : Dy k i d) : ∃ s c q, d = .fin s c q := by
  cases d with
  | nan => exact h.elim
  | inf s => exact h.elim
  | fin s c q => exact ⟨s, c, q, rfl⟩
theorem dy_sum {k i j : Int} {x y : Datum} (hx : Dy k i x) (hy : Dy k j y) : Dy k (i + j) (exactSum x y) := by
  unfold Dy; rw [← sh_sum]; exact whole_sum hx hy
theorem dy_negate {k i : Int} {x : Datum} (hx : Dy k i x) : Dy k (-i) (negate x) := by
  unfold Dy; rw [← sh_negate]; exact whole_negate hx
theorem dy_product {k l i j : Int} {x y : Datum} (hx : Dy k i x) (hy : Dy l j y) : Dy (k + l) (i * j) (exactProduct x y) := by
  obtain ⟨s, c, q, ex⟩ := dy_fin hx
  obtain ⟨t, d, r, ey⟩ := dy_fin hy
  unfold Dy; rw [← sh_product k l ex ey]; exact whole_product hx hy
theorem dy_order {k i j : Int} {x y : Datum} (hx : Dy k i x) (hy : Dy k j y) : order x y = some (compare i j) := by
  rw [← sh_order k]; exact order_whole hx hy
/-- c * 2^q and A * 2^k are alike: by differences, or with both exponents raised -/
theorem p2 {c A : Nat} {q k : Int} (N : Nat) (h1 : 0 ≤ q + N) (h2 : 0 ≤ k + N) : c * 2 ^ (q - k).toNat = A * 2 ^ (k - q).toNat ↔ c * 2 ^ (q + N).toNat = A * 2 ^ (k + N).toNat := by
  rcases Int.le_total q k with hqk | hqk
  · have e1 : (q - k).toNat = 0 := by omega
    have e2 : (k + N).toNat = (k - q).toNat + (q + N).toNat := by omega
    rw [e1, e2, Nat.pow_zero, Nat.mul_one, Nat.pow_add, ← Nat.mul_assoc]
    exact ⟨fun h => by rw [h], fun h => Nat.eq_of_mul_eq_mul_right (Nat.two_pow_pos _) h⟩
  · have e1 : (k - q).toNat = 0 := by omega
    have e2 : (q + N).toNat = (q - k).toNat + (k + N).toNat := by omega
    rw [e1, e2, Nat.pow_zero, Nat.mul_one, Nat.pow_add, ← Nat.mul_assoc]
    exact ⟨fun h => by rw [h], fun h => Nat.eq_of_mul_eq_mul_right (Nat.two_pow_pos _) h⟩
theorem dy_abs {k i : Int} {s : Bool} {c : Nat} {q : Int} (h : Dy k i (.fin s c q)) : c * 2 ^ (q - k).toNat = i.natAbs * 2 ^ (k - q).toNat := by
  have h' : signed s (c * 2 ^ (q - k).toNat) = i * ((2 ^ (-(q - k)).toNat : Nat) : Int) := h
  have e := congrArg Int.natAbs h'
  rw [natAbs_signed, Int.natAbs_mul, Int.natAbs_natCast, show -(q - k) = k - q by omega] at e
  exact e
theorem dy_sgn {k i : Int} {s : Bool} {c : Nat} {q : Int} (h : Dy k i (.fin s c q)) : signed s i.natAbs = i := by
  have h' : signed s (c * 2 ^ (q - k).toNat) = i * ((2 ^ (-(q - k)).toNat : Nat) : Int) := h
  rw [dy_abs h, signed_mul, show -(q - k) = k - q by omega] at h'
  exact Int.eq_of_mul_eq_mul_right (by have := Nat.two_pow_pos (k - q).toNat; omega) h'
theorem dy_mk {k i : Int} {s : Bool} {c : Nat} {q : Int} (h1 : c * 2 ^ (q - k).toNat = i.natAbs * 2 ^ (k - q).toNat) (h2 : signed s i.natAbs = i) : Dy k i (.fin s c q) := by
  show signed s (c * 2 ^ (q - k).toNat) = i * ((2 ^ (-(q - k)).toNat : Nat) : Int)
  rw [h1, signed_mul, h2, show -(q - k) = k - q by omega]
theorem dy_of_units {k i : Int} {s : Bool} {c' : Nat} {q' : Int} (hq : -1074 ≤ q') (hk : -1074 ≤ k) (e2 : inUnits c' q' (-1074) = inUnits i.natAbs k (-1074)) (h2 : signed s i.natAbs = i) : Dy k i (.fin s c' q') := by
  refine dy_mk ?_ h2
  rw [p2 1074 (by omega) (by omega)]
  unfold inUnits at e2
  rw [show q' - -1074 = q' + (1074 : Nat) by omega, show k - -1074 = k + (1074 : Nat) by omega] at e2
  exact e2
theorem dy_roundRatio {k m : Int} {S : Bool} {c d : Nat} {e : Int} (hd : 0 < d) (h : c * 2 ^ (e - k).toNat = m.natAbs * d * 2 ^ (k - e).toNat) (hm : m.natAbs < 2 ^ 53) (k1 : -1074 ≤ k) (k2 : k ≤ 971) (h2 : signed S m.natAbs = m) : Dy k m (roundRatio b64 S c d e) := by
  have hr : roundRatio b64 S c d e = round b64 (.fin S m.natAbs k) := roundRatio_congr (A := c) (B := d) (A' := m.natAbs) (B' := 1) (e := e) (e' := k) hd (by decide) (by rw [Nat.mul_one]; exact h)
  obtain ⟨c', q', e1, e2⟩ := round_exact good_b64 S (c := m.natAbs) (q := k) hm (by rw [qmin_b64]; exact k1) (by show k ≤ 971; exact k2)
  have hf : Core.fits b64 (.fin S c' q') := by rw [← e1]; exact round_fits good_b64 _
  have hq : -1074 ≤ q' := by have := hf.2.1; rw [qmin_b64] at this; exact this
  rw [hr, e1]
  rw [qmin_b64] at e2
  exact dy_of_units hq k1 e2 h2
theorem dy_round {k i : Int} {d : Datum} (h : Dy k i d) (hi : i.natAbs < 2 ^ 53) (k1 : -1074 ≤ k) (k2 : k ≤ 971) : Dy k i (round b64 d) := by
  obtain ⟨s, c, q, rfl⟩ := dy_fin h
  exact dy_roundRatio (d := 1) (by decide) (by rw [Nat.mul_one]; exact dy_abs h) hi k1 k2 (dy_sgn h)
theorem signed_xor1 (s t : Bool) (a b : Nat) : signed (s != t) (a * b) = signed s a * signed t b := signed_xor s t a b
theorem dy_quotient {k l i j m : Int} {x y : Datum} (hx : Dy k i x) (hy : Dy l j y) (hj : j ≠ 0) (hm : i = m * j) (hb : m.natAbs < 2 ^ 53) (k1 : -1074 ≤ k - l) (k2 : k - l ≤ 971) : Dy (k - l) m (quotient b64 x y) := by
  obtain ⟨s, c, q, rfl⟩ := dy_fin hx
  obtain ⟨t, d, r, rfl⟩ := dy_fin hy
  have a1 := dy_abs hx
  have a2 := dy_abs hy
  have jpos : 0 < j.natAbs := by omega
  have dpos : 0 < d := by
    rcases Nat.eq_zero_or_pos d with rfl | h
    · rw [Nat.zero_mul] at a2
      have := Nat.mul_pos jpos (Nat.two_pow_pos (l - r).toNat)
      omega
    · exact h
  have ea : i.natAbs = m.natAbs * j.natAbs := by rw [hm, Int.natAbs_mul]
  show Dy (k - l) m (if d = 0 then (if c = 0 then .nan else .inf (s != t)) else roundRatio b64 (s != t) c d (q - r))
  rw [if_neg (by omega)]
  refine dy_roundRatio dpos ?_ hb k1 k2 ?_
  · have N : Nat := 0
    obtain ⟨M, hM⟩ : ∃ M : Nat, 0 ≤ q + M ∧ 0 ≤ k + M ∧ 0 ≤ r + M ∧ 0 ≤ l + M := ⟨q.natAbs + k.natAbs + r.natAbs + l.natAbs, by omega, by omega, by omega, by omega⟩
    rw [p2 M hM.1 hM.2.1] at a1
    rw [p2 M hM.2.2.1 hM.2.2.2] at a2
    have e1 : q - r - (k - l) = (q + l) - (k + r) := by omega
    have e2 : k - l - (q - r) = (k + r) - (q + l) := by omega
    rw [e1, e2, p2 (2 * M) (by omega) (by omega)]
    have f1 : (q + l + ((2 * M : Nat) : Int)).toNat = (q + M).toNat + (l + M).toNat := by omega
    have f2 : (k + r + ((2 * M : Nat) : Int)).toNat = (k + M).toNat + (r + M).toNat := by omega
    rw [f1, f2, Nat.pow_add, Nat.pow_add]
    refine Nat.eq_of_mul_eq_mul_right jpos ?_
    calc c * (2 ^ (q + M).toNat * 2 ^ (l + M).toNat) * j.natAbs
        = (c * 2 ^ (q + M).toNat) * (j.natAbs * 2 ^ (l + M).toNat) := by ac_rfl
      _ = (i.natAbs * 2 ^ (k + M).toNat) * (d * 2 ^ (r + M).toNat) := by rw [a1, a2]
      _ = m.natAbs * d * (2 ^ (k + M).toNat * 2 ^ (r + M).toNat) * j.natAbs := by rw [ea]; ac_rfl
  · have s1 := dy_sgn hx
    have s2 := dy_sgn hy
    have s3 : signed (s != t) (i.natAbs * j.natAbs) = i * j := by rw [signed_xor, s1, s2]
    have e3 : i.natAbs * j.natAbs = m.natAbs * (j.natAbs * j.natAbs) := by rw [ea, Nat.mul_assoc]
    rw [e3, signed_mul, Int.natAbs_mul_self, hm, Int.mul_assoc] at s3
    exact Int.eq_of_mul_eq_mul_right (Int.mul_ne_zero hj hj) s3
theorem dy_scale {k i : Int} {d : Datum} (h : Dy k i d) (n : Nat) : Dy (k - n) (i * 2 ^ n) d := by
  obtain ⟨s, c, q, rfl⟩ := dy_fin h
  have a1 := dy_abs h
  have s1 := dy_sgn h
  have e0 : (i * 2 ^ n).natAbs = i.natAbs * 2 ^ n := by rw [Int.natAbs_mul, Int.natAbs_pow]; rfl
  refine dy_mk ?_ ?_
  · obtain ⟨M, h1, h2⟩ : ∃ M : Nat, 0 ≤ q + M ∧ 0 ≤ k - n + M := ⟨q.natAbs + k.natAbs + n, by omega, by omega⟩
    rw [p2 M h1 (by omega)] at a1
    rw [p2 M h1 h2, a1, e0]
    have : (k + (M : Int)).toNat = n + (k - n + M).toNat := by omega
    rw [this, Nat.pow_add, Nat.mul_assoc]
  · rw [e0, signed_mul, s1]; congr 1
/-- the double x is worth i * 2^k, and |i| is at most A -/
def DB (k : Int) (A : Nat) (i : Int) (x : UInt64) : Prop := Dy k i (val64 x) ∧ i.natAbs ≤ A
theorem DB.fin {k i : Int} {A : Nat} {x : UInt64} (h : DB k A i x) : DFin x := dy_fin h.1
theorem DB.nn {k i : Int} {A : Nat} {x : UInt64} (h : DB k A i x) : Jvm.Free.Fl.NoNaN64 x := Jvm.Free.Fl.noNaN64_no.mpr h.fin.notNaN
theorem DB.le {k i : Int} {A B : Nat} {x : UInt64} (h : DB k A i x) (hb : i.natAbs ≤ B) : DB k B i x := ⟨h.1, hb⟩
theorem DB.eqv {k i j : Int} {A : Nat} {x : UInt64} (h : DB k A i x) (e : i = j) : DB k A j x := e ▸ h
theorem db_add {k i j : Int} {A B : Nat} {x y : UInt64} (hx : DB k A i x) (hy : DB k B j y) (hA : A + B < 9007199254740992) (k1 : -1074 ≤ k) (k2 : k ≤ 971) : DB k (A + B) (i + j) (FP.dadd x y) := by
  have h1 := hx.2; have h2 := hy.2
  have hb : (i + j).natAbs ≤ A + B := by omega
  refine ⟨?_, hb⟩
  show Dy k (i + j) (val64 (Core.dadd x y))
  rw [val64_dadd]; exact dy_round (dy_sum hx.1 hy.1) (by omega) k1 k2
theorem db_sub {k i j : Int} {A B : Nat} {x y : UInt64} (hx : DB k A i x) (hy : DB k B j y) (hA : A + B < 9007199254740992) (k1 : -1074 ≤ k) (k2 : k ≤ 971) : DB k (A + B) (i - j) (FP.dsub x y) := by
  have h1 := hx.2; have h2 := hy.2
  have hb : (i - j).natAbs ≤ A + B := by omega
  refine ⟨?_, hb⟩
  show Dy k (i - j) (val64 (Core.dsub x y))
  rw [val64_dsub]; exact dy_round (by rw [Int.sub_eq_add_neg]; exact dy_sum hx.1 (dy_negate hy.1)) (by omega) k1 k2
theorem db_mul {k l i j : Int} {A B : Nat} {x y : UInt64} (hx : DB k A i x) (hy : DB l B j y) (hA : A * B < 9007199254740992) (k1 : -1074 ≤ k + l) (k2 : k + l ≤ 971) : DB (k + l) (A * B) (i * j) (FP.dmul x y) := by
  have hb : (i * j).natAbs ≤ A * B := by rw [Int.natAbs_mul]; exact Nat.mul_le_mul hx.2 hy.2
  refine ⟨?_, hb⟩
  show Dy (k + l) (i * j) (val64 (Core.dmul x y))
  rw [val64_dmul]; exact dy_round (dy_product hx.1 hy.1) (by omega) k1 k2
theorem db_div {k l i j : Int} {A B : Nat} {x y : UInt64} (m : Int) (hx : DB k A i x) (hy : DB l B j y) (hj : j ≠ 0) (hm : i = m * j) (hA : A < 9007199254740992) (k1 : -1074 ≤ k - l) (k2 : k - l ≤ 971) : DB (k - l) A m (FP.ddiv x y) := by
  have h1 : m.natAbs ≤ i.natAbs := by rw [hm, Int.natAbs_mul]; exact Nat.le_mul_of_pos_right _ (by omega)
  have h2 := hx.2
  refine ⟨?_, by omega⟩
  show Dy (k - l) m (val64 (Core.ddiv x y))
  rw [val64_ddiv]; exact dy_quotient hx.1 hy.1 hj hm (by omega) k1 k2
theorem DB.scale {k i : Int} {A : Nat} {x : UInt64} (h : DB k A i x) (n : Nat) : DB (k - n) (A * 2 ^ n) (i * 2 ^ n) x :=
  ⟨dy_scale h.1 n, by rw [Int.natAbs_mul, Int.natAbs_pow]; exact Nat.mul_le_mul_right _ h.2⟩
theorem db_i2d (v : Int32) : DB 0 2147483648 v.toInt (FP.i2d v) := ⟨dy_zero_iff.mpr (i2d_int v), by have := Int32.toInt_lt v; have := Int32.le_toInt v; omega⟩
theorem db_i2d' {v : Int32} {A : Nat} (h : v.toInt.natAbs ≤ A) : DB 0 A v.toInt (FP.i2d v) := (db_i2d v).le h
theorem db_l2d {v : Int64} {A : Nat} (h : v.toInt.natAbs ≤ A) (hA : A ≤ 9007199254740992) : DB 0 A v.toInt (FP.l2d v) := ⟨dy_zero_iff.mpr (l2d_int (by omega)), h⟩
theorem db_dcmp {k i j : Int} {A B : Nat} {x y : UInt64} (hx : DB k A i x) (hy : DB k B j y) : FP.dcmp x y = some (compare i j) := dy_order hx.1 hy.1
theorem db_cv {k i j : Int} {A B : Nat} {x y : UInt64} (hx : DB k A i x) (hy : DB k B j y) (o : CmpOp) : cmpValue (FP.dcmp x y) o = if i < j then -1 else if i = j then 0 else 1 := by
  rw [db_dcmp hx hy, compare_ite]
  by_cases h1 : i < j
  · simp [h1]; rfl
  · by_cases h2 : i = j
    · simp [h2]; rfl
    · simp [h1, h2]; rfl
theorem db_lt {k i j : Int} {A B : Nat} {x y : UInt64} (hx : DB k A i x) (hy : DB k B j y) (o : CmpOp) : cmpValue (FP.dcmp x y) o < 0 ↔ i < j := by
  rw [db_cv hx hy]
  by_cases h1 : i < j
  · simp [h1]
  · by_cases h2 : i = j
    · simp [h2]
    · simp [h1, h2]
theorem db_gt {k i j : Int} {A B : Nat} {x y : UInt64} (hx : DB k A i x) (hy : DB k B j y) (o : CmpOp) : 0 < cmpValue (FP.dcmp x y) o ↔ j < i := by
  rw [db_cv hx hy]
  by_cases h1 : i < j
  · simp [h1, show ¬ j < i by omega]
  · by_cases h2 : i = j
    · simp [h2]
    · simp [h1, h2, show j < i by omega]
theorem db_eq {k i j : Int} {A B : Nat} {x y : UInt64} (hx : DB k A i x) (hy : DB k B j y) (o : CmpOp) : cmpValue (FP.dcmp x y) o = 0 ↔ i = j := by
  rw [db_cv hx hy]
  by_cases h1 : i < j
  · simp [h1, show ¬ i = j by omega]
  · by_cases h2 : i = j
    · simp [h2]
    · simp [h1, h2]
theorem db_c0 : DB 0 0 0 0 := ⟨by rw [show val64 0 = .fin false 0 (-1074) by decide +kernel]; exact dy_mk (by simp) rfl, by decide⟩
theorem db_c1 : DB 0 1 1 4607182418800017408 := ⟨by rw [show val64 4607182418800017408 = .fin false (2 ^ 52) (-52) by decide +kernel]; exact dy_mk (by decide +kernel) rfl, by decide⟩
theorem db_c2 : DB 0 2 2 4611686018427387904 := ⟨by rw [show val64 4611686018427387904 = .fin false (2 ^ 52) (-51) by decide +kernel]; exact dy_mk (by decide +kernel) rfl, by decide⟩
end OwnFloat

section OwnFloatGo
variable {p : Program} {l : Launch} {e : Env} {R : Room} {s : State} {m : MethodId} {args : Array Value} {below : List Frame} {meth : Method} {c : Code} {T : State} {locs : List Loc} {cells slots : Nat} {Z : State} {h : Heap} {Q : Option Value → Heap → List Loc → Prop} {ce sl : Nat} {pc q q' : Nat} {ls : Array Slot} {st : List Value} {a0 : Array Value}
theorem go_i2dB (X : Stand p l e R s m args below meth c T locs cells slots) (hx : p.tables.exec = Jvm.exec) {x : Int32} {A : Nat} {i : Int} (hd : decode c.code pc = .ok (.i2d, 1)) (hp : pc + 1 = q) (hA : DB 0 A i (FP.i2d x)) (K : ∀ z, DB 0 A i z → Go p e below s Q ce sl T (mkF m q ls (.double z :: st))) : Go p e below s Q ce sl T (mkF m pc ls (.int x :: st)) :=
  go_i2d X hx hd hp rfl (K _ hA)
theorem go_l2dB (X : Stand p l e R s m args below meth c T locs cells slots) (hx : p.tables.exec = Jvm.exec) {x : Int64} {A : Nat} {i : Int} (hd : decode c.code pc = .ok (.l2d, 1)) (hp : pc + 1 = q) (hA : DB 0 A i (FP.l2d x)) (K : ∀ z, DB 0 A i z → Go p e below s Q ce sl T (mkF m q ls (.double z :: st))) : Go p e below s Q ce sl T (mkF m pc ls (.long x :: st)) :=
  go_l2d X hx hd hp rfl (K _ hA)
theorem go_f2dB (X : Stand p l e R s m args below meth c T locs cells slots) (hx : p.tables.exec = Jvm.exec) {x : UInt32} {A : Nat} {i : Int} (hd : decode c.code pc = .ok (.f2d, 1)) (hp : pc + 1 = q) (hA : DB 0 A i (FP.f2d x)) (K : ∀ z, DB 0 A i z → Go p e below s Q ce sl T (mkF m q ls (.double z :: st))) : Go p e below s Q ce sl T (mkF m pc ls (.float x :: st)) :=
  go_f2d X hx hd hp hA.nn rfl (K _ hA)
theorem go_daddB (X : Stand p l e R s m args below meth c T locs cells slots) (hx : p.tables.exec = Jvm.exec) {x y : UInt64} {k i j : Int} {A B C : Nat} (hd : decode c.code pc = .ok (.dadd, 1)) (hp : pc + 1 = q) (hA : DB k A i x) (hB : DB k B j y) (b1 : A + B < 9007199254740992) (k1 : -1074 ≤ k) (k2 : k ≤ 971) (hC : A + B = C) (K : ∀ z, DB k C (i + j) z → Go p e below s Q ce sl T (mkF m q ls (.double z :: st))) : Go p e below s Q ce sl T (mkF m pc ls (.double y :: .double x :: st)) :=
  go_dadd X hx hd hp (db_add hA hB b1 k1 k2).nn rfl (K _ (hC ▸ db_add hA hB b1 k1 k2))
theorem go_dsubB (X : Stand p l e R s m args below meth c T locs cells slots) (hx : p.tables.exec = Jvm.exec) {x y : UInt64} {k i j : Int} {A B C : Nat} (hd : decode c.code pc = .ok (.dsub, 1)) (hp : pc + 1 = q) (hA : DB k A i x) (hB : DB k B j y) (b1 : A + B < 9007199254740992) (k1 : -1074 ≤ k) (k2 : k ≤ 971) (hC : A + B = C) (K : ∀ z, DB k C (i - j) z → Go p e below s Q ce sl T (mkF m q ls (.double z :: st))) : Go p e below s Q ce sl T (mkF m pc ls (.double y :: .double x :: st)) :=
  go_dsub X hx hd hp (db_sub hA hB b1 k1 k2).nn rfl (K _ (hC ▸ db_sub hA hB b1 k1 k2))
theorem go_dmulB (X : Stand p l e R s m args below meth c T locs cells slots) (hx : p.tables.exec = Jvm.exec) {x y : UInt64} {k k' kk i j : Int} {A B C : Nat} (hd : decode c.code pc = .ok (.dmul, 1)) (hp : pc + 1 = q) (hA : DB k A i x) (hB : DB k' B j y) (b1 : A * B < 9007199254740992) (k1 : -1074 ≤ k + k') (k2 : k + k' ≤ 971) (hk : k + k' = kk) (hC : A * B = C) (K : ∀ z, DB kk C (i * j) z → Go p e below s Q ce sl T (mkF m q ls (.double z :: st))) : Go p e below s Q ce sl T (mkF m pc ls (.double y :: .double x :: st)) :=
  go_dmul X hx hd hp (db_mul hA hB b1 k1 k2).nn rfl (K _ (hC ▸ hk ▸ db_mul hA hB b1 k1 k2))
theorem go_ddivB (X : Stand p l e R s m args below meth c T locs cells slots) (hx : p.tables.exec = Jvm.exec) {x y : UInt64} {k k' kk i j w0 : Int} {A B : Nat} (hd : decode c.code pc = .ok (.ddiv, 1)) (hp : pc + 1 = q) (hA : DB k A i x) (hB : DB k' B j y) (hj : j ≠ 0) (hm : i = w0 * j) (b1 : A < 9007199254740992) (k1 : -1074 ≤ k - k') (k2 : k - k' ≤ 971) (hk : k - k' = kk) (K : ∀ z, DB kk A w0 z → Go p e below s Q ce sl T (mkF m q ls (.double z :: st))) : Go p e below s Q ce sl T (mkF m pc ls (.double y :: .double x :: st)) :=
  go_ddiv X hx hd hp (db_div w0 hA hB hj hm b1 k1 k2).nn rfl (K _ (hk ▸ db_div w0 hA hB hj hm b1 k1 k2))
theorem go_dif_lt (X : Stand p l e R s m args below meth c T locs cells slots) (hx : p.tables.exec = Jvm.exec) {x y : UInt64} {k i j : Int} {A B : Nat} {cm : CmpOp} {o : Int} (hd : decode c.code pc = .ok (.ifCond .lt o, 3)) (hp : pc + 3 = q) (ho : 0 ≤ (pc : Int) + o) (hq : ((pc : Int) + o).toNat = q') (hA : DB k A i x) (hB : DB k B j y) (KY : i < j → Go p e below s Q ce sl T (mkF m q' ls st)) (KN : ¬ i < j → Go p e below s Q ce sl T (mkF m q ls st)) : Go p e below s Q ce sl T (mkF m pc ls (.int (cmpValue (FP.dcmp x y) cm) :: st)) :=
  go_if_lt X hx hd hp ho hq (fun w => KY ((db_lt hA hB _).mp w)) (fun w => KN (fun z => w ((db_lt hA hB _).mpr z)))
theorem go_dif_ge (X : Stand p l e R s m args below meth c T locs cells slots) (hx : p.tables.exec = Jvm.exec) {x y : UInt64} {k i j : Int} {A B : Nat} {cm : CmpOp} {o : Int} (hd : decode c.code pc = .ok (.ifCond .ge o, 3)) (hp : pc + 3 = q) (ho : 0 ≤ (pc : Int) + o) (hq : ((pc : Int) + o).toNat = q') (hA : DB k A i x) (hB : DB k B j y) (KY : ¬ i < j → Go p e below s Q ce sl T (mkF m q' ls st)) (KN : i < j → Go p e below s Q ce sl T (mkF m q ls st)) : Go p e below s Q ce sl T (mkF m pc ls (.int (cmpValue (FP.dcmp x y) cm) :: st)) :=
  go_if_ge X hx hd hp ho hq (fun w => KY (fun z => w ((db_lt hA hB _).mpr z))) (fun w => KN ((db_lt hA hB _).mp w))
theorem go_dif_gt (X : Stand p l e R s m args below meth c T locs cells slots) (hx : p.tables.exec = Jvm.exec) {x y : UInt64} {k i j : Int} {A B : Nat} {cm : CmpOp} {o : Int} (hd : decode c.code pc = .ok (.ifCond .gt o, 3)) (hp : pc + 3 = q) (ho : 0 ≤ (pc : Int) + o) (hq : ((pc : Int) + o).toNat = q') (hA : DB k A i x) (hB : DB k B j y) (KY : j < i → Go p e below s Q ce sl T (mkF m q' ls st)) (KN : ¬ j < i → Go p e below s Q ce sl T (mkF m q ls st)) : Go p e below s Q ce sl T (mkF m pc ls (.int (cmpValue (FP.dcmp x y) cm) :: st)) :=
  go_if_gt X hx hd hp ho hq (fun w => KY ((db_gt hA hB _).mp w)) (fun w => KN (fun z => w ((db_gt hA hB _).mpr z)))
theorem go_dif_le (X : Stand p l e R s m args below meth c T locs cells slots) (hx : p.tables.exec = Jvm.exec) {x y : UInt64} {k i j : Int} {A B : Nat} {cm : CmpOp} {o : Int} (hd : decode c.code pc = .ok (.ifCond .le o, 3)) (hp : pc + 3 = q) (ho : 0 ≤ (pc : Int) + o) (hq : ((pc : Int) + o).toNat = q') (hA : DB k A i x) (hB : DB k B j y) (KY : ¬ j < i → Go p e below s Q ce sl T (mkF m q' ls st)) (KN : j < i → Go p e below s Q ce sl T (mkF m q ls st)) : Go p e below s Q ce sl T (mkF m pc ls (.int (cmpValue (FP.dcmp x y) cm) :: st)) :=
  go_if_le X hx hd hp ho hq (fun w => KY (fun z => w ((db_gt hA hB _).mpr z))) (fun w => KN ((db_gt hA hB _).mp w))
theorem go_dif_eq (X : Stand p l e R s m args below meth c T locs cells slots) (hx : p.tables.exec = Jvm.exec) {x y : UInt64} {k i j : Int} {A B : Nat} {cm : CmpOp} {o : Int} (hd : decode c.code pc = .ok (.ifCond .eq o, 3)) (hp : pc + 3 = q) (ho : 0 ≤ (pc : Int) + o) (hq : ((pc : Int) + o).toNat = q') (hA : DB k A i x) (hB : DB k B j y) (KY : i = j → Go p e below s Q ce sl T (mkF m q' ls st)) (KN : ¬ i = j → Go p e below s Q ce sl T (mkF m q ls st)) : Go p e below s Q ce sl T (mkF m pc ls (.int (cmpValue (FP.dcmp x y) cm) :: st)) :=
  go_if_eq X hx hd hp ho hq (fun w => KY ((db_eq hA hB _).mp w)) (fun w => KN (fun z => w ((db_eq hA hB _).mpr z)))
theorem go_dif_ne (X : Stand p l e R s m args below meth c T locs cells slots) (hx : p.tables.exec = Jvm.exec) {x y : UInt64} {k i j : Int} {A B : Nat} {cm : CmpOp} {o : Int} (hd : decode c.code pc = .ok (.ifCond .ne o, 3)) (hp : pc + 3 = q) (ho : 0 ≤ (pc : Int) + o) (hq : ((pc : Int) + o).toNat = q') (hA : DB k A i x) (hB : DB k B j y) (KY : ¬ i = j → Go p e below s Q ce sl T (mkF m q' ls st)) (KN : i = j → Go p e below s Q ce sl T (mkF m q ls st)) : Go p e below s Q ce sl T (mkF m pc ls (.int (cmpValue (FP.dcmp x y) cm) :: st)) :=
  go_if_ne X hx hd hp ho hq (fun w => KY (fun z => w ((db_eq hA hB _).mpr z))) (fun w => KN ((db_eq hA hB _).mp w))
end OwnFloatGo

theorem own_k (y : Int32) : (y &&& (2147483647 : Int32)) % (7 : Int32) = 0 ∨ (y &&& (2147483647 : Int32)) % (7 : Int32) = 1 ∨ (y &&& (2147483647 : Int32)) % (7 : Int32) = 2 ∨ (y &&& (2147483647 : Int32)) % (7 : Int32) = 3 ∨ (y &&& (2147483647 : Int32)) % (7 : Int32) = 4 ∨ (y &&& (2147483647 : Int32)) % (7 : Int32) = 5 ∨ (y &&& (2147483647 : Int32)) % (7 : Int32) = 6 := by
  have h1 := c_and y 2147483647 (by decide); have h2 := c_irem (y &&& 2147483647) 7 7 rfl
  have h5 := h2.1 h1.1
  simp only [← Int32.toInt_inj]
  show ((y &&& 2147483647) % 7).toInt = 0 ∨ ((y &&& 2147483647) % 7).toInt = 1 ∨ ((y &&& 2147483647) % 7).toInt = 2 ∨ ((y &&& 2147483647) % 7).toInt = 3 ∨ ((y &&& 2147483647) % 7).toInt = 4 ∨ ((y &&& 2147483647) % 7).toInt = 5 ∨ ((y &&& 2147483647) % 7).toInt = 6
  omega
theorem own_0 : DB (-2) 0 0 0 := ⟨by rw [show FP.Core.val64 0 = .fin false 0 (-1074) by decide +kernel]; exact dy_mk (by simp) rfl, by decide⟩
theorem own_1 : DB (-2) 4 4 4607182418800017408 := db_c1.scale 2
theorem own_2 : DB (-2) 8 8 4611686018427387904 := db_c2.scale 2
theorem own_c4 : DB 2 1 1 4616189618054758400 := ⟨by rw [show FP.Core.val64 4616189618054758400 = .fin false (2 ^ 52) (-50) by decide +kernel]; exact dy_mk (by decide +kernel) rfl, by decide⟩

theorem pd_0 : parseMethodDescriptor "()I" = some ⟨[], some .int⟩ := by decide +kernel
theorem pd_1 : parseMethodDescriptor "(D)Z" = some ⟨[.double], some .boolean⟩ := by decide +kernel
theorem d2_0 : decode jdk_37_method_2_code 0 = .ok (.aload_n 0, 1) := by decide +kernel
theorem d2_1 : decode jdk_37_method_2_code 1 = .ok (.getfield 7, 3) := by decide +kernel
theorem d2_4 : decode jdk_37_method_2_code 4 = .ok (.ireturn, 1) := by decide +kernel
theorem pn_2 : plainName "java/lang/Enum" = true := by first | (simp [plainName, overriddenIn]; done) | decide +kernel
theorem ef_2 (m : MethodId) (x0 : Addr) : entryFrame m #[(.ref x0)] 1 = mkF m 0 #[.val (.ref x0)] [] := by first | (simp [entryFrame, mkF, argsToLocals, Value.category]; done) | rfl
set_option maxRecDepth 65536 in
set_option maxHeartbeats 40000000 in
theorem rm2 (l : Launch) (Z : State) (a0 : Array Value) (hw : ∀ d ∈ tables_1, d.before a0 Z = true) (ws : List Jvm.Cond) (ao : Addr) (n0 : Nat) (w : Int32) (h0 : Heap) (F1 : Fld Z h0 ao "java/lang/Enum" "ordinal" "I" (.int w)) :
    Con l (⟨"java/lang/Enum", "ordinal", "()I"⟩ : MethodName) jdk_37_method_2_code 1 (some .int) ws ({ frames := 0, cells := 0, slots := 0, locals := 0 } : Room) Z #[(.ref ao)] h0 (fun v h L => Fr n0 L ∧ v = some (.int w) ∧ h = h0) := by
  refine con_of (plainFor_of_name pn_2) ?_
  intro p e s m below meth c s₁ X0 hx hby hml hret hlk hown hnm hZ e0
  refine Go.cast (ef_2 m ao) ?_
  have N0 := Fr.nil n0
  refine go_aloadN (q := 1) X0 hx (hb hby d2_0) rfl rfl rfl ?_
  refine go_getF (q := 4) X0 hx hZ (host := "") hown (Or.inl (hw _ (List.mem_of_getElem? (i := 17) rfl))) Via.refl e0 F1 (hb hby d2_1) rfl (fun T1 X1 e1 => ?_)
  exact go_retI X1 hx hret hlk (hb hby d2_4) (by decide) (by decide) ⟨N0, rfl, e1⟩
theorem d1_0 : decode prog_26_method_5_code 0 = .ok (.aload_n 0, 1) := by decide +kernel
theorem d1_1 : decode prog_26_method_5_code 1 = .ok (.invokevirtual 48, 3) := by decide +kernel
theorem d1_4 : decode prog_26_method_5_code 4 = .ok (.tableswitch 44 0 6 #[54, 68, 82, 96, 112, 132, 152], 44) := by decide +kernel
theorem d1_58 : decode prog_26_method_5_code 58 = .ok (.dload_n 1, 1) := by decide +kernel
theorem d1_59 : decode prog_26_method_5_code 59 = .ok (.dconst 0, 1) := by decide +kernel
theorem d1_60 : decode prog_26_method_5_code 60 = .ok (.dcmp .l, 1) := by decide +kernel
theorem d1_61 : decode prog_26_method_5_code 61 = .ok (.ifCond .lt 7, 3) := by decide +kernel
theorem d1_64 : decode prog_26_method_5_code 64 = .ok (.iconst 1, 1) := by decide +kernel
theorem d1_65 : decode prog_26_method_5_code 65 = .ok (.goto 108, 3) := by decide +kernel
theorem d1_68 : decode prog_26_method_5_code 68 = .ok (.iconst 0, 1) := by decide +kernel
theorem d1_69 : decode prog_26_method_5_code 69 = .ok (.goto 104, 3) := by decide +kernel
theorem d1_173 : decode prog_26_method_5_code 173 = .ok (.ireturn, 1) := by decide +kernel
theorem pn_1 : plainName "com/example/ustaf/ustaf/model/Range" = true := by first | (simp [plainName, overriddenIn]; done) | decide +kernel
theorem ef_1 (m : MethodId) (x0 : Addr) (x1 : UInt64) : entryFrame m #[(.ref x0), (.double x1)] 3 = mkF m 0 #[.val (.ref x0), .val (.double x1), .second] [] := by first | (simp [entryFrame, mkF, argsToLocals, Value.category]; done) | rfl
set_option maxRecDepth 65536 in
set_option maxHeartbeats 40000000 in
theorem rm1_0 (l : Launch) (Z : State) (a0 : Array Value) (hw : ∀ d ∈ tables_1, d.before a0 Z = true) (ws : List Jvm.Cond) (ao : Addr) (d0 : UInt64) (n0 : Nat) (ai : Int) (h0 : Heap) (E_ao : Exa Z h0 ao "com/example/ustaf/ustaf/model/Range") (F1 : Fld Z h0 ao "java/lang/Enum" "ordinal" "I" (.int (0 : Int32))) (Fd : DB (-2) 2147483648 ai d0) :
    Con l (⟨"com/example/ustaf/ustaf/model/Range", "contains", "(D)Z"⟩ : MethodName) prog_26_method_5_code 3 (some .boolean) ws ({ frames := 1, cells := 0, slots := 0, locals := 12 } : Room) Z #[(.ref ao), (.double d0)] h0 (fun v h L => Fr n0 L ∧ v = some (.int (if 0 ≤ ai then (1 : Int32) else 0)) ∧ h = h0) := by
  refine con_of (plainFor_of_name pn_1) ?_
  intro p e s m below meth c s₁ X0 hx hby hml hret hlk hown hnm hZ e0
  refine Go.cast (ef_1 m ao d0) ?_
  have N0 := Fr.nil n0
  refine go_aloadN (q := 1) X0 hx (hb hby d1_0) rfl rfl rfl ?_
  refine go_callVU (q := 4) (W := 0) X0 hx hZ hown e0 (hw _ (List.mem_of_getElem? (i := 10) rfl)) (hw _ (List.mem_of_getElem? (i := 11) rfl)) (hw _ (List.mem_of_getElem? (i := 12) rfl)) (by decide) (hw _ (List.mem_of_getElem? (i := 14) rfl)) (hw _ (List.mem_of_getElem? (i := 13) rfl)) (hw _ (List.mem_of_getElem? (i := 15) rfl)) (hw _ (List.mem_of_getElem? (i := 16) rfl)) ao [] [] E_ao (rm2 l Z a0 hw [] ao n0 (0 : Int32) h0 F1) (by rw [hml]; rfl) rfl (lenOf pd_0 rfl) (Nat.le_of_eq rfl) (by decide) (by decide) (hb hby d1_1) rfl (by decide) (by decide) ?_
  rintro T1 L1 v1 X1 ⟨Nq1, rfl, e1⟩
  have N1 := Fr.app N0 Nq1
  show Go p e below s (fun v h L => Fr n0 L ∧ v = some (.int (if 0 ≤ ai then (1 : Int32) else 0)) ∧ h = h0) ({ frames := 1, cells := 0, slots := 0, locals := 12 } : Room).cells ({ frames := 1, cells := 0, slots := 0, locals := 12 } : Room).slots T1 (mkF m 4 #[.val (.ref ao), .val (.double d0), .second] [(.int (0 : Int32))])
  refine go_tsw (q := 58) (off := 54) X1 hx (hb hby d1_4) (by decide) rfl (by decide) rfl ?_
  refine go_dloadN (q := 59) X1 hx (hb hby d1_58) rfl rfl ?_
  refine go_dconst0 (q := 60) (v := (0 : UInt64)) X1 hx (hb hby d1_59) rfl rfl ?_
  refine go_dcmp (q := 61) X1 hx (hb hby d1_60) rfl rfl ?_
  refine go_dif_lt (q := 64) (q' := 68) X1 hx (hb hby d1_61) rfl (by decide) rfl Fd own_0 (fun hc61 => ?_) (fun hc61 => ?_)
  · refine go_iconst (q := 69) (v := (0 : Int32)) X1 hx (hb hby d1_68) rfl rfl ?_
    refine go_goto (q := 173) X1 hx (hb hby d1_69) (by decide) rfl ?_
    exact go_retN X1 hx (by simp) hret hlk (hb hby d1_173) (by decide) (by decide) ⟨N1, by rw [if_neg (by omega)]; rfl, e1⟩
  · refine go_iconst (q := 65) (v := (1 : Int32)) X1 hx (hb hby d1_64) rfl rfl ?_
    refine go_goto (q := 173) X1 hx (hb hby d1_65) (by decide) rfl ?_
    exact go_retN X1 hx (by simp) hret hlk (hb hby d1_173) (by decide) (by decide) ⟨N1, by rw [if_pos (by omega)]; rfl, e1⟩
theorem d1_72 : decode prog_26_method_5_code 72 = .ok (.dload_n 1, 1) := by decide +kernel
theorem d1_73 : decode prog_26_method_5_code 73 = .ok (.dconst 0, 1) := by decide +kernel
theorem d1_74 : decode prog_26_method_5_code 74 = .ok (.dcmp .l, 1) := by decide +kernel
theorem d1_75 : decode prog_26_method_5_code 75 = .ok (.ifCond .le 7, 3) := by decide +kernel
theorem d1_78 : decode prog_26_method_5_code 78 = .ok (.iconst 1, 1) := by decide +kernel
theorem d1_79 : decode prog_26_method_5_code 79 = .ok (.goto 94, 3) := by decide +kernel
theorem d1_82 : decode prog_26_method_5_code 82 = .ok (.iconst 0, 1) := by decide +kernel
theorem d1_83 : decode prog_26_method_5_code 83 = .ok (.goto 90, 3) := by decide +kernel
set_option maxRecDepth 65536 in
set_option maxHeartbeats 40000000 in
theorem rm1_1 (l : Launch) (Z : State) (a0 : Array Value) (hw : ∀ d ∈ tables_1, d.before a0 Z = true) (ws : List Jvm.Cond) (ao : Addr) (d0 : UInt64) (n0 : Nat) (ai : Int) (h0 : Heap) (E_ao : Exa Z h0 ao "com/example/ustaf/ustaf/model/Range") (F1 : Fld Z h0 ao "java/lang/Enum" "ordinal" "I" (.int (1 : Int32))) (Fd : DB (-2) 2147483648 ai d0) :
    Con l (⟨"com/example/ustaf/ustaf/model/Range", "contains", "(D)Z"⟩ : MethodName) prog_26_method_5_code 3 (some .boolean) ws ({ frames := 1, cells := 0, slots := 0, locals := 12 } : Room) Z #[(.ref ao), (.double d0)] h0 (fun v h L => Fr n0 L ∧ v = some (.int (if 0 < ai then (1 : Int32) else 0)) ∧ h = h0) := by
  refine con_of (plainFor_of_name pn_1) ?_
  intro p e s m below meth c s₁ X0 hx hby hml hret hlk hown hnm hZ e0
  refine Go.cast (ef_1 m ao d0) ?_
  have N0 := Fr.nil n0
  refine go_aloadN (q := 1) X0 hx (hb hby d1_0) rfl rfl rfl ?_
  refine go_callVU (q := 4) (W := 0) X0 hx hZ hown e0 (hw _ (List.mem_of_getElem? (i := 10) rfl)) (hw _ (List.mem_of_getElem? (i := 11) rfl)) (hw _ (List.mem_of_getElem? (i := 12) rfl)) (by decide) (hw _ (List.mem_of_getElem? (i := 14) rfl)) (hw _ (List.mem_of_getElem? (i := 13) rfl)) (hw _ (List.mem_of_getElem? (i := 15) rfl)) (hw _ (List.mem_of_getElem? (i := 16) rfl)) ao [] [] E_ao (rm2 l Z a0 hw [] ao n0 (1 : Int32) h0 F1) (by rw [hml]; rfl) rfl (lenOf pd_0 rfl) (Nat.le_of_eq rfl) (by decide) (by decide) (hb hby d1_1) rfl (by decide) (by decide) ?_
  rintro T1 L1 v1 X1 ⟨Nq1, rfl, e1⟩
  have N1 := Fr.app N0 Nq1
  show Go p e below s (fun v h L => Fr n0 L ∧ v = some (.int (if 0 < ai then (1 : Int32) else 0)) ∧ h = h0) ({ frames := 1, cells := 0, slots := 0, locals := 12 } : Room).cells ({ frames := 1, cells := 0, slots := 0, locals := 12 } : Room).slots T1 (mkF m 4 #[.val (.ref ao), .val (.double d0), .second] [(.int (1 : Int32))])
  refine go_tsw (q := 72) (off := 68) X1 hx (hb hby d1_4) (by decide) rfl (by decide) rfl ?_
  refine go_dloadN (q := 73) X1 hx (hb hby d1_72) rfl rfl ?_
  refine go_dconst0 (q := 74) (v := (0 : UInt64)) X1 hx (hb hby d1_73) rfl rfl ?_
  refine go_dcmp (q := 75) X1 hx (hb hby d1_74) rfl rfl ?_
  refine go_dif_le (q := 78) (q' := 82) X1 hx (hb hby d1_75) rfl (by decide) rfl Fd own_0 (fun hc75 => ?_) (fun hc75 => ?_)
  · refine go_iconst (q := 83) (v := (0 : Int32)) X1 hx (hb hby d1_82) rfl rfl ?_
    refine go_goto (q := 173) X1 hx (hb hby d1_83) (by decide) rfl ?_
    exact go_retN X1 hx (by simp) hret hlk (hb hby d1_173) (by decide) (by decide) ⟨N1, by rw [if_neg (by omega)]; rfl, e1⟩
  · refine go_iconst (q := 79) (v := (1 : Int32)) X1 hx (hb hby d1_78) rfl rfl ?_
    refine go_goto (q := 173) X1 hx (hb hby d1_79) (by decide) rfl ?_
    exact go_retN X1 hx (by simp) hret hlk (hb hby d1_173) (by decide) (by decide) ⟨N1, by rw [if_pos (by omega)]; rfl, e1⟩
theorem d1_86 : decode prog_26_method_5_code 86 = .ok (.dload_n 1, 1) := by decide +kernel
theorem d1_87 : decode prog_26_method_5_code 87 = .ok (.dconst 1, 1) := by decide +kernel
theorem d1_88 : decode prog_26_method_5_code 88 = .ok (.dcmp .l, 1) := by decide +kernel
theorem d1_89 : decode prog_26_method_5_code 89 = .ok (.ifCond .lt 7, 3) := by decide +kernel
theorem d1_92 : decode prog_26_method_5_code 92 = .ok (.iconst 1, 1) := by decide +kernel
theorem d1_93 : decode prog_26_method_5_code 93 = .ok (.goto 80, 3) := by decide +kernel
theorem d1_96 : decode prog_26_method_5_code 96 = .ok (.iconst 0, 1) := by decide +kernel
theorem d1_97 : decode prog_26_method_5_code 97 = .ok (.goto 76, 3) := by decide +kernel
set_option maxRecDepth 65536 in
set_option maxHeartbeats 40000000 in
theorem rm1_2 (l : Launch) (Z : State) (a0 : Array Value) (hw : ∀ d ∈ tables_1, d.before a0 Z = true) (ws : List Jvm.Cond) (ao : Addr) (d0 : UInt64) (n0 : Nat) (ai : Int) (h0 : Heap) (E_ao : Exa Z h0 ao "com/example/ustaf/ustaf/model/Range") (F1 : Fld Z h0 ao "java/lang/Enum" "ordinal" "I" (.int (2 : Int32))) (Fd : DB (-2) 2147483648 ai d0) :
    Con l (⟨"com/example/ustaf/ustaf/model/Range", "contains", "(D)Z"⟩ : MethodName) prog_26_method_5_code 3 (some .boolean) ws ({ frames := 1, cells := 0, slots := 0, locals := 12 } : Room) Z #[(.ref ao), (.double d0)] h0 (fun v h L => Fr n0 L ∧ v = some (.int (if 4 ≤ ai then (1 : Int32) else 0)) ∧ h = h0) := by
  refine con_of (plainFor_of_name pn_1) ?_
  intro p e s m below meth c s₁ X0 hx hby hml hret hlk hown hnm hZ e0
  refine Go.cast (ef_1 m ao d0) ?_
  have N0 := Fr.nil n0
  refine go_aloadN (q := 1) X0 hx (hb hby d1_0) rfl rfl rfl ?_
  refine go_callVU (q := 4) (W := 0) X0 hx hZ hown e0 (hw _ (List.mem_of_getElem? (i := 10) rfl)) (hw _ (List.mem_of_getElem? (i := 11) rfl)) (hw _ (List.mem_of_getElem? (i := 12) rfl)) (by decide) (hw _ (List.mem_of_getElem? (i := 14) rfl)) (hw _ (List.mem_of_getElem? (i := 13) rfl)) (hw _ (List.mem_of_getElem? (i := 15) rfl)) (hw _ (List.mem_of_getElem? (i := 16) rfl)) ao [] [] E_ao (rm2 l Z a0 hw [] ao n0 (2 : Int32) h0 F1) (by rw [hml]; rfl) rfl (lenOf pd_0 rfl) (Nat.le_of_eq rfl) (by decide) (by decide) (hb hby d1_1) rfl (by decide) (by decide) ?_
  rintro T1 L1 v1 X1 ⟨Nq1, rfl, e1⟩
  have N1 := Fr.app N0 Nq1
  show Go p e below s (fun v h L => Fr n0 L ∧ v = some (.int (if 4 ≤ ai then (1 : Int32) else 0)) ∧ h = h0) ({ frames := 1, cells := 0, slots := 0, locals := 12 } : Room).cells ({ frames := 1, cells := 0, slots := 0, locals := 12 } : Room).slots T1 (mkF m 4 #[.val (.ref ao), .val (.double d0), .second] [(.int (2 : Int32))])
  refine go_tsw (q := 86) (off := 82) X1 hx (hb hby d1_4) (by decide) rfl (by decide) rfl ?_
  refine go_dloadN (q := 87) X1 hx (hb hby d1_86) rfl rfl ?_
  refine go_dconst1 (q := 88) (v := (4607182418800017408 : UInt64)) X1 hx (hb hby d1_87) rfl rfl ?_
  refine go_dcmp (q := 89) X1 hx (hb hby d1_88) rfl rfl ?_
  refine go_dif_lt (q := 92) (q' := 96) X1 hx (hb hby d1_89) rfl (by decide) rfl Fd own_1 (fun hc89 => ?_) (fun hc89 => ?_)
  · refine go_iconst (q := 97) (v := (0 : Int32)) X1 hx (hb hby d1_96) rfl rfl ?_
    refine go_goto (q := 173) X1 hx (hb hby d1_97) (by decide) rfl ?_
    exact go_retN X1 hx (by simp) hret hlk (hb hby d1_173) (by decide) (by decide) ⟨N1, by rw [if_neg (by omega)]; rfl, e1⟩
  · refine go_iconst (q := 93) (v := (1 : Int32)) X1 hx (hb hby d1_92) rfl rfl ?_
    refine go_goto (q := 173) X1 hx (hb hby d1_93) (by decide) rfl ?_
    exact go_retN X1 hx (by simp) hret hlk (hb hby d1_173) (by decide) (by decide) ⟨N1, by rw [if_pos (by omega)]; rfl, e1⟩
theorem d1_100 : decode prog_26_method_5_code 100 = .ok (.dload_n 1, 1) := by decide +kernel
theorem d1_101 : decode prog_26_method_5_code 101 = .ok (.ldc2_w 57, 3) := by decide +kernel
theorem d1_104 : decode prog_26_method_5_code 104 = .ok (.dcmp .l, 1) := by decide +kernel
theorem d1_105 : decode prog_26_method_5_code 105 = .ok (.ifCond .lt 7, 3) := by decide +kernel
theorem d1_108 : decode prog_26_method_5_code 108 = .ok (.iconst 1, 1) := by decide +kernel
theorem d1_109 : decode prog_26_method_5_code 109 = .ok (.goto 64, 3) := by decide +kernel
theorem d1_112 : decode prog_26_method_5_code 112 = .ok (.iconst 0, 1) := by decide +kernel
theorem d1_113 : decode prog_26_method_5_code 113 = .ok (.goto 60, 3) := by decide +kernel
set_option maxRecDepth 65536 in
set_option maxHeartbeats 40000000 in
theorem rm1_3 (l : Launch) (Z : State) (a0 : Array Value) (hw : ∀ d ∈ tables_1, d.before a0 Z = true) (ws : List Jvm.Cond) (ao : Addr) (d0 : UInt64) (n0 : Nat) (ai : Int) (h0 : Heap) (E_ao : Exa Z h0 ao "com/example/ustaf/ustaf/model/Range") (F1 : Fld Z h0 ao "java/lang/Enum" "ordinal" "I" (.int (3 : Int32))) (Fd : DB (-2) 2147483648 ai d0) :
    Con l (⟨"com/example/ustaf/ustaf/model/Range", "contains", "(D)Z"⟩ : MethodName) prog_26_method_5_code 3 (some .boolean) ws ({ frames := 1, cells := 0, slots := 0, locals := 12 } : Room) Z #[(.ref ao), (.double d0)] h0 (fun v h L => Fr n0 L ∧ v = some (.int (if 8 ≤ ai then (1 : Int32) else 0)) ∧ h = h0) := by
  refine con_of (plainFor_of_name pn_1) ?_
  intro p e s m below meth c s₁ X0 hx hby hml hret hlk hown hnm hZ e0
  refine Go.cast (ef_1 m ao d0) ?_
  have N0 := Fr.nil n0
  refine go_aloadN (q := 1) X0 hx (hb hby d1_0) rfl rfl rfl ?_
  refine go_callVU (q := 4) (W := 0) X0 hx hZ hown e0 (hw _ (List.mem_of_getElem? (i := 10) rfl)) (hw _ (List.mem_of_getElem? (i := 11) rfl)) (hw _ (List.mem_of_getElem? (i := 12) rfl)) (by decide) (hw _ (List.mem_of_getElem? (i := 14) rfl)) (hw _ (List.mem_of_getElem? (i := 13) rfl)) (hw _ (List.mem_of_getElem? (i := 15) rfl)) (hw _ (List.mem_of_getElem? (i := 16) rfl)) ao [] [] E_ao (rm2 l Z a0 hw [] ao n0 (3 : Int32) h0 F1) (by rw [hml]; rfl) rfl (lenOf pd_0 rfl) (Nat.le_of_eq rfl) (by decide) (by decide) (hb hby d1_1) rfl (by decide) (by decide) ?_
  rintro T1 L1 v1 X1 ⟨Nq1, rfl, e1⟩
  have N1 := Fr.app N0 Nq1
  show Go p e below s (fun v h L => Fr n0 L ∧ v = some (.int (if 8 ≤ ai then (1 : Int32) else 0)) ∧ h = h0) ({ frames := 1, cells := 0, slots := 0, locals := 12 } : Room).cells ({ frames := 1, cells := 0, slots := 0, locals := 12 } : Room).slots T1 (mkF m 4 #[.val (.ref ao), .val (.double d0), .second] [(.int (3 : Int32))])
  refine go_tsw (q := 100) (off := 96) X1 hx (hb hby d1_4) (by decide) rfl (by decide) rfl ?_
  refine go_dloadN (q := 101) X1 hx (hb hby d1_100) rfl rfl ?_
  refine go_ldc2D (q := 104) (v := (4611686018427387904 : UInt64)) X1 hx hZ hown (hw _ (List.mem_of_getElem? (i := 21) rfl)) (hb hby d1_101) rfl ?_
  refine go_dcmp (q := 105) X1 hx (hb hby d1_104) rfl rfl ?_
  refine go_dif_lt (q := 108) (q' := 112) X1 hx (hb hby d1_105) rfl (by decide) rfl Fd own_2 (fun hc105 => ?_) (fun hc105 => ?_)
  · refine go_iconst (q := 113) (v := (0 : Int32)) X1 hx (hb hby d1_112) rfl rfl ?_
    refine go_goto (q := 173) X1 hx (hb hby d1_113) (by decide) rfl ?_
    exact go_retN X1 hx (by simp) hret hlk (hb hby d1_173) (by decide) (by decide) ⟨N1, by rw [if_neg (by omega)]; rfl, e1⟩
  · refine go_iconst (q := 109) (v := (1 : Int32)) X1 hx (hb hby d1_108) rfl rfl ?_
    refine go_goto (q := 173) X1 hx (hb hby d1_109) (by decide) rfl ?_
    exact go_retN X1 hx (by simp) hret hlk (hb hby d1_173) (by decide) (by decide) ⟨N1, by rw [if_pos (by omega)]; rfl, e1⟩
theorem d1_116 : decode prog_26_method_5_code 116 = .ok (.dload_n 1, 1) := by decide +kernel
theorem d1_117 : decode prog_26_method_5_code 117 = .ok (.dconst 0, 1) := by decide +kernel
theorem d1_118 : decode prog_26_method_5_code 118 = .ok (.dcmp .l, 1) := by decide +kernel
theorem d1_119 : decode prog_26_method_5_code 119 = .ok (.ifCond .lt 13, 3) := by decide +kernel
theorem d1_122 : decode prog_26_method_5_code 122 = .ok (.dload_n 1, 1) := by decide +kernel
theorem d1_123 : decode prog_26_method_5_code 123 = .ok (.dconst 1, 1) := by decide +kernel
theorem d1_124 : decode prog_26_method_5_code 124 = .ok (.dcmp .g, 1) := by decide +kernel
theorem d1_125 : decode prog_26_method_5_code 125 = .ok (.ifCond .gt 7, 3) := by decide +kernel
theorem d1_128 : decode prog_26_method_5_code 128 = .ok (.iconst 1, 1) := by decide +kernel
theorem d1_129 : decode prog_26_method_5_code 129 = .ok (.goto 44, 3) := by decide +kernel
theorem d1_132 : decode prog_26_method_5_code 132 = .ok (.iconst 0, 1) := by decide +kernel
theorem d1_133 : decode prog_26_method_5_code 133 = .ok (.goto 40, 3) := by decide +kernel
set_option maxRecDepth 65536 in
set_option maxHeartbeats 40000000 in
theorem rm1_4 (l : Launch) (Z : State) (a0 : Array Value) (hw : ∀ d ∈ tables_1, d.before a0 Z = true) (ws : List Jvm.Cond) (ao : Addr) (d0 : UInt64) (n0 : Nat) (ai : Int) (h0 : Heap) (E_ao : Exa Z h0 ao "com/example/ustaf/ustaf/model/Range") (F1 : Fld Z h0 ao "java/lang/Enum" "ordinal" "I" (.int (4 : Int32))) (Fd : DB (-2) 2147483648 ai d0) :
    Con l (⟨"com/example/ustaf/ustaf/model/Range", "contains", "(D)Z"⟩ : MethodName) prog_26_method_5_code 3 (some .boolean) ws ({ frames := 1, cells := 0, slots := 0, locals := 12 } : Room) Z #[(.ref ao), (.double d0)] h0 (fun v h L => Fr n0 L ∧ v = some (.int (if 0 ≤ ai ∧ ai ≤ 4 then (1 : Int32) else 0)) ∧ h = h0) := by
  refine con_of (plainFor_of_name pn_1) ?_
  intro p e s m below meth c s₁ X0 hx hby hml hret hlk hown hnm hZ e0
  refine Go.cast (ef_1 m ao d0) ?_
  have N0 := Fr.nil n0
  refine go_aloadN (q := 1) X0 hx (hb hby d1_0) rfl rfl rfl ?_
  refine go_callVU (q := 4) (W := 0) X0 hx hZ hown e0 (hw _ (List.mem_of_getElem? (i := 10) rfl)) (hw _ (List.mem_of_getElem? (i := 11) rfl)) (hw _ (List.mem_of_getElem? (i := 12) rfl)) (by decide) (hw _ (List.mem_of_getElem? (i := 14) rfl)) (hw _ (List.mem_of_getElem? (i := 13) rfl)) (hw _ (List.mem_of_getElem? (i := 15) rfl)) (hw _ (List.mem_of_getElem? (i := 16) rfl)) ao [] [] E_ao (rm2 l Z a0 hw [] ao n0 (4 : Int32) h0 F1) (by rw [hml]; rfl) rfl (lenOf pd_0 rfl) (Nat.le_of_eq rfl) (by decide) (by decide) (hb hby d1_1) rfl (by decide) (by decide) ?_
  rintro T1 L1 v1 X1 ⟨Nq1, rfl, e1⟩
  have N1 := Fr.app N0 Nq1
  show Go p e below s (fun v h L => Fr n0 L ∧ v = some (.int (if 0 ≤ ai ∧ ai ≤ 4 then (1 : Int32) else 0)) ∧ h = h0) ({ frames := 1, cells := 0, slots := 0, locals := 12 } : Room).cells ({ frames := 1, cells := 0, slots := 0, locals := 12 } : Room).slots T1 (mkF m 4 #[.val (.ref ao), .val (.double d0), .second] [(.int (4 : Int32))])
  refine go_tsw (q := 116) (off := 112) X1 hx (hb hby d1_4) (by decide) rfl (by decide) rfl ?_
  refine go_dloadN (q := 117) X1 hx (hb hby d1_116) rfl rfl ?_
  refine go_dconst0 (q := 118) (v := (0 : UInt64)) X1 hx (hb hby d1_117) rfl rfl ?_
  refine go_dcmp (q := 119) X1 hx (hb hby d1_118) rfl rfl ?_
  refine go_dif_lt (q := 122) (q' := 132) X1 hx (hb hby d1_119) rfl (by decide) rfl Fd own_0 (fun hc119 => ?_) (fun hc119 => ?_)
  · refine go_iconst (q := 133) (v := (0 : Int32)) X1 hx (hb hby d1_132) rfl rfl ?_
    refine go_goto (q := 173) X1 hx (hb hby d1_133) (by decide) rfl ?_
    exact go_retN X1 hx (by simp) hret hlk (hb hby d1_173) (by decide) (by decide) ⟨N1, by rw [if_neg (by omega)]; rfl, e1⟩
  · refine go_dloadN (q := 123) X1 hx (hb hby d1_122) rfl rfl ?_
    refine go_dconst1 (q := 124) (v := (4607182418800017408 : UInt64)) X1 hx (hb hby d1_123) rfl rfl ?_
    refine go_dcmp (q := 125) X1 hx (hb hby d1_124) rfl rfl ?_
    refine go_dif_gt (q := 128) (q' := 132) X1 hx (hb hby d1_125) rfl (by decide) rfl Fd own_1 (fun hc125 => ?_) (fun hc125 => ?_)
    · refine go_iconst (q := 133) (v := (0 : Int32)) X1 hx (hb hby d1_132) rfl rfl ?_
      refine go_goto (q := 173) X1 hx (hb hby d1_133) (by decide) rfl ?_
      exact go_retN X1 hx (by simp) hret hlk (hb hby d1_173) (by decide) (by decide) ⟨N1, by rw [if_neg (by omega)]; rfl, e1⟩
    · refine go_iconst (q := 129) (v := (1 : Int32)) X1 hx (hb hby d1_128) rfl rfl ?_
      refine go_goto (q := 173) X1 hx (hb hby d1_129) (by decide) rfl ?_
      exact go_retN X1 hx (by simp) hret hlk (hb hby d1_173) (by decide) (by decide) ⟨N1, by rw [if_pos (by omega)]; rfl, e1⟩
theorem d1_136 : decode prog_26_method_5_code 136 = .ok (.dload_n 1, 1) := by decide +kernel
theorem d1_137 : decode prog_26_method_5_code 137 = .ok (.dconst 0, 1) := by decide +kernel
theorem d1_138 : decode prog_26_method_5_code 138 = .ok (.dcmp .l, 1) := by decide +kernel
theorem d1_139 : decode prog_26_method_5_code 139 = .ok (.ifCond .lt 13, 3) := by decide +kernel
theorem d1_142 : decode prog_26_method_5_code 142 = .ok (.dload_n 1, 1) := by decide +kernel
theorem d1_143 : decode prog_26_method_5_code 143 = .ok (.dconst 1, 1) := by decide +kernel
theorem d1_144 : decode prog_26_method_5_code 144 = .ok (.dcmp .g, 1) := by decide +kernel
theorem d1_145 : decode prog_26_method_5_code 145 = .ok (.ifCond .ge 7, 3) := by decide +kernel
theorem d1_148 : decode prog_26_method_5_code 148 = .ok (.iconst 1, 1) := by decide +kernel
theorem d1_149 : decode prog_26_method_5_code 149 = .ok (.goto 24, 3) := by decide +kernel
theorem d1_152 : decode prog_26_method_5_code 152 = .ok (.iconst 0, 1) := by decide +kernel
theorem d1_153 : decode prog_26_method_5_code 153 = .ok (.goto 20, 3) := by decide +kernel
set_option maxRecDepth 65536 in
set_option maxHeartbeats 40000000 in
theorem rm1_5 (l : Launch) (Z : State) (a0 : Array Value) (hw : ∀ d ∈ tables_1, d.before a0 Z = true) (ws : List Jvm.Cond) (ao : Addr) (d0 : UInt64) (n0 : Nat) (ai : Int) (h0 : Heap) (E_ao : Exa Z h0 ao "com/example/ustaf/ustaf/model/Range") (F1 : Fld Z h0 ao "java/lang/Enum" "ordinal" "I" (.int (5 : Int32))) (Fd : DB (-2) 2147483648 ai d0) :
    Con l (⟨"com/example/ustaf/ustaf/model/Range", "contains", "(D)Z"⟩ : MethodName) prog_26_method_5_code 3 (some .boolean) ws ({ frames := 1, cells := 0, slots := 0, locals := 12 } : Room) Z #[(.ref ao), (.double d0)] h0 (fun v h L => Fr n0 L ∧ v = some (.int (if 0 ≤ ai ∧ ai < 4 then (1 : Int32) else 0)) ∧ h = h0) := by
  refine con_of (plainFor_of_name pn_1) ?_
  intro p e s m below meth c s₁ X0 hx hby hml hret hlk hown hnm hZ e0
  refine Go.cast (ef_1 m ao d0) ?_
  have N0 := Fr.nil n0
  refine go_aloadN (q := 1) X0 hx (hb hby d1_0) rfl rfl rfl ?_
  refine go_callVU (q := 4) (W := 0) X0 hx hZ hown e0 (hw _ (List.mem_of_getElem? (i := 10) rfl)) (hw _ (List.mem_of_getElem? (i := 11) rfl)) (hw _ (List.mem_of_getElem? (i := 12) rfl)) (by decide) (hw _ (List.mem_of_getElem? (i := 14) rfl)) (hw _ (List.mem_of_getElem? (i := 13) rfl)) (hw _ (List.mem_of_getElem? (i := 15) rfl)) (hw _ (List.mem_of_getElem? (i := 16) rfl)) ao [] [] E_ao (rm2 l Z a0 hw [] ao n0 (5 : Int32) h0 F1) (by rw [hml]; rfl) rfl (lenOf pd_0 rfl) (Nat.le_of_eq rfl) (by decide) (by decide) (hb hby d1_1) rfl (by decide) (by decide) ?_
  rintro T1 L1 v1 X1 ⟨Nq1, rfl, e1⟩
  have N1 := Fr.app N0 Nq1
  show Go p e below s (fun v h L => Fr n0 L ∧ v = some (.int (if 0 ≤ ai ∧ ai < 4 then (1 : Int32) else 0)) ∧ h = h0) ({ frames := 1, cells := 0, slots := 0, locals := 12 } : Room).cells ({ frames := 1, cells := 0, slots := 0, locals := 12 } : Room).slots T1 (mkF m 4 #[.val (.ref ao), .val (.double d0), .second] [(.int (5 : Int32))])
  refine go_tsw (q := 136) (off := 132) X1 hx (hb hby d1_4) (by decide) rfl (by decide) rfl ?_
  refine go_dloadN (q := 137) X1 hx (hb hby d1_136) rfl rfl ?_
  refine go_dconst0 (q := 138) (v := (0 : UInt64)) X1 hx (hb hby d1_137) rfl rfl ?_
  refine go_dcmp (q := 139) X1 hx (hb hby d1_138) rfl rfl ?_
  refine go_dif_lt (q := 142) (q' := 152) X1 hx (hb hby d1_139) rfl (by decide) rfl Fd own_0 (fun hc139 => ?_) (fun hc139 => ?_)
  · refine go_iconst (q := 153) (v := (0 : Int32)) X1 hx (hb hby d1_152) rfl rfl ?_
    refine go_goto (q := 173) X1 hx (hb hby d1_153) (by decide) rfl ?_
    exact go_retN X1 hx (by simp) hret hlk (hb hby d1_173) (by decide) (by decide) ⟨N1, by rw [if_neg (by omega)]; rfl, e1⟩
  · refine go_dloadN (q := 143) X1 hx (hb hby d1_142) rfl rfl ?_
    refine go_dconst1 (q := 144) (v := (4607182418800017408 : UInt64)) X1 hx (hb hby d1_143) rfl rfl ?_
    refine go_dcmp (q := 145) X1 hx (hb hby d1_144) rfl rfl ?_
    refine go_dif_ge (q := 148) (q' := 152) X1 hx (hb hby d1_145) rfl (by decide) rfl Fd own_1 (fun hc145 => ?_) (fun hc145 => ?_)
    · refine go_iconst (q := 153) (v := (0 : Int32)) X1 hx (hb hby d1_152) rfl rfl ?_
      refine go_goto (q := 173) X1 hx (hb hby d1_153) (by decide) rfl ?_
      exact go_retN X1 hx (by simp) hret hlk (hb hby d1_173) (by decide) (by decide) ⟨N1, by rw [if_neg (by omega)]; rfl, e1⟩
    · refine go_iconst (q := 149) (v := (1 : Int32)) X1 hx (hb hby d1_148) rfl rfl ?_
      refine go_goto (q := 173) X1 hx (hb hby d1_149) (by decide) rfl ?_
      exact go_retN X1 hx (by simp) hret hlk (hb hby d1_173) (by decide) (by decide) ⟨N1, by rw [if_pos (by omega)]; rfl, e1⟩
theorem d1_156 : decode prog_26_method_5_code 156 = .ok (.dload_n 1, 1) := by decide +kernel
theorem d1_157 : decode prog_26_method_5_code 157 = .ok (.dconst 0, 1) := by decide +kernel
theorem d1_158 : decode prog_26_method_5_code 158 = .ok (.dcmp .l, 1) := by decide +kernel
theorem d1_159 : decode prog_26_method_5_code 159 = .ok (.ifCond .le 13, 3) := by decide +kernel
theorem d1_162 : decode prog_26_method_5_code 162 = .ok (.dload_n 1, 1) := by decide +kernel
theorem d1_163 : decode prog_26_method_5_code 163 = .ok (.dconst 1, 1) := by decide +kernel
theorem d1_164 : decode prog_26_method_5_code 164 = .ok (.dcmp .g, 1) := by decide +kernel
theorem d1_165 : decode prog_26_method_5_code 165 = .ok (.ifCond .gt 7, 3) := by decide +kernel
theorem d1_168 : decode prog_26_method_5_code 168 = .ok (.iconst 1, 1) := by decide +kernel
theorem d1_169 : decode prog_26_method_5_code 169 = .ok (.goto 4, 3) := by decide +kernel
theorem d1_172 : decode prog_26_method_5_code 172 = .ok (.iconst 0, 1) := by decide +kernel
set_option maxRecDepth 65536 in
set_option maxHeartbeats 40000000 in
theorem rm1_6 (l : Launch) (Z : State) (a0 : Array Value) (hw : ∀ d ∈ tables_1, d.before a0 Z = true) (ws : List Jvm.Cond) (ao : Addr) (d0 : UInt64) (n0 : Nat) (ai : Int) (h0 : Heap) (E_ao : Exa Z h0 ao "com/example/ustaf/ustaf/model/Range") (F1 : Fld Z h0 ao "java/lang/Enum" "ordinal" "I" (.int (6 : Int32))) (Fd : DB (-2) 2147483648 ai d0) :
    Con l (⟨"com/example/ustaf/ustaf/model/Range", "contains", "(D)Z"⟩ : MethodName) prog_26_method_5_code 3 (some .boolean) ws ({ frames := 1, cells := 0, slots := 0, locals := 12 } : Room) Z #[(.ref ao), (.double d0)] h0 (fun v h L => Fr n0 L ∧ v = some (.int (if 0 < ai ∧ ai ≤ 4 then (1 : Int32) else 0)) ∧ h = h0) := by
  refine con_of (plainFor_of_name pn_1) ?_
  intro p e s m below meth c s₁ X0 hx hby hml hret hlk hown hnm hZ e0
  refine Go.cast (ef_1 m ao d0) ?_
  have N0 := Fr.nil n0
  refine go_aloadN (q := 1) X0 hx (hb hby d1_0) rfl rfl rfl ?_
  refine go_callVU (q := 4) (W := 0) X0 hx hZ hown e0 (hw _ (List.mem_of_getElem? (i := 10) rfl)) (hw _ (List.mem_of_getElem? (i := 11) rfl)) (hw _ (List.mem_of_getElem? (i := 12) rfl)) (by decide) (hw _ (List.mem_of_getElem? (i := 14) rfl)) (hw _ (List.mem_of_getElem? (i := 13) rfl)) (hw _ (List.mem_of_getElem? (i := 15) rfl)) (hw _ (List.mem_of_getElem? (i := 16) rfl)) ao [] [] E_ao (rm2 l Z a0 hw [] ao n0 (6 : Int32) h0 F1) (by rw [hml]; rfl) rfl (lenOf pd_0 rfl) (Nat.le_of_eq rfl) (by decide) (by decide) (hb hby d1_1) rfl (by decide) (by decide) ?_
  rintro T1 L1 v1 X1 ⟨Nq1, rfl, e1⟩
  have N1 := Fr.app N0 Nq1
  show Go p e below s (fun v h L => Fr n0 L ∧ v = some (.int (if 0 < ai ∧ ai ≤ 4 then (1 : Int32) else 0)) ∧ h = h0) ({ frames := 1, cells := 0, slots := 0, locals := 12 } : Room).cells ({ frames := 1, cells := 0, slots := 0, locals := 12 } : Room).slots T1 (mkF m 4 #[.val (.ref ao), .val (.double d0), .second] [(.int (6 : Int32))])
  refine go_tsw (q := 156) (off := 152) X1 hx (hb hby d1_4) (by decide) rfl (by decide) rfl ?_
  refine go_dloadN (q := 157) X1 hx (hb hby d1_156) rfl rfl ?_
  refine go_dconst0 (q := 158) (v := (0 : UInt64)) X1 hx (hb hby d1_157) rfl rfl ?_
  refine go_dcmp (q := 159) X1 hx (hb hby d1_158) rfl rfl ?_
  refine go_dif_le (q := 162) (q' := 172) X1 hx (hb hby d1_159) rfl (by decide) rfl Fd own_0 (fun hc159 => ?_) (fun hc159 => ?_)
  · refine go_iconst (q := 173) (v := (0 : Int32)) X1 hx (hb hby d1_172) rfl rfl ?_
    exact go_retN X1 hx (by simp) hret hlk (hb hby d1_173) (by decide) (by decide) ⟨N1, by rw [if_neg (by omega)]; rfl, e1⟩
  · refine go_dloadN (q := 163) X1 hx (hb hby d1_162) rfl rfl ?_
    refine go_dconst1 (q := 164) (v := (4607182418800017408 : UInt64)) X1 hx (hb hby d1_163) rfl rfl ?_
    refine go_dcmp (q := 165) X1 hx (hb hby d1_164) rfl rfl ?_
    refine go_dif_gt (q := 168) (q' := 172) X1 hx (hb hby d1_165) rfl (by decide) rfl Fd own_1 (fun hc165 => ?_) (fun hc165 => ?_)
    · refine go_iconst (q := 173) (v := (0 : Int32)) X1 hx (hb hby d1_172) rfl rfl ?_
      exact go_retN X1 hx (by simp) hret hlk (hb hby d1_173) (by decide) (by decide) ⟨N1, by rw [if_neg (by omega)]; rfl, e1⟩
    · refine go_iconst (q := 169) (v := (1 : Int32)) X1 hx (hb hby d1_168) rfl rfl ?_
      refine go_goto (q := 173) X1 hx (hb hby d1_169) (by decide) rfl ?_
      exact go_retN X1 hx (by simp) hret hlk (hb hby d1_173) (by decide) (by decide) ⟨N1, by rw [if_pos (by omega)]; rfl, e1⟩
theorem pn_0 : plainName "com/example/ustaf/ustaf/model/RangeContainsPinLaw" = true := by first | (simp [plainName, overriddenIn]; done) | decide +kernel
theorem ef_0 (m : MethodId) (x0 : Int32) (x1 : Int32) : entryFrame m #[(.int x0), (.int x1)] maxLocals = mkF m 0 #[.val (.int x0), .val (.int x1), .unset, .unset, .unset, .unset, .unset] [] := by first | (simp [entryFrame, mkF, argsToLocals, Value.category, maxLocals]; done) | rfl
set_option maxRecDepth 65536 in
set_option maxHeartbeats 40000000 in
theorem rm0 (l : Launch) (Z : State) (a0 : Array Value) (hw : ∀ d ∈ tables_1, d.before a0 Z = true) (ws : List Jvm.Cond) (sel : Int32) (a_ : Int32) (ad0 ad1 ad2 ad3 ad4 ad5 ad6 : Addr) (h0 : Heap) (S0 : Sta Z h0 "com/example/ustaf/ustaf/model/Range" "AT_LEAST_ZERO" "Lcom/example/ustaf/ustaf/model/Range;" (.ref ad0)) (E0 : Exa Z h0 ad0 "com/example/ustaf/ustaf/model/Range") (O0 : Fld Z h0 ad0 "java/lang/Enum" "ordinal" "I" (.int (0 : Int32))) (S1 : Sta Z h0 "com/example/ustaf/ustaf/model/Range" "ABOVE_ZERO" "Lcom/example/ustaf/ustaf/model/Range;" (.ref ad1)) (E1 : Exa Z h0 ad1 "com/example/ustaf/ustaf/model/Range") (O1 : Fld Z h0 ad1 "java/lang/Enum" "ordinal" "I" (.int (1 : Int32))) (S2 : Sta Z h0 "com/example/ustaf/ustaf/model/Range" "AT_LEAST_ONE" "Lcom/example/ustaf/ustaf/model/Range;" (.ref ad2)) (E2 : Exa Z h0 ad2 "com/example/ustaf/ustaf/model/Range") (O2 : Fld Z h0 ad2 "java/lang/Enum" "ordinal" "I" (.int (2 : Int32))) (S3 : Sta Z h0 "com/example/ustaf/ustaf/model/Range" "AT_LEAST_TWO" "Lcom/example/ustaf/ustaf/model/Range;" (.ref ad3)) (E3 : Exa Z h0 ad3 "com/example/ustaf/ustaf/model/Range") (O3 : Fld Z h0 ad3 "java/lang/Enum" "ordinal" "I" (.int (3 : Int32))) (S4 : Sta Z h0 "com/example/ustaf/ustaf/model/Range" "PROBABILITY" "Lcom/example/ustaf/ustaf/model/Range;" (.ref ad4)) (E4 : Exa Z h0 ad4 "com/example/ustaf/ustaf/model/Range") (O4 : Fld Z h0 ad4 "java/lang/Enum" "ordinal" "I" (.int (4 : Int32))) (S5 : Sta Z h0 "com/example/ustaf/ustaf/model/Range" "BELOW_ONE" "Lcom/example/ustaf/ustaf/model/Range;" (.ref ad5)) (E5 : Exa Z h0 ad5 "com/example/ustaf/ustaf/model/Range") (O5 : Fld Z h0 ad5 "java/lang/Enum" "ordinal" "I" (.int (5 : Int32))) (S6 : Sta Z h0 "com/example/ustaf/ustaf/model/Range" "SHARE" "Lcom/example/ustaf/ustaf/model/Range;" (.ref ad6)) (E6 : Exa Z h0 ad6 "com/example/ustaf/ustaf/model/Range") (O6 : Fld Z h0 ad6 "java/lang/Enum" "ordinal" "I" (.int (6 : Int32))) :
    Con l x code maxLocals ret ws room_1 Z #[(.int sel), (.int a_)] h0 (fun v h L => v = some (.int (1 : Int32)) ∧ Fr h0.size L) := by
  refine con_of (plainFor_of_name pn_0) ?_
  intro p e s m below meth c s₁ X0 hx hby hml hret hlk hown hnm hZ e0
  refine Go.cast (ef_0 m sel a_) ?_
  have N0 := Fr.nil h0.size
  have hsz : h0.size ≤ h0.size := (Nat.le_refl _)
  refine go_iloadN (q := 1) X0 hx (hb hby at_0) rfl rfl ?_
  refine go_ldcI (q := 3) (v := (2147483647 : Int32)) X0 hx hZ hown (hw _ (List.mem_of_getElem? (i := 0) rfl)) (hb hby at_1) rfl ?_
  refine go_iand (q := 4) (v := (sel &&& (2147483647 : Int32))) X0 hx (hb hby at_3) rfl rfl ?_
  refine go_bipush (q := 6) (v := (7 : Int32)) X0 hx (hb hby at_4) rfl rfl ?_
  refine go_irem (q := 7) (v := ((sel &&& (2147483647 : Int32)) % (7 : Int32))) X0 hx (hb hby at_6) rfl (by decide) rfl ?_
  refine go_istoreN (q := 8) (l' := #[.val (.int sel), .val (.int a_), .val (.int ((sel &&& (2147483647 : Int32)) % (7 : Int32))), .unset, .unset, .unset, .unset]) X0 hx (hb hby at_7) rfl rfl ?_
  suffices Hk_ : ∀ k_ : Int32, k_ = ((sel &&& (2147483647 : Int32)) % (7 : Int32)) → Go p e below s (fun v h L => v = some (.int (1 : Int32)) ∧ Fr h0.size L) room_1.cells room_1.slots s₁ (mkF m 8 #[.val (.int sel), .val (.int a_), .val (.int k_), .unset, .unset, .unset, .unset] []) from Hk_ _ rfl
  intro k_ ek_
  have hk : k_ = 0 ∨ k_ = 1 ∨ k_ = 2 ∨ k_ = 3 ∨ k_ = 4 ∨ k_ = 5 ∨ k_ = 6 := by rw [ek_]; exact own_k _
  have z0 : (0 : Int32).toInt = 0 := rfl
  have z4 : (4 : Int32).toInt = 4 := rfl
  have z8 : (8 : Int32).toInt = 8 := rfl
  rcases hk with rfl | rfl | rfl | rfl | rfl | rfl | rfl
  · refine go_iloadN (q := 9) X0 hx (hb hby at_8) rfl rfl ?_
    refine go_if_ne (q := 12) (q' := 30) X0 hx (hb hby at_9) rfl (by decide) rfl (fun hc9 => ?_) (fun hc9 => ?_)
    · exact absurd rfl hc9
    · refine go_getS (q := 15) X0 hx hZ (host := "") hown (Or.inl (hw _ (List.mem_of_getElem? (i := 1) rfl))) Via.refl e0 S0 (hb hby at_12) rfl (fun T1 X1 e1 => ?_)
      refine go_astoreN (q := 16) (l' := #[.val (.int sel), .val (.int a_), .val (.int (0 : Int32)), .val (.ref ad0), .unset, .unset, .unset]) X1 hx (hb hby at_15) rfl rfl rfl ?_
      refine go_iloadN (q := 17) X1 hx (hb hby at_16) rfl rfl ?_
      refine go_if_lt (q := 20) (q' := 24) X1 hx (hb hby at_17) rfl (by decide) rfl (fun hc17 => ?_) (fun hc17 => ?_)
      · rw [Int32.lt_iff_toInt_lt] at hc17
        refine go_iconst (q := 25) (v := (0 : Int32)) X1 hx (hb hby at_24) rfl rfl ?_
        refine go_istore (q := 27) (l' := #[.val (.int sel), .val (.int a_), .val (.int (0 : Int32)), .val (.ref ad0), .val (.int (0 : Int32)), .unset, .unset]) X1 hx (hb hby at_25) rfl rfl ?_
        refine go_goto (q := 178) X1 hx (hb hby at_27) (by decide) rfl ?_
        refine go_iloadN (q := 179) X1 hx (hb hby at_178) rfl rfl ?_
        refine go_i2dB (q := 180) X1 hx (hb hby at_179) rfl (db_i2d _) (fun z2 hz2 => ?_)
        refine go_ldc2D (q := 183) (v := (4616189618054758400 : UInt64)) X1 hx hZ hown (hw _ (List.mem_of_getElem? (i := 4) rfl)) (hb hby at_180) rfl ?_
        refine go_ddivB (q := 184) (kk := (-2)) (w0 := a_.toInt) X1 hx (hb hby at_183) rfl hz2 own_c4 (by decide) (by omega) (by decide) (by decide) (by decide) rfl (fun z3 hz3 => ?_)
        refine go_dstore (q := 186) (l' := #[.val (.int sel), .val (.int a_), .val (.int (0 : Int32)), .val (.ref ad0), .val (.int (0 : Int32)), .val (.double z3), .second]) X1 hx (hb hby at_184) rfl rfl ?_
        refine go_aloadN (q := 187) X1 hx (hb hby at_186) rfl rfl rfl ?_
        refine go_dload (q := 189) X1 hx (hb hby at_187) rfl rfl ?_
        refine go_callV (q := 192) (W := 0) X1 hx hZ hown e1 (hw _ (List.mem_of_getElem? (i := 5) rfl)) (hw _ (List.mem_of_getElem? (i := 6) rfl)) (notFace_of_selects (args := #[]) (mvT hZ (hw _ (List.mem_of_getElem? (i := 8) rfl)))) (hw _ (List.mem_of_getElem? (i := 8) rfl)) (hw _ (List.mem_of_getElem? (i := 7) rfl)) (hw _ (List.mem_of_getElem? (i := 2) rfl)) (hw _ (List.mem_of_getElem? (i := 9) rfl)) (by decide) ad0 [(.double z3)] [] E0 (rm1_0 l Z a0 hw [] ad0 z3 h0.size a_.toInt h0 E0 O0 hz3) (by rw [hml]; rfl) rfl (lenOf pd_1 rfl) (Nat.le_of_eq rfl) (by decide) (by decide) (hb hby at_189) rfl (by decide) (by decide) ?_
        rintro T4 L4 v4 X4 ⟨Nq4, rfl, e4⟩
        have N4 := Fr.app N0 Nq4
        show Go p e below s (fun v h L => v = some (.int (1 : Int32)) ∧ Fr h0.size L) room_1.cells room_1.slots T4 (mkF m 192 #[.val (.int sel), .val (.int a_), .val (.int (0 : Int32)), .val (.ref ad0), .val (.int (0 : Int32)), .val (.double z3), .second] [(.int (if 0 ≤ a_.toInt then (1 : Int32) else 0))])
        suffices Hgot : ∀ got : Int32, got = (if 0 ≤ a_.toInt then (1 : Int32) else 0) → Go p e below s (fun v h L => v = some (.int (1 : Int32)) ∧ Fr h0.size L) room_1.cells room_1.slots T4 (mkF m 192 #[.val (.int sel), .val (.int a_), .val (.int (0 : Int32)), .val (.ref ad0), .val (.int (0 : Int32)), .val (.double z3), .second] [(.int got)]) from Hgot _ rfl
        intro got egot
        refine go_iload (q := 194) X4 hx (hb hby at_192) rfl rfl ?_
        refine go_icmp_ne (q := 197) (q' := 201) X4 hx (hb hby at_194) rfl (by decide) rfl (fun hc194 => ?_) (fun hc194 => ?_)
        · exact absurd (by rw [egot, if_neg (by omega)]) hc194
        · refine go_iconst (q := 198) (v := (1 : Int32)) X4 hx (hb hby at_197) rfl rfl ?_
          refine go_goto (q := 202) X4 hx (hb hby at_198) (by decide) rfl ?_
          exact go_retN X4 hx (by simp) hret hlk (hb hby at_202) (by decide) (by decide) ⟨rfl, N4⟩
      · rw [Int32.lt_iff_toInt_lt] at hc17
        refine go_iconst (q := 21) (v := (1 : Int32)) X1 hx (hb hby at_20) rfl rfl ?_
        refine go_goto (q := 25) X1 hx (hb hby at_21) (by decide) rfl ?_
        refine go_istore (q := 27) (l' := #[.val (.int sel), .val (.int a_), .val (.int (0 : Int32)), .val (.ref ad0), .val (.int (1 : Int32)), .unset, .unset]) X1 hx (hb hby at_25) rfl rfl ?_
        refine go_goto (q := 178) X1 hx (hb hby at_27) (by decide) rfl ?_
        refine go_iloadN (q := 179) X1 hx (hb hby at_178) rfl rfl ?_
        refine go_i2dB (q := 180) X1 hx (hb hby at_179) rfl (db_i2d _) (fun z5 hz5 => ?_)
        refine go_ldc2D (q := 183) (v := (4616189618054758400 : UInt64)) X1 hx hZ hown (hw _ (List.mem_of_getElem? (i := 4) rfl)) (hb hby at_180) rfl ?_
        refine go_ddivB (q := 184) (kk := (-2)) (w0 := a_.toInt) X1 hx (hb hby at_183) rfl hz5 own_c4 (by decide) (by omega) (by decide) (by decide) (by decide) rfl (fun z6 hz6 => ?_)
        refine go_dstore (q := 186) (l' := #[.val (.int sel), .val (.int a_), .val (.int (0 : Int32)), .val (.ref ad0), .val (.int (1 : Int32)), .val (.double z6), .second]) X1 hx (hb hby at_184) rfl rfl ?_
        refine go_aloadN (q := 187) X1 hx (hb hby at_186) rfl rfl rfl ?_
        refine go_dload (q := 189) X1 hx (hb hby at_187) rfl rfl ?_
        refine go_callV (q := 192) (W := 0) X1 hx hZ hown e1 (hw _ (List.mem_of_getElem? (i := 5) rfl)) (hw _ (List.mem_of_getElem? (i := 6) rfl)) (notFace_of_selects (args := #[]) (mvT hZ (hw _ (List.mem_of_getElem? (i := 8) rfl)))) (hw _ (List.mem_of_getElem? (i := 8) rfl)) (hw _ (List.mem_of_getElem? (i := 7) rfl)) (hw _ (List.mem_of_getElem? (i := 2) rfl)) (hw _ (List.mem_of_getElem? (i := 9) rfl)) (by decide) ad0 [(.double z6)] [] E0 (rm1_0 l Z a0 hw [] ad0 z6 h0.size a_.toInt h0 E0 O0 hz6) (by rw [hml]; rfl) rfl (lenOf pd_1 rfl) (Nat.le_of_eq rfl) (by decide) (by decide) (hb hby at_189) rfl (by decide) (by decide) ?_
        rintro T7 L7 v7 X7 ⟨Nq7, rfl, e7⟩
        have N7 := Fr.app N0 Nq7
        show Go p e below s (fun v h L => v = some (.int (1 : Int32)) ∧ Fr h0.size L) room_1.cells room_1.slots T7 (mkF m 192 #[.val (.int sel), .val (.int a_), .val (.int (0 : Int32)), .val (.ref ad0), .val (.int (1 : Int32)), .val (.double z6), .second] [(.int (if 0 ≤ a_.toInt then (1 : Int32) else 0))])
        suffices Hgot : ∀ got : Int32, got = (if 0 ≤ a_.toInt then (1 : Int32) else 0) → Go p e below s (fun v h L => v = some (.int (1 : Int32)) ∧ Fr h0.size L) room_1.cells room_1.slots T7 (mkF m 192 #[.val (.int sel), .val (.int a_), .val (.int (0 : Int32)), .val (.ref ad0), .val (.int (1 : Int32)), .val (.double z6), .second] [(.int got)]) from Hgot _ rfl
        intro got egot
        refine go_iload (q := 194) X7 hx (hb hby at_192) rfl rfl ?_
        refine go_icmp_ne (q := 197) (q' := 201) X7 hx (hb hby at_194) rfl (by decide) rfl (fun hc194 => ?_) (fun hc194 => ?_)
        · exact absurd (by rw [egot, if_pos (by omega)]) hc194
        · refine go_iconst (q := 198) (v := (1 : Int32)) X7 hx (hb hby at_197) rfl rfl ?_
          refine go_goto (q := 202) X7 hx (hb hby at_198) (by decide) rfl ?_
          exact go_retN X7 hx (by simp) hret hlk (hb hby at_202) (by decide) (by decide) ⟨rfl, N7⟩
  · refine go_iloadN (q := 9) X0 hx (hb hby at_8) rfl rfl ?_
    refine go_if_ne (q := 12) (q' := 30) X0 hx (hb hby at_9) rfl (by decide) rfl (fun hc9 => ?_) (fun hc9 => ?_)
    · refine go_iloadN (q := 31) X0 hx (hb hby at_30) rfl rfl ?_
      refine go_iconst (q := 32) (v := (1 : Int32)) X0 hx (hb hby at_31) rfl rfl ?_
      refine go_icmp_ne (q := 35) (q' := 53) X0 hx (hb hby at_32) rfl (by decide) rfl (fun hc32 => ?_) (fun hc32 => ?_)
      · exact absurd rfl hc32
      · refine go_getS (q := 38) X0 hx hZ (host := "") hown (Or.inl (hw _ (List.mem_of_getElem? (i := 22) rfl))) Via.refl e0 S1 (hb hby at_35) rfl (fun T8 X8 e8 => ?_)
        refine go_astoreN (q := 39) (l' := #[.val (.int sel), .val (.int a_), .val (.int (1 : Int32)), .val (.ref ad1), .unset, .unset, .unset]) X8 hx (hb hby at_38) rfl rfl rfl ?_
        refine go_iloadN (q := 40) X8 hx (hb hby at_39) rfl rfl ?_
        refine go_if_le (q := 43) (q' := 47) X8 hx (hb hby at_40) rfl (by decide) rfl (fun hc40 => ?_) (fun hc40 => ?_)
        · rw [Int32.lt_iff_toInt_lt] at hc40
          refine go_iconst (q := 48) (v := (0 : Int32)) X8 hx (hb hby at_47) rfl rfl ?_
          refine go_istore (q := 50) (l' := #[.val (.int sel), .val (.int a_), .val (.int (1 : Int32)), .val (.ref ad1), .val (.int (0 : Int32)), .unset, .unset]) X8 hx (hb hby at_48) rfl rfl ?_
          refine go_goto (q := 178) X8 hx (hb hby at_50) (by decide) rfl ?_
          refine go_iloadN (q := 179) X8 hx (hb hby at_178) rfl rfl ?_
          refine go_i2dB (q := 180) X8 hx (hb hby at_179) rfl (db_i2d _) (fun z9 hz9 => ?_)
          refine go_ldc2D (q := 183) (v := (4616189618054758400 : UInt64)) X8 hx hZ hown (hw _ (List.mem_of_getElem? (i := 4) rfl)) (hb hby at_180) rfl ?_
          refine go_ddivB (q := 184) (kk := (-2)) (w0 := a_.toInt) X8 hx (hb hby at_183) rfl hz9 own_c4 (by decide) (by omega) (by decide) (by decide) (by decide) rfl (fun z10 hz10 => ?_)
          refine go_dstore (q := 186) (l' := #[.val (.int sel), .val (.int a_), .val (.int (1 : Int32)), .val (.ref ad1), .val (.int (0 : Int32)), .val (.double z10), .second]) X8 hx (hb hby at_184) rfl rfl ?_
          refine go_aloadN (q := 187) X8 hx (hb hby at_186) rfl rfl rfl ?_
          refine go_dload (q := 189) X8 hx (hb hby at_187) rfl rfl ?_
          refine go_callV (q := 192) (W := 0) X8 hx hZ hown e8 (hw _ (List.mem_of_getElem? (i := 5) rfl)) (hw _ (List.mem_of_getElem? (i := 6) rfl)) (notFace_of_selects (args := #[]) (mvT hZ (hw _ (List.mem_of_getElem? (i := 8) rfl)))) (hw _ (List.mem_of_getElem? (i := 8) rfl)) (hw _ (List.mem_of_getElem? (i := 7) rfl)) (hw _ (List.mem_of_getElem? (i := 2) rfl)) (hw _ (List.mem_of_getElem? (i := 9) rfl)) (by decide) ad1 [(.double z10)] [] E1 (rm1_1 l Z a0 hw [] ad1 z10 h0.size a_.toInt h0 E1 O1 hz10) (by rw [hml]; rfl) rfl (lenOf pd_1 rfl) (Nat.le_of_eq rfl) (by decide) (by decide) (hb hby at_189) rfl (by decide) (by decide) ?_
          rintro T11 L11 v11 X11 ⟨Nq11, rfl, e11⟩
          have N11 := Fr.app N0 Nq11
          show Go p e below s (fun v h L => v = some (.int (1 : Int32)) ∧ Fr h0.size L) room_1.cells room_1.slots T11 (mkF m 192 #[.val (.int sel), .val (.int a_), .val (.int (1 : Int32)), .val (.ref ad1), .val (.int (0 : Int32)), .val (.double z10), .second] [(.int (if 0 < a_.toInt then (1 : Int32) else 0))])
          suffices Hgot : ∀ got : Int32, got = (if 0 < a_.toInt then (1 : Int32) else 0) → Go p e below s (fun v h L => v = some (.int (1 : Int32)) ∧ Fr h0.size L) room_1.cells room_1.slots T11 (mkF m 192 #[.val (.int sel), .val (.int a_), .val (.int (1 : Int32)), .val (.ref ad1), .val (.int (0 : Int32)), .val (.double z10), .second] [(.int got)]) from Hgot _ rfl
          intro got egot
          refine go_iload (q := 194) X11 hx (hb hby at_192) rfl rfl ?_
          refine go_icmp_ne (q := 197) (q' := 201) X11 hx (hb hby at_194) rfl (by decide) rfl (fun hc194 => ?_) (fun hc194 => ?_)
          · exact absurd (by rw [egot, if_neg (by omega)]) hc194
          · refine go_iconst (q := 198) (v := (1 : Int32)) X11 hx (hb hby at_197) rfl rfl ?_
            refine go_goto (q := 202) X11 hx (hb hby at_198) (by decide) rfl ?_
            exact go_retN X11 hx (by simp) hret hlk (hb hby at_202) (by decide) (by decide) ⟨rfl, N11⟩
        · rw [Int32.lt_iff_toInt_lt] at hc40
          refine go_iconst (q := 44) (v := (1 : Int32)) X8 hx (hb hby at_43) rfl rfl ?_
          refine go_goto (q := 48) X8 hx (hb hby at_44) (by decide) rfl ?_
          refine go_istore (q := 50) (l' := #[.val (.int sel), .val (.int a_), .val (.int (1 : Int32)), .val (.ref ad1), .val (.int (1 : Int32)), .unset, .unset]) X8 hx (hb hby at_48) rfl rfl ?_
          refine go_goto (q := 178) X8 hx (hb hby at_50) (by decide) rfl ?_
          refine go_iloadN (q := 179) X8 hx (hb hby at_178) rfl rfl ?_
          refine go_i2dB (q := 180) X8 hx (hb hby at_179) rfl (db_i2d _) (fun z12 hz12 => ?_)
          refine go_ldc2D (q := 183) (v := (4616189618054758400 : UInt64)) X8 hx hZ hown (hw _ (List.mem_of_getElem? (i := 4) rfl)) (hb hby at_180) rfl ?_
          refine go_ddivB (q := 184) (kk := (-2)) (w0 := a_.toInt) X8 hx (hb hby at_183) rfl hz12 own_c4 (by decide) (by omega) (by decide) (by decide) (by decide) rfl (fun z13 hz13 => ?_)
          refine go_dstore (q := 186) (l' := #[.val (.int sel), .val (.int a_), .val (.int (1 : Int32)), .val (.ref ad1), .val (.int (1 : Int32)), .val (.double z13), .second]) X8 hx (hb hby at_184) rfl rfl ?_
          refine go_aloadN (q := 187) X8 hx (hb hby at_186) rfl rfl rfl ?_
          refine go_dload (q := 189) X8 hx (hb hby at_187) rfl rfl ?_
          refine go_callV (q := 192) (W := 0) X8 hx hZ hown e8 (hw _ (List.mem_of_getElem? (i := 5) rfl)) (hw _ (List.mem_of_getElem? (i := 6) rfl)) (notFace_of_selects (args := #[]) (mvT hZ (hw _ (List.mem_of_getElem? (i := 8) rfl)))) (hw _ (List.mem_of_getElem? (i := 8) rfl)) (hw _ (List.mem_of_getElem? (i := 7) rfl)) (hw _ (List.mem_of_getElem? (i := 2) rfl)) (hw _ (List.mem_of_getElem? (i := 9) rfl)) (by decide) ad1 [(.double z13)] [] E1 (rm1_1 l Z a0 hw [] ad1 z13 h0.size a_.toInt h0 E1 O1 hz13) (by rw [hml]; rfl) rfl (lenOf pd_1 rfl) (Nat.le_of_eq rfl) (by decide) (by decide) (hb hby at_189) rfl (by decide) (by decide) ?_
          rintro T14 L14 v14 X14 ⟨Nq14, rfl, e14⟩
          have N14 := Fr.app N0 Nq14
          show Go p e below s (fun v h L => v = some (.int (1 : Int32)) ∧ Fr h0.size L) room_1.cells room_1.slots T14 (mkF m 192 #[.val (.int sel), .val (.int a_), .val (.int (1 : Int32)), .val (.ref ad1), .val (.int (1 : Int32)), .val (.double z13), .second] [(.int (if 0 < a_.toInt then (1 : Int32) else 0))])
          suffices Hgot : ∀ got : Int32, got = (if 0 < a_.toInt then (1 : Int32) else 0) → Go p e below s (fun v h L => v = some (.int (1 : Int32)) ∧ Fr h0.size L) room_1.cells room_1.slots T14 (mkF m 192 #[.val (.int sel), .val (.int a_), .val (.int (1 : Int32)), .val (.ref ad1), .val (.int (1 : Int32)), .val (.double z13), .second] [(.int got)]) from Hgot _ rfl
          intro got egot
          refine go_iload (q := 194) X14 hx (hb hby at_192) rfl rfl ?_
          refine go_icmp_ne (q := 197) (q' := 201) X14 hx (hb hby at_194) rfl (by decide) rfl (fun hc194 => ?_) (fun hc194 => ?_)
          · exact absurd (by rw [egot, if_pos (by omega)]) hc194
          · refine go_iconst (q := 198) (v := (1 : Int32)) X14 hx (hb hby at_197) rfl rfl ?_
            refine go_goto (q := 202) X14 hx (hb hby at_198) (by decide) rfl ?_
            exact go_retN X14 hx (by simp) hret hlk (hb hby at_202) (by decide) (by decide) ⟨rfl, N14⟩
    · exact absurd hc9 (by decide)
  · refine go_iloadN (q := 9) X0 hx (hb hby at_8) rfl rfl ?_
    refine go_if_ne (q := 12) (q' := 30) X0 hx (hb hby at_9) rfl (by decide) rfl (fun hc9 => ?_) (fun hc9 => ?_)
    · refine go_iloadN (q := 31) X0 hx (hb hby at_30) rfl rfl ?_
      refine go_iconst (q := 32) (v := (1 : Int32)) X0 hx (hb hby at_31) rfl rfl ?_
      refine go_icmp_ne (q := 35) (q' := 53) X0 hx (hb hby at_32) rfl (by decide) rfl (fun hc32 => ?_) (fun hc32 => ?_)
      · refine go_iloadN (q := 54) X0 hx (hb hby at_53) rfl rfl ?_
        refine go_iconst (q := 55) (v := (2 : Int32)) X0 hx (hb hby at_54) rfl rfl ?_
        refine go_icmp_ne (q := 58) (q' := 77) X0 hx (hb hby at_55) rfl (by decide) rfl (fun hc55 => ?_) (fun hc55 => ?_)
        · exact absurd rfl hc55
        · refine go_getS (q := 61) X0 hx hZ (host := "") hown (Or.inl (hw _ (List.mem_of_getElem? (i := 30) rfl))) Via.refl e0 S2 (hb hby at_58) rfl (fun T15 X15 e15 => ?_)
          refine go_astoreN (q := 62) (l' := #[.val (.int sel), .val (.int a_), .val (.int (2 : Int32)), .val (.ref ad2), .unset, .unset, .unset]) X15 hx (hb hby at_61) rfl rfl rfl ?_
          refine go_iloadN (q := 63) X15 hx (hb hby at_62) rfl rfl ?_
          refine go_iconst (q := 64) (v := (4 : Int32)) X15 hx (hb hby at_63) rfl rfl ?_
          refine go_icmp_lt (q := 67) (q' := 71) X15 hx (hb hby at_64) rfl (by decide) rfl (fun hc64 => ?_) (fun hc64 => ?_)
          · rw [Int32.lt_iff_toInt_lt] at hc64
            refine go_iconst (q := 72) (v := (0 : Int32)) X15 hx (hb hby at_71) rfl rfl ?_
            refine go_istore (q := 74) (l' := #[.val (.int sel), .val (.int a_), .val (.int (2 : Int32)), .val (.ref ad2), .val (.int (0 : Int32)), .unset, .unset]) X15 hx (hb hby at_72) rfl rfl ?_
            refine go_goto (q := 178) X15 hx (hb hby at_74) (by decide) rfl ?_
            refine go_iloadN (q := 179) X15 hx (hb hby at_178) rfl rfl ?_
            refine go_i2dB (q := 180) X15 hx (hb hby at_179) rfl (db_i2d _) (fun z16 hz16 => ?_)
            refine go_ldc2D (q := 183) (v := (4616189618054758400 : UInt64)) X15 hx hZ hown (hw _ (List.mem_of_getElem? (i := 4) rfl)) (hb hby at_180) rfl ?_
            refine go_ddivB (q := 184) (kk := (-2)) (w0 := a_.toInt) X15 hx (hb hby at_183) rfl hz16 own_c4 (by decide) (by omega) (by decide) (by decide) (by decide) rfl (fun z17 hz17 => ?_)
            refine go_dstore (q := 186) (l' := #[.val (.int sel), .val (.int a_), .val (.int (2 : Int32)), .val (.ref ad2), .val (.int (0 : Int32)), .val (.double z17), .second]) X15 hx (hb hby at_184) rfl rfl ?_
            refine go_aloadN (q := 187) X15 hx (hb hby at_186) rfl rfl rfl ?_
            refine go_dload (q := 189) X15 hx (hb hby at_187) rfl rfl ?_
            refine go_callV (q := 192) (W := 0) X15 hx hZ hown e15 (hw _ (List.mem_of_getElem? (i := 5) rfl)) (hw _ (List.mem_of_getElem? (i := 6) rfl)) (notFace_of_selects (args := #[]) (mvT hZ (hw _ (List.mem_of_getElem? (i := 8) rfl)))) (hw _ (List.mem_of_getElem? (i := 8) rfl)) (hw _ (List.mem_of_getElem? (i := 7) rfl)) (hw _ (List.mem_of_getElem? (i := 2) rfl)) (hw _ (List.mem_of_getElem? (i := 9) rfl)) (by decide) ad2 [(.double z17)] [] E2 (rm1_2 l Z a0 hw [] ad2 z17 h0.size a_.toInt h0 E2 O2 hz17) (by rw [hml]; rfl) rfl (lenOf pd_1 rfl) (Nat.le_of_eq rfl) (by decide) (by decide) (hb hby at_189) rfl (by decide) (by decide) ?_
            rintro T18 L18 v18 X18 ⟨Nq18, rfl, e18⟩
            have N18 := Fr.app N0 Nq18
            show Go p e below s (fun v h L => v = some (.int (1 : Int32)) ∧ Fr h0.size L) room_1.cells room_1.slots T18 (mkF m 192 #[.val (.int sel), .val (.int a_), .val (.int (2 : Int32)), .val (.ref ad2), .val (.int (0 : Int32)), .val (.double z17), .second] [(.int (if 4 ≤ a_.toInt then (1 : Int32) else 0))])
            suffices Hgot : ∀ got : Int32, got = (if 4 ≤ a_.toInt then (1 : Int32) else 0) → Go p e below s (fun v h L => v = some (.int (1 : Int32)) ∧ Fr h0.size L) room_1.cells room_1.slots T18 (mkF m 192 #[.val (.int sel), .val (.int a_), .val (.int (2 : Int32)), .val (.ref ad2), .val (.int (0 : Int32)), .val (.double z17), .second] [(.int got)]) from Hgot _ rfl
            intro got egot
            refine go_iload (q := 194) X18 hx (hb hby at_192) rfl rfl ?_
            refine go_icmp_ne (q := 197) (q' := 201) X18 hx (hb hby at_194) rfl (by decide) rfl (fun hc194 => ?_) (fun hc194 => ?_)
            · exact absurd (by rw [egot, if_neg (by omega)]) hc194
            · refine go_iconst (q := 198) (v := (1 : Int32)) X18 hx (hb hby at_197) rfl rfl ?_
              refine go_goto (q := 202) X18 hx (hb hby at_198) (by decide) rfl ?_
              exact go_retN X18 hx (by simp) hret hlk (hb hby at_202) (by decide) (by decide) ⟨rfl, N18⟩
          · rw [Int32.lt_iff_toInt_lt] at hc64
            refine go_iconst (q := 68) (v := (1 : Int32)) X15 hx (hb hby at_67) rfl rfl ?_
            refine go_goto (q := 72) X15 hx (hb hby at_68) (by decide) rfl ?_
            refine go_istore (q := 74) (l' := #[.val (.int sel), .val (.int a_), .val (.int (2 : Int32)), .val (.ref ad2), .val (.int (1 : Int32)), .unset, .unset]) X15 hx (hb hby at_72) rfl rfl ?_
            refine go_goto (q := 178) X15 hx (hb hby at_74) (by decide) rfl ?_
            refine go_iloadN (q := 179) X15 hx (hb hby at_178) rfl rfl ?_
            refine go_i2dB (q := 180) X15 hx (hb hby at_179) rfl (db_i2d _) (fun z19 hz19 => ?_)
            refine go_ldc2D (q := 183) (v := (4616189618054758400 : UInt64)) X15 hx hZ hown (hw _ (List.mem_of_getElem? (i := 4) rfl)) (hb hby at_180) rfl ?_
            refine go_ddivB (q := 184) (kk := (-2)) (w0 := a_.toInt) X15 hx (hb hby at_183) rfl hz19 own_c4 (by decide) (by omega) (by decide) (by decide) (by decide) rfl (fun z20 hz20 => ?_)
            refine go_dstore (q := 186) (l' := #[.val (.int sel), .val (.int a_), .val (.int (2 : Int32)), .val (.ref ad2), .val (.int (1 : Int32)), .val (.double z20), .second]) X15 hx (hb hby at_184) rfl rfl ?_
            refine go_aloadN (q := 187) X15 hx (hb hby at_186) rfl rfl rfl ?_
            refine go_dload (q := 189) X15 hx (hb hby at_187) rfl rfl ?_
            refine go_callV (q := 192) (W := 0) X15 hx hZ hown e15 (hw _ (List.mem_of_getElem? (i := 5) rfl)) (hw _ (List.mem_of_getElem? (i := 6) rfl)) (notFace_of_selects (args := #[]) (mvT hZ (hw _ (List.mem_of_getElem? (i := 8) rfl)))) (hw _ (List.mem_of_getElem? (i := 8) rfl)) (hw _ (List.mem_of_getElem? (i := 7) rfl)) (hw _ (List.mem_of_getElem? (i := 2) rfl)) (hw _ (List.mem_of_getElem? (i := 9) rfl)) (by decide) ad2 [(.double z20)] [] E2 (rm1_2 l Z a0 hw [] ad2 z20 h0.size a_.toInt h0 E2 O2 hz20) (by rw [hml]; rfl) rfl (lenOf pd_1 rfl) (Nat.le_of_eq rfl) (by decide) (by decide) (hb hby at_189) rfl (by decide) (by decide) ?_
            rintro T21 L21 v21 X21 ⟨Nq21, rfl, e21⟩
            have N21 := Fr.app N0 Nq21
            show Go p e below s (fun v h L => v = some (.int (1 : Int32)) ∧ Fr h0.size L) room_1.cells room_1.slots T21 (mkF m 192 #[.val (.int sel), .val (.int a_), .val (.int (2 : Int32)), .val (.ref ad2), .val (.int (1 : Int32)), .val (.double z20), .second] [(.int (if 4 ≤ a_.toInt then (1 : Int32) else 0))])
            suffices Hgot : ∀ got : Int32, got = (if 4 ≤ a_.toInt then (1 : Int32) else 0) → Go p e below s (fun v h L => v = some (.int (1 : Int32)) ∧ Fr h0.size L) room_1.cells room_1.slots T21 (mkF m 192 #[.val (.int sel), .val (.int a_), .val (.int (2 : Int32)), .val (.ref ad2), .val (.int (1 : Int32)), .val (.double z20), .second] [(.int got)]) from Hgot _ rfl
            intro got egot
            refine go_iload (q := 194) X21 hx (hb hby at_192) rfl rfl ?_
            refine go_icmp_ne (q := 197) (q' := 201) X21 hx (hb hby at_194) rfl (by decide) rfl (fun hc194 => ?_) (fun hc194 => ?_)
            · exact absurd (by rw [egot, if_pos (by omega)]) hc194
            · refine go_iconst (q := 198) (v := (1 : Int32)) X21 hx (hb hby at_197) rfl rfl ?_
              refine go_goto (q := 202) X21 hx (hb hby at_198) (by decide) rfl ?_
              exact go_retN X21 hx (by simp) hret hlk (hb hby at_202) (by decide) (by decide) ⟨rfl, N21⟩
      · exact absurd hc32 (by decide)
    · exact absurd hc9 (by decide)
  · refine go_iloadN (q := 9) X0 hx (hb hby at_8) rfl rfl ?_
    refine go_if_ne (q := 12) (q' := 30) X0 hx (hb hby at_9) rfl (by decide) rfl (fun hc9 => ?_) (fun hc9 => ?_)
    · refine go_iloadN (q := 31) X0 hx (hb hby at_30) rfl rfl ?_
      refine go_iconst (q := 32) (v := (1 : Int32)) X0 hx (hb hby at_31) rfl rfl ?_
      refine go_icmp_ne (q := 35) (q' := 53) X0 hx (hb hby at_32) rfl (by decide) rfl (fun hc32 => ?_) (fun hc32 => ?_)
      · refine go_iloadN (q := 54) X0 hx (hb hby at_53) rfl rfl ?_
        refine go_iconst (q := 55) (v := (2 : Int32)) X0 hx (hb hby at_54) rfl rfl ?_
        refine go_icmp_ne (q := 58) (q' := 77) X0 hx (hb hby at_55) rfl (by decide) rfl (fun hc55 => ?_) (fun hc55 => ?_)
        · refine go_iloadN (q := 78) X0 hx (hb hby at_77) rfl rfl ?_
          refine go_iconst (q := 79) (v := (3 : Int32)) X0 hx (hb hby at_78) rfl rfl ?_
          refine go_icmp_ne (q := 82) (q' := 102) X0 hx (hb hby at_79) rfl (by decide) rfl (fun hc79 => ?_) (fun hc79 => ?_)
          · exact absurd rfl hc79
          · refine go_getS (q := 85) X0 hx hZ (host := "") hown (Or.inl (hw _ (List.mem_of_getElem? (i := 19) rfl))) Via.refl e0 S3 (hb hby at_82) rfl (fun T22 X22 e22 => ?_)
            refine go_astoreN (q := 86) (l' := #[.val (.int sel), .val (.int a_), .val (.int (3 : Int32)), .val (.ref ad3), .unset, .unset, .unset]) X22 hx (hb hby at_85) rfl rfl rfl ?_
            refine go_iloadN (q := 87) X22 hx (hb hby at_86) rfl rfl ?_
            refine go_bipush (q := 89) (v := (8 : Int32)) X22 hx (hb hby at_87) rfl rfl ?_
            refine go_icmp_lt (q := 92) (q' := 96) X22 hx (hb hby at_89) rfl (by decide) rfl (fun hc89 => ?_) (fun hc89 => ?_)
            · rw [Int32.lt_iff_toInt_lt] at hc89
              refine go_iconst (q := 97) (v := (0 : Int32)) X22 hx (hb hby at_96) rfl rfl ?_
              refine go_istore (q := 99) (l' := #[.val (.int sel), .val (.int a_), .val (.int (3 : Int32)), .val (.ref ad3), .val (.int (0 : Int32)), .unset, .unset]) X22 hx (hb hby at_97) rfl rfl ?_
              refine go_goto (q := 178) X22 hx (hb hby at_99) (by decide) rfl ?_
              refine go_iloadN (q := 179) X22 hx (hb hby at_178) rfl rfl ?_
              refine go_i2dB (q := 180) X22 hx (hb hby at_179) rfl (db_i2d _) (fun z23 hz23 => ?_)
              refine go_ldc2D (q := 183) (v := (4616189618054758400 : UInt64)) X22 hx hZ hown (hw _ (List.mem_of_getElem? (i := 4) rfl)) (hb hby at_180) rfl ?_
              refine go_ddivB (q := 184) (kk := (-2)) (w0 := a_.toInt) X22 hx (hb hby at_183) rfl hz23 own_c4 (by decide) (by omega) (by decide) (by decide) (by decide) rfl (fun z24 hz24 => ?_)
              refine go_dstore (q := 186) (l' := #[.val (.int sel), .val (.int a_), .val (.int (3 : Int32)), .val (.ref ad3), .val (.int (0 : Int32)), .val (.double z24), .second]) X22 hx (hb hby at_184) rfl rfl ?_
              refine go_aloadN (q := 187) X22 hx (hb hby at_186) rfl rfl rfl ?_
              refine go_dload (q := 189) X22 hx (hb hby at_187) rfl rfl ?_
              refine go_callV (q := 192) (W := 0) X22 hx hZ hown e22 (hw _ (List.mem_of_getElem? (i := 5) rfl)) (hw _ (List.mem_of_getElem? (i := 6) rfl)) (notFace_of_selects (args := #[]) (mvT hZ (hw _ (List.mem_of_getElem? (i := 8) rfl)))) (hw _ (List.mem_of_getElem? (i := 8) rfl)) (hw _ (List.mem_of_getElem? (i := 7) rfl)) (hw _ (List.mem_of_getElem? (i := 2) rfl)) (hw _ (List.mem_of_getElem? (i := 9) rfl)) (by decide) ad3 [(.double z24)] [] E3 (rm1_3 l Z a0 hw [] ad3 z24 h0.size a_.toInt h0 E3 O3 hz24) (by rw [hml]; rfl) rfl (lenOf pd_1 rfl) (Nat.le_of_eq rfl) (by decide) (by decide) (hb hby at_189) rfl (by decide) (by decide) ?_
              rintro T25 L25 v25 X25 ⟨Nq25, rfl, e25⟩
              have N25 := Fr.app N0 Nq25
              show Go p e below s (fun v h L => v = some (.int (1 : Int32)) ∧ Fr h0.size L) room_1.cells room_1.slots T25 (mkF m 192 #[.val (.int sel), .val (.int a_), .val (.int (3 : Int32)), .val (.ref ad3), .val (.int (0 : Int32)), .val (.double z24), .second] [(.int (if 8 ≤ a_.toInt then (1 : Int32) else 0))])
              suffices Hgot : ∀ got : Int32, got = (if 8 ≤ a_.toInt then (1 : Int32) else 0) → Go p e below s (fun v h L => v = some (.int (1 : Int32)) ∧ Fr h0.size L) room_1.cells room_1.slots T25 (mkF m 192 #[.val (.int sel), .val (.int a_), .val (.int (3 : Int32)), .val (.ref ad3), .val (.int (0 : Int32)), .val (.double z24), .second] [(.int got)]) from Hgot _ rfl
              intro got egot
              refine go_iload (q := 194) X25 hx (hb hby at_192) rfl rfl ?_
              refine go_icmp_ne (q := 197) (q' := 201) X25 hx (hb hby at_194) rfl (by decide) rfl (fun hc194 => ?_) (fun hc194 => ?_)
              · exact absurd (by rw [egot, if_neg (by omega)]) hc194
              · refine go_iconst (q := 198) (v := (1 : Int32)) X25 hx (hb hby at_197) rfl rfl ?_
                refine go_goto (q := 202) X25 hx (hb hby at_198) (by decide) rfl ?_
                exact go_retN X25 hx (by simp) hret hlk (hb hby at_202) (by decide) (by decide) ⟨rfl, N25⟩
            · rw [Int32.lt_iff_toInt_lt] at hc89
              refine go_iconst (q := 93) (v := (1 : Int32)) X22 hx (hb hby at_92) rfl rfl ?_
              refine go_goto (q := 97) X22 hx (hb hby at_93) (by decide) rfl ?_
              refine go_istore (q := 99) (l' := #[.val (.int sel), .val (.int a_), .val (.int (3 : Int32)), .val (.ref ad3), .val (.int (1 : Int32)), .unset, .unset]) X22 hx (hb hby at_97) rfl rfl ?_
              refine go_goto (q := 178) X22 hx (hb hby at_99) (by decide) rfl ?_
              refine go_iloadN (q := 179) X22 hx (hb hby at_178) rfl rfl ?_
              refine go_i2dB (q := 180) X22 hx (hb hby at_179) rfl (db_i2d _) (fun z26 hz26 => ?_)
              refine go_ldc2D (q := 183) (v := (4616189618054758400 : UInt64)) X22 hx hZ hown (hw _ (List.mem_of_getElem? (i := 4) rfl)) (hb hby at_180) rfl ?_
              refine go_ddivB (q := 184) (kk := (-2)) (w0 := a_.toInt) X22 hx (hb hby at_183) rfl hz26 own_c4 (by decide) (by omega) (by decide) (by decide) (by decide) rfl (fun z27 hz27 => ?_)
              refine go_dstore (q := 186) (l' := #[.val (.int sel), .val (.int a_), .val (.int (3 : Int32)), .val (.ref ad3), .val (.int (1 : Int32)), .val (.double z27), .second]) X22 hx (hb hby at_184) rfl rfl ?_
              refine go_aloadN (q := 187) X22 hx (hb hby at_186) rfl rfl rfl ?_
              refine go_dload (q := 189) X22 hx (hb hby at_187) rfl rfl ?_
              refine go_callV (q := 192) (W := 0) X22 hx hZ hown e22 (hw _ (List.mem_of_getElem? (i := 5) rfl)) (hw _ (List.mem_of_getElem? (i := 6) rfl)) (notFace_of_selects (args := #[]) (mvT hZ (hw _ (List.mem_of_getElem? (i := 8) rfl)))) (hw _ (List.mem_of_getElem? (i := 8) rfl)) (hw _ (List.mem_of_getElem? (i := 7) rfl)) (hw _ (List.mem_of_getElem? (i := 2) rfl)) (hw _ (List.mem_of_getElem? (i := 9) rfl)) (by decide) ad3 [(.double z27)] [] E3 (rm1_3 l Z a0 hw [] ad3 z27 h0.size a_.toInt h0 E3 O3 hz27) (by rw [hml]; rfl) rfl (lenOf pd_1 rfl) (Nat.le_of_eq rfl) (by decide) (by decide) (hb hby at_189) rfl (by decide) (by decide) ?_
              rintro T28 L28 v28 X28 ⟨Nq28, rfl, e28⟩
              have N28 := Fr.app N0 Nq28
              show Go p e below s (fun v h L => v = some (.int (1 : Int32)) ∧ Fr h0.size L) room_1.cells room_1.slots T28 (mkF m 192 #[.val (.int sel), .val (.int a_), .val (.int (3 : Int32)), .val (.ref ad3), .val (.int (1 : Int32)), .val (.double z27), .second] [(.int (if 8 ≤ a_.toInt then (1 : Int32) else 0))])
              suffices Hgot : ∀ got : Int32, got = (if 8 ≤ a_.toInt then (1 : Int32) else 0) → Go p e below s (fun v h L => v = some (.int (1 : Int32)) ∧ Fr h0.size L) room_1.cells room_1.slots T28 (mkF m 192 #[.val (.int sel), .val (.int a_), .val (.int (3 : Int32)), .val (.ref ad3), .val (.int (1 : Int32)), .val (.double z27), .second] [(.int got)]) from Hgot _ rfl
              intro got egot
              refine go_iload (q := 194) X28 hx (hb hby at_192) rfl rfl ?_
              refine go_icmp_ne (q := 197) (q' := 201) X28 hx (hb hby at_194) rfl (by decide) rfl (fun hc194 => ?_) (fun hc194 => ?_)
              · exact absurd (by rw [egot, if_pos (by omega)]) hc194
              · refine go_iconst (q := 198) (v := (1 : Int32)) X28 hx (hb hby at_197) rfl rfl ?_
                refine go_goto (q := 202) X28 hx (hb hby at_198) (by decide) rfl ?_
                exact go_retN X28 hx (by simp) hret hlk (hb hby at_202) (by decide) (by decide) ⟨rfl, N28⟩
        · exact absurd hc55 (by decide)
      · exact absurd hc32 (by decide)
    · exact absurd hc9 (by decide)
  · refine go_iloadN (q := 9) X0 hx (hb hby at_8) rfl rfl ?_
    refine go_if_ne (q := 12) (q' := 30) X0 hx (hb hby at_9) rfl (by decide) rfl (fun hc9 => ?_) (fun hc9 => ?_)
    · refine go_iloadN (q := 31) X0 hx (hb hby at_30) rfl rfl ?_
      refine go_iconst (q := 32) (v := (1 : Int32)) X0 hx (hb hby at_31) rfl rfl ?_
      refine go_icmp_ne (q := 35) (q' := 53) X0 hx (hb hby at_32) rfl (by decide) rfl (fun hc32 => ?_) (fun hc32 => ?_)
      · refine go_iloadN (q := 54) X0 hx (hb hby at_53) rfl rfl ?_
        refine go_iconst (q := 55) (v := (2 : Int32)) X0 hx (hb hby at_54) rfl rfl ?_
        refine go_icmp_ne (q := 58) (q' := 77) X0 hx (hb hby at_55) rfl (by decide) rfl (fun hc55 => ?_) (fun hc55 => ?_)
        · refine go_iloadN (q := 78) X0 hx (hb hby at_77) rfl rfl ?_
          refine go_iconst (q := 79) (v := (3 : Int32)) X0 hx (hb hby at_78) rfl rfl ?_
          refine go_icmp_ne (q := 82) (q' := 102) X0 hx (hb hby at_79) rfl (by decide) rfl (fun hc79 => ?_) (fun hc79 => ?_)
          · refine go_iloadN (q := 103) X0 hx (hb hby at_102) rfl rfl ?_
            refine go_iconst (q := 104) (v := (4 : Int32)) X0 hx (hb hby at_103) rfl rfl ?_
            refine go_icmp_ne (q := 107) (q' := 130) X0 hx (hb hby at_104) rfl (by decide) rfl (fun hc104 => ?_) (fun hc104 => ?_)
            · exact absurd rfl hc104
            · refine go_getS (q := 110) X0 hx hZ (host := "") hown (Or.inl (hw _ (List.mem_of_getElem? (i := 24) rfl))) Via.refl e0 S4 (hb hby at_107) rfl (fun T29 X29 e29 => ?_)
              refine go_astoreN (q := 111) (l' := #[.val (.int sel), .val (.int a_), .val (.int (4 : Int32)), .val (.ref ad4), .unset, .unset, .unset]) X29 hx (hb hby at_110) rfl rfl rfl ?_
              refine go_iloadN (q := 112) X29 hx (hb hby at_111) rfl rfl ?_
              refine go_if_lt (q := 115) (q' := 124) X29 hx (hb hby at_112) rfl (by decide) rfl (fun hc112 => ?_) (fun hc112 => ?_)
              · rw [Int32.lt_iff_toInt_lt] at hc112
                refine go_iconst (q := 125) (v := (0 : Int32)) X29 hx (hb hby at_124) rfl rfl ?_
                refine go_istore (q := 127) (l' := #[.val (.int sel), .val (.int a_), .val (.int (4 : Int32)), .val (.ref ad4), .val (.int (0 : Int32)), .unset, .unset]) X29 hx (hb hby at_125) rfl rfl ?_
                refine go_goto (q := 178) X29 hx (hb hby at_127) (by decide) rfl ?_
                refine go_iloadN (q := 179) X29 hx (hb hby at_178) rfl rfl ?_
                refine go_i2dB (q := 180) X29 hx (hb hby at_179) rfl (db_i2d _) (fun z30 hz30 => ?_)
                refine go_ldc2D (q := 183) (v := (4616189618054758400 : UInt64)) X29 hx hZ hown (hw _ (List.mem_of_getElem? (i := 4) rfl)) (hb hby at_180) rfl ?_
                refine go_ddivB (q := 184) (kk := (-2)) (w0 := a_.toInt) X29 hx (hb hby at_183) rfl hz30 own_c4 (by decide) (by omega) (by decide) (by decide) (by decide) rfl (fun z31 hz31 => ?_)
                refine go_dstore (q := 186) (l' := #[.val (.int sel), .val (.int a_), .val (.int (4 : Int32)), .val (.ref ad4), .val (.int (0 : Int32)), .val (.double z31), .second]) X29 hx (hb hby at_184) rfl rfl ?_
                refine go_aloadN (q := 187) X29 hx (hb hby at_186) rfl rfl rfl ?_
                refine go_dload (q := 189) X29 hx (hb hby at_187) rfl rfl ?_
                refine go_callV (q := 192) (W := 0) X29 hx hZ hown e29 (hw _ (List.mem_of_getElem? (i := 5) rfl)) (hw _ (List.mem_of_getElem? (i := 6) rfl)) (notFace_of_selects (args := #[]) (mvT hZ (hw _ (List.mem_of_getElem? (i := 8) rfl)))) (hw _ (List.mem_of_getElem? (i := 8) rfl)) (hw _ (List.mem_of_getElem? (i := 7) rfl)) (hw _ (List.mem_of_getElem? (i := 2) rfl)) (hw _ (List.mem_of_getElem? (i := 9) rfl)) (by decide) ad4 [(.double z31)] [] E4 (rm1_4 l Z a0 hw [] ad4 z31 h0.size a_.toInt h0 E4 O4 hz31) (by rw [hml]; rfl) rfl (lenOf pd_1 rfl) (Nat.le_of_eq rfl) (by decide) (by decide) (hb hby at_189) rfl (by decide) (by decide) ?_
                rintro T32 L32 v32 X32 ⟨Nq32, rfl, e32⟩
                have N32 := Fr.app N0 Nq32
                show Go p e below s (fun v h L => v = some (.int (1 : Int32)) ∧ Fr h0.size L) room_1.cells room_1.slots T32 (mkF m 192 #[.val (.int sel), .val (.int a_), .val (.int (4 : Int32)), .val (.ref ad4), .val (.int (0 : Int32)), .val (.double z31), .second] [(.int (if 0 ≤ a_.toInt ∧ a_.toInt ≤ 4 then (1 : Int32) else 0))])
                suffices Hgot : ∀ got : Int32, got = (if 0 ≤ a_.toInt ∧ a_.toInt ≤ 4 then (1 : Int32) else 0) → Go p e below s (fun v h L => v = some (.int (1 : Int32)) ∧ Fr h0.size L) room_1.cells room_1.slots T32 (mkF m 192 #[.val (.int sel), .val (.int a_), .val (.int (4 : Int32)), .val (.ref ad4), .val (.int (0 : Int32)), .val (.double z31), .second] [(.int got)]) from Hgot _ rfl
                intro got egot
                refine go_iload (q := 194) X32 hx (hb hby at_192) rfl rfl ?_
                refine go_icmp_ne (q := 197) (q' := 201) X32 hx (hb hby at_194) rfl (by decide) rfl (fun hc194 => ?_) (fun hc194 => ?_)
                · exact absurd (by rw [egot, if_neg (by omega)]) hc194
                · refine go_iconst (q := 198) (v := (1 : Int32)) X32 hx (hb hby at_197) rfl rfl ?_
                  refine go_goto (q := 202) X32 hx (hb hby at_198) (by decide) rfl ?_
                  exact go_retN X32 hx (by simp) hret hlk (hb hby at_202) (by decide) (by decide) ⟨rfl, N32⟩
              · rw [Int32.lt_iff_toInt_lt] at hc112
                refine go_iloadN (q := 116) X29 hx (hb hby at_115) rfl rfl ?_
                refine go_iconst (q := 117) (v := (4 : Int32)) X29 hx (hb hby at_116) rfl rfl ?_
                refine go_icmp_gt (q := 120) (q' := 124) X29 hx (hb hby at_117) rfl (by decide) rfl (fun hc117 => ?_) (fun hc117 => ?_)
                · rw [Int32.lt_iff_toInt_lt] at hc117
                  refine go_iconst (q := 125) (v := (0 : Int32)) X29 hx (hb hby at_124) rfl rfl ?_
                  refine go_istore (q := 127) (l' := #[.val (.int sel), .val (.int a_), .val (.int (4 : Int32)), .val (.ref ad4), .val (.int (0 : Int32)), .unset, .unset]) X29 hx (hb hby at_125) rfl rfl ?_
                  refine go_goto (q := 178) X29 hx (hb hby at_127) (by decide) rfl ?_
                  refine go_iloadN (q := 179) X29 hx (hb hby at_178) rfl rfl ?_
                  refine go_i2dB (q := 180) X29 hx (hb hby at_179) rfl (db_i2d _) (fun z33 hz33 => ?_)
                  refine go_ldc2D (q := 183) (v := (4616189618054758400 : UInt64)) X29 hx hZ hown (hw _ (List.mem_of_getElem? (i := 4) rfl)) (hb hby at_180) rfl ?_
                  refine go_ddivB (q := 184) (kk := (-2)) (w0 := a_.toInt) X29 hx (hb hby at_183) rfl hz33 own_c4 (by decide) (by omega) (by decide) (by decide) (by decide) rfl (fun z34 hz34 => ?_)
                  refine go_dstore (q := 186) (l' := #[.val (.int sel), .val (.int a_), .val (.int (4 : Int32)), .val (.ref ad4), .val (.int (0 : Int32)), .val (.double z34), .second]) X29 hx (hb hby at_184) rfl rfl ?_
                  refine go_aloadN (q := 187) X29 hx (hb hby at_186) rfl rfl rfl ?_
                  refine go_dload (q := 189) X29 hx (hb hby at_187) rfl rfl ?_
                  refine go_callV (q := 192) (W := 0) X29 hx hZ hown e29 (hw _ (List.mem_of_getElem? (i := 5) rfl)) (hw _ (List.mem_of_getElem? (i := 6) rfl)) (notFace_of_selects (args := #[]) (mvT hZ (hw _ (List.mem_of_getElem? (i := 8) rfl)))) (hw _ (List.mem_of_getElem? (i := 8) rfl)) (hw _ (List.mem_of_getElem? (i := 7) rfl)) (hw _ (List.mem_of_getElem? (i := 2) rfl)) (hw _ (List.mem_of_getElem? (i := 9) rfl)) (by decide) ad4 [(.double z34)] [] E4 (rm1_4 l Z a0 hw [] ad4 z34 h0.size a_.toInt h0 E4 O4 hz34) (by rw [hml]; rfl) rfl (lenOf pd_1 rfl) (Nat.le_of_eq rfl) (by decide) (by decide) (hb hby at_189) rfl (by decide) (by decide) ?_
                  rintro T35 L35 v35 X35 ⟨Nq35, rfl, e35⟩
                  have N35 := Fr.app N0 Nq35
                  show Go p e below s (fun v h L => v = some (.int (1 : Int32)) ∧ Fr h0.size L) room_1.cells room_1.slots T35 (mkF m 192 #[.val (.int sel), .val (.int a_), .val (.int (4 : Int32)), .val (.ref ad4), .val (.int (0 : Int32)), .val (.double z34), .second] [(.int (if 0 ≤ a_.toInt ∧ a_.toInt ≤ 4 then (1 : Int32) else 0))])
                  suffices Hgot : ∀ got : Int32, got = (if 0 ≤ a_.toInt ∧ a_.toInt ≤ 4 then (1 : Int32) else 0) → Go p e below s (fun v h L => v = some (.int (1 : Int32)) ∧ Fr h0.size L) room_1.cells room_1.slots T35 (mkF m 192 #[.val (.int sel), .val (.int a_), .val (.int (4 : Int32)), .val (.ref ad4), .val (.int (0 : Int32)), .val (.double z34), .second] [(.int got)]) from Hgot _ rfl
                  intro got egot
                  refine go_iload (q := 194) X35 hx (hb hby at_192) rfl rfl ?_
                  refine go_icmp_ne (q := 197) (q' := 201) X35 hx (hb hby at_194) rfl (by decide) rfl (fun hc194 => ?_) (fun hc194 => ?_)
                  · exact absurd (by rw [egot, if_neg (by omega)]) hc194
                  · refine go_iconst (q := 198) (v := (1 : Int32)) X35 hx (hb hby at_197) rfl rfl ?_
                    refine go_goto (q := 202) X35 hx (hb hby at_198) (by decide) rfl ?_
                    exact go_retN X35 hx (by simp) hret hlk (hb hby at_202) (by decide) (by decide) ⟨rfl, N35⟩
                · rw [Int32.lt_iff_toInt_lt] at hc117
                  refine go_iconst (q := 121) (v := (1 : Int32)) X29 hx (hb hby at_120) rfl rfl ?_
                  refine go_goto (q := 125) X29 hx (hb hby at_121) (by decide) rfl ?_
                  refine go_istore (q := 127) (l' := #[.val (.int sel), .val (.int a_), .val (.int (4 : Int32)), .val (.ref ad4), .val (.int (1 : Int32)), .unset, .unset]) X29 hx (hb hby at_125) rfl rfl ?_
                  refine go_goto (q := 178) X29 hx (hb hby at_127) (by decide) rfl ?_
                  refine go_iloadN (q := 179) X29 hx (hb hby at_178) rfl rfl ?_
                  refine go_i2dB (q := 180) X29 hx (hb hby at_179) rfl (db_i2d _) (fun z36 hz36 => ?_)
                  refine go_ldc2D (q := 183) (v := (4616189618054758400 : UInt64)) X29 hx hZ hown (hw _ (List.mem_of_getElem? (i := 4) rfl)) (hb hby at_180) rfl ?_
                  refine go_ddivB (q := 184) (kk := (-2)) (w0 := a_.toInt) X29 hx (hb hby at_183) rfl hz36 own_c4 (by decide) (by omega) (by decide) (by decide) (by decide) rfl (fun z37 hz37 => ?_)
                  refine go_dstore (q := 186) (l' := #[.val (.int sel), .val (.int a_), .val (.int (4 : Int32)), .val (.ref ad4), .val (.int (1 : Int32)), .val (.double z37), .second]) X29 hx (hb hby at_184) rfl rfl ?_
                  refine go_aloadN (q := 187) X29 hx (hb hby at_186) rfl rfl rfl ?_
                  refine go_dload (q := 189) X29 hx (hb hby at_187) rfl rfl ?_
                  refine go_callV (q := 192) (W := 0) X29 hx hZ hown e29 (hw _ (List.mem_of_getElem? (i := 5) rfl)) (hw _ (List.mem_of_getElem? (i := 6) rfl)) (notFace_of_selects (args := #[]) (mvT hZ (hw _ (List.mem_of_getElem? (i := 8) rfl)))) (hw _ (List.mem_of_getElem? (i := 8) rfl)) (hw _ (List.mem_of_getElem? (i := 7) rfl)) (hw _ (List.mem_of_getElem? (i := 2) rfl)) (hw _ (List.mem_of_getElem? (i := 9) rfl)) (by decide) ad4 [(.double z37)] [] E4 (rm1_4 l Z a0 hw [] ad4 z37 h0.size a_.toInt h0 E4 O4 hz37) (by rw [hml]; rfl) rfl (lenOf pd_1 rfl) (Nat.le_of_eq rfl) (by decide) (by decide) (hb hby at_189) rfl (by decide) (by decide) ?_
                  rintro T38 L38 v38 X38 ⟨Nq38, rfl, e38⟩
                  have N38 := Fr.app N0 Nq38
                  show Go p e below s (fun v h L => v = some (.int (1 : Int32)) ∧ Fr h0.size L) room_1.cells room_1.slots T38 (mkF m 192 #[.val (.int sel), .val (.int a_), .val (.int (4 : Int32)), .val (.ref ad4), .val (.int (1 : Int32)), .val (.double z37), .second] [(.int (if 0 ≤ a_.toInt ∧ a_.toInt ≤ 4 then (1 : Int32) else 0))])
                  suffices Hgot : ∀ got : Int32, got = (if 0 ≤ a_.toInt ∧ a_.toInt ≤ 4 then (1 : Int32) else 0) → Go p e below s (fun v h L => v = some (.int (1 : Int32)) ∧ Fr h0.size L) room_1.cells room_1.slots T38 (mkF m 192 #[.val (.int sel), .val (.int a_), .val (.int (4 : Int32)), .val (.ref ad4), .val (.int (1 : Int32)), .val (.double z37), .second] [(.int got)]) from Hgot _ rfl
                  intro got egot
                  refine go_iload (q := 194) X38 hx (hb hby at_192) rfl rfl ?_
                  refine go_icmp_ne (q := 197) (q' := 201) X38 hx (hb hby at_194) rfl (by decide) rfl (fun hc194 => ?_) (fun hc194 => ?_)
                  · exact absurd (by rw [egot, if_pos (by omega)]) hc194
                  · refine go_iconst (q := 198) (v := (1 : Int32)) X38 hx (hb hby at_197) rfl rfl ?_
                    refine go_goto (q := 202) X38 hx (hb hby at_198) (by decide) rfl ?_
                    exact go_retN X38 hx (by simp) hret hlk (hb hby at_202) (by decide) (by decide) ⟨rfl, N38⟩
          · exact absurd hc79 (by decide)
        · exact absurd hc55 (by decide)
      · exact absurd hc32 (by decide)
    · exact absurd hc9 (by decide)
  · refine go_iloadN (q := 9) X0 hx (hb hby at_8) rfl rfl ?_
    refine go_if_ne (q := 12) (q' := 30) X0 hx (hb hby at_9) rfl (by decide) rfl (fun hc9 => ?_) (fun hc9 => ?_)
    · refine go_iloadN (q := 31) X0 hx (hb hby at_30) rfl rfl ?_
      refine go_iconst (q := 32) (v := (1 : Int32)) X0 hx (hb hby at_31) rfl rfl ?_
      refine go_icmp_ne (q := 35) (q' := 53) X0 hx (hb hby at_32) rfl (by decide) rfl (fun hc32 => ?_) (fun hc32 => ?_)
      · refine go_iloadN (q := 54) X0 hx (hb hby at_53) rfl rfl ?_
        refine go_iconst (q := 55) (v := (2 : Int32)) X0 hx (hb hby at_54) rfl rfl ?_
        refine go_icmp_ne (q := 58) (q' := 77) X0 hx (hb hby at_55) rfl (by decide) rfl (fun hc55 => ?_) (fun hc55 => ?_)
        · refine go_iloadN (q := 78) X0 hx (hb hby at_77) rfl rfl ?_
          refine go_iconst (q := 79) (v := (3 : Int32)) X0 hx (hb hby at_78) rfl rfl ?_
          refine go_icmp_ne (q := 82) (q' := 102) X0 hx (hb hby at_79) rfl (by decide) rfl (fun hc79 => ?_) (fun hc79 => ?_)
          · refine go_iloadN (q := 103) X0 hx (hb hby at_102) rfl rfl ?_
            refine go_iconst (q := 104) (v := (4 : Int32)) X0 hx (hb hby at_103) rfl rfl ?_
            refine go_icmp_ne (q := 107) (q' := 130) X0 hx (hb hby at_104) rfl (by decide) rfl (fun hc104 => ?_) (fun hc104 => ?_)
            · refine go_iloadN (q := 131) X0 hx (hb hby at_130) rfl rfl ?_
              refine go_iconst (q := 132) (v := (5 : Int32)) X0 hx (hb hby at_131) rfl rfl ?_
              refine go_icmp_ne (q := 135) (q' := 158) X0 hx (hb hby at_132) rfl (by decide) rfl (fun hc132 => ?_) (fun hc132 => ?_)
              · exact absurd rfl hc132
              · refine go_getS (q := 138) X0 hx hZ (host := "") hown (Or.inl (hw _ (List.mem_of_getElem? (i := 28) rfl))) Via.refl e0 S5 (hb hby at_135) rfl (fun T39 X39 e39 => ?_)
                refine go_astoreN (q := 139) (l' := #[.val (.int sel), .val (.int a_), .val (.int (5 : Int32)), .val (.ref ad5), .unset, .unset, .unset]) X39 hx (hb hby at_138) rfl rfl rfl ?_
                refine go_iloadN (q := 140) X39 hx (hb hby at_139) rfl rfl ?_
                refine go_if_lt (q := 143) (q' := 152) X39 hx (hb hby at_140) rfl (by decide) rfl (fun hc140 => ?_) (fun hc140 => ?_)
                · rw [Int32.lt_iff_toInt_lt] at hc140
                  refine go_iconst (q := 153) (v := (0 : Int32)) X39 hx (hb hby at_152) rfl rfl ?_
                  refine go_istore (q := 155) (l' := #[.val (.int sel), .val (.int a_), .val (.int (5 : Int32)), .val (.ref ad5), .val (.int (0 : Int32)), .unset, .unset]) X39 hx (hb hby at_153) rfl rfl ?_
                  refine go_goto (q := 178) X39 hx (hb hby at_155) (by decide) rfl ?_
                  refine go_iloadN (q := 179) X39 hx (hb hby at_178) rfl rfl ?_
                  refine go_i2dB (q := 180) X39 hx (hb hby at_179) rfl (db_i2d _) (fun z40 hz40 => ?_)
                  refine go_ldc2D (q := 183) (v := (4616189618054758400 : UInt64)) X39 hx hZ hown (hw _ (List.mem_of_getElem? (i := 4) rfl)) (hb hby at_180) rfl ?_
                  refine go_ddivB (q := 184) (kk := (-2)) (w0 := a_.toInt) X39 hx (hb hby at_183) rfl hz40 own_c4 (by decide) (by omega) (by decide) (by decide) (by decide) rfl (fun z41 hz41 => ?_)
                  refine go_dstore (q := 186) (l' := #[.val (.int sel), .val (.int a_), .val (.int (5 : Int32)), .val (.ref ad5), .val (.int (0 : Int32)), .val (.double z41), .second]) X39 hx (hb hby at_184) rfl rfl ?_
                  refine go_aloadN (q := 187) X39 hx (hb hby at_186) rfl rfl rfl ?_
                  refine go_dload (q := 189) X39 hx (hb hby at_187) rfl rfl ?_
                  refine go_callV (q := 192) (W := 0) X39 hx hZ hown e39 (hw _ (List.mem_of_getElem? (i := 5) rfl)) (hw _ (List.mem_of_getElem? (i := 6) rfl)) (notFace_of_selects (args := #[]) (mvT hZ (hw _ (List.mem_of_getElem? (i := 8) rfl)))) (hw _ (List.mem_of_getElem? (i := 8) rfl)) (hw _ (List.mem_of_getElem? (i := 7) rfl)) (hw _ (List.mem_of_getElem? (i := 2) rfl)) (hw _ (List.mem_of_getElem? (i := 9) rfl)) (by decide) ad5 [(.double z41)] [] E5 (rm1_5 l Z a0 hw [] ad5 z41 h0.size a_.toInt h0 E5 O5 hz41) (by rw [hml]; rfl) rfl (lenOf pd_1 rfl) (Nat.le_of_eq rfl) (by decide) (by decide) (hb hby at_189) rfl (by decide) (by decide) ?_
                  rintro T42 L42 v42 X42 ⟨Nq42, rfl, e42⟩
                  have N42 := Fr.app N0 Nq42
                  show Go p e below s (fun v h L => v = some (.int (1 : Int32)) ∧ Fr h0.size L) room_1.cells room_1.slots T42 (mkF m 192 #[.val (.int sel), .val (.int a_), .val (.int (5 : Int32)), .val (.ref ad5), .val (.int (0 : Int32)), .val (.double z41), .second] [(.int (if 0 ≤ a_.toInt ∧ a_.toInt < 4 then (1 : Int32) else 0))])
                  suffices Hgot : ∀ got : Int32, got = (if 0 ≤ a_.toInt ∧ a_.toInt < 4 then (1 : Int32) else 0) → Go p e below s (fun v h L => v = some (.int (1 : Int32)) ∧ Fr h0.size L) room_1.cells room_1.slots T42 (mkF m 192 #[.val (.int sel), .val (.int a_), .val (.int (5 : Int32)), .val (.ref ad5), .val (.int (0 : Int32)), .val (.double z41), .second] [(.int got)]) from Hgot _ rfl
                  intro got egot
                  refine go_iload (q := 194) X42 hx (hb hby at_192) rfl rfl ?_
                  refine go_icmp_ne (q := 197) (q' := 201) X42 hx (hb hby at_194) rfl (by decide) rfl (fun hc194 => ?_) (fun hc194 => ?_)
                  · exact absurd (by rw [egot, if_neg (by omega)]) hc194
                  · refine go_iconst (q := 198) (v := (1 : Int32)) X42 hx (hb hby at_197) rfl rfl ?_
                    refine go_goto (q := 202) X42 hx (hb hby at_198) (by decide) rfl ?_
                    exact go_retN X42 hx (by simp) hret hlk (hb hby at_202) (by decide) (by decide) ⟨rfl, N42⟩
                · rw [Int32.lt_iff_toInt_lt] at hc140
                  refine go_iloadN (q := 144) X39 hx (hb hby at_143) rfl rfl ?_
                  refine go_iconst (q := 145) (v := (4 : Int32)) X39 hx (hb hby at_144) rfl rfl ?_
                  refine go_icmp_ge (q := 148) (q' := 152) X39 hx (hb hby at_145) rfl (by decide) rfl (fun hc145 => ?_) (fun hc145 => ?_)
                  · rw [Int32.lt_iff_toInt_lt] at hc145
                    refine go_iconst (q := 153) (v := (0 : Int32)) X39 hx (hb hby at_152) rfl rfl ?_
                    refine go_istore (q := 155) (l' := #[.val (.int sel), .val (.int a_), .val (.int (5 : Int32)), .val (.ref ad5), .val (.int (0 : Int32)), .unset, .unset]) X39 hx (hb hby at_153) rfl rfl ?_
                    refine go_goto (q := 178) X39 hx (hb hby at_155) (by decide) rfl ?_
                    refine go_iloadN (q := 179) X39 hx (hb hby at_178) rfl rfl ?_
                    refine go_i2dB (q := 180) X39 hx (hb hby at_179) rfl (db_i2d _) (fun z43 hz43 => ?_)
                    refine go_ldc2D (q := 183) (v := (4616189618054758400 : UInt64)) X39 hx hZ hown (hw _ (List.mem_of_getElem? (i := 4) rfl)) (hb hby at_180) rfl ?_
                    refine go_ddivB (q := 184) (kk := (-2)) (w0 := a_.toInt) X39 hx (hb hby at_183) rfl hz43 own_c4 (by decide) (by omega) (by decide) (by decide) (by decide) rfl (fun z44 hz44 => ?_)
                    refine go_dstore (q := 186) (l' := #[.val (.int sel), .val (.int a_), .val (.int (5 : Int32)), .val (.ref ad5), .val (.int (0 : Int32)), .val (.double z44), .second]) X39 hx (hb hby at_184) rfl rfl ?_
                    refine go_aloadN (q := 187) X39 hx (hb hby at_186) rfl rfl rfl ?_
                    refine go_dload (q := 189) X39 hx (hb hby at_187) rfl rfl ?_
                    refine go_callV (q := 192) (W := 0) X39 hx hZ hown e39 (hw _ (List.mem_of_getElem? (i := 5) rfl)) (hw _ (List.mem_of_getElem? (i := 6) rfl)) (notFace_of_selects (args := #[]) (mvT hZ (hw _ (List.mem_of_getElem? (i := 8) rfl)))) (hw _ (List.mem_of_getElem? (i := 8) rfl)) (hw _ (List.mem_of_getElem? (i := 7) rfl)) (hw _ (List.mem_of_getElem? (i := 2) rfl)) (hw _ (List.mem_of_getElem? (i := 9) rfl)) (by decide) ad5 [(.double z44)] [] E5 (rm1_5 l Z a0 hw [] ad5 z44 h0.size a_.toInt h0 E5 O5 hz44) (by rw [hml]; rfl) rfl (lenOf pd_1 rfl) (Nat.le_of_eq rfl) (by decide) (by decide) (hb hby at_189) rfl (by decide) (by decide) ?_
                    rintro T45 L45 v45 X45 ⟨Nq45, rfl, e45⟩
                    have N45 := Fr.app N0 Nq45
                    show Go p e below s (fun v h L => v = some (.int (1 : Int32)) ∧ Fr h0.size L) room_1.cells room_1.slots T45 (mkF m 192 #[.val (.int sel), .val (.int a_), .val (.int (5 : Int32)), .val (.ref ad5), .val (.int (0 : Int32)), .val (.double z44), .second] [(.int (if 0 ≤ a_.toInt ∧ a_.toInt < 4 then (1 : Int32) else 0))])
                    suffices Hgot : ∀ got : Int32, got = (if 0 ≤ a_.toInt ∧ a_.toInt < 4 then (1 : Int32) else 0) → Go p e below s (fun v h L => v = some (.int (1 : Int32)) ∧ Fr h0.size L) room_1.cells room_1.slots T45 (mkF m 192 #[.val (.int sel), .val (.int a_), .val (.int (5 : Int32)), .val (.ref ad5), .val (.int (0 : Int32)), .val (.double z44), .second] [(.int got)]) from Hgot _ rfl
                    intro got egot
                    refine go_iload (q := 194) X45 hx (hb hby at_192) rfl rfl ?_
                    refine go_icmp_ne (q := 197) (q' := 201) X45 hx (hb hby at_194) rfl (by decide) rfl (fun hc194 => ?_) (fun hc194 => ?_)
                    · exact absurd (by rw [egot, if_neg (by omega)]) hc194
                    · refine go_iconst (q := 198) (v := (1 : Int32)) X45 hx (hb hby at_197) rfl rfl ?_
                      refine go_goto (q := 202) X45 hx (hb hby at_198) (by decide) rfl ?_
                      exact go_retN X45 hx (by simp) hret hlk (hb hby at_202) (by decide) (by decide) ⟨rfl, N45⟩
                  · rw [Int32.lt_iff_toInt_lt] at hc145
                    refine go_iconst (q := 149) (v := (1 : Int32)) X39 hx (hb hby at_148) rfl rfl ?_
                    refine go_goto (q := 153) X39 hx (hb hby at_149) (by decide) rfl ?_
                    refine go_istore (q := 155) (l' := #[.val (.int sel), .val (.int a_), .val (.int (5 : Int32)), .val (.ref ad5), .val (.int (1 : Int32)), .unset, .unset]) X39 hx (hb hby at_153) rfl rfl ?_
                    refine go_goto (q := 178) X39 hx (hb hby at_155) (by decide) rfl ?_
                    refine go_iloadN (q := 179) X39 hx (hb hby at_178) rfl rfl ?_
                    refine go_i2dB (q := 180) X39 hx (hb hby at_179) rfl (db_i2d _) (fun z46 hz46 => ?_)
                    refine go_ldc2D (q := 183) (v := (4616189618054758400 : UInt64)) X39 hx hZ hown (hw _ (List.mem_of_getElem? (i := 4) rfl)) (hb hby at_180) rfl ?_
                    refine go_ddivB (q := 184) (kk := (-2)) (w0 := a_.toInt) X39 hx (hb hby at_183) rfl hz46 own_c4 (by decide) (by omega) (by decide) (by decide) (by decide) rfl (fun z47 hz47 => ?_)
                    refine go_dstore (q := 186) (l' := #[.val (.int sel), .val (.int a_), .val (.int (5 : Int32)), .val (.ref ad5), .val (.int (1 : Int32)), .val (.double z47), .second]) X39 hx (hb hby at_184) rfl rfl ?_
                    refine go_aloadN (q := 187) X39 hx (hb hby at_186) rfl rfl rfl ?_
                    refine go_dload (q := 189) X39 hx (hb hby at_187) rfl rfl ?_
                    refine go_callV (q := 192) (W := 0) X39 hx hZ hown e39 (hw _ (List.mem_of_getElem? (i := 5) rfl)) (hw _ (List.mem_of_getElem? (i := 6) rfl)) (notFace_of_selects (args := #[]) (mvT hZ (hw _ (List.mem_of_getElem? (i := 8) rfl)))) (hw _ (List.mem_of_getElem? (i := 8) rfl)) (hw _ (List.mem_of_getElem? (i := 7) rfl)) (hw _ (List.mem_of_getElem? (i := 2) rfl)) (hw _ (List.mem_of_getElem? (i := 9) rfl)) (by decide) ad5 [(.double z47)] [] E5 (rm1_5 l Z a0 hw [] ad5 z47 h0.size a_.toInt h0 E5 O5 hz47) (by rw [hml]; rfl) rfl (lenOf pd_1 rfl) (Nat.le_of_eq rfl) (by decide) (by decide) (hb hby at_189) rfl (by decide) (by decide) ?_
                    rintro T48 L48 v48 X48 ⟨Nq48, rfl, e48⟩
                    have N48 := Fr.app N0 Nq48
                    show Go p e below s (fun v h L => v = some (.int (1 : Int32)) ∧ Fr h0.size L) room_1.cells room_1.slots T48 (mkF m 192 #[.val (.int sel), .val (.int a_), .val (.int (5 : Int32)), .val (.ref ad5), .val (.int (1 : Int32)), .val (.double z47), .second] [(.int (if 0 ≤ a_.toInt ∧ a_.toInt < 4 then (1 : Int32) else 0))])
                    suffices Hgot : ∀ got : Int32, got = (if 0 ≤ a_.toInt ∧ a_.toInt < 4 then (1 : Int32) else 0) → Go p e below s (fun v h L => v = some (.int (1 : Int32)) ∧ Fr h0.size L) room_1.cells room_1.slots T48 (mkF m 192 #[.val (.int sel), .val (.int a_), .val (.int (5 : Int32)), .val (.ref ad5), .val (.int (1 : Int32)), .val (.double z47), .second] [(.int got)]) from Hgot _ rfl
                    intro got egot
                    refine go_iload (q := 194) X48 hx (hb hby at_192) rfl rfl ?_
                    refine go_icmp_ne (q := 197) (q' := 201) X48 hx (hb hby at_194) rfl (by decide) rfl (fun hc194 => ?_) (fun hc194 => ?_)
                    · exact absurd (by rw [egot, if_pos (by omega)]) hc194
                    · refine go_iconst (q := 198) (v := (1 : Int32)) X48 hx (hb hby at_197) rfl rfl ?_
                      refine go_goto (q := 202) X48 hx (hb hby at_198) (by decide) rfl ?_
                      exact go_retN X48 hx (by simp) hret hlk (hb hby at_202) (by decide) (by decide) ⟨rfl, N48⟩
            · exact absurd hc104 (by decide)
          · exact absurd hc79 (by decide)
        · exact absurd hc55 (by decide)
      · exact absurd hc32 (by decide)
    · exact absurd hc9 (by decide)
  · refine go_iloadN (q := 9) X0 hx (hb hby at_8) rfl rfl ?_
    refine go_if_ne (q := 12) (q' := 30) X0 hx (hb hby at_9) rfl (by decide) rfl (fun hc9 => ?_) (fun hc9 => ?_)
    · refine go_iloadN (q := 31) X0 hx (hb hby at_30) rfl rfl ?_
      refine go_iconst (q := 32) (v := (1 : Int32)) X0 hx (hb hby at_31) rfl rfl ?_
      refine go_icmp_ne (q := 35) (q' := 53) X0 hx (hb hby at_32) rfl (by decide) rfl (fun hc32 => ?_) (fun hc32 => ?_)
      · refine go_iloadN (q := 54) X0 hx (hb hby at_53) rfl rfl ?_
        refine go_iconst (q := 55) (v := (2 : Int32)) X0 hx (hb hby at_54) rfl rfl ?_
        refine go_icmp_ne (q := 58) (q' := 77) X0 hx (hb hby at_55) rfl (by decide) rfl (fun hc55 => ?_) (fun hc55 => ?_)
        · refine go_iloadN (q := 78) X0 hx (hb hby at_77) rfl rfl ?_
          refine go_iconst (q := 79) (v := (3 : Int32)) X0 hx (hb hby at_78) rfl rfl ?_
          refine go_icmp_ne (q := 82) (q' := 102) X0 hx (hb hby at_79) rfl (by decide) rfl (fun hc79 => ?_) (fun hc79 => ?_)
          · refine go_iloadN (q := 103) X0 hx (hb hby at_102) rfl rfl ?_
            refine go_iconst (q := 104) (v := (4 : Int32)) X0 hx (hb hby at_103) rfl rfl ?_
            refine go_icmp_ne (q := 107) (q' := 130) X0 hx (hb hby at_104) rfl (by decide) rfl (fun hc104 => ?_) (fun hc104 => ?_)
            · refine go_iloadN (q := 131) X0 hx (hb hby at_130) rfl rfl ?_
              refine go_iconst (q := 132) (v := (5 : Int32)) X0 hx (hb hby at_131) rfl rfl ?_
              refine go_icmp_ne (q := 135) (q' := 158) X0 hx (hb hby at_132) rfl (by decide) rfl (fun hc132 => ?_) (fun hc132 => ?_)
              · refine go_getS (q := 161) X0 hx hZ (host := "") hown (Or.inl (hw _ (List.mem_of_getElem? (i := 26) rfl))) Via.refl e0 S6 (hb hby at_158) rfl (fun T49 X49 e49 => ?_)
                refine go_astoreN (q := 162) (l' := #[.val (.int sel), .val (.int a_), .val (.int (6 : Int32)), .val (.ref ad6), .unset, .unset, .unset]) X49 hx (hb hby at_161) rfl rfl rfl ?_
                refine go_iloadN (q := 163) X49 hx (hb hby at_162) rfl rfl ?_
                refine go_if_le (q := 166) (q' := 175) X49 hx (hb hby at_163) rfl (by decide) rfl (fun hc163 => ?_) (fun hc163 => ?_)
                · rw [Int32.lt_iff_toInt_lt] at hc163
                  refine go_iconst (q := 176) (v := (0 : Int32)) X49 hx (hb hby at_175) rfl rfl ?_
                  refine go_istore (q := 178) (l' := #[.val (.int sel), .val (.int a_), .val (.int (6 : Int32)), .val (.ref ad6), .val (.int (0 : Int32)), .unset, .unset]) X49 hx (hb hby at_176) rfl rfl ?_
                  refine go_iloadN (q := 179) X49 hx (hb hby at_178) rfl rfl ?_
                  refine go_i2dB (q := 180) X49 hx (hb hby at_179) rfl (db_i2d _) (fun z50 hz50 => ?_)
                  refine go_ldc2D (q := 183) (v := (4616189618054758400 : UInt64)) X49 hx hZ hown (hw _ (List.mem_of_getElem? (i := 4) rfl)) (hb hby at_180) rfl ?_
                  refine go_ddivB (q := 184) (kk := (-2)) (w0 := a_.toInt) X49 hx (hb hby at_183) rfl hz50 own_c4 (by decide) (by omega) (by decide) (by decide) (by decide) rfl (fun z51 hz51 => ?_)
                  refine go_dstore (q := 186) (l' := #[.val (.int sel), .val (.int a_), .val (.int (6 : Int32)), .val (.ref ad6), .val (.int (0 : Int32)), .val (.double z51), .second]) X49 hx (hb hby at_184) rfl rfl ?_
                  refine go_aloadN (q := 187) X49 hx (hb hby at_186) rfl rfl rfl ?_
                  refine go_dload (q := 189) X49 hx (hb hby at_187) rfl rfl ?_
                  refine go_callV (q := 192) (W := 0) X49 hx hZ hown e49 (hw _ (List.mem_of_getElem? (i := 5) rfl)) (hw _ (List.mem_of_getElem? (i := 6) rfl)) (notFace_of_selects (args := #[]) (mvT hZ (hw _ (List.mem_of_getElem? (i := 8) rfl)))) (hw _ (List.mem_of_getElem? (i := 8) rfl)) (hw _ (List.mem_of_getElem? (i := 7) rfl)) (hw _ (List.mem_of_getElem? (i := 2) rfl)) (hw _ (List.mem_of_getElem? (i := 9) rfl)) (by decide) ad6 [(.double z51)] [] E6 (rm1_6 l Z a0 hw [] ad6 z51 h0.size a_.toInt h0 E6 O6 hz51) (by rw [hml]; rfl) rfl (lenOf pd_1 rfl) (Nat.le_of_eq rfl) (by decide) (by decide) (hb hby at_189) rfl (by decide) (by decide) ?_
                  rintro T52 L52 v52 X52 ⟨Nq52, rfl, e52⟩
                  have N52 := Fr.app N0 Nq52
                  show Go p e below s (fun v h L => v = some (.int (1 : Int32)) ∧ Fr h0.size L) room_1.cells room_1.slots T52 (mkF m 192 #[.val (.int sel), .val (.int a_), .val (.int (6 : Int32)), .val (.ref ad6), .val (.int (0 : Int32)), .val (.double z51), .second] [(.int (if 0 < a_.toInt ∧ a_.toInt ≤ 4 then (1 : Int32) else 0))])
                  suffices Hgot : ∀ got : Int32, got = (if 0 < a_.toInt ∧ a_.toInt ≤ 4 then (1 : Int32) else 0) → Go p e below s (fun v h L => v = some (.int (1 : Int32)) ∧ Fr h0.size L) room_1.cells room_1.slots T52 (mkF m 192 #[.val (.int sel), .val (.int a_), .val (.int (6 : Int32)), .val (.ref ad6), .val (.int (0 : Int32)), .val (.double z51), .second] [(.int got)]) from Hgot _ rfl
                  intro got egot
                  refine go_iload (q := 194) X52 hx (hb hby at_192) rfl rfl ?_
                  refine go_icmp_ne (q := 197) (q' := 201) X52 hx (hb hby at_194) rfl (by decide) rfl (fun hc194 => ?_) (fun hc194 => ?_)
                  · exact absurd (by rw [egot, if_neg (by omega)]) hc194
                  · refine go_iconst (q := 198) (v := (1 : Int32)) X52 hx (hb hby at_197) rfl rfl ?_
                    refine go_goto (q := 202) X52 hx (hb hby at_198) (by decide) rfl ?_
                    exact go_retN X52 hx (by simp) hret hlk (hb hby at_202) (by decide) (by decide) ⟨rfl, N52⟩
                · rw [Int32.lt_iff_toInt_lt] at hc163
                  refine go_iloadN (q := 167) X49 hx (hb hby at_166) rfl rfl ?_
                  refine go_iconst (q := 168) (v := (4 : Int32)) X49 hx (hb hby at_167) rfl rfl ?_
                  refine go_icmp_gt (q := 171) (q' := 175) X49 hx (hb hby at_168) rfl (by decide) rfl (fun hc168 => ?_) (fun hc168 => ?_)
                  · rw [Int32.lt_iff_toInt_lt] at hc168
                    refine go_iconst (q := 176) (v := (0 : Int32)) X49 hx (hb hby at_175) rfl rfl ?_
                    refine go_istore (q := 178) (l' := #[.val (.int sel), .val (.int a_), .val (.int (6 : Int32)), .val (.ref ad6), .val (.int (0 : Int32)), .unset, .unset]) X49 hx (hb hby at_176) rfl rfl ?_
                    refine go_iloadN (q := 179) X49 hx (hb hby at_178) rfl rfl ?_
                    refine go_i2dB (q := 180) X49 hx (hb hby at_179) rfl (db_i2d _) (fun z53 hz53 => ?_)
                    refine go_ldc2D (q := 183) (v := (4616189618054758400 : UInt64)) X49 hx hZ hown (hw _ (List.mem_of_getElem? (i := 4) rfl)) (hb hby at_180) rfl ?_
                    refine go_ddivB (q := 184) (kk := (-2)) (w0 := a_.toInt) X49 hx (hb hby at_183) rfl hz53 own_c4 (by decide) (by omega) (by decide) (by decide) (by decide) rfl (fun z54 hz54 => ?_)
                    refine go_dstore (q := 186) (l' := #[.val (.int sel), .val (.int a_), .val (.int (6 : Int32)), .val (.ref ad6), .val (.int (0 : Int32)), .val (.double z54), .second]) X49 hx (hb hby at_184) rfl rfl ?_
                    refine go_aloadN (q := 187) X49 hx (hb hby at_186) rfl rfl rfl ?_
                    refine go_dload (q := 189) X49 hx (hb hby at_187) rfl rfl ?_
                    refine go_callV (q := 192) (W := 0) X49 hx hZ hown e49 (hw _ (List.mem_of_getElem? (i := 5) rfl)) (hw _ (List.mem_of_getElem? (i := 6) rfl)) (notFace_of_selects (args := #[]) (mvT hZ (hw _ (List.mem_of_getElem? (i := 8) rfl)))) (hw _ (List.mem_of_getElem? (i := 8) rfl)) (hw _ (List.mem_of_getElem? (i := 7) rfl)) (hw _ (List.mem_of_getElem? (i := 2) rfl)) (hw _ (List.mem_of_getElem? (i := 9) rfl)) (by decide) ad6 [(.double z54)] [] E6 (rm1_6 l Z a0 hw [] ad6 z54 h0.size a_.toInt h0 E6 O6 hz54) (by rw [hml]; rfl) rfl (lenOf pd_1 rfl) (Nat.le_of_eq rfl) (by decide) (by decide) (hb hby at_189) rfl (by decide) (by decide) ?_
                    rintro T55 L55 v55 X55 ⟨Nq55, rfl, e55⟩
                    have N55 := Fr.app N0 Nq55
                    show Go p e below s (fun v h L => v = some (.int (1 : Int32)) ∧ Fr h0.size L) room_1.cells room_1.slots T55 (mkF m 192 #[.val (.int sel), .val (.int a_), .val (.int (6 : Int32)), .val (.ref ad6), .val (.int (0 : Int32)), .val (.double z54), .second] [(.int (if 0 < a_.toInt ∧ a_.toInt ≤ 4 then (1 : Int32) else 0))])
                    suffices Hgot : ∀ got : Int32, got = (if 0 < a_.toInt ∧ a_.toInt ≤ 4 then (1 : Int32) else 0) → Go p e below s (fun v h L => v = some (.int (1 : Int32)) ∧ Fr h0.size L) room_1.cells room_1.slots T55 (mkF m 192 #[.val (.int sel), .val (.int a_), .val (.int (6 : Int32)), .val (.ref ad6), .val (.int (0 : Int32)), .val (.double z54), .second] [(.int got)]) from Hgot _ rfl
                    intro got egot
                    refine go_iload (q := 194) X55 hx (hb hby at_192) rfl rfl ?_
                    refine go_icmp_ne (q := 197) (q' := 201) X55 hx (hb hby at_194) rfl (by decide) rfl (fun hc194 => ?_) (fun hc194 => ?_)
                    · exact absurd (by rw [egot, if_neg (by omega)]) hc194
                    · refine go_iconst (q := 198) (v := (1 : Int32)) X55 hx (hb hby at_197) rfl rfl ?_
                      refine go_goto (q := 202) X55 hx (hb hby at_198) (by decide) rfl ?_
                      exact go_retN X55 hx (by simp) hret hlk (hb hby at_202) (by decide) (by decide) ⟨rfl, N55⟩
                  · rw [Int32.lt_iff_toInt_lt] at hc168
                    refine go_iconst (q := 172) (v := (1 : Int32)) X49 hx (hb hby at_171) rfl rfl ?_
                    refine go_goto (q := 176) X49 hx (hb hby at_172) (by decide) rfl ?_
                    refine go_istore (q := 178) (l' := #[.val (.int sel), .val (.int a_), .val (.int (6 : Int32)), .val (.ref ad6), .val (.int (1 : Int32)), .unset, .unset]) X49 hx (hb hby at_176) rfl rfl ?_
                    refine go_iloadN (q := 179) X49 hx (hb hby at_178) rfl rfl ?_
                    refine go_i2dB (q := 180) X49 hx (hb hby at_179) rfl (db_i2d _) (fun z56 hz56 => ?_)
                    refine go_ldc2D (q := 183) (v := (4616189618054758400 : UInt64)) X49 hx hZ hown (hw _ (List.mem_of_getElem? (i := 4) rfl)) (hb hby at_180) rfl ?_
                    refine go_ddivB (q := 184) (kk := (-2)) (w0 := a_.toInt) X49 hx (hb hby at_183) rfl hz56 own_c4 (by decide) (by omega) (by decide) (by decide) (by decide) rfl (fun z57 hz57 => ?_)
                    refine go_dstore (q := 186) (l' := #[.val (.int sel), .val (.int a_), .val (.int (6 : Int32)), .val (.ref ad6), .val (.int (1 : Int32)), .val (.double z57), .second]) X49 hx (hb hby at_184) rfl rfl ?_
                    refine go_aloadN (q := 187) X49 hx (hb hby at_186) rfl rfl rfl ?_
                    refine go_dload (q := 189) X49 hx (hb hby at_187) rfl rfl ?_
                    refine go_callV (q := 192) (W := 0) X49 hx hZ hown e49 (hw _ (List.mem_of_getElem? (i := 5) rfl)) (hw _ (List.mem_of_getElem? (i := 6) rfl)) (notFace_of_selects (args := #[]) (mvT hZ (hw _ (List.mem_of_getElem? (i := 8) rfl)))) (hw _ (List.mem_of_getElem? (i := 8) rfl)) (hw _ (List.mem_of_getElem? (i := 7) rfl)) (hw _ (List.mem_of_getElem? (i := 2) rfl)) (hw _ (List.mem_of_getElem? (i := 9) rfl)) (by decide) ad6 [(.double z57)] [] E6 (rm1_6 l Z a0 hw [] ad6 z57 h0.size a_.toInt h0 E6 O6 hz57) (by rw [hml]; rfl) rfl (lenOf pd_1 rfl) (Nat.le_of_eq rfl) (by decide) (by decide) (hb hby at_189) rfl (by decide) (by decide) ?_
                    rintro T58 L58 v58 X58 ⟨Nq58, rfl, e58⟩
                    have N58 := Fr.app N0 Nq58
                    show Go p e below s (fun v h L => v = some (.int (1 : Int32)) ∧ Fr h0.size L) room_1.cells room_1.slots T58 (mkF m 192 #[.val (.int sel), .val (.int a_), .val (.int (6 : Int32)), .val (.ref ad6), .val (.int (1 : Int32)), .val (.double z57), .second] [(.int (if 0 < a_.toInt ∧ a_.toInt ≤ 4 then (1 : Int32) else 0))])
                    suffices Hgot : ∀ got : Int32, got = (if 0 < a_.toInt ∧ a_.toInt ≤ 4 then (1 : Int32) else 0) → Go p e below s (fun v h L => v = some (.int (1 : Int32)) ∧ Fr h0.size L) room_1.cells room_1.slots T58 (mkF m 192 #[.val (.int sel), .val (.int a_), .val (.int (6 : Int32)), .val (.ref ad6), .val (.int (1 : Int32)), .val (.double z57), .second] [(.int got)]) from Hgot _ rfl
                    intro got egot
                    refine go_iload (q := 194) X58 hx (hb hby at_192) rfl rfl ?_
                    refine go_icmp_ne (q := 197) (q' := 201) X58 hx (hb hby at_194) rfl (by decide) rfl (fun hc194 => ?_) (fun hc194 => ?_)
                    · exact absurd (by rw [egot, if_pos (by omega)]) hc194
                    · refine go_iconst (q := 198) (v := (1 : Int32)) X58 hx (hb hby at_197) rfl rfl ?_
                      refine go_goto (q := 202) X58 hx (hb hby at_198) (by decide) rfl ?_
                      exact go_retN X58 hx (by simp) hret hlk (hb hby at_202) (by decide) (by decide) ⟨rfl, N58⟩
              · exact absurd hc132 (by decide)
            · exact absurd hc104 (by decide)
          · exact absurd hc79 (by decide)
        · exact absurd hc55 (by decide)
      · exact absurd hc32 (by decide)
    · exact absurd hc9 (by decide)
set_option maxRecDepth 65536 in
set_option maxHeartbeats 40000000 in
theorem comes_1 {Post : Tables → Env → Array Value → State → Outcome → State → Prop} (hpost : ∀ tb e args s v u, (limb_1_1.after args s (.returned v) u = true ∧ limb_1_2.after args s (.returned v) u = true ∧ True) → FrameEnd s (.returned v) u (Jvm.fieldLocs frame_1_writes args s ++ Jvm.arrayLocs frame_1_arrays args s ++ Jvm.staticLocs frame_1_statics s) 0 0 → Post tb e args s (.returned v) u) :
    ArmFor flags0 classFile x code maxLocals ret World_1 tables_1 room_1 Calls_1 rest_1 Pre_1 Post := by
  intro l hfl _ _ p e ha hc hk s m args below hf hA hF happ hP
  obtain ⟨hcalls, hrest, hpre⟩ := hP
  obtain ⟨-, -, -, hnamed, -, -, -, hat⟩ := (Spec.applies_iff hf).mp happ
  obtain ⟨hg, hn⟩ := and_e (Cond.before_iff.mp (show (Jvm.Cond.and given_1 narrow_1).before args s = true from hpre))
  obtain ⟨hcnt, hg0⟩ := and_e hg
  obtain ⟨ha0, hg1⟩ := and_e hg0
  have ha1 := hg1
  obtain ⟨w0, w1, rfl⟩ : ∃ w0 w1 : Value, args = #[w0, w1] := by
    have hs : args.size = 2 := by simpa [Cond.value, given_1] using hcnt
    obtain ⟨L⟩ := args
    match L, hs with
    | [w0, w1], _ => exact ⟨w0, w1, rfl⟩
  have hw := fun d (hd : d ∈ tables_1) => atoms_spec (ws := Jvm.Cond.code x code maxLocals ret :: tables_1) hat d (List.mem_cons_of_mem _ hd)
  obtain ⟨i0, ei0⟩ := is_v ha0
  obtain rfl : w0 = (.int i0) := Option.some.inj ei0
  obtain ⟨i1, ei1⟩ := is_v ha1
  obtain rfl : w1 = (.int i1) := Option.some.inj ei1
  obtain ⟨hx0, hm0⟩ := and_e hn
  obtain ⟨ho0, hn0⟩ := and_e hm0
  obtain ⟨ad0, ev0⟩ := exa_v hx0
  have E0 := Exa.start ev0 hx0
  have S0 := Sta.start ev0 (Or.inr ⟨(hw _ (List.mem_of_getElem? (i := 2) rfl)), (hw _ (List.mem_of_getElem? (i := 3) rfl))⟩)
  have O0 := Fld.start ((fld_at ev0).symm.trans (eqv_i (Term.int_eval 0) ho0))
  obtain ⟨hx3, hm1⟩ := and_e hn0
  obtain ⟨ho3, hn1⟩ := and_e hm1
  obtain ⟨ad3, ev3⟩ := exa_v hx3
  have E3 := Exa.start ev3 hx3
  have S3 := Sta.start ev3 (Or.inr ⟨(hw _ (List.mem_of_getElem? (i := 2) rfl)), (hw _ (List.mem_of_getElem? (i := 20) rfl))⟩)
  have O3 := Fld.start ((fld_at ev3).symm.trans (eqv_i (Term.int_eval 3) ho3))
  obtain ⟨hx1, hm2⟩ := and_e hn1
  obtain ⟨ho1, hn2⟩ := and_e hm2
  obtain ⟨ad1, ev1⟩ := exa_v hx1
  have E1 := Exa.start ev1 hx1
  have S1 := Sta.start ev1 (Or.inr ⟨(hw _ (List.mem_of_getElem? (i := 2) rfl)), (hw _ (List.mem_of_getElem? (i := 23) rfl))⟩)
  have O1 := Fld.start ((fld_at ev1).symm.trans (eqv_i (Term.int_eval 1) ho1))
  obtain ⟨hx4, hm3⟩ := and_e hn2
  obtain ⟨ho4, hn3⟩ := and_e hm3
  obtain ⟨ad4, ev4⟩ := exa_v hx4
  have E4 := Exa.start ev4 hx4
  have S4 := Sta.start ev4 (Or.inr ⟨(hw _ (List.mem_of_getElem? (i := 2) rfl)), (hw _ (List.mem_of_getElem? (i := 25) rfl))⟩)
  have O4 := Fld.start ((fld_at ev4).symm.trans (eqv_i (Term.int_eval 4) ho4))
  obtain ⟨hx6, hm4⟩ := and_e hn3
  obtain ⟨ho6, hn4⟩ := and_e hm4
  obtain ⟨ad6, ev6⟩ := exa_v hx6
  have E6 := Exa.start ev6 hx6
  have S6 := Sta.start ev6 (Or.inr ⟨(hw _ (List.mem_of_getElem? (i := 2) rfl)), (hw _ (List.mem_of_getElem? (i := 27) rfl))⟩)
  have O6 := Fld.start ((fld_at ev6).symm.trans (eqv_i (Term.int_eval 6) ho6))
  obtain ⟨hx5, hm5⟩ := and_e hn4
  obtain ⟨ho5, hn5⟩ := and_e hm5
  obtain ⟨ad5, ev5⟩ := exa_v hx5
  have E5 := Exa.start ev5 hx5
  have S5 := Sta.start ev5 (Or.inr ⟨(hw _ (List.mem_of_getElem? (i := 2) rfl)), (hw _ (List.mem_of_getElem? (i := 29) rfl))⟩)
  have O5 := Fld.start ((fld_at ev5).symm.trans (eqv_i (Term.int_eval 5) ho5))
  obtain ⟨hx2, hm6⟩ := and_e hn5
  have ho2 := hm6
  obtain ⟨ad2, ev2⟩ := exa_v hx2
  have E2 := Exa.start ev2 hx2
  have S2 := Sta.start ev2 (Or.inr ⟨(hw _ (List.mem_of_getElem? (i := 2) rfl)), (hw _ (List.mem_of_getElem? (i := 31) rfl))⟩)
  have O2 := Fld.start ((fld_at ev2).symm.trans (eqv_i (Term.int_eval 2) ho2))
  obtain ⟨n, o, h1, h2, h3, _, L, rfl, ⟨rfl, N⟩, hq⟩ := rm0 l s _ hw tables_1 i0 i1 ad0 ad1 ad2 ad3 ad4 ad5 ad6 s.heap S0 E0 O0 S1 E1 O1 S2 E2 O2 S3 E3 O3 S4 E4 O4 S5 E5 O5 S6 E6 O6 p e ha hc hk s m _ below hf ((Spec.applies_iff_loose hf).mp happ).1 ⟨rfl, State.Warmed39.refl s, rfl⟩ trivial
  refine ⟨n, _, h1, h2, h3, hpost _ _ _ _ _ _ ⟨Cond.after_iff.mpr rfl, Cond.after_iff.mpr (eq_i res_at (Term.int_eval (1)) rfl), trivial⟩ ⟨hq.1, hq.2.1, (hq.2.2.sift fun y hy => Or.inr (N y hy)).mono (by decide) (by decide)⟩⟩
theorem main_1_1 : Claimed_1_1 := comes_1 fun _ _ _ _ _ _ h hF => ⟨h.1, hF⟩
theorem main_1_2 : Claimed_1_2 := comes_1 fun _ _ _ _ _ _ h hF => ⟨h.2.1, hF⟩

end Jvm.Pilot.@@N@@
namespace Jvm.Pilot.@@N@@
open Jvm Jvm.ClassFile Sem Op Lib Jvm.Free Jvm.Stand Jvm.Pilot.@@N@@.Jvm.D
/-! MADE BY PROGRAM (witnessworld.py) out of the Statement's table words and the real class files: 12 classes; the members and pool entries that the words name. The judged class is class 1, her method 1. -/
namespace start1
open Jvm.ClassFile
def u (s : String) : CpInfo := .utf8 (stringToUtf16 s)
/-- a pool by its gaps: so many unusable entries, then the entry; so many at the end -/
def gap : Nat → List CpInfo → List CpInfo
  | 0, r => r
  | n + 1, r => .unusable :: gap n r
def poolList (es : List (Nat × CpInfo)) (last : Nat) : List CpInfo := es.foldr (fun e r => gap e.1 (e.2 :: r)) (gap last [])
def pool (es : List (Nat × CpInfo)) (last : Nat) : Array CpInfo := ⟨poolList es last⟩
def fileOf (pool : Array CpInfo) (this : Nat) (attrs : Array Attribute := #[]) (ms : Array MethodInfo := #[]) (fl : Nat := 33) (sup : Nat := 0) (ifs : Array Nat := #[]) (fds : Array FieldInfo := #[]) : ClassFile where
  minorVersion := 0
  majorVersion := 65
  constantPool := pool
  accessFlags := fl
  thisClass := this
  superClass := sup
  interfaces := ifs
  fields := fds
  methods := ms
  attributes := attrs
def plain (name : String) (sup : Option ClassId) : Class where
  name := name
  kind := .ordinary
  loader := none
  accessFlags := 33
  super := sup
  interfaces := #[]
  cf := none
  fields := #[]
  methods := #[]
  instanceTypes := #[]
  staticTypes := #[]
  resolved := #[]
  callSites := []
  init := .initialized
  statics := none
  mirror := none

def pool0 : Array CpInfo := pool [(5, u "<init>"), (0, u "()V"), (1, .class_ 10), (1, u "java/lang/Object")] 113

def k0m0 : Method := { name := "<init>", desc := "()V", sig := { parameters := [], returnType := none }, accessFlags := 1, code := none }
/-- java/lang/Object -/
def k0 : Class := { plain "java/lang/Object" none with
  accessFlags := 33
  interfaces := #[]
  cf := some (fileOf pool0 8 #[] #[{ accessFlags := 1, nameIndex := 5, descriptorIndex := 6, attributes := #[] }] 33 0 #[] #[])
  fields := #[]
  methods := #[k0m0]
  instanceTypes := #[]
  staticTypes := #[]
  resolved := Array.replicate 124 none
  statics := none }

def pool1 : Array CpInfo := pool [(2, .class_ 4), (1, u "java/lang/Object"), (0, u "<init>"), (0, u "()V"), (0, .integer 2147483647), (0, .fieldref 9 10), (0, .class_ 11), (0, .nameAndType 12 13), (0, u "com/example/ustaf/ustaf/model/Range"), (0, u "AT_LEAST_ZERO"), (0, u "Lcom/example/ustaf/ustaf/model/Range;"), (0, .fieldref 9 15), (0, .nameAndType 16 13), (0, u "ABOVE_ZERO"), (0, .fieldref 9 18), (0, .nameAndType 19 13), (0, u "AT_LEAST_ONE"), (0, .fieldref 9 21), (0, .nameAndType 22 13), (0, u "AT_LEAST_TWO"), (0, .fieldref 9 24), (0, .nameAndType 25 13), (0, u "PROBABILITY"), (0, .fieldref 9 27), (0, .nameAndType 28 13), (0, u "BELOW_ONE"), (0, .fieldref 9 30), (0, .nameAndType 31 13), (0, u "SHARE"), (0, .double 4616189618054758400), (1, .methodref 9 35), (0, .nameAndType 36 37), (0, u "contains"), (0, u "(D)Z"), (0, .class_ 39), (0, u "com/example/ustaf/ustaf/model/RangeContainsPinLaw"), (2, u "law"), (0, u "(II)Z")] 3

def k1m0 : Method := { name := "<init>", desc := "()V", sig := { parameters := [], returnType := none }, accessFlags := 2, code := none }
def k1c1 : Code := { maxStack := 4, maxLocals := 7, code := code, exceptionTable := #[], attributes := #[] }
def k1m1 : Method := { name := "law", desc := "(II)Z", sig := { parameters := [.int, .int], returnType := some .boolean }, accessFlags := 9, code := some k1c1 }
/-- com/example/ustaf/ustaf/model/RangeContainsPinLaw -/
def k1 : Class := { plain "com/example/ustaf/ustaf/model/RangeContainsPinLaw" (some 0) with
  accessFlags := 49
  interfaces := #[]
  cf := some (fileOf pool1 38 #[] #[{ accessFlags := 2, nameIndex := 5, descriptorIndex := 6, attributes := #[] }, { accessFlags := 9, nameIndex := 42, descriptorIndex := 43, attributes := #[] }] 49 2 #[] #[])
  fields := #[]
  methods := #[k1m0, k1m1]
  instanceTypes := #[]
  staticTypes := #[]
  resolved := Array.replicate 47 none
  statics := none }

def pool2 : Array CpInfo := pool [(1, .class_ 2), (0, u "java/lang/constant/Constable"), (0, .class_ 4), (0, u "java/lang/Object")] 6

/-- java/lang/constant/Constable -/
def k2 : Class := { plain "java/lang/constant/Constable" (some 0) with
  accessFlags := 1537
  interfaces := #[]
  cf := some (fileOf pool2 1 #[] #[] 1537 3 #[] #[])
  fields := #[]
  methods := #[]
  instanceTypes := #[]
  staticTypes := #[]
  resolved := Array.replicate 11 none
  statics := none }

def pool3 : Array CpInfo := pool [(1, .class_ 2), (0, u "java/lang/Comparable"), (0, .class_ 4), (0, u "java/lang/Object")] 7

/-- java/lang/Comparable -/
def k3 : Class := { plain "java/lang/Comparable" (some 0) with
  accessFlags := 1537
  interfaces := #[]
  cf := some (fileOf pool3 1 #[] #[] 1537 3 #[] #[])
  fields := #[]
  methods := #[]
  instanceTypes := #[]
  staticTypes := #[]
  resolved := Array.replicate 12 none
  statics := none }

def pool4 : Array CpInfo := pool [(1, .class_ 2), (0, u "java/io/Serializable"), (0, .class_ 4), (0, u "java/lang/Object")] 2

/-- java/io/Serializable -/
def k4 : Class := { plain "java/io/Serializable" (some 0) with
  accessFlags := 1537
  interfaces := #[]
  cf := some (fileOf pool4 1 #[] #[] 1537 3 #[] #[])
  fields := #[]
  methods := #[]
  instanceTypes := #[]
  staticTypes := #[]
  resolved := Array.replicate 7 none
  statics := none }

def pool5 : Array CpInfo := pool [(2, .class_ 4), (1, u "java/lang/Enum"), (0, u "name"), (0, u "Ljava/lang/String;"), (0, .fieldref 2 8), (0, .nameAndType 9 10), (0, u "ordinal"), (0, u "I"), (1, .class_ 14), (1, u "java/lang/Object"), (4, u "hash"), (86, .class_ 108), (1, u "java/lang/Enum$EnumDesc"), (2, .class_ 112), (0, u "java/lang/constant/Constable"), (0, .class_ 114), (0, u "java/lang/Comparable"), (0, .class_ 116), (0, u "java/io/Serializable"), (9, u "()I")] 77

def k5c0 : Code := { maxStack := 1, maxLocals := 1, code := jdk_37_method_2_code, exceptionTable := #[], attributes := #[] }
def k5m0 : Method := { name := "ordinal", desc := "()I", sig := { parameters := [], returnType := some .int }, accessFlags := 17, code := some k5c0 }
/-- java/lang/Enum -/
def k5 : Class := { plain "java/lang/Enum" (some 0) with
  accessFlags := 1057
  interfaces := #[2, 3, 4]
  cf := some (fileOf pool5 2 #[.nestMembers #[106]] #[{ accessFlags := 17, nameIndex := 9, descriptorIndex := 126, attributes := #[] }] 1057 12 #[111, 113, 115] #[{ accessFlags := 18, nameIndex := 5, descriptorIndex := 6, attributes := #[] }, { accessFlags := 18, nameIndex := 9, descriptorIndex := 10, attributes := #[] }, { accessFlags := 2, nameIndex := 19, descriptorIndex := 10, attributes := #[] }])
  fields := #[{ name := "name", type := (.object "java/lang/String"), accessFlags := 18, slot := 0, constantValue := 0 }, { name := "ordinal", type := .int, accessFlags := 18, slot := 1, constantValue := 0 }, { name := "hash", type := .int, accessFlags := 2, slot := 2, constantValue := 0 }]
  methods := #[k5m0]
  instanceTypes := #[(.object "java/lang/String"), .int, .int]
  staticTypes := #[]
  resolved := Array.replicate 204 none
  statics := none }

def pool6 : Array CpInfo := pool [(1, .class_ 2), (0, u "com/example/ustaf/ustaf/model/Range"), (2, u "AT_LEAST_ZERO"), (0, u "Lcom/example/ustaf/ustaf/model/Range;"), (2, u "ABOVE_ZERO"), (2, u "AT_LEAST_ONE"), (2, u "AT_LEAST_TWO"), (2, u "PROBABILITY"), (2, u "BELOW_ONE"), (2, u "SHARE"), (2, u "$VALUES"), (0, u "[Lcom/example/ustaf/ustaf/model/Range;"), (6, .class_ 37), (1, u "java/lang/Enum"), (8, u "words"), (0, u "Ljava/lang/String;"), (0, .methodref 1 49), (0, .nameAndType 50 51), (0, u "ordinal"), (0, u "()I"), (5, .double 4611686018427387904), (33, u "(D)Z"), (2, u "contains")] 66

def k6c0 : Code := { maxStack := 4, maxLocals := 3, code := prog_26_method_5_code, exceptionTable := #[], attributes := #[] }
def k6m0 : Method := { name := "contains", desc := "(D)Z", sig := { parameters := [.double], returnType := some .boolean }, accessFlags := 0, code := some k6c0 }
/-- com/example/ustaf/ustaf/model/Range -/
def k6 : Class := { plain "com/example/ustaf/ustaf/model/Range" (some 5) with
  accessFlags := 16432
  interfaces := #[]
  cf := some (fileOf pool6 1 #[] #[{ accessFlags := 0, nameIndex := 94, descriptorIndex := 91, attributes := #[] }] 16432 35 #[] #[{ accessFlags := 16409, nameIndex := 5, descriptorIndex := 6, attributes := #[] }, { accessFlags := 16409, nameIndex := 9, descriptorIndex := 6, attributes := #[] }, { accessFlags := 16409, nameIndex := 12, descriptorIndex := 6, attributes := #[] }, { accessFlags := 16409, nameIndex := 15, descriptorIndex := 6, attributes := #[] }, { accessFlags := 16409, nameIndex := 18, descriptorIndex := 6, attributes := #[] }, { accessFlags := 16409, nameIndex := 21, descriptorIndex := 6, attributes := #[] }, { accessFlags := 16409, nameIndex := 24, descriptorIndex := 6, attributes := #[] }, { accessFlags := 18, nameIndex := 46, descriptorIndex := 47, attributes := #[] }, { accessFlags := 4122, nameIndex := 27, descriptorIndex := 28, attributes := #[] }])
  fields := #[{ name := "AT_LEAST_ZERO", type := (.object "com/example/ustaf/ustaf/model/Range"), accessFlags := 16409, slot := 0, constantValue := 0 }, { name := "ABOVE_ZERO", type := (.object "com/example/ustaf/ustaf/model/Range"), accessFlags := 16409, slot := 1, constantValue := 0 }, { name := "AT_LEAST_ONE", type := (.object "com/example/ustaf/ustaf/model/Range"), accessFlags := 16409, slot := 2, constantValue := 0 }, { name := "AT_LEAST_TWO", type := (.object "com/example/ustaf/ustaf/model/Range"), accessFlags := 16409, slot := 3, constantValue := 0 }, { name := "PROBABILITY", type := (.object "com/example/ustaf/ustaf/model/Range"), accessFlags := 16409, slot := 4, constantValue := 0 }, { name := "BELOW_ONE", type := (.object "com/example/ustaf/ustaf/model/Range"), accessFlags := 16409, slot := 5, constantValue := 0 }, { name := "SHARE", type := (.object "com/example/ustaf/ustaf/model/Range"), accessFlags := 16409, slot := 6, constantValue := 0 }, { name := "words", type := (.object "java/lang/String"), accessFlags := 18, slot := 3, constantValue := 0 }, { name := "$VALUES", type := (.array (.object "com/example/ustaf/ustaf/model/Range")), accessFlags := 4122, slot := 7, constantValue := 0 }]
  methods := #[k6m0]
  instanceTypes := #[(.object "java/lang/String"), .int, .int, (.object "java/lang/String")]
  staticTypes := #[(.object "com/example/ustaf/ustaf/model/Range"), (.object "com/example/ustaf/ustaf/model/Range"), (.object "com/example/ustaf/ustaf/model/Range"), (.object "com/example/ustaf/ustaf/model/Range"), (.object "com/example/ustaf/ustaf/model/Range"), (.object "com/example/ustaf/ustaf/model/Range"), (.object "com/example/ustaf/ustaf/model/Range"), (.array (.object "com/example/ustaf/ustaf/model/Range"))]
  resolved := Array.replicate 161 none
  statics := some 0 }

def pool7 : Array CpInfo := pool [(1, u "java/lang/Cloneable"), (0, .class_ 1), (0, u "java/lang/Object"), (0, .class_ 3)] 3

/-- java/lang/Cloneable -/
def k7 : Class := { plain "java/lang/Cloneable" (some 0) with
  accessFlags := 1537
  interfaces := #[]
  cf := some (fileOf pool7 2 #[] #[] 1537 4 #[] #[])
  fields := #[]
  methods := #[]
  instanceTypes := #[]
  staticTypes := #[]
  resolved := Array.replicate 8 none
  statics := none }

/-- the primitive byte -/
def k8 : Class := { plain "byte" none with kind := .primitive 'B', accessFlags := 0x411 }
/-- [B -/
def k9 : Class := { plain "[B" (some 0) with kind := .array 8 .byte, interfaces := #[7, 4], accessFlags := 1041 }

/-- the primitive int -/
def k10 : Class := { plain "int" none with kind := .primitive 'I', accessFlags := 0x411 }
/-- [I -/
def k11 : Class := { plain "[I" (some 0) with kind := .array 10 .int, interfaces := #[7, 4], accessFlags := 1041 }

def heap : Heap := #[{ cls := 6, slots := #[.ref 1, .ref 2, .ref 3, .ref 4, .ref 5, .ref 6, .ref 7, .null], vm := .statics 6 },
  { cls := 6, slots := #[.null, .int 0, .int 0, .null], vm := .none },
  { cls := 6, slots := #[.null, .int 1, .int 0, .null], vm := .none },
  { cls := 6, slots := #[.null, .int 2, .int 0, .null], vm := .none },
  { cls := 6, slots := #[.null, .int 3, .int 0, .null], vm := .none },
  { cls := 6, slots := #[.null, .int 4, .int 0, .null], vm := .none },
  { cls := 6, slots := #[.null, .int 5, .int 0, .null], vm := .none },
  { cls := 6, slots := #[.null, .int 6, .int 0, .null], vm := .none }]
def classes : Array Class := #[k0, k1, k2, k3, k4, k5, k6, k7, k8, k9, k10, k11]
def interned : List (Array UInt16 × Addr) := []
def slotsUsed : Nat := 36
def theMethod : MethodId := ⟨1, 1⟩
def args0 : Array Value := #[.int 5, .int 1]
def aboutOver (below : List Frame) : State where
  vm := { classes := classes, interned := interned.toArray }
  heap := heap
  slotsUsed := slotsUsed
  threads := #[{ frames := .invoking theMethod args0 :: below }]
def below0 : List Frame := [.native { method := ⟨0, 0⟩, args := #[] }]
def about1 : State := aboutOver below0
def p0 : Program := .bare "" "" ""
def e0 : Env := launch0.env 0 0 0
theorem w_frames : about1.frames = Frame.invoking theMethod args0 :: below0 := rfl
set_option maxRecDepth 65536 in
theorem w_args : argsFit about1.vm theMethod args0 = true := by decide +kernel
set_option maxRecDepth 65536 in
theorem w_heap : heapFits about1 = true := by decide +kernel
set_option maxRecDepth 65536 in
theorem w_runnable : about1.curStatus? = some .runnable := by decide +kernel
set_option maxRecDepth 65536 in
theorem w_alone : about1.alone = true := by decide +kernel
set_option maxRecDepth 65536 in
theorem w_named : about1.methodNamed? x = some theMethod := by decide +kernel
set_option maxRecDepth 65536 in
theorem w_hears : about1.hears theMethod below0 = true := by decide +kernel
set_option maxRecDepth 65536 in
theorem w_ripe : about1.ripe theMethod args0 below0 = true := by decide +kernel
theorem w_running : about1.status = .running := rfl
set_option maxRecDepth 65536 in
theorem w_room : about1.hasRoom e0.platform room_1 = true :=
  launch0.hasRoom_least _ room_1 (by decide +kernel) (by decide +kernel) (by decide +kernel) (by decide +kernel) (by decide +kernel) (by decide +kernel)
theorem allAtoms_all (ts : List Jvm.Cond) (a : Array Jvm.Value) (st : Jvm.State) : (allAtoms ts).before a st = ts.all (fun c => c.before a st) := by
  induction ts with
  | nil => rfl
  | cons c t ih =>
    show (Jvm.Cond.and c (allAtoms t)).before a st = _
    rw [Jvm.Cond.before_and, ih, List.all_cons]
def words1 : List Jvm.Cond := Jvm.Cond.code x code maxLocals ret :: tables_1
/-- a 'code' word, met by the world's own term for the bytes: nothing is compared byte by byte -/
theorem code_word {y : MethodName} {bytes : ByteArray} {mx : Nat} {rt : Option FieldType} {a : Array Value} {s : State} {m : MethodId} {meth : Method} {c : Code} (h1 : s.methodNamed? y = some m) (h2 : s.vm.method? m = some meth) (h3 : meth.code = some c) (h4 : c.code = bytes)
    (h5 : (c.maxLocals == mx && c.exceptionTable.isEmpty && decide (c.maxStack ≤ mostOperands) && decide (meth.sig.returnType = rt) && !meth.locks && decide (parseMethodDescriptor y.desc = some meth.sig)) = true) : (Jvm.Cond.code y bytes mx rt).before a s = true := by
  simp only [Bool.and_eq_true, beq_iff_eq, Bool.not_eq_true', decide_eq_true_eq] at h5
  obtain ⟨⟨⟨⟨⟨g1, g2⟩, g3⟩, g4⟩, g5⟩, g6⟩ := h5
  simp [Cond.before, Cond.holds, Cond.value, h1, h2, h3, h4, g1, g2, g3, g4, g5, g6]
def isCode : Jvm.Cond → Bool
  | .code _ _ _ _ => true
  | _ => false
theorem all_split {L : List Jvm.Cond} {P : Jvm.Cond → Bool} (h1 : L.all (fun c => isCode c || P c) = true) (h2 : ∀ c ∈ L.filter isCode, P c = true) : L.all P = true := by
  refine List.all_eq_true.mpr fun c hc => ?_
  have h := List.all_eq_true.mp h1 c hc
  rcases Bool.eq_false_or_eq_true (isCode c) with hi | hi
  · exact h2 c (List.mem_filter.mpr ⟨hc, hi⟩)
  · simpa [hi] using h
set_option maxRecDepth 65536 in
theorem w_c0 : (Jvm.Cond.code x code maxLocals ret).before args0 about1 = true := code_word (m := ⟨1, 1⟩) (meth := k1m1) (c := k1c1) (by decide +kernel) rfl rfl rfl (by decide +kernel)
set_option maxRecDepth 65536 in
theorem w_c1 : (Jvm.Cond.code ({ cls := "com/example/ustaf/ustaf/model/Range", name := "contains", desc := "(D)Z" } : Jvm.MethodName) prog_26_method_5_code (3 : Nat) (Option.some Jvm.ClassFile.FieldType.boolean)).before args0 about1 = true := code_word (m := ⟨6, 0⟩) (meth := k6m0) (c := k6c0) (by decide +kernel) rfl rfl rfl (by decide +kernel)
set_option maxRecDepth 65536 in
theorem w_c2 : (Jvm.Cond.code ({ cls := "java/lang/Enum", name := "ordinal", desc := "()I" } : Jvm.MethodName) jdk_37_method_2_code (1 : Nat) (Option.some Jvm.ClassFile.FieldType.int)).before args0 about1 = true := code_word (m := ⟨5, 0⟩) (meth := k5m0) (c := k5c0) (by decide +kernel) rfl rfl rfl (by decide +kernel)
def codes1 : List Jvm.Cond := [Jvm.Cond.code x code maxLocals ret, Jvm.Cond.code ({ cls := "com/example/ustaf/ustaf/model/Range", name := "contains", desc := "(D)Z" } : Jvm.MethodName) prog_26_method_5_code (3 : Nat) (Option.some Jvm.ClassFile.FieldType.boolean), Jvm.Cond.code ({ cls := "java/lang/Enum", name := "ordinal", desc := "()I" } : Jvm.MethodName) jdk_37_method_2_code (1 : Nat) (Option.some Jvm.ClassFile.FieldType.int)]
set_option maxRecDepth 65536 in
theorem codes_eq : words1.filter isCode = codes1 := rfl
theorem w_codes : ∀ c ∈ words1.filter isCode, c.before args0 about1 = true := by
  rw [codes_eq]
  intro c hc
  simp only [codes1, List.mem_cons, List.not_mem_nil, or_false] at hc
  rcases hc with rfl | rfl | rfl
  · exact w_c0
  · exact w_c1
  · exact w_c2
set_option maxRecDepth 65536 in
theorem w_t1 : (words1.take 24).all (fun c => isCode c || c.before args0 about1) = true := by decide +kernel
set_option maxRecDepth 65536 in
theorem w_t2 : (words1.drop 24).all (fun c => isCode c || c.before args0 about1) = true := by decide +kernel
theorem w_tables : (allAtoms (Jvm.Cond.code x code maxLocals ret :: tables_1)).before args0 about1 = true := by
  rw [allAtoms_all]
  show words1.all (fun c => c.before args0 about1) = true
  refine all_split ?_ w_codes
  rw [← List.take_append_drop 24 words1, List.all_append, w_t1, w_t2]
  rfl
set_option maxRecDepth 65536 in
theorem w_case : (Jvm.Cond.and given_1 narrow_1).before args0 about1 = true := by decide +kernel
theorem w_applies : (headSpec (Jvm.Cond.code x code maxLocals ret :: tables_1) room_1).applies x e0.platform about1 = true :=
  (Spec.applies_iff w_frames).mpr ⟨w_running, w_runnable, w_alone, w_named, w_hears, w_ripe, w_room, w_tables⟩
theorem atStart : AtStart classFile x code maxLocals ret World_1 tables_1 room_1 Calls_1 rest_1 Pre_1 launch0 p0 e0 about1 theMethod args0 below0 :=
  ⟨lists_1, trivial, launch0.admits_env _ _ _, launch0.least_env, fairChoices_fair.cas, fairChoices_fair.clock, w_frames, w_args, w_heap, w_applies, trivial, trivial, w_case⟩
end start1
theorem witness_1 : WitnessClaimed_1 := ⟨start1.p0, start1.e0, start1.about1, start1.theMethod, start1.args0, start1.below0, start1.atStart⟩
end Jvm.Pilot.@@N@@
