import JvmDerived
import JvmDerived.Pilot.@@N@@Statement
import JvmDerived.Pilot.@@N@@Code
set_option linter.unusedVariables false
set_option linter.unusedSimpArgs false
namespace Jvm.Pilot.@@N@@
open Jvm Jvm.ClassFile Sem Op Lib Jvm.Free Jvm.Stand Jvm.LawKit Jvm.RoadKit Bundle Jvm.Pilot.@@N@@.Jvm.D

section OwnWalk
variable {p : Program} {l : Launch} {e : Env} {R : Room} {s : State} {m : MethodId} {args : Array Value} {below : List Frame} {meth : Method} {c : Code} {T : State} {locs : List Loc} {cells slots : Nat} {Z : State} {h : Heap} {Q : Option Value → Heap → List Loc → Prop} {ce sl : Nat} {pc q q' : Nat} {ls : Array Slot} {st : List Value} {a0 : Array Value}
/-- the rest of a body's run, from the frame g on -/
def Go (p : Program) (e : Env) (below : List Frame) (s : State) (Q : Option Value → Heap → List Loc → Prop) (ce sl : Nat) (T : State) (g : JFrame) : Prop :=
  ∃ s₂ o, Steps p.tables e below (T.setTop g) s₂ ∧ s₂.status = .running ∧ Ended s₂ below o ∧ ∃ v L, o = .returned v ∧ Q v s₂.heap L ∧ FrameEnd s o s₂ L ce sl
theorem Go.to {T' : State} {g g' : JFrame} (k : Go p e below s Q ce sl T' g') (f : ∀ t, Steps p.tables e below (T'.setTop g') t → Steps p.tables e below (T.setTop g) t) : Go p e below s Q ce sl T g := by
  obtain ⟨s2, o, h1, r⟩ := k
  exact ⟨s2, o, f _ h1, r⟩
theorem Go.cast {g g' : JFrame} (w : g = g') (k : Go p e below s Q ce sl T g') : Go p e below s Q ce sl T g := w ▸ k
/-- a body's contract: from these arguments, over this heap, it returns with Q -/
abbrev Con (l : Launch) (y : MethodName) (bytes : ByteArray) (maxL : Nat) (ret : Option FieldType) (ws : List Jvm.Cond) (rm : Room) (Z : State) (as' : Array Value) (h : Heap) (Q : Option Value → Heap → List Loc → Prop) : Prop :=
  MetFree l y (head1 (Jvm.Cond.code y bytes maxL ret :: ws) rm) (fun a U => a = as' ∧ Z.Warmed39 U.vm ∧ U.heap = h) (fun _ _ _ _ _ => True) (fun _ U o U' => ∃ v L, o = .returned v ∧ Q v U'.heap L ∧ FrameEnd U o U' L rm.cells rm.slots)
theorem con_of {y : MethodName} {bytes : ByteArray} {maxL : Nat} {ret : Option FieldType} {ws : List Jvm.Cond} {rm : Room} {as' : Array Value} (hpl : plainFor y = true)
    (body : ∀ (p : Program) (e : Env) (s : State) (m : MethodId) (below : List Frame) (meth : Method) (c : Code) (s₁ : State), Stand p l e rm s m as' below meth c s₁ [] 0 0 → p.tables.exec = Jvm.exec → c.code = bytes → c.maxLocals = maxL → meth.sig.returnType = ret → meth.locks = false → s.vm.findClass y.cls = some m.cls → meth.name = y.name → Z.Warmed39 s.vm → s₁.heap = h → Go p e below s Q rm.cells rm.slots s₁ (entryFrame m as' maxL)) :
    Con l y bytes maxL ret ws rm Z as' h Q := by
  refine MetFree.of_bodySF hpl hisR ?_
  intro p e s m args below meth c s₁ Bd hml0 hP hK
  obtain ⟨rfl, hZ, hh⟩ := hP
  exact body p e s m below meth c s₁ (Stand.of_body Bd) Bd.exec Bd.bytes hml0 Bd.returns Bd.notSynchronized (findClass_of_methodNamed Bd.named) (name_of_methodNamed Bd.named Bd.method).1 hZ (by rw [← hh, Bd.state]; rfl)
theorem go_iload (X : Stand p l e R s m args below meth c T locs cells slots) (hx : p.tables.exec = Jvm.exec) {k : Nat} {v : Int32} (hd : decode c.code pc = .ok (.iload k, 2)) (hp : pc + 2 = q) (hl : ls[k]? = some (.val (.int v))) (K : Go p e below s Q ce sl T (mkF m q ls (.int v :: st))) : Go p e below s Q ce sl T (mkF m pc ls st) := by
  subst hp
  exact K.to fun _ r => XS.iload X.here hx rfl hd hl r
theorem go_iloadN (X : Stand p l e R s m args below meth c T locs cells slots) (hx : p.tables.exec = Jvm.exec) {k : Fin 4} {v : Int32} (hd : decode c.code pc = .ok (.iload_n k, 1)) (hp : pc + 1 = q) (hl : ls[k.val]? = some (.val (.int v))) (K : Go p e below s Q ce sl T (mkF m q ls (.int v :: st))) : Go p e below s Q ce sl T (mkF m pc ls st) := by
  subst hp
  exact K.to fun _ r => XS.iloadN X.here hx rfl hd hl r
theorem go_istore (X : Stand p l e R s m args below meth c T locs cells slots) (hx : p.tables.exec = Jvm.exec) {k : Nat} {v : Int32} {l' : Array Slot} (hd : decode c.code pc = .ok (.istore k, 2)) (hp : pc + 2 = q) (hl : storeLocals ls k (.int v) = some l') (K : Go p e below s Q ce sl T (mkF m q l' st)) : Go p e below s Q ce sl T (mkF m pc ls (.int v :: st)) := by
  subst hp
  exact K.to fun _ r => XS.istore X.here hx rfl hd rfl hl r
theorem go_istoreN (X : Stand p l e R s m args below meth c T locs cells slots) (hx : p.tables.exec = Jvm.exec) {k : Fin 4} {v : Int32} {l' : Array Slot} (hd : decode c.code pc = .ok (.istore_n k, 1)) (hp : pc + 1 = q) (hl : storeLocals ls k.val (.int v) = some l') (K : Go p e below s Q ce sl T (mkF m q l' st)) : Go p e below s Q ce sl T (mkF m pc ls (.int v :: st)) := by
  subst hp
  exact K.to fun _ r => XS.istoreN X.here hx rfl hd rfl hl r
theorem go_lload (X : Stand p l e R s m args below meth c T locs cells slots) (hx : p.tables.exec = Jvm.exec) {k : Nat} {v : Int64} (hd : decode c.code pc = .ok (.lload k, 2)) (hp : pc + 2 = q) (hl : ls[k]? = some (.val (.long v))) (K : Go p e below s Q ce sl T (mkF m q ls (.long v :: st))) : Go p e below s Q ce sl T (mkF m pc ls st) := by
  subst hp
  exact K.to fun _ r => XS.lload X.here hx rfl hd hl r
theorem go_lloadN (X : Stand p l e R s m args below meth c T locs cells slots) (hx : p.tables.exec = Jvm.exec) {k : Fin 4} {v : Int64} (hd : decode c.code pc = .ok (.lload_n k, 1)) (hp : pc + 1 = q) (hl : ls[k.val]? = some (.val (.long v))) (K : Go p e below s Q ce sl T (mkF m q ls (.long v :: st))) : Go p e below s Q ce sl T (mkF m pc ls st) := by
  subst hp
  exact K.to fun _ r => XS.lloadN X.here hx rfl hd hl r
theorem go_lstore (X : Stand p l e R s m args below meth c T locs cells slots) (hx : p.tables.exec = Jvm.exec) {k : Nat} {v : Int64} {l' : Array Slot} (hd : decode c.code pc = .ok (.lstore k, 2)) (hp : pc + 2 = q) (hl : storeLocals ls k (.long v) = some l') (K : Go p e below s Q ce sl T (mkF m q l' st)) : Go p e below s Q ce sl T (mkF m pc ls (.long v :: st)) := by
  subst hp
  exact K.to fun _ r => XS.lstore X.here hx rfl hd rfl hl r
theorem go_lstoreN (X : Stand p l e R s m args below meth c T locs cells slots) (hx : p.tables.exec = Jvm.exec) {k : Fin 4} {v : Int64} {l' : Array Slot} (hd : decode c.code pc = .ok (.lstore_n k, 1)) (hp : pc + 1 = q) (hl : storeLocals ls k.val (.long v) = some l') (K : Go p e below s Q ce sl T (mkF m q l' st)) : Go p e below s Q ce sl T (mkF m pc ls (.long v :: st)) := by
  subst hp
  exact K.to fun _ r => XS.lstoreN X.here hx rfl hd rfl hl r
theorem go_dload (X : Stand p l e R s m args below meth c T locs cells slots) (hx : p.tables.exec = Jvm.exec) {k : Nat} {v : UInt64} (hd : decode c.code pc = .ok (.dload k, 2)) (hp : pc + 2 = q) (hl : ls[k]? = some (.val (.double v))) (K : Go p e below s Q ce sl T (mkF m q ls (.double v :: st))) : Go p e below s Q ce sl T (mkF m pc ls st) := by
  subst hp
  exact K.to fun _ r => XS.dload X.here hx rfl hd hl r
theorem go_dloadN (X : Stand p l e R s m args below meth c T locs cells slots) (hx : p.tables.exec = Jvm.exec) {k : Fin 4} {v : UInt64} (hd : decode c.code pc = .ok (.dload_n k, 1)) (hp : pc + 1 = q) (hl : ls[k.val]? = some (.val (.double v))) (K : Go p e below s Q ce sl T (mkF m q ls (.double v :: st))) : Go p e below s Q ce sl T (mkF m pc ls st) := by
  subst hp
  exact K.to fun _ r => XS.dloadN X.here hx rfl hd hl r
theorem go_dstore (X : Stand p l e R s m args below meth c T locs cells slots) (hx : p.tables.exec = Jvm.exec) {k : Nat} {v : UInt64} {l' : Array Slot} (hd : decode c.code pc = .ok (.dstore k, 2)) (hp : pc + 2 = q) (hl : storeLocals ls k (.double v) = some l') (K : Go p e below s Q ce sl T (mkF m q l' st)) : Go p e below s Q ce sl T (mkF m pc ls (.double v :: st)) := by
  subst hp
  exact K.to fun _ r => XS.dstore X.here hx rfl hd rfl hl r
theorem go_dstoreN (X : Stand p l e R s m args below meth c T locs cells slots) (hx : p.tables.exec = Jvm.exec) {k : Fin 4} {v : UInt64} {l' : Array Slot} (hd : decode c.code pc = .ok (.dstore_n k, 1)) (hp : pc + 1 = q) (hl : storeLocals ls k.val (.double v) = some l') (K : Go p e below s Q ce sl T (mkF m q l' st)) : Go p e below s Q ce sl T (mkF m pc ls (.double v :: st)) := by
  subst hp
  exact K.to fun _ r => XS.dstoreN X.here hx rfl hd rfl hl r
theorem go_fload (X : Stand p l e R s m args below meth c T locs cells slots) (hx : p.tables.exec = Jvm.exec) {k : Nat} {v : UInt32} (hd : decode c.code pc = .ok (.fload k, 2)) (hp : pc + 2 = q) (hl : ls[k]? = some (.val (.float v))) (K : Go p e below s Q ce sl T (mkF m q ls (.float v :: st))) : Go p e below s Q ce sl T (mkF m pc ls st) := by
  subst hp
  exact K.to fun _ r => XS.fload X.here hx rfl hd hl r
theorem go_floadN (X : Stand p l e R s m args below meth c T locs cells slots) (hx : p.tables.exec = Jvm.exec) {k : Fin 4} {v : UInt32} (hd : decode c.code pc = .ok (.fload_n k, 1)) (hp : pc + 1 = q) (hl : ls[k.val]? = some (.val (.float v))) (K : Go p e below s Q ce sl T (mkF m q ls (.float v :: st))) : Go p e below s Q ce sl T (mkF m pc ls st) := by
  subst hp
  exact K.to fun _ r => XS.floadN X.here hx rfl hd hl r
theorem go_fstore (X : Stand p l e R s m args below meth c T locs cells slots) (hx : p.tables.exec = Jvm.exec) {k : Nat} {v : UInt32} {l' : Array Slot} (hd : decode c.code pc = .ok (.fstore k, 2)) (hp : pc + 2 = q) (hl : storeLocals ls k (.float v) = some l') (K : Go p e below s Q ce sl T (mkF m q l' st)) : Go p e below s Q ce sl T (mkF m pc ls (.float v :: st)) := by
  subst hp
  exact K.to fun _ r => XS.fstore X.here hx rfl hd rfl hl r
theorem go_fstoreN (X : Stand p l e R s m args below meth c T locs cells slots) (hx : p.tables.exec = Jvm.exec) {k : Fin 4} {v : UInt32} {l' : Array Slot} (hd : decode c.code pc = .ok (.fstore_n k, 1)) (hp : pc + 1 = q) (hl : storeLocals ls k.val (.float v) = some l') (K : Go p e below s Q ce sl T (mkF m q l' st)) : Go p e below s Q ce sl T (mkF m pc ls (.float v :: st)) := by
  subst hp
  exact K.to fun _ r => XS.fstoreN X.here hx rfl hd rfl hl r
theorem go_aload (X : Stand p l e R s m args below meth c T locs cells slots) (hx : p.tables.exec = Jvm.exec) {k : Nat} {v : Value} (hd : decode c.code pc = .ok (.aload k, 2)) (hp : pc + 2 = q) (hl : ls[k]? = some (.val v)) (hv : v.isRef = true) (K : Go p e below s Q ce sl T (mkF m q ls (v :: st))) : Go p e below s Q ce sl T (mkF m pc ls st) := by
  subst hp
  exact K.to fun _ r => XS.aload X.here hx rfl hd hl hv r
theorem go_aloadN (X : Stand p l e R s m args below meth c T locs cells slots) (hx : p.tables.exec = Jvm.exec) {k : Fin 4} {v : Value} (hd : decode c.code pc = .ok (.aload_n k, 1)) (hp : pc + 1 = q) (hl : ls[k.val]? = some (.val v)) (hv : v.isRef = true) (K : Go p e below s Q ce sl T (mkF m q ls (v :: st))) : Go p e below s Q ce sl T (mkF m pc ls st) := by
  subst hp
  exact K.to fun _ r => XS.aloadN X.here hx rfl hd hl hv r
theorem go_astore (X : Stand p l e R s m args below meth c T locs cells slots) (hx : p.tables.exec = Jvm.exec) {k : Nat} {v : Value} {l' : Array Slot} (hd : decode c.code pc = .ok (.astore k, 2)) (hp : pc + 2 = q) (hv : v.isRef = true) (hl : storeLocals ls k v = some l') (K : Go p e below s Q ce sl T (mkF m q l' st)) : Go p e below s Q ce sl T (mkF m pc ls (v :: st)) := by
  subst hp
  exact K.to fun _ r => XS.astore X.here hx rfl hd rfl hv hl r
theorem go_astoreN (X : Stand p l e R s m args below meth c T locs cells slots) (hx : p.tables.exec = Jvm.exec) {k : Fin 4} {v : Value} {l' : Array Slot} (hd : decode c.code pc = .ok (.astore_n k, 1)) (hp : pc + 1 = q) (hv : v.isRef = true) (hl : storeLocals ls k.val v = some l') (K : Go p e below s Q ce sl T (mkF m q l' st)) : Go p e below s Q ce sl T (mkF m pc ls (v :: st)) := by
  subst hp
  exact K.to fun _ r => XS.astoreN X.here hx rfl hd rfl hv hl r
theorem go_iconst (X : Stand p l e R s m args below meth c T locs cells slots) (hx : p.tables.exec = Jvm.exec) {i : Int} {v : Int32} (hd : decode c.code pc = .ok (.iconst i, 1)) (hp : pc + 1 = q) (hv : Int32.ofInt i = v) (K : Go p e below s Q ce sl T (mkF m q ls (.int v :: st))) : Go p e below s Q ce sl T (mkF m pc ls st) := by
  subst hp
  exact K.to fun _ r => XS.iconst X.here hx rfl hd (hv ▸ r)
theorem go_bipush (X : Stand p l e R s m args below meth c T locs cells slots) (hx : p.tables.exec = Jvm.exec) {i : Int} {v : Int32} (hd : decode c.code pc = .ok (.bipush i, 2)) (hp : pc + 2 = q) (hv : (Int8.ofInt i).toInt32 = v) (K : Go p e below s Q ce sl T (mkF m q ls (.int v :: st))) : Go p e below s Q ce sl T (mkF m pc ls st) := by
  subst hp
  exact K.to fun _ r => XS.bipush X.here hx rfl hd (hv ▸ r)
theorem go_sipush (X : Stand p l e R s m args below meth c T locs cells slots) (hx : p.tables.exec = Jvm.exec) {i : Int} {v : Int32} (hd : decode c.code pc = .ok (.sipush i, 3)) (hp : pc + 3 = q) (hv : (Int16.ofInt i).toInt32 = v) (K : Go p e below s Q ce sl T (mkF m q ls (.int v :: st))) : Go p e below s Q ce sl T (mkF m pc ls st) := by
  subst hp
  exact K.to fun _ r => XS.sipush X.here hx rfl hd (hv ▸ r)
theorem go_lconst (X : Stand p l e R s m args below meth c T locs cells slots) (hx : p.tables.exec = Jvm.exec) {k : Fin 2} {v : Int64} (hd : decode c.code pc = .ok (.lconst k, 1)) (hp : pc + 1 = q) (hv : Int64.ofNat k = v) (K : Go p e below s Q ce sl T (mkF m q ls (.long v :: st))) : Go p e below s Q ce sl T (mkF m pc ls st) := by
  subst hp
  exact K.to fun _ r => XS.lconst X.here hx rfl hd (hv ▸ r)
theorem go_aconstNull (X : Stand p l e R s m args below meth c T locs cells slots) (hx : p.tables.exec = Jvm.exec)  (hd : decode c.code pc = .ok (.aconst_null, 1)) (hp : pc + 1 = q)  (K : Go p e below s Q ce sl T (mkF m q ls (.null :: st))) : Go p e below s Q ce sl T (mkF m pc ls st) := by
  subst hp
  exact K.to fun _ r => XS.aconstNull X.here hx rfl hd r
theorem go_dconst0 (X : Stand p l e R s m args below meth c T locs cells slots) (hx : p.tables.exec = Jvm.exec) {v : UInt64} (hd : decode c.code pc = .ok (.dconst 0, 1)) (hp : pc + 1 = q) (hv : FP.dconst0 = v) (K : Go p e below s Q ce sl T (mkF m q ls (.double v :: st))) : Go p e below s Q ce sl T (mkF m pc ls st) := by
  subst hp
  exact K.to fun _ r => XS.dconst0 X.here hx rfl hd hv r
theorem go_dconst1 (X : Stand p l e R s m args below meth c T locs cells slots) (hx : p.tables.exec = Jvm.exec) {v : UInt64} (hd : decode c.code pc = .ok (.dconst 1, 1)) (hp : pc + 1 = q) (hv : FP.dconst1 = v) (K : Go p e below s Q ce sl T (mkF m q ls (.double v :: st))) : Go p e below s Q ce sl T (mkF m pc ls st) := by
  subst hp
  exact K.to fun _ r => XS.dconst1 X.here hx rfl hd hv r
theorem go_iadd (X : Stand p l e R s m args below meth c T locs cells slots) (hx : p.tables.exec = Jvm.exec) {x y v : Int32} (hd : decode c.code pc = .ok (.iadd, 1)) (hp : pc + 1 = q) (hv : x + y = v) (K : Go p e below s Q ce sl T (mkF m q ls (.int v :: st))) : Go p e below s Q ce sl T (mkF m pc ls (.int y :: .int x :: st)) := by
  subst hp
  exact K.to fun _ r => XS.iadd X.here hx rfl hd rfl (hv ▸ r)
theorem go_isub (X : Stand p l e R s m args below meth c T locs cells slots) (hx : p.tables.exec = Jvm.exec) {x y v : Int32} (hd : decode c.code pc = .ok (.isub, 1)) (hp : pc + 1 = q) (hv : x - y = v) (K : Go p e below s Q ce sl T (mkF m q ls (.int v :: st))) : Go p e below s Q ce sl T (mkF m pc ls (.int y :: .int x :: st)) := by
  subst hp
  exact K.to fun _ r => XS.isub X.here hx rfl hd rfl (hv ▸ r)
theorem go_imul (X : Stand p l e R s m args below meth c T locs cells slots) (hx : p.tables.exec = Jvm.exec) {x y v : Int32} (hd : decode c.code pc = .ok (.imul, 1)) (hp : pc + 1 = q) (hv : x * y = v) (K : Go p e below s Q ce sl T (mkF m q ls (.int v :: st))) : Go p e below s Q ce sl T (mkF m pc ls (.int y :: .int x :: st)) := by
  subst hp
  exact K.to fun _ r => XS.imul X.here hx rfl hd rfl (hv ▸ r)
theorem go_iand (X : Stand p l e R s m args below meth c T locs cells slots) (hx : p.tables.exec = Jvm.exec) {x y v : Int32} (hd : decode c.code pc = .ok (.iand, 1)) (hp : pc + 1 = q) (hv : x &&& y = v) (K : Go p e below s Q ce sl T (mkF m q ls (.int v :: st))) : Go p e below s Q ce sl T (mkF m pc ls (.int y :: .int x :: st)) := by
  subst hp
  exact K.to fun _ r => XS.iand X.here hx rfl hd rfl (hv ▸ r)
theorem go_ior (X : Stand p l e R s m args below meth c T locs cells slots) (hx : p.tables.exec = Jvm.exec) {x y v : Int32} (hd : decode c.code pc = .ok (.ior, 1)) (hp : pc + 1 = q) (hv : x ||| y = v) (K : Go p e below s Q ce sl T (mkF m q ls (.int v :: st))) : Go p e below s Q ce sl T (mkF m pc ls (.int y :: .int x :: st)) := by
  subst hp
  exact K.to fun _ r => XS.ior X.here hx rfl hd rfl (hv ▸ r)
theorem go_ixor (X : Stand p l e R s m args below meth c T locs cells slots) (hx : p.tables.exec = Jvm.exec) {x y v : Int32} (hd : decode c.code pc = .ok (.ixor, 1)) (hp : pc + 1 = q) (hv : x ^^^ y = v) (K : Go p e below s Q ce sl T (mkF m q ls (.int v :: st))) : Go p e below s Q ce sl T (mkF m pc ls (.int y :: .int x :: st)) := by
  subst hp
  exact K.to fun _ r => XS.ixor X.here hx rfl hd rfl (hv ▸ r)
theorem go_ineg (X : Stand p l e R s m args below meth c T locs cells slots) (hx : p.tables.exec = Jvm.exec) {x v : Int32} (hd : decode c.code pc = .ok (.ineg, 1)) (hp : pc + 1 = q) (hv : -x = v) (K : Go p e below s Q ce sl T (mkF m q ls (.int v :: st))) : Go p e below s Q ce sl T (mkF m pc ls (.int x :: st)) := by
  subst hp
  exact K.to fun _ r => XS.ineg X.here hx rfl hd rfl (hv ▸ r)
theorem go_idiv (X : Stand p l e R s m args below meth c T locs cells slots) (hx : p.tables.exec = Jvm.exec) {x y v : Int32} (hd : decode c.code pc = .ok (.idiv, 1)) (hp : pc + 1 = q) (hy : y ≠ 0) (hv : x / y = v) (K : Go p e below s Q ce sl T (mkF m q ls (.int v :: st))) : Go p e below s Q ce sl T (mkF m pc ls (.int y :: .int x :: st)) := by
  subst hp
  exact K.to fun _ r => XS.idiv X.here hx rfl hd rfl hy (hv ▸ r)
theorem go_ladd (X : Stand p l e R s m args below meth c T locs cells slots) (hx : p.tables.exec = Jvm.exec) {x y v : Int64} (hd : decode c.code pc = .ok (.ladd, 1)) (hp : pc + 1 = q) (hv : x + y = v) (K : Go p e below s Q ce sl T (mkF m q ls (.long v :: st))) : Go p e below s Q ce sl T (mkF m pc ls (.long y :: .long x :: st)) := by
  subst hp
  exact K.to fun _ r => XS.ladd X.here hx rfl hd rfl (hv ▸ r)
theorem go_lsub (X : Stand p l e R s m args below meth c T locs cells slots) (hx : p.tables.exec = Jvm.exec) {x y v : Int64} (hd : decode c.code pc = .ok (.lsub, 1)) (hp : pc + 1 = q) (hv : x - y = v) (K : Go p e below s Q ce sl T (mkF m q ls (.long v :: st))) : Go p e below s Q ce sl T (mkF m pc ls (.long y :: .long x :: st)) := by
  subst hp
  exact K.to fun _ r => XS.lsub X.here hx rfl hd rfl (hv ▸ r)
theorem go_lmul (X : Stand p l e R s m args below meth c T locs cells slots) (hx : p.tables.exec = Jvm.exec) {x y v : Int64} (hd : decode c.code pc = .ok (.lmul, 1)) (hp : pc + 1 = q) (hv : x * y = v) (K : Go p e below s Q ce sl T (mkF m q ls (.long v :: st))) : Go p e below s Q ce sl T (mkF m pc ls (.long y :: .long x :: st)) := by
  subst hp
  exact K.to fun _ r => XS.lmul X.here hx rfl hd rfl (hv ▸ r)
theorem go_land (X : Stand p l e R s m args below meth c T locs cells slots) (hx : p.tables.exec = Jvm.exec) {x y v : Int64} (hd : decode c.code pc = .ok (.land, 1)) (hp : pc + 1 = q) (hv : x &&& y = v) (K : Go p e below s Q ce sl T (mkF m q ls (.long v :: st))) : Go p e below s Q ce sl T (mkF m pc ls (.long y :: .long x :: st)) := by
  subst hp
  exact K.to fun _ r => XS.land X.here hx rfl hd rfl (hv ▸ r)
theorem go_lor (X : Stand p l e R s m args below meth c T locs cells slots) (hx : p.tables.exec = Jvm.exec) {x y v : Int64} (hd : decode c.code pc = .ok (.lor, 1)) (hp : pc + 1 = q) (hv : x ||| y = v) (K : Go p e below s Q ce sl T (mkF m q ls (.long v :: st))) : Go p e below s Q ce sl T (mkF m pc ls (.long y :: .long x :: st)) := by
  subst hp
  exact K.to fun _ r => XS.lor X.here hx rfl hd rfl (hv ▸ r)
theorem go_lxor (X : Stand p l e R s m args below meth c T locs cells slots) (hx : p.tables.exec = Jvm.exec) {x y v : Int64} (hd : decode c.code pc = .ok (.lxor, 1)) (hp : pc + 1 = q) (hv : x ^^^ y = v) (K : Go p e below s Q ce sl T (mkF m q ls (.long v :: st))) : Go p e below s Q ce sl T (mkF m pc ls (.long y :: .long x :: st)) := by
  subst hp
  exact K.to fun _ r => XS.lxor X.here hx rfl hd rfl (hv ▸ r)
theorem go_lneg (X : Stand p l e R s m args below meth c T locs cells slots) (hx : p.tables.exec = Jvm.exec) {x v : Int64} (hd : decode c.code pc = .ok (.lneg, 1)) (hp : pc + 1 = q) (hv : -x = v) (K : Go p e below s Q ce sl T (mkF m q ls (.long v :: st))) : Go p e below s Q ce sl T (mkF m pc ls (.long x :: st)) := by
  subst hp
  exact K.to fun _ r => XS.lneg X.here hx rfl hd rfl (hv ▸ r)
theorem go_ldiv (X : Stand p l e R s m args below meth c T locs cells slots) (hx : p.tables.exec = Jvm.exec) {x y v : Int64} (hd : decode c.code pc = .ok (.ldiv, 1)) (hp : pc + 1 = q) (hy : y ≠ 0) (hv : x / y = v) (K : Go p e below s Q ce sl T (mkF m q ls (.long v :: st))) : Go p e below s Q ce sl T (mkF m pc ls (.long y :: .long x :: st)) := by
  subst hp
  exact K.to fun _ r => XS.ldiv X.here hx rfl hd rfl hy (hv ▸ r)
theorem go_irem (X : Stand p l e R s m args below meth c T locs cells slots) (hx : p.tables.exec = Jvm.exec) {x y v : Int32} (hd : decode c.code pc = .ok (.irem, 1)) (hp : pc + 1 = q) (hy : y ≠ 0) (hv : x % y = v) (K : Go p e below s Q ce sl T (mkF m q ls (.int v :: st))) : Go p e below s Q ce sl T (mkF m pc ls (.int y :: .int x :: st)) := by
  subst hp
  exact K.to fun _ r => iremM X hx rfl hd rfl hy (hv ▸ r)
theorem go_lrem (X : Stand p l e R s m args below meth c T locs cells slots) (hx : p.tables.exec = Jvm.exec) {x y v : Int64} (hd : decode c.code pc = .ok (.lrem, 1)) (hp : pc + 1 = q) (hy : y ≠ 0) (hv : x % y = v) (K : Go p e below s Q ce sl T (mkF m q ls (.long v :: st))) : Go p e below s Q ce sl T (mkF m pc ls (.long y :: .long x :: st)) := by
  subst hp
  exact K.to fun _ r => XS.lrem X.here hx rfl hd rfl hy ((lrem_mod x y).symm ▸ hv ▸ r)
theorem go_ishl (X : Stand p l e R s m args below meth c T locs cells slots) (hx : p.tables.exec = Jvm.exec) {x v : Int32} {y : Int32} (hd : decode c.code pc = .ok (.ishl, 1)) (hp : pc + 1 = q) (hv : (x <<< (y &&& 31)) = v) (K : Go p e below s Q ce sl T (mkF m q ls (.int v :: st))) : Go p e below s Q ce sl T (mkF m pc ls (.int y :: .int x :: st)) := by
  subst hp
  exact K.to fun _ r => XS.ishl X.here hx rfl hd rfl (hv ▸ r)
theorem go_ishr (X : Stand p l e R s m args below meth c T locs cells slots) (hx : p.tables.exec = Jvm.exec) {x v : Int32} {y : Int32} (hd : decode c.code pc = .ok (.ishr, 1)) (hp : pc + 1 = q) (hv : (x >>> (y &&& 31)) = v) (K : Go p e below s Q ce sl T (mkF m q ls (.int v :: st))) : Go p e below s Q ce sl T (mkF m pc ls (.int y :: .int x :: st)) := by
  subst hp
  exact K.to fun _ r => XS.ishr X.here hx rfl hd rfl (hv ▸ r)
theorem go_iushr (X : Stand p l e R s m args below meth c T locs cells slots) (hx : p.tables.exec = Jvm.exec) {x v : Int32} {y : Int32} (hd : decode c.code pc = .ok (.iushr, 1)) (hp : pc + 1 = q) (hv : ((x.toUInt32 >>> (y &&& 31).toUInt32).toInt32) = v) (K : Go p e below s Q ce sl T (mkF m q ls (.int v :: st))) : Go p e below s Q ce sl T (mkF m pc ls (.int y :: .int x :: st)) := by
  subst hp
  exact K.to fun _ r => XS.iushr X.here hx rfl hd rfl (hv ▸ r)
theorem go_lshl (X : Stand p l e R s m args below meth c T locs cells slots) (hx : p.tables.exec = Jvm.exec) {x v : Int64} {y : Int32} (hd : decode c.code pc = .ok (.lshl, 1)) (hp : pc + 1 = q) (hv : (x <<< (y &&& 0x3f).toInt64) = v) (K : Go p e below s Q ce sl T (mkF m q ls (.long v :: st))) : Go p e below s Q ce sl T (mkF m pc ls (.int y :: .long x :: st)) := by
  subst hp
  exact K.to fun _ r => XS.lshl X.here hx rfl hd rfl (hv ▸ r)
theorem go_lshr (X : Stand p l e R s m args below meth c T locs cells slots) (hx : p.tables.exec = Jvm.exec) {x v : Int64} {y : Int32} (hd : decode c.code pc = .ok (.lshr, 1)) (hp : pc + 1 = q) (hv : (x >>> (y &&& 0x3f).toInt64) = v) (K : Go p e below s Q ce sl T (mkF m q ls (.long v :: st))) : Go p e below s Q ce sl T (mkF m pc ls (.int y :: .long x :: st)) := by
  subst hp
  exact K.to fun _ r => XS.lshr X.here hx rfl hd rfl (hv ▸ r)
theorem go_lushr (X : Stand p l e R s m args below meth c T locs cells slots) (hx : p.tables.exec = Jvm.exec) {x v : Int64} {y : Int32} (hd : decode c.code pc = .ok (.lushr, 1)) (hp : pc + 1 = q) (hv : ((x.toUInt64 >>> (y &&& 0x3f).toInt64.toUInt64).toInt64) = v) (K : Go p e below s Q ce sl T (mkF m q ls (.long v :: st))) : Go p e below s Q ce sl T (mkF m pc ls (.int y :: .long x :: st)) := by
  subst hp
  exact K.to fun _ r => XS.lushr X.here hx rfl hd rfl (hv ▸ r)
theorem go_i2l (X : Stand p l e R s m args below meth c T locs cells slots) (hx : p.tables.exec = Jvm.exec) {x : Int32} {v : Int64} (hd : decode c.code pc = .ok (.i2l, 1)) (hp : pc + 1 = q) (hv : x.toInt64 = v) (K : Go p e below s Q ce sl T (mkF m q ls (.long v :: st))) : Go p e below s Q ce sl T (mkF m pc ls (.int x :: st)) := by
  subst hp
  exact K.to fun _ r => XS.i2l X.here hx rfl hd rfl (hv ▸ r)
theorem go_l2i (X : Stand p l e R s m args below meth c T locs cells slots) (hx : p.tables.exec = Jvm.exec) {x : Int64} {v : Int32} (hd : decode c.code pc = .ok (.l2i, 1)) (hp : pc + 1 = q) (hv : x.toInt32 = v) (K : Go p e below s Q ce sl T (mkF m q ls (.int v :: st))) : Go p e below s Q ce sl T (mkF m pc ls (.long x :: st)) := by
  subst hp
  exact K.to fun _ r => XS.l2i X.here hx rfl hd rfl (hv ▸ r)
theorem go_i2b (X : Stand p l e R s m args below meth c T locs cells slots) (hx : p.tables.exec = Jvm.exec) {x : Int32} {v : Int32} (hd : decode c.code pc = .ok (.i2b, 1)) (hp : pc + 1 = q) (hv : x.toInt8.toInt32 = v) (K : Go p e below s Q ce sl T (mkF m q ls (.int v :: st))) : Go p e below s Q ce sl T (mkF m pc ls (.int x :: st)) := by
  subst hp
  exact K.to fun _ r => XS.i2b X.here hx rfl hd rfl (hv ▸ r)
theorem go_i2s (X : Stand p l e R s m args below meth c T locs cells slots) (hx : p.tables.exec = Jvm.exec) {x : Int32} {v : Int32} (hd : decode c.code pc = .ok (.i2s, 1)) (hp : pc + 1 = q) (hv : x.toInt16.toInt32 = v) (K : Go p e below s Q ce sl T (mkF m q ls (.int v :: st))) : Go p e below s Q ce sl T (mkF m pc ls (.int x :: st)) := by
  subst hp
  exact K.to fun _ r => XS.i2s X.here hx rfl hd rfl (hv ▸ r)
theorem go_i2c (X : Stand p l e R s m args below meth c T locs cells slots) (hx : p.tables.exec = Jvm.exec) {x : Int32} {v : Int32} (hd : decode c.code pc = .ok (.i2c, 1)) (hp : pc + 1 = q) (hv : x.toUInt32.toUInt16.toUInt32.toInt32 = v) (K : Go p e below s Q ce sl T (mkF m q ls (.int v :: st))) : Go p e below s Q ce sl T (mkF m pc ls (.int x :: st)) := by
  subst hp
  exact K.to fun _ r => XS.i2c X.here hx rfl hd rfl (hv ▸ r)
theorem go_lcmp (X : Stand p l e R s m args below meth c T locs cells slots) (hx : p.tables.exec = Jvm.exec) {x y : Int64} (hd : decode c.code pc = .ok (.lcmp, 1)) (hp : pc + 1 = q)  (K : Go p e below s Q ce sl T (mkF m q ls (.int (lcmpW x y) :: st))) : Go p e below s Q ce sl T (mkF m pc ls (.long y :: .long x :: st)) := by
  subst hp
  exact K.to fun _ r => XS.lcmp X.here hx rfl hd rfl r
theorem go_i2d (X : Stand p l e R s m args below meth c T locs cells slots) (hx : p.tables.exec = Jvm.exec) {x : Int32} {v : UInt64} (hd : decode c.code pc = .ok (.i2d, 1)) (hp : pc + 1 = q) (hv : FP.i2d x = v) (K : Go p e below s Q ce sl T (mkF m q ls (.double v :: st))) : Go p e below s Q ce sl T (mkF m pc ls (.int x :: st)) := by
  subst hp
  exact K.to fun _ r => XS.i2dS X.here hx rfl hd rfl hv r
theorem go_l2d (X : Stand p l e R s m args below meth c T locs cells slots) (hx : p.tables.exec = Jvm.exec) {x : Int64} {v : UInt64} (hd : decode c.code pc = .ok (.l2d, 1)) (hp : pc + 1 = q) (hv : FP.l2d x = v) (K : Go p e below s Q ce sl T (mkF m q ls (.double v :: st))) : Go p e below s Q ce sl T (mkF m pc ls (.long x :: st)) := by
  subst hp
  exact K.to fun _ r => XS.l2dS X.here hx rfl hd rfl hv r
theorem go_d2l (X : Stand p l e R s m args below meth c T locs cells slots) (hx : p.tables.exec = Jvm.exec) {x : UInt64} {v : Int64} (hd : decode c.code pc = .ok (.d2l, 1)) (hp : pc + 1 = q) (hv : FP.d2l x = v) (K : Go p e below s Q ce sl T (mkF m q ls (.long v :: st))) : Go p e below s Q ce sl T (mkF m pc ls (.double x :: st)) := by
  subst hp
  exact K.to fun _ r => XS.d2lS X.here hx rfl hd rfl hv r
theorem go_i2f (X : Stand p l e R s m args below meth c T locs cells slots) (hx : p.tables.exec = Jvm.exec) {x : Int32} {v : UInt32} (hd : decode c.code pc = .ok (.i2f, 1)) (hp : pc + 1 = q) (hv : FP.i2f x = v) (K : Go p e below s Q ce sl T (mkF m q ls (.float v :: st))) : Go p e below s Q ce sl T (mkF m pc ls (.int x :: st)) := by
  subst hp
  exact K.to fun _ r => XS.i2fS X.here hx rfl hd rfl hv r
theorem go_f2d (X : Stand p l e R s m args below meth c T locs cells slots) (hx : p.tables.exec = Jvm.exec) {x : UInt32} {v : UInt64} (hd : decode c.code pc = .ok (.f2d, 1)) (hp : pc + 1 = q) (hn : Jvm.Free.Fl.NoNaN64 (FP.f2d x)) (hv : FP.f2d x = v) (K : Go p e below s Q ce sl T (mkF m q ls (.double v :: st))) : Go p e below s Q ce sl T (mkF m pc ls (.float x :: st)) := by
  subst hp
  exact K.to fun _ r => XS.f2dS X.here hx rfl hd rfl hn hv r
theorem go_dcmp (X : Stand p l e R s m args below meth c T locs cells slots) (hx : p.tables.exec = Jvm.exec) {o : CmpOp} {x y : UInt64} {v : Int32} (hd : decode c.code pc = .ok (.dcmp o, 1)) (hp : pc + 1 = q) (hv : cmpValue (FP.dcmp x y) o = v) (K : Go p e below s Q ce sl T (mkF m q ls (.int v :: st))) : Go p e below s Q ce sl T (mkF m pc ls (.double y :: .double x :: st)) := by
  subst hp
  exact K.to fun _ r => XS.dcmpS X.here hx rfl hd rfl hv r
theorem go_dadd (X : Stand p l e R s m args below meth c T locs cells slots) (hx : p.tables.exec = Jvm.exec) {x y v : UInt64} (hd : decode c.code pc = .ok (.dadd, 1)) (hp : pc + 1 = q) (hn : Jvm.Free.Fl.NoNaN64 (FP.dadd x y)) (hv : FP.dadd x y = v) (K : Go p e below s Q ce sl T (mkF m q ls (.double v :: st))) : Go p e below s Q ce sl T (mkF m pc ls (.double y :: .double x :: st)) := by
  subst hp
  exact K.to fun _ r => XS.daddS X.here hx rfl hd rfl hn hv r
theorem go_dsub (X : Stand p l e R s m args below meth c T locs cells slots) (hx : p.tables.exec = Jvm.exec) {x y v : UInt64} (hd : decode c.code pc = .ok (.dsub, 1)) (hp : pc + 1 = q) (hn : Jvm.Free.Fl.NoNaN64 (FP.dsub x y)) (hv : FP.dsub x y = v) (K : Go p e below s Q ce sl T (mkF m q ls (.double v :: st))) : Go p e below s Q ce sl T (mkF m pc ls (.double y :: .double x :: st)) := by
  subst hp
  exact K.to fun _ r => XS.dsubS X.here hx rfl hd rfl hn hv r
theorem go_dmul (X : Stand p l e R s m args below meth c T locs cells slots) (hx : p.tables.exec = Jvm.exec) {x y v : UInt64} (hd : decode c.code pc = .ok (.dmul, 1)) (hp : pc + 1 = q) (hn : Jvm.Free.Fl.NoNaN64 (FP.dmul x y)) (hv : FP.dmul x y = v) (K : Go p e below s Q ce sl T (mkF m q ls (.double v :: st))) : Go p e below s Q ce sl T (mkF m pc ls (.double y :: .double x :: st)) := by
  subst hp
  exact K.to fun _ r => XS.dmulS X.here hx rfl hd rfl hn hv r
theorem go_ddiv (X : Stand p l e R s m args below meth c T locs cells slots) (hx : p.tables.exec = Jvm.exec) {x y v : UInt64} (hd : decode c.code pc = .ok (.ddiv, 1)) (hp : pc + 1 = q) (hn : Jvm.Free.Fl.NoNaN64 (FP.ddiv x y)) (hv : FP.ddiv x y = v) (K : Go p e below s Q ce sl T (mkF m q ls (.double v :: st))) : Go p e below s Q ce sl T (mkF m pc ls (.double y :: .double x :: st)) := by
  subst hp
  exact K.to fun _ r => XS.ddivS X.here hx rfl hd rfl hn hv r
theorem go_dup (X : Stand p l e R s m args below meth c T locs cells slots) (hx : p.tables.exec = Jvm.exec) {v : Value} (hd : decode c.code pc = .ok (.dup, 1)) (hp : pc + 1 = q) (hv : v.category = 1) (K : Go p e below s Q ce sl T (mkF m q ls (v :: v :: st))) : Go p e below s Q ce sl T (mkF m pc ls (v :: st)) := by
  subst hp
  exact K.to fun _ r => XS.dup X.here hx rfl hd rfl hv r
theorem go_pop (X : Stand p l e R s m args below meth c T locs cells slots) (hx : p.tables.exec = Jvm.exec) {v : Value} (hd : decode c.code pc = .ok (.pop, 1)) (hp : pc + 1 = q) (hv : v.category = 1) (K : Go p e below s Q ce sl T (mkF m q ls st)) : Go p e below s Q ce sl T (mkF m pc ls (v :: st)) := by
  subst hp
  exact K.to fun _ r => XS.pop X.here hx rfl hd rfl hv r
theorem go_iinc (X : Stand p l e R s m args below meth c T locs cells slots) (hx : p.tables.exec = Jvm.exec) {k : Nat} {i : Int} {v : Int32} {l' : Array Slot} (hd : decode c.code pc = .ok (.iinc k i, 3)) (hp : pc + 3 = q) (hl : ls[k]? = some (.val (.int v))) (hs : storeLocals ls k (.int (v + Int32.ofInt i)) = some l') (K : Go p e below s Q ce sl T (mkF m q l' st)) : Go p e below s Q ce sl T (mkF m pc ls st) := by
  subst hp
  exact K.to fun _ r => XS.iinc X.here hx rfl hd hl hs r
theorem go_goto (X : Stand p l e R s m args below meth c T locs cells slots) (hx : p.tables.exec = Jvm.exec) {o : Int} (hd : decode c.code pc = .ok (.goto o, 3)) (ho : 0 ≤ (pc : Int) + o) (hq : ((pc : Int) + o).toNat = q) (K : Go p e below s Q ce sl T (mkF m q ls st)) : Go p e below s Q ce sl T (mkF m pc ls st) :=
  K.to fun _ r => XS.goto X.here hx rfl (pc0 := pc) rfl hd ho hq r
theorem go_icmp_lt (X : Stand p l e R s m args below meth c T locs cells slots) (hx : p.tables.exec = Jvm.exec) {x y : Int32} {o : Int} (hd : decode c.code pc = .ok (.if_icmp .lt o, 3)) (hp : pc + 3 = q) (ho : 0 ≤ (pc : Int) + o) (hq : ((pc : Int) + o).toNat = q') (KY : x < y → Go p e below s Q ce sl T (mkF m q' ls st)) (KN : ¬ x < y → Go p e below s Q ce sl T (mkF m q ls st)) : Go p e below s Q ce sl T (mkF m pc ls (.int y :: .int x :: st)) := by
  subst hp
  by_cases hc : x < y
  · exact (KY hc).to fun _ r => XS.icmpYes X.here hx rfl (pc0 := pc) rfl hd rfl (tlt hc).1 ho hq r
  · exact (KN hc).to fun _ r => XS.icmpNo X.here hx rfl hd rfl (flt hc).1 r
theorem go_if_lt (X : Stand p l e R s m args below meth c T locs cells slots) (hx : p.tables.exec = Jvm.exec) {x : Int32} {o : Int} (hd : decode c.code pc = .ok (.ifCond .lt o, 3)) (hp : pc + 3 = q) (ho : 0 ≤ (pc : Int) + o) (hq : ((pc : Int) + o).toNat = q') (KY : x < (0 : Int32) → Go p e below s Q ce sl T (mkF m q' ls st)) (KN : ¬ x < (0 : Int32) → Go p e below s Q ce sl T (mkF m q ls st)) : Go p e below s Q ce sl T (mkF m pc ls (.int x :: st)) := by
  subst hp
  by_cases hc : x < (0 : Int32)
  · exact (KY hc).to fun _ r => XS.ifYes X.here hx rfl (pc0 := pc) rfl hd rfl ((if0 _ _).trans (tlt hc).1) ho hq r
  · exact (KN hc).to fun _ r => XS.ifNo X.here hx rfl hd rfl ((if0 _ _).trans (flt hc).1) r
theorem go_lif_lt (X : Stand p l e R s m args below meth c T locs cells slots) (hx : p.tables.exec = Jvm.exec) {a b : Int64} {o : Int} (hd : decode c.code pc = .ok (.ifCond .lt o, 3)) (hp : pc + 3 = q) (ho : 0 ≤ (pc : Int) + o) (hq : ((pc : Int) + o).toNat = q') (KY : a < b → Go p e below s Q ce sl T (mkF m q' ls st)) (KN : ¬ a < b → Go p e below s Q ce sl T (mkF m q ls st)) : Go p e below s Q ce sl T (mkF m pc ls (.int (lcmpW a b) :: st)) :=
  go_if_lt X hx hd hp ho hq (fun w => KY ((lw_lt _ _).mp w)) (fun w => KN (fun z => w ((lw_lt _ _).mpr z)))
theorem go_icmp_ge (X : Stand p l e R s m args below meth c T locs cells slots) (hx : p.tables.exec = Jvm.exec) {x y : Int32} {o : Int} (hd : decode c.code pc = .ok (.if_icmp .ge o, 3)) (hp : pc + 3 = q) (ho : 0 ≤ (pc : Int) + o) (hq : ((pc : Int) + o).toNat = q') (KY : ¬ x < y → Go p e below s Q ce sl T (mkF m q' ls st)) (KN : x < y → Go p e below s Q ce sl T (mkF m q ls st)) : Go p e below s Q ce sl T (mkF m pc ls (.int y :: .int x :: st)) := by
  subst hp
  by_cases hc : x < y
  · exact (KN hc).to fun _ r => XS.icmpNo X.here hx rfl hd rfl (tlt hc).2.1 r
  · exact (KY hc).to fun _ r => XS.icmpYes X.here hx rfl (pc0 := pc) rfl hd rfl (flt hc).2.1 ho hq r
theorem go_if_ge (X : Stand p l e R s m args below meth c T locs cells slots) (hx : p.tables.exec = Jvm.exec) {x : Int32} {o : Int} (hd : decode c.code pc = .ok (.ifCond .ge o, 3)) (hp : pc + 3 = q) (ho : 0 ≤ (pc : Int) + o) (hq : ((pc : Int) + o).toNat = q') (KY : ¬ x < (0 : Int32) → Go p e below s Q ce sl T (mkF m q' ls st)) (KN : x < (0 : Int32) → Go p e below s Q ce sl T (mkF m q ls st)) : Go p e below s Q ce sl T (mkF m pc ls (.int x :: st)) := by
  subst hp
  by_cases hc : x < (0 : Int32)
  · exact (KN hc).to fun _ r => XS.ifNo X.here hx rfl hd rfl ((if0 _ _).trans (tlt hc).2.1) r
  · exact (KY hc).to fun _ r => XS.ifYes X.here hx rfl (pc0 := pc) rfl hd rfl ((if0 _ _).trans (flt hc).2.1) ho hq r
theorem go_lif_ge (X : Stand p l e R s m args below meth c T locs cells slots) (hx : p.tables.exec = Jvm.exec) {a b : Int64} {o : Int} (hd : decode c.code pc = .ok (.ifCond .ge o, 3)) (hp : pc + 3 = q) (ho : 0 ≤ (pc : Int) + o) (hq : ((pc : Int) + o).toNat = q') (KY : ¬ a < b → Go p e below s Q ce sl T (mkF m q' ls st)) (KN : a < b → Go p e below s Q ce sl T (mkF m q ls st)) : Go p e below s Q ce sl T (mkF m pc ls (.int (lcmpW a b) :: st)) :=
  go_if_ge X hx hd hp ho hq (fun w => KY (fun z => w ((lw_lt _ _).mpr z))) (fun w => KN ((lw_lt _ _).mp w))
theorem go_icmp_gt (X : Stand p l e R s m args below meth c T locs cells slots) (hx : p.tables.exec = Jvm.exec) {x y : Int32} {o : Int} (hd : decode c.code pc = .ok (.if_icmp .gt o, 3)) (hp : pc + 3 = q) (ho : 0 ≤ (pc : Int) + o) (hq : ((pc : Int) + o).toNat = q') (KY : y < x → Go p e below s Q ce sl T (mkF m q' ls st)) (KN : ¬ y < x → Go p e below s Q ce sl T (mkF m q ls st)) : Go p e below s Q ce sl T (mkF m pc ls (.int y :: .int x :: st)) := by
  subst hp
  by_cases hc : y < x
  · exact (KY hc).to fun _ r => XS.icmpYes X.here hx rfl (pc0 := pc) rfl hd rfl (tlt hc).2.2.1 ho hq r
  · exact (KN hc).to fun _ r => XS.icmpNo X.here hx rfl hd rfl (flt hc).2.2.1 r
theorem go_if_gt (X : Stand p l e R s m args below meth c T locs cells slots) (hx : p.tables.exec = Jvm.exec) {x : Int32} {o : Int} (hd : decode c.code pc = .ok (.ifCond .gt o, 3)) (hp : pc + 3 = q) (ho : 0 ≤ (pc : Int) + o) (hq : ((pc : Int) + o).toNat = q') (KY : (0 : Int32) < x → Go p e below s Q ce sl T (mkF m q' ls st)) (KN : ¬ (0 : Int32) < x → Go p e below s Q ce sl T (mkF m q ls st)) : Go p e below s Q ce sl T (mkF m pc ls (.int x :: st)) := by
  subst hp
  by_cases hc : (0 : Int32) < x
  · exact (KY hc).to fun _ r => XS.ifYes X.here hx rfl (pc0 := pc) rfl hd rfl ((if0 _ _).trans (tlt hc).2.2.1) ho hq r
  · exact (KN hc).to fun _ r => XS.ifNo X.here hx rfl hd rfl ((if0 _ _).trans (flt hc).2.2.1) r
theorem go_lif_gt (X : Stand p l e R s m args below meth c T locs cells slots) (hx : p.tables.exec = Jvm.exec) {a b : Int64} {o : Int} (hd : decode c.code pc = .ok (.ifCond .gt o, 3)) (hp : pc + 3 = q) (ho : 0 ≤ (pc : Int) + o) (hq : ((pc : Int) + o).toNat = q') (KY : b < a → Go p e below s Q ce sl T (mkF m q' ls st)) (KN : ¬ b < a → Go p e below s Q ce sl T (mkF m q ls st)) : Go p e below s Q ce sl T (mkF m pc ls (.int (lcmpW a b) :: st)) :=
  go_if_gt X hx hd hp ho hq (fun w => KY ((lw_gt _ _).mp w)) (fun w => KN (fun z => w ((lw_gt _ _).mpr z)))
theorem go_icmp_le (X : Stand p l e R s m args below meth c T locs cells slots) (hx : p.tables.exec = Jvm.exec) {x y : Int32} {o : Int} (hd : decode c.code pc = .ok (.if_icmp .le o, 3)) (hp : pc + 3 = q) (ho : 0 ≤ (pc : Int) + o) (hq : ((pc : Int) + o).toNat = q') (KY : ¬ y < x → Go p e below s Q ce sl T (mkF m q' ls st)) (KN : y < x → Go p e below s Q ce sl T (mkF m q ls st)) : Go p e below s Q ce sl T (mkF m pc ls (.int y :: .int x :: st)) := by
  subst hp
  by_cases hc : y < x
  · exact (KN hc).to fun _ r => XS.icmpNo X.here hx rfl hd rfl (tlt hc).2.2.2 r
  · exact (KY hc).to fun _ r => XS.icmpYes X.here hx rfl (pc0 := pc) rfl hd rfl (flt hc).2.2.2 ho hq r
theorem go_if_le (X : Stand p l e R s m args below meth c T locs cells slots) (hx : p.tables.exec = Jvm.exec) {x : Int32} {o : Int} (hd : decode c.code pc = .ok (.ifCond .le o, 3)) (hp : pc + 3 = q) (ho : 0 ≤ (pc : Int) + o) (hq : ((pc : Int) + o).toNat = q') (KY : ¬ (0 : Int32) < x → Go p e below s Q ce sl T (mkF m q' ls st)) (KN : (0 : Int32) < x → Go p e below s Q ce sl T (mkF m q ls st)) : Go p e below s Q ce sl T (mkF m pc ls (.int x :: st)) := by
  subst hp
  by_cases hc : (0 : Int32) < x
  · exact (KN hc).to fun _ r => XS.ifNo X.here hx rfl hd rfl ((if0 _ _).trans (tlt hc).2.2.2) r
  · exact (KY hc).to fun _ r => XS.ifYes X.here hx rfl (pc0 := pc) rfl hd rfl ((if0 _ _).trans (flt hc).2.2.2) ho hq r
theorem go_lif_le (X : Stand p l e R s m args below meth c T locs cells slots) (hx : p.tables.exec = Jvm.exec) {a b : Int64} {o : Int} (hd : decode c.code pc = .ok (.ifCond .le o, 3)) (hp : pc + 3 = q) (ho : 0 ≤ (pc : Int) + o) (hq : ((pc : Int) + o).toNat = q') (KY : ¬ b < a → Go p e below s Q ce sl T (mkF m q' ls st)) (KN : b < a → Go p e below s Q ce sl T (mkF m q ls st)) : Go p e below s Q ce sl T (mkF m pc ls (.int (lcmpW a b) :: st)) :=
  go_if_le X hx hd hp ho hq (fun w => KY (fun z => w ((lw_gt _ _).mpr z))) (fun w => KN ((lw_gt _ _).mp w))
theorem go_icmp_eq (X : Stand p l e R s m args below meth c T locs cells slots) (hx : p.tables.exec = Jvm.exec) {x y : Int32} {o : Int} (hd : decode c.code pc = .ok (.if_icmp .eq o, 3)) (hp : pc + 3 = q) (ho : 0 ≤ (pc : Int) + o) (hq : ((pc : Int) + o).toNat = q') (KY : x = y → Go p e below s Q ce sl T (mkF m q' ls st)) (KN : ¬ x = y → Go p e below s Q ce sl T (mkF m q ls st)) : Go p e below s Q ce sl T (mkF m pc ls (.int y :: .int x :: st)) := by
  subst hp
  by_cases hc : x = y
  · exact (KY hc).to fun _ r => XS.icmpYes X.here hx rfl (pc0 := pc) rfl hd rfl (teq hc).1 ho hq r
  · exact (KN hc).to fun _ r => XS.icmpNo X.here hx rfl hd rfl (feq hc).1 r
theorem go_if_eq (X : Stand p l e R s m args below meth c T locs cells slots) (hx : p.tables.exec = Jvm.exec) {x : Int32} {o : Int} (hd : decode c.code pc = .ok (.ifCond .eq o, 3)) (hp : pc + 3 = q) (ho : 0 ≤ (pc : Int) + o) (hq : ((pc : Int) + o).toNat = q') (KY : x = (0 : Int32) → Go p e below s Q ce sl T (mkF m q' ls st)) (KN : ¬ x = (0 : Int32) → Go p e below s Q ce sl T (mkF m q ls st)) : Go p e below s Q ce sl T (mkF m pc ls (.int x :: st)) := by
  subst hp
  by_cases hc : x = (0 : Int32)
  · exact (KY hc).to fun _ r => XS.ifYes X.here hx rfl (pc0 := pc) rfl hd rfl ((if0 _ _).trans (teq hc).1) ho hq r
  · exact (KN hc).to fun _ r => XS.ifNo X.here hx rfl hd rfl ((if0 _ _).trans (feq hc).1) r
theorem go_lif_eq (X : Stand p l e R s m args below meth c T locs cells slots) (hx : p.tables.exec = Jvm.exec) {a b : Int64} {o : Int} (hd : decode c.code pc = .ok (.ifCond .eq o, 3)) (hp : pc + 3 = q) (ho : 0 ≤ (pc : Int) + o) (hq : ((pc : Int) + o).toNat = q') (KY : a = b → Go p e below s Q ce sl T (mkF m q' ls st)) (KN : ¬ a = b → Go p e below s Q ce sl T (mkF m q ls st)) : Go p e below s Q ce sl T (mkF m pc ls (.int (lcmpW a b) :: st)) :=
  go_if_eq X hx hd hp ho hq (fun w => KY ((lw_eq _ _).mp w)) (fun w => KN (fun z => w ((lw_eq _ _).mpr z)))
theorem go_icmp_ne (X : Stand p l e R s m args below meth c T locs cells slots) (hx : p.tables.exec = Jvm.exec) {x y : Int32} {o : Int} (hd : decode c.code pc = .ok (.if_icmp .ne o, 3)) (hp : pc + 3 = q) (ho : 0 ≤ (pc : Int) + o) (hq : ((pc : Int) + o).toNat = q') (KY : ¬ x = y → Go p e below s Q ce sl T (mkF m q' ls st)) (KN : x = y → Go p e below s Q ce sl T (mkF m q ls st)) : Go p e below s Q ce sl T (mkF m pc ls (.int y :: .int x :: st)) := by
  subst hp
  by_cases hc : x = y
  · exact (KN hc).to fun _ r => XS.icmpNo X.here hx rfl hd rfl (teq hc).2 r
  · exact (KY hc).to fun _ r => XS.icmpYes X.here hx rfl (pc0 := pc) rfl hd rfl (feq hc).2 ho hq r
theorem go_if_ne (X : Stand p l e R s m args below meth c T locs cells slots) (hx : p.tables.exec = Jvm.exec) {x : Int32} {o : Int} (hd : decode c.code pc = .ok (.ifCond .ne o, 3)) (hp : pc + 3 = q) (ho : 0 ≤ (pc : Int) + o) (hq : ((pc : Int) + o).toNat = q') (KY : ¬ x = (0 : Int32) → Go p e below s Q ce sl T (mkF m q' ls st)) (KN : x = (0 : Int32) → Go p e below s Q ce sl T (mkF m q ls st)) : Go p e below s Q ce sl T (mkF m pc ls (.int x :: st)) := by
  subst hp
  by_cases hc : x = (0 : Int32)
  · exact (KN hc).to fun _ r => XS.ifNo X.here hx rfl hd rfl ((if0 _ _).trans (teq hc).2) r
  · exact (KY hc).to fun _ r => XS.ifYes X.here hx rfl (pc0 := pc) rfl hd rfl ((if0 _ _).trans (feq hc).2) ho hq r
theorem go_lif_ne (X : Stand p l e R s m args below meth c T locs cells slots) (hx : p.tables.exec = Jvm.exec) {a b : Int64} {o : Int} (hd : decode c.code pc = .ok (.ifCond .ne o, 3)) (hp : pc + 3 = q) (ho : 0 ≤ (pc : Int) + o) (hq : ((pc : Int) + o).toNat = q') (KY : ¬ a = b → Go p e below s Q ce sl T (mkF m q' ls st)) (KN : a = b → Go p e below s Q ce sl T (mkF m q ls st)) : Go p e below s Q ce sl T (mkF m pc ls (.int (lcmpW a b) :: st)) :=
  go_if_ne X hx hd hp ho hq (fun w => KY (fun z => w ((lw_eq _ _).mpr z))) (fun w => KN ((lw_eq _ _).mp w))
theorem go_ret (X : Stand p l e R s m args below meth c T locs cells slots) (hx : p.tables.exec = Jvm.exec) {w : Value} {t : FieldType} {i : Instr} (hret : meth.sig.returnType = some t) (hlk : meth.locks = false) (hn : narrow t w = w)
    (hi : (i = .ireturn ∧ (t = .int ∨ t = .boolean ∨ t = .byte ∨ t = .char ∨ t = .short) ∧ ∃ z, w = .int z) ∨ (i = .lreturn ∧ t = .long ∧ ∃ z, w = .long z) ∨ (i = .dreturn ∧ t = .double ∧ ∃ z, w = .double z) ∨ (i = .freturn ∧ t = .float ∧ ∃ z, w = .float z) ∨ (i = .areturn ∧ t.isReference = true ∧ w.isRef = true))
    (hd : decode c.code pc = .ok (i, 1)) (hc : cells ≤ ce) (hs : slots ≤ sl) (hQ : Q (some w) T.heap locs) : Go p e below s Q ce sl T (mkF m pc ls (w :: st)) := by
  obtain ⟨fs, hr, hrun, hended, hW, hsame⟩ := X.leave (v := some w) (fun h => by rw [hret] at h; cases h) hlk
  exact ⟨_, _, retOut X hx hret hn hi hd hr, hrun, hended, _, _, rfl, hQ, ⟨_, rfl⟩, hW, hsame.mono hc hs⟩
theorem go_retD (X : Stand p l e R s m args below meth c T locs cells slots) (hx : p.tables.exec = Jvm.exec) {v : UInt64} (hret : meth.sig.returnType = some .double) (hlk : meth.locks = false) (hd : decode c.code pc = .ok (.dreturn, 1)) (hc : cells ≤ ce) (hs : slots ≤ sl) (hQ : Q (some (.double v)) T.heap locs) : Go p e below s Q ce sl T (mkF m pc ls (.double v :: st)) :=
  go_ret X hx hret hlk rfl (Or.inr (Or.inr (Or.inl ⟨rfl, rfl, v, rfl⟩))) hd hc hs hQ
theorem go_retJ (X : Stand p l e R s m args below meth c T locs cells slots) (hx : p.tables.exec = Jvm.exec) {v : Int64} (hret : meth.sig.returnType = some .long) (hlk : meth.locks = false) (hd : decode c.code pc = .ok (.lreturn, 1)) (hc : cells ≤ ce) (hs : slots ≤ sl) (hQ : Q (some (.long v)) T.heap locs) : Go p e below s Q ce sl T (mkF m pc ls (.long v :: st)) :=
  go_ret X hx hret hlk rfl (Or.inr (Or.inl ⟨rfl, rfl, v, rfl⟩)) hd hc hs hQ
theorem go_retI (X : Stand p l e R s m args below meth c T locs cells slots) (hx : p.tables.exec = Jvm.exec) {v : Int32} (hret : meth.sig.returnType = some .int) (hlk : meth.locks = false) (hd : decode c.code pc = .ok (.ireturn, 1)) (hc : cells ≤ ce) (hs : slots ≤ sl) (hQ : Q (some (.int v)) T.heap locs) : Go p e below s Q ce sl T (mkF m pc ls (.int v :: st)) :=
  go_ret X hx hret hlk rfl (Or.inl ⟨rfl, Or.inl rfl, v, rfl⟩) hd hc hs hQ
theorem go_retA (X : Stand p l e R s m args below meth c T locs cells slots) (hx : p.tables.exec = Jvm.exec) {v : Value} {t : FieldType} (hret : meth.sig.returnType = some t) (hlk : meth.locks = false) (ht : t.isReference = true) (hv : v.isRef = true) (hn : narrow t v = v) (hd : decode c.code pc = .ok (.areturn, 1)) (hc : cells ≤ ce) (hs : slots ≤ sl) (hQ : Q (some v) T.heap locs) : Go p e below s Q ce sl T (mkF m pc ls (v :: st)) :=
  go_ret X hx hret hlk hn (Or.inr (Or.inr (Or.inr (Or.inr ⟨rfl, ht, hv⟩)))) hd hc hs hQ
theorem go_retN (X : Stand p l e R s m args below meth c T locs cells slots) (hx : p.tables.exec = Jvm.exec) {z : Int32} {t : FieldType} (ht : t = .boolean ∨ t = .byte ∨ t = .char ∨ t = .short) (hret : meth.sig.returnType = some t) (hlk : meth.locks = false) (hd : decode c.code pc = .ok (.ireturn, 1)) (hc : cells ≤ ce) (hs : slots ≤ sl) (hQ : Q (some (.int (nar t z))) T.heap locs) : Go p e below s Q ce sl T (mkF m pc ls (.int z :: st)) := by
  obtain ⟨fs, hr, hrun, hended, hW, hsame⟩ := X.leave (v := some (.int (nar t z))) (fun h => by rw [hret] at h; cases h) hlk
  exact ⟨_, _, retN X hx hret ht hd hr, hrun, hended, _, _, rfl, hQ, ⟨_, rfl⟩, hW, hsame.mono hc hs⟩
theorem go_retV (X : Stand p l e R s m args below meth c T locs cells slots) (hx : p.tables.exec = Jvm.exec) (hret : meth.sig.returnType = none) (hlk : meth.locks = false) (hd : decode c.code pc = .ok (.return_, 1)) (hc : cells ≤ ce) (hs : slots ≤ sl) (hQ : Q none T.heap locs) : Go p e below s Q ce sl T (mkF m pc ls []) := by
  obtain ⟨fs, hr, hrun, hended, hW, hsame⟩ := X.leave (v := none) (fun _ => rfl) hlk
  exact ⟨_, _, X.returnOut hx hret hd hr, hrun, hended, _, _, rfl, hQ, ⟨_, rfl⟩, hW, hsame.mono hc hs⟩
theorem go_ldcI (X : Stand p l e R s m args below meth c T locs cells slots) (hx : p.tables.exec = Jvm.exec) (hZ : Z.Warmed39 s.vm) {own : String} {index : Nat} {v : Int32} (hown : s.vm.findClass own = some m.cls) (w : (Jvm.Cond.constant own index v).before a0 Z = true) (hd : decode c.code pc = .ok (.ldc index, 2)) (hp : pc + 2 = q) (K : Go p e below s Q ce sl T (mkF m q ls (.int v :: st))) : Go p e below s Q ce sl T (mkF m pc ls st) := by
  subst hp
  exact K.to fun t r => X.ldcInt hx hown (mvT hZ w) (g := mkF m pc ls st) rfl hd t r
theorem go_ldc2J (X : Stand p l e R s m args below meth c T locs cells slots) (hx : p.tables.exec = Jvm.exec) (hZ : Z.Warmed39 s.vm) {own : String} {index : Nat} {v : Int64} (hown : s.vm.findClass own = some m.cls) (w : (Jvm.Cond.constantLong own index v).before a0 Z = true) (hd : decode c.code pc = .ok (.ldc2_w index, 3)) (hp : pc + 3 = q) (K : Go p e below s Q ce sl T (mkF m q ls (.long v :: st))) : Go p e below s Q ce sl T (mkF m pc ls st) := by
  subst hp
  exact K.to fun t r => X.ldc2Long hx hown (mvT hZ w) (g := mkF m pc ls st) rfl hd t r
theorem go_ldc2D (X : Stand p l e R s m args below meth c T locs cells slots) (hx : p.tables.exec = Jvm.exec) (hZ : Z.Warmed39 s.vm) {own : String} {index : Nat} {v : UInt64} (hown : s.vm.findClass own = some m.cls) (w : (Jvm.Cond.constantDouble own index v).before a0 Z = true) (hd : decode c.code pc = .ok (.ldc2_w index, 3)) (hp : pc + 3 = q) (K : Go p e below s Q ce sl T (mkF m q ls (.double v :: st))) : Go p e below s Q ce sl T (mkF m pc ls st) := by
  subst hp
  exact K.to fun t r => X.ldc2DoubleC hx hown (mvT hZ w) (g := mkF m pc ls st) rfl hd t r
theorem go_callS (X : Stand p l e R s m args below meth c T locs cells slots) (hx : p.tables.exec = Jvm.exec) (hZ : Z.Warmed39 s.vm) {own : String} {index : Nat} {y : MethodName} {bytes : ByteArray} {maxL : Nat} {ret : Option FieldType} {rm : Room} {W : Nat} {Qc : Option Value → Heap → List Loc → Prop} (hown : s.vm.findClass own = some m.cls) (eT : T.heap = h)
    (w1 : (Jvm.Cond.methodLink own index y).before a0 Z = true) (w2 : (Jvm.Cond.static y).before a0 Z = true) (w3 : (Jvm.Cond.initialized y.cls).before a0 Z = true) (w4 : (Jvm.Cond.code y bytes maxL ret).before a0 Z = true) (hy : y.cls ≠ "java/lang/invoke/MethodHandle" ∧ y.cls ≠ "java/lang/invoke/VarHandle")
    (argsL rest : List Value) (hM : Con l y bytes maxL ret [] rm Z argsL.toArray h Qc) (hsz : ls.size = c.maxLocals) (hst : st = argsL.reverse ++ rest) (hlen : ∀ sig, parseMethodDescriptor y.desc = some sig → argsL.length = sig.parameters.length) (hW : (rest.map fun v => v.category).sum ≤ W)
    (hf : rm.frames + 1 ≤ R.frames) (hl : W + (maxL + 11) + rm.locals ≤ R.locals) (hd : decode c.code pc = .ok (.invokestatic index, 3)) (hp : pc + 3 = q) (hc : cells + rm.cells ≤ R.cells) (hs : slots + rm.slots ≤ R.slots)
    (K : ∀ (T' : State) (L : List Loc) (v : Option Value), Stand p l e R s m args below meth c T' (locs ++ L) (cells + rm.cells) (slots + rm.slots) → Qc v T'.heap L → Go p e below s Q ce sl T' (mkF m q ls (v.toList ++ rest))) : Go p e below s Q ce sl T (mkF m pc ls st) := by
  subst hp
  obtain ⟨v, _, ⟨T', L', k', n'⟩, -, X', ⟨Lc, hQ, l1, y1, z1⟩, stp⟩ := Jvm.LawKit.callS X hx (y := y) hown (mvT hZ w1) (mvT hZ w2) (mvT hZ w3) (mvT hZ w4) hy (backOf (W := W) hM hZ w4 w3 hf hl) (g := mkF m pc ls st) rfl hsz (argsL := argsL) (rest := rest) hlen hst (by show 2 * 0 + _ ≤ _; omega) hd (fun _ _ => ⟨rfl, eT, hc, hs⟩)
  dsimp only [Pt.U, Pt.locs, Pt.cells, Pt.slots] at X' l1 y1 z1 stp hQ
  subst l1 y1 z1
  exact (K T' Lc v X' hQ).to fun t r => stp t r
theorem go_callI (X : Stand p l e R s m args below meth c T locs cells slots) (hx : p.tables.exec = Jvm.exec) (hZ : Z.Warmed39 s.vm) {own : String} {index : Nat} {y : MethodName} {bytes : ByteArray} {maxL : Nat} {rm : Room} {W : Nat} {Qc : Option Value → Heap → List Loc → Prop} (hown : s.vm.findClass own = some m.cls) (eT : T.heap = h) (hy1 : y.name = "<init>")
    (w1 : (Jvm.Cond.methodLink own index y).before a0 Z = true) (w2 : (Jvm.Cond.instanceMethod y).before a0 Z = true) (w3 : (Jvm.Cond.initialized y.cls).before a0 Z = true) (w4 : (Jvm.Cond.code y bytes maxL none).before a0 Z = true) (hy : y.cls ≠ "java/lang/invoke/MethodHandle" ∧ y.cls ≠ "java/lang/invoke/VarHandle")
    (a : Addr) (argsL rest : List Value) (hM : Con l y bytes maxL none [] rm Z (.ref a :: argsL).toArray h Qc) (hsz : ls.size = c.maxLocals) (hst : st = argsL.reverse ++ .ref a :: rest) (hlen : ∀ sig, parseMethodDescriptor y.desc = some sig → argsL.length = sig.parameters.length) (hW : (rest.map fun v => v.category).sum ≤ W)
    (hf : rm.frames + 1 ≤ R.frames) (hl : W + (maxL + 11) + rm.locals ≤ R.locals) (hd : decode c.code pc = .ok (.invokespecial index, 3)) (hp : pc + 3 = q) (hc : cells + rm.cells ≤ R.cells) (hs : slots + rm.slots ≤ R.slots)
    (K : ∀ (T' : State) (L : List Loc) (v : Option Value), Stand p l e R s m args below meth c T' (locs ++ L) (cells + rm.cells) (slots + rm.slots) → Qc v T'.heap L → Go p e below s Q ce sl T' (mkF m q ls (v.toList ++ rest))) : Go p e below s Q ce sl T (mkF m pc ls st) := by
  subst hp
  obtain ⟨v, _, ⟨T', L', k', n'⟩, -, X', ⟨Lc, hQ, l1, y1, z1⟩, stp⟩ := X.specialBack hx (y := y) hy1 hown (mvT hZ w1) (mvT hZ w2) (mvT hZ w4) hy (backOf (W := W) hM hZ w4 w3 hf hl) (g := mkF m pc ls st) rfl hsz (Steps.refl _) (a := a) (argsL := argsL) (rest := rest) hlen hst (by show 2 * 0 + _ ≤ _; omega) hd (fun _ _ => ⟨rfl, eT, hc, hs⟩)
  dsimp only [Pt.U, Pt.locs, Pt.cells, Pt.slots] at X' l1 y1 z1 stp hQ
  subst l1 y1 z1
  exact (K T' Lc v X' hQ).to fun t r => stp.trans r
theorem go_callV (X : Stand p l e R s m args below meth c T locs cells slots) (hx : p.tables.exec = Jvm.exec) (hZ : Z.Warmed39 s.vm) {own C : String} {index : Nat} {y : MethodName} {bytes : ByteArray} {maxL : Nat} {ret : Option FieldType} {rm : Room} {W : Nat} {Qc : Option Value → Heap → List Loc → Prop} {z : MethodName} (hown : s.vm.findClass own = some m.cls) (eT : T.heap = h)
    (w1 : (Jvm.Cond.methodLink own index y).before a0 Z = true) (w2 : (Jvm.Cond.declares y).before a0 Z = true) (hnf : NotFace s y) (w3 : (Jvm.Cond.selects C y z).before a0 Z = true) (w5 : (Jvm.Cond.instanceMethod z).before a0 Z = true) (w6 : (Jvm.Cond.initialized z.cls).before a0 Z = true) (w4 : (Jvm.Cond.code z bytes maxL ret).before a0 Z = true) (hy : y.cls ≠ "java/lang/invoke/MethodHandle" ∧ y.cls ≠ "java/lang/invoke/VarHandle")
    (a : Addr) (argsL rest : List Value) (E : Exa Z h a C) (hM : Con l z bytes maxL ret [] rm Z (.ref a :: argsL).toArray h Qc) (hsz : ls.size = c.maxLocals) (hst : st = argsL.reverse ++ .ref a :: rest) (hlen : ∀ sig, parseMethodDescriptor y.desc = some sig → argsL.length = sig.parameters.length) (hW : (rest.map fun v => v.category).sum ≤ W)
    (hf : rm.frames + 1 ≤ R.frames) (hl : W + (maxL + 11) + rm.locals ≤ R.locals) (hd : decode c.code pc = .ok (.invokevirtual index, 3)) (hp : pc + 3 = q) (hc : cells + rm.cells ≤ R.cells) (hs : slots + rm.slots ≤ R.slots)
    (K : ∀ (T' : State) (L : List Loc) (v : Option Value), Stand p l e R s m args below meth c T' (locs ++ L) (cells + rm.cells) (slots + rm.slots) → Qc v T'.heap L → Go p e below s Q ce sl T' (mkF m q ls (v.toList ++ rest))) : Go p e below s Q ce sl T (mkF m pc ls st) := by
  subst hp
  obtain ⟨cq, kq, qa, qb, qc⟩ := isOf hZ eT E
  obtain ⟨v, _, ⟨T', L', k', n'⟩, -, X', ⟨Lc, hQ, l1, y1, z1⟩, stp⟩ := X.virtualBack hx (y := y) (z := z) hown (mvT hZ w1) (mvT hZ w2) hnf (mvT hZ w3) (mvT hZ w5) hy (backOf (W := W) hM hZ w4 w6 hf hl) qa qc (g := mkF m pc ls st) rfl hsz (Steps.refl _) (argsL := argsL) (rest := rest) hlen hst (by show 2 * 0 + _ ≤ _; omega) hd (fun _ _ => ⟨rfl, eT, hc, hs⟩)
  dsimp only [Pt.U, Pt.locs, Pt.cells, Pt.slots] at X' l1 y1 z1 stp hQ
  subst l1 y1 z1
  exact (K T' Lc v X' hQ).to fun t r => stp.trans r
end OwnWalk

section OwnHeap
variable {p : Program} {l : Launch} {e : Env} {R : Room} {s : State} {m : MethodId} {args : Array Value} {below : List Frame} {meth : Method} {c : Code} {T : State} {locs : List Loc} {cells slots : Nat} {Z : State} {h : Heap} {Q : Option Value → Heap → List Loc → Prop} {ce sl : Nat} {pc q q' : Nat} {ls : Array Slot} {st : List Value} {a0 : Array Value} {n0 : Nat} {a : Addr}
theorem go_getS (X : Stand p l e R s m args below meth c T locs cells slots) (hx : p.tables.exec = Jvm.exec) (hZ : Z.Warmed39 s.vm) {own R0 O n d host : String} {index : Nat} (hown : s.vm.findClass own = some m.cls) (w : (Jvm.Cond.fieldLink own index R0 n d).before a0 Z = true ∨ (Jvm.Cond.fieldLinkNest own index R0 n d host).before a0 Z = true) (via : Via Z R0 O n d) (eT : T.heap = h) {v : Value} (F : Sta Z h O n d v) (hd : decode c.code pc = .ok (.getstatic index, 3)) (hp : pc + 3 = q) (K : ∀ T', Stand p l e R s m args below meth c T' locs cells slots → T'.heap = h → Go p e below s Q ce sl T' (mkF m q ls (v :: st))) : Go p e below s Q ce sl T (mkF m pc ls st) := by
  subst hp
  obtain ⟨T', X', e', st'⟩ := getS2 X hx hZ hown w via eT F (g := mkF m pc ls st) rfl hd
  exact (K T' X' e').to fun t r => st' t r
theorem go_getF (X : Stand p l e R s m args below meth c T locs cells slots) (hx : p.tables.exec = Jvm.exec) (hZ : Z.Warmed39 s.vm) {own R0 O n d host : String} {index : Nat} (hown : s.vm.findClass own = some m.cls) (w : (Jvm.Cond.fieldLink own index R0 n d).before a0 Z = true ∨ (Jvm.Cond.fieldLinkNest own index R0 n d host).before a0 Z = true) (via : Via Z R0 O n d) (eT : T.heap = h) {v : Value} (F : Fld Z h a O n d v) (hd : decode c.code pc = .ok (.getfield index, 3)) (hp : pc + 3 = q) (K : ∀ T', Stand p l e R s m args below meth c T' locs cells slots → T'.heap = h → Go p e below s Q ce sl T' (mkF m q ls (v :: st))) : Go p e below s Q ce sl T (mkF m pc ls (.ref a :: st)) := by
  subst hp
  obtain ⟨T', X', e', st'⟩ := getF X hx hZ hown w via eT F (g := mkF m pc ls (.ref a :: st)) rfl rfl hd
  exact (K T' X' e').to fun t r => st' t r
theorem go_putF (X : Stand p l e R s m args below meth c T locs cells slots) (hx : p.tables.exec = Jvm.exec) (hZ : Z.Warmed39 s.vm) {own R0 O n d host : String} {index : Nat} (hown : s.vm.findClass own = some m.cls) (w : (Jvm.Cond.fieldLink own index R0 n d).before a0 Z = true ∨ (Jvm.Cond.fieldLinkNest own index R0 n d host).before a0 Z = true) (via : Via Z R0 O n d) (eT : T.heap = h) {C : String} {kk : Nat} {ty : FieldType} {v old : Value} (F : Fld Z h a O n d old) (E : Exa Z h a C) (L : (Jvm.Cond.lays C O n d).before a0 Z = true ∨ ((Jvm.Cond.laysFinal C O n d).before a0 Z = true ∧ own = O ∧ meth.name = "<init>")) (wi : (Jvm.Cond.instantiable C kk).before a0 Z = true) (hty : parseFieldDescriptor d = some ty) (hn : narrow ty v = v) (hf : fits ty v = true) (N : Fr n0 locs) (ha : n0 ≤ a) (hd : decode c.code pc = .ok (.putfield index, 3)) (hp : pc + 3 = q)
    (K : ∀ T' h' locs', Stand p l e R s m args below meth c T' locs' cells slots → Fr n0 locs' → T'.heap = h' → Wr h h' a (Jvm.RoadKit.slotOf Z O n d) v → Go p e below s Q ce sl T' (mkF m q ls st)) : Go p e below s Q ce sl T (mkF m pc ls (v :: .ref a :: st)) := by
  subst hp
  obtain ⟨T', h', X', e', W', st'⟩ := putF X hx hZ hown w via eT F E L wi hty hn hf (g := mkF m pc ls (v :: .ref a :: st)) rfl rfl hd
  exact (K T' h' _ X' (Fr.snoc X' N ha) e' W').to fun t r => st' t r
theorem go_newO (X : Stand p l e R s m args below meth c T locs cells slots) (hx : p.tables.exec = Jvm.exec) (hZ : Z.Warmed39 s.vm) {own C : String} {index n : Nat} (hown : s.vm.findClass own = some m.cls) (w : (Jvm.Cond.classLink own index C).before a0 Z = true) (wi : (Jvm.Cond.instantiable C n).before a0 Z = true) (wz : (Jvm.Cond.initialized C).before a0 Z = true) (eT : T.heap = h) (hd : decode c.code pc = .ok (.new index, 3)) (hp : pc + 3 = q) (hc : cells + 1 ≤ R.cells) (hl : slots + n ≤ R.slots)
    (K : ∀ T' h' b, b = h.size → Stand p l e R s m args below meth c T' locs (cells + 1) (slots + n) → T'.heap = h' → Ext h h' → Exa Z h' b C → (∀ {O nm d : String} {ty : FieldType}, Laid Z a0 C O nm d → parseFieldDescriptor d = some ty → Fld Z h' b O nm d (defaultValue ty)) → Go p e below s Q ce sl T' (mkF m q ls (.ref b :: st))) : Go p e below s Q ce sl T (mkF m pc ls st) := by
  subst hp
  obtain ⟨T', h', X', e', E', A', D', -, st'⟩ := newO X hx hZ hown w wi wz eT (g := mkF m pc ls st) rfl hd hc hl
  exact (K T' h' _ rfl X' e' E' A' D').to fun t r => st' t r
theorem go_newP (X : Stand p l e R s m args below meth c T locs cells slots) (hx : p.tables.exec = Jvm.exec) (hZ : Z.Warmed39 s.vm) {aty : ArrayType} (w : (Jvm.Cond.arrayClass (newarray.typeOf aty)).before a0 Z = true) (eT : T.heap = h) (hd : decode c.code pc = .ok (.newarray aty, 2)) (hp : pc + 2 = q) {n : Int32} (hn : ¬ n < 0) (cap : Nat) (hcap : n.toNatClampNeg ≤ cap) (hb : cap * 8 ≤ 536870912) (hc : cells + 1 ≤ R.cells) (hl : slots + cap ≤ R.slots)
    (K : ∀ T' h' kc b, b = h.size → Stand p l e R s m args below meth c T' locs (cells + 1) (slots + cap) → T'.heap = h' → Ext h h' → Arv Z h' b kc (newarray.typeOf aty) n [] (defaultValue (newarray.typeOf aty)) → Go p e below s Q ce sl T' (mkF m q ls (.ref b :: st))) : Go p e below s Q ce sl T (mkF m pc ls (.int n :: st)) := by
  subst hp
  obtain ⟨T', h', kc, X', e', E', A', st'⟩ := newP X hx hZ w eT (g := mkF m pc ls (.int n :: st)) rfl hd rfl hn (cap := cap) hcap hb hc hl
  exact (K T' h' kc _ rfl X' e' E' (Arv.new A' hn)).to fun t r => st' t r
theorem go_initO (X : Stand p l e R s m args below meth c T locs cells slots) (hx : p.tables.exec = Jvm.exec) (hZ : Z.Warmed39 s.vm) {own : String} {index W : Nat} (hown : s.vm.findClass own = some m.cls) (w1 : (Jvm.Cond.methodLink own index Lib.objectInit).before a0 Z = true) (w2 : (Jvm.Cond.instanceMethod Lib.objectInit).before a0 Z = true) (w3 : (Jvm.Cond.code Lib.objectInit ⟨#[0xb1]⟩ 1 none).before a0 Z = true) (eT : T.heap = h) (hsz : ls.size = c.maxLocals) (hd : decode c.code pc = .ok (.invokespecial index, 3)) (hp : pc + 3 = q) (hf : 1 ≤ R.frames) (hW : (st.map fun v => v.category).sum ≤ W) (hl : W + 12 ≤ R.locals) (K : ∀ T', Stand p l e R s m args below meth c T' locs cells slots → T'.heap = h → Go p e below s Q ce sl T' (mkF m q ls st)) : Go p e below s Q ce sl T (mkF m pc ls (.ref a :: st)) := by
  subst hp
  obtain ⟨T', X', e', st'⟩ := initO X hx hZ hown w1 w2 w3 eT (g := mkF m pc ls (.ref a :: st)) rfl hsz rfl hd hf (W := W) (by show 2 * 0 + _ ≤ _; omega) hl
  exact (K T' X' e').to fun t r => st' t r
theorem go_iaload (X : Stand p l e R s m args below meth c T locs cells slots) (hx : p.tables.exec = Jvm.exec) (hZ : Z.Warmed39 s.vm) (eT : T.heap = h) {k : ClassId} {z j : Int32} {vs : List Value} {dv : Value} {v : Value} (F : Arv Z h a k .int z vs dv) (hj : ¬ j < 0 ∧ j < z) (hv : vs.getD j.toNatClampNeg dv = v) (hd : decode c.code pc = .ok (.iaload, 1)) (hp : pc + 1 = q) (K : Go p e below s Q ce sl T (mkF m q ls (v :: st))) : Go p e below s Q ce sl T (mkF m pc ls (.int j :: .ref a :: st)) := by
  subst hp
  obtain ⟨cl, A, -, S, -, H, -⟩ := F
  exact K.to fun t r => X.iaload hx (by rw [eT]; exact A.1) (State.isArrayOf_alike hZ.alike A.2.1) A.2.2 (inb_of S hj) (H.at (inb_of S hj) hv) (g := mkF m pc ls (.int j :: .ref a :: st)) rfl rfl hd t r
theorem go_daload (X : Stand p l e R s m args below meth c T locs cells slots) (hx : p.tables.exec = Jvm.exec) (hZ : Z.Warmed39 s.vm) (eT : T.heap = h) {k : ClassId} {z j : Int32} {vs : List Value} {dv : Value} {v : Value} (F : Arv Z h a k .double z vs dv) (hj : ¬ j < 0 ∧ j < z) (hv : vs.getD j.toNatClampNeg dv = v) (hd : decode c.code pc = .ok (.daload, 1)) (hp : pc + 1 = q) (K : Go p e below s Q ce sl T (mkF m q ls (v :: st))) : Go p e below s Q ce sl T (mkF m pc ls (.int j :: .ref a :: st)) := by
  subst hp
  obtain ⟨cl, A, -, S, -, H, -⟩ := F
  exact K.to fun t r => X.daload hx (by rw [eT]; exact A.1) (State.isArrayOf_alike hZ.alike A.2.1) A.2.2 (inb_of S hj) (H.at (inb_of S hj) hv) (g := mkF m pc ls (.int j :: .ref a :: st)) rfl rfl hd t r
theorem go_faload (X : Stand p l e R s m args below meth c T locs cells slots) (hx : p.tables.exec = Jvm.exec) (hZ : Z.Warmed39 s.vm) (eT : T.heap = h) {k : ClassId} {z j : Int32} {vs : List Value} {dv : Value} {v : Value} (F : Arv Z h a k .float z vs dv) (hj : ¬ j < 0 ∧ j < z) (hv : vs.getD j.toNatClampNeg dv = v) (hd : decode c.code pc = .ok (.faload, 1)) (hp : pc + 1 = q) (K : Go p e below s Q ce sl T (mkF m q ls (v :: st))) : Go p e below s Q ce sl T (mkF m pc ls (.int j :: .ref a :: st)) := by
  subst hp
  obtain ⟨cl, A, -, S, -, H, -⟩ := F
  exact K.to fun t r => X.faload hx (by rw [eT]; exact A.1) (State.isArrayOf_alike hZ.alike A.2.1) A.2.2 (inb_of S hj) (H.at (inb_of S hj) hv) (g := mkF m pc ls (.int j :: .ref a :: st)) rfl rfl hd t r
theorem go_baload (X : Stand p l e R s m args below meth c T locs cells slots) (hx : p.tables.exec = Jvm.exec) (hZ : Z.Warmed39 s.vm) (eT : T.heap = h) {k : ClassId} {z j : Int32} {vs : List Value} {dv : Value} {v : Value} (F : Arv Z h a k .boolean z vs dv) (hj : ¬ j < 0 ∧ j < z) (hv : vs.getD j.toNatClampNeg dv = v) (hd : decode c.code pc = .ok (.baload, 1)) (hp : pc + 1 = q) (K : Go p e below s Q ce sl T (mkF m q ls (v :: st))) : Go p e below s Q ce sl T (mkF m pc ls (.int j :: .ref a :: st)) := by
  subst hp
  obtain ⟨cl, A, -, S, -, H, -⟩ := F
  exact K.to fun t r => X.baloadBooleans hx (by rw [eT]; exact A.1) (State.isArrayOf_alike hZ.alike A.2.1) A.2.2 (inb_of S hj) (H.at (inb_of S hj) hv) (g := mkF m pc ls (.int j :: .ref a :: st)) rfl rfl hd t r
theorem go_baloadB (X : Stand p l e R s m args below meth c T locs cells slots) (hx : p.tables.exec = Jvm.exec) (hZ : Z.Warmed39 s.vm) (eT : T.heap = h) {k : ClassId} {z j : Int32} {vs : List Value} {dv : Value} {v : Value} (F : Arv Z h a k .byte z vs dv) (hj : ¬ j < 0 ∧ j < z) (hv : vs.getD j.toNatClampNeg dv = v) (hd : decode c.code pc = .ok (.baload, 1)) (hp : pc + 1 = q) (K : Go p e below s Q ce sl T (mkF m q ls (v :: st))) : Go p e below s Q ce sl T (mkF m pc ls (.int j :: .ref a :: st)) := by
  subst hp
  obtain ⟨cl, A, -, S, -, H, -⟩ := F
  exact K.to fun t r => X.baloadBytes hx (by rw [eT]; exact A.1) (State.isArrayOf_alike hZ.alike A.2.1) A.2.2 (inb_of S hj) (H.at (inb_of S hj) hv) (g := mkF m pc ls (.int j :: .ref a :: st)) rfl rfl hd t r
theorem go_caload (X : Stand p l e R s m args below meth c T locs cells slots) (hx : p.tables.exec = Jvm.exec) (hZ : Z.Warmed39 s.vm) (eT : T.heap = h) {k : ClassId} {z j : Int32} {vs : List Value} {dv : Value} {v : Value} (F : Arv Z h a k .char z vs dv) (hj : ¬ j < 0 ∧ j < z) (hv : vs.getD j.toNatClampNeg dv = v) (hd : decode c.code pc = .ok (.caload, 1)) (hp : pc + 1 = q) (K : Go p e below s Q ce sl T (mkF m q ls (v :: st))) : Go p e below s Q ce sl T (mkF m pc ls (.int j :: .ref a :: st)) := by
  subst hp
  obtain ⟨cl, A, -, S, -, H, -⟩ := F
  exact K.to fun t r => X.caload hx (by rw [eT]; exact A.1) (State.isArrayOf_alike hZ.alike A.2.1) A.2.2 (inb_of S hj) (H.at (inb_of S hj) hv) (g := mkF m pc ls (.int j :: .ref a :: st)) rfl rfl hd t r
theorem go_alen (X : Stand p l e R s m args below meth c T locs cells slots) (hx : p.tables.exec = Jvm.exec) (hZ : Z.Warmed39 s.vm) (eT : T.heap = h) {k : ClassId} {z : Int32} {vs : List Value} {dv : Value} {ty : FieldType} (F : Arv Z h a k ty z vs dv) (hd : decode c.code pc = .ok (.arraylength, 1)) (hp : pc + 1 = q) (K : Go p e below s Q ce sl T (mkF m q ls (.int z :: st))) : Go p e below s Q ce sl T (mkF m pc ls (.ref a :: st)) := by
  subst hp
  obtain ⟨cl, A, -, S, N, -, -⟩ := F
  exact K.to fun t r => X.arraylength hx (by rw [eT]; exact A.1) (State.isArrayOf_alike hZ.alike A.2.1) (g := mkF m pc ls (.ref a :: st)) rfl rfl hd t (by rw [len_of S N]; exact r)
theorem go_iastore (X : Stand p l e R s m args below meth c T locs cells slots) (hx : p.tables.exec = Jvm.exec) (hZ : Z.Warmed39 s.vm) (eT : T.heap = h) {k : ClassId} {z j : Int32} {vs : List Value} {dv : Value} {x : Int32} (F : Arv Z h a k .int z vs dv) (hj : ¬ j < 0 ∧ j < z) (i : Nat) (hi : j.toNatClampNeg = i) (hl : i < vs.length) (N : Fr n0 locs) (ha : n0 ≤ a) (hd : decode c.code pc = .ok (.iastore, 1)) (hp : pc + 1 = q)
    (K : ∀ T' h' locs', Stand p l e R s m args below meth c T' locs' cells slots → Fr n0 locs' → T'.heap = h' → Wr h h' a j.toNatClampNeg (.int x) → Arv Z h' a k .int z (vs.set i (.int x)) dv → Go p e below s Q ce sl T' (mkF m q ls st)) : Go p e below s Q ce sl T (mkF m pc ls ((.int x) :: .int j :: .ref a :: st)) := by
  subst hp
  obtain ⟨cl, A, q1, S, q3, H, G⟩ := F
  obtain ⟨T', h', X', e', W', st'⟩ := stI X hx hZ eT A (inb_of S hj) (g := mkF m pc ls ((.int x) :: .int j :: .ref a :: st)) rfl rfl hd
  exact (K T' h' _ X' (Fr.snoc X' N ha) e' W' (Arv.set A q1 S q3 H G rfl W' i hi hl)).to fun t r => st' t r
theorem go_dastore (X : Stand p l e R s m args below meth c T locs cells slots) (hx : p.tables.exec = Jvm.exec) (hZ : Z.Warmed39 s.vm) (eT : T.heap = h) {k : ClassId} {z j : Int32} {vs : List Value} {dv : Value} {x : UInt64} (F : Arv Z h a k .double z vs dv) (hj : ¬ j < 0 ∧ j < z) (i : Nat) (hi : j.toNatClampNeg = i) (hl : i < vs.length) (N : Fr n0 locs) (ha : n0 ≤ a) (hd : decode c.code pc = .ok (.dastore, 1)) (hp : pc + 1 = q)
    (K : ∀ T' h' locs', Stand p l e R s m args below meth c T' locs' cells slots → Fr n0 locs' → T'.heap = h' → Wr h h' a j.toNatClampNeg (.double x) → Arv Z h' a k .double z (vs.set i (.double x)) dv → Go p e below s Q ce sl T' (mkF m q ls st)) : Go p e below s Q ce sl T (mkF m pc ls ((.double x) :: .int j :: .ref a :: st)) := by
  subst hp
  obtain ⟨cl, A, q1, S, q3, H, G⟩ := F
  obtain ⟨T', h', X', e', W', st'⟩ := stD X hx hZ eT A (inb_of S hj) (g := mkF m pc ls ((.double x) :: .int j :: .ref a :: st)) rfl rfl hd
  exact (K T' h' _ X' (Fr.snoc X' N ha) e' W' (Arv.set A q1 S q3 H G rfl W' i hi hl)).to fun t r => st' t r
theorem go_fastore (X : Stand p l e R s m args below meth c T locs cells slots) (hx : p.tables.exec = Jvm.exec) (hZ : Z.Warmed39 s.vm) (eT : T.heap = h) {k : ClassId} {z j : Int32} {vs : List Value} {dv : Value} {x : UInt32} (F : Arv Z h a k .float z vs dv) (hj : ¬ j < 0 ∧ j < z) (i : Nat) (hi : j.toNatClampNeg = i) (hl : i < vs.length) (N : Fr n0 locs) (ha : n0 ≤ a) (hd : decode c.code pc = .ok (.fastore, 1)) (hp : pc + 1 = q)
    (K : ∀ T' h' locs', Stand p l e R s m args below meth c T' locs' cells slots → Fr n0 locs' → T'.heap = h' → Wr h h' a j.toNatClampNeg (.float x) → Arv Z h' a k .float z (vs.set i (.float x)) dv → Go p e below s Q ce sl T' (mkF m q ls st)) : Go p e below s Q ce sl T (mkF m pc ls ((.float x) :: .int j :: .ref a :: st)) := by
  subst hp
  obtain ⟨cl, A, q1, S, q3, H, G⟩ := F
  obtain ⟨T', h', X', e', W', st'⟩ := stF X hx hZ eT A (inb_of S hj) (g := mkF m pc ls ((.float x) :: .int j :: .ref a :: st)) rfl rfl hd
  exact (K T' h' _ X' (Fr.snoc X' N ha) e' W' (Arv.set A q1 S q3 H G rfl W' i hi hl)).to fun t r => st' t r
theorem go_bastore (X : Stand p l e R s m args below meth c T locs cells slots) (hx : p.tables.exec = Jvm.exec) (hZ : Z.Warmed39 s.vm) (eT : T.heap = h) {k : ClassId} {z j : Int32} {vs : List Value} {dv : Value} {x : Int32} (F : Arv Z h a k .boolean z vs dv) (hj : ¬ j < 0 ∧ j < z) (i : Nat) (hi : j.toNatClampNeg = i) (hl : i < vs.length) (N : Fr n0 locs) (ha : n0 ≤ a) (hd : decode c.code pc = .ok (.bastore, 1)) (hp : pc + 1 = q)
    (K : ∀ T' h' locs', Stand p l e R s m args below meth c T' locs' cells slots → Fr n0 locs' → T'.heap = h' → Wr h h' a j.toNatClampNeg (.int (nar .boolean x)) → Arv Z h' a k .boolean z (vs.set i (.int (nar .boolean x))) dv → Go p e below s Q ce sl T' (mkF m q ls st)) : Go p e below s Q ce sl T (mkF m pc ls ((.int x) :: .int j :: .ref a :: st)) := by
  subst hp
  obtain ⟨cl, A, q1, S, q3, H, G⟩ := F
  obtain ⟨T', h', X', e', W', st'⟩ := stZ X hx hZ eT A (inb_of S hj) (g := mkF m pc ls ((.int x) :: .int j :: .ref a :: st)) rfl rfl hd
  exact (K T' h' _ X' (Fr.snoc X' N ha) e' W' (Arv.set A q1 S q3 H G (fits_nar_bool _) W' i hi hl)).to fun t r => st' t r
theorem go_castore (X : Stand p l e R s m args below meth c T locs cells slots) (hx : p.tables.exec = Jvm.exec) (hZ : Z.Warmed39 s.vm) (eT : T.heap = h) {k : ClassId} {z j : Int32} {vs : List Value} {dv : Value} {x : Int32} (F : Arv Z h a k .char z vs dv) (hj : ¬ j < 0 ∧ j < z) (i : Nat) (hi : j.toNatClampNeg = i) (hl : i < vs.length) (N : Fr n0 locs) (ha : n0 ≤ a) (hd : decode c.code pc = .ok (.castore, 1)) (hp : pc + 1 = q)
    (K : ∀ T' h' locs', Stand p l e R s m args below meth c T' locs' cells slots → Fr n0 locs' → T'.heap = h' → Wr h h' a j.toNatClampNeg (.int (nar .char x)) → Arv Z h' a k .char z (vs.set i (.int (nar .char x))) dv → Go p e below s Q ce sl T' (mkF m q ls st)) : Go p e below s Q ce sl T (mkF m pc ls ((.int x) :: .int j :: .ref a :: st)) := by
  subst hp
  obtain ⟨cl, A, q1, S, q3, H, G⟩ := F
  obtain ⟨T', h', X', e', W', st'⟩ := stC X hx hZ eT A (inb_of S hj) (g := mkF m pc ls ((.int x) :: .int j :: .ref a :: st)) rfl rfl hd
  exact (K T' h' _ X' (Fr.snoc X' N ha) e' W' (Arv.set A q1 S q3 H G (fits_nar_char _) W' i hi hl)).to fun t r => st' t r
theorem go_bastoreB (X : Stand p l e R s m args below meth c T locs cells slots) (hx : p.tables.exec = Jvm.exec) (hZ : Z.Warmed39 s.vm) (eT : T.heap = h) {k : ClassId} {z j : Int32} {vs : List Value} {dv : Value} {x : Int32} (F : Arv Z h a k .byte z vs dv) (hj : ¬ j < 0 ∧ j < z) (i : Nat) (hi : j.toNatClampNeg = i) (hl : i < vs.length) (N : Fr n0 locs) (ha : n0 ≤ a) (hd : decode c.code pc = .ok (.bastore, 1)) (hp : pc + 1 = q)
    (K : ∀ T' h' locs', Stand p l e R s m args below meth c T' locs' cells slots → Fr n0 locs' → T'.heap = h' → Wr h h' a j.toNatClampNeg (.int (nar .byte x)) → Arv Z h' a k .byte z (vs.set i (.int (nar .byte x))) dv → Go p e below s Q ce sl T' (mkF m q ls st)) : Go p e below s Q ce sl T (mkF m pc ls ((.int x) :: .int j :: .ref a :: st)) := by
  subst hp
  obtain ⟨cl, A, q1, S, q3, H, G⟩ := F
  obtain ⟨T', h', X', e', W', st'⟩ := stB X hx hZ eT A (inb_of S hj) (g := mkF m pc ls ((.int x) :: .int j :: .ref a :: st)) rfl rfl hd
  exact (K T' h' _ X' (Fr.snoc X' N ha) e' W' (Arv.set A q1 S q3 H G (fits_nar_byte _) W' i hi hl)).to fun t r => st' t r
theorem go_acmp_eq (X : Stand p l e R s m args below meth c T locs cells slots) (hx : p.tables.exec = Jvm.exec) {x y : Value} (h1 : x.isRef = true) (h2 : y.isRef = true) {o : Int} (hd : decode c.code pc = .ok (.if_acmp .eq o, 3)) (hp : pc + 3 = q) (ho : 0 ≤ (pc : Int) + o) (hq : ((pc : Int) + o).toNat = q') (KY : x = y → Go p e below s Q ce sl T (mkF m q' ls st)) (KN : ¬ x = y → Go p e below s Q ce sl T (mkF m q ls st)) : Go p e below s Q ce sl T (mkF m pc ls (y :: x :: st)) := by
  subst hp hq
  by_cases w : x = y
  · exact (KY w).to fun t r => Jvm.RoadKit.acmp (g := mkF m pc ls (y :: x :: st)) X hx rfl h1 h2 (pc0 := pc) (same := true) rfl hd rfl (decide_eq_true w) ho rfl r
  · exact (KN w).to fun t r => Jvm.RoadKit.acmp (g := mkF m pc ls (y :: x :: st)) X hx rfl h1 h2 (pc0 := pc) (same := false) rfl hd rfl (decide_eq_false w) ho rfl r
theorem go_acmp_ne (X : Stand p l e R s m args below meth c T locs cells slots) (hx : p.tables.exec = Jvm.exec) {x y : Value} (h1 : x.isRef = true) (h2 : y.isRef = true) {o : Int} (hd : decode c.code pc = .ok (.if_acmp .ne o, 3)) (hp : pc + 3 = q) (ho : 0 ≤ (pc : Int) + o) (hq : ((pc : Int) + o).toNat = q') (KY : ¬ x = y → Go p e below s Q ce sl T (mkF m q' ls st)) (KN : x = y → Go p e below s Q ce sl T (mkF m q ls st)) : Go p e below s Q ce sl T (mkF m pc ls (y :: x :: st)) := by
  subst hp hq
  by_cases w : x = y
  · exact (KN w).to fun t r => Jvm.RoadKit.acmp (g := mkF m pc ls (y :: x :: st)) X hx rfl h1 h2 (pc0 := pc) (same := true) rfl hd rfl (decide_eq_true w) ho rfl r
  · exact (KY w).to fun t r => Jvm.RoadKit.acmp (g := mkF m pc ls (y :: x :: st)) X hx rfl h1 h2 (pc0 := pc) (same := false) rfl hd rfl (decide_eq_false w) ho rfl r
theorem go_ifnullR (X : Stand p l e R s m args below meth c T locs cells slots) (hx : p.tables.exec = Jvm.exec) {b : Addr} {o : Int} (hd : decode c.code pc = .ok (.ifnull o, 3)) (hp : pc + 3 = q) (K : Go p e below s Q ce sl T (mkF m q ls st)) : Go p e below s Q ce sl T (mkF m pc ls (.ref b :: st)) := by
  subst hp
  exact K.to fun t r => XS.ifnullNo X.here hx rfl hd rfl r
theorem go_ifnonnullR (X : Stand p l e R s m args below meth c T locs cells slots) (hx : p.tables.exec = Jvm.exec) {b : Addr} {o : Int} (hd : decode c.code pc = .ok (.ifnonnull o, 3)) (ho : 0 ≤ (pc : Int) + o) (hq : ((pc : Int) + o).toNat = q') (K : Go p e below s Q ce sl T (mkF m q' ls st)) : Go p e below s Q ce sl T (mkF m pc ls (.ref b :: st)) :=
  K.to fun t r => XS.ifnonnullYes X.here hx rfl (pc0 := pc) rfl hd rfl ho hq r
theorem go_tsw (X : Stand p l e R s m args below meth c T locs cells slots) (hx : p.tables.exec = Jvm.exec) {dflt low high off : Int} {offs : Array Int} {len : Nat} {i : Int32} (hd : decode c.code pc = .ok (.tableswitch dflt low high offs, len)) (hin : ¬ (i.toInt < low ∨ i.toInt > high)) (hoff : offs[(i.toInt - low).toNat]? = some off) (ho : 0 ≤ (pc : Int) + off) (hq : ((pc : Int) + off).toNat = q) (K : Go p e below s Q ce sl T (mkF m q ls st)) : Go p e below s Q ce sl T (mkF m pc ls (.int i :: st)) :=
  K.to fun t r => XS.tswIn X.here hx rfl (pc0 := pc) rfl hd rfl hin hoff ho hq r
theorem go_callVU (X : Stand p l e R s m args below meth c T locs cells slots) (hx : p.tables.exec = Jvm.exec) (hZ : Z.Warmed39 s.vm) {own C owner : String} {index : Nat} {y : MethodName} {bytes : ByteArray} {maxL : Nat} {ret : Option FieldType} {rm : Room} {W : Nat} {Qc : Option Value → Heap → List Loc → Prop} {z : MethodName} (hown : s.vm.findClass own = some m.cls) (eT : T.heap = h)
    (w1 : (Jvm.Cond.methodLink own index y).before a0 Z = true) (w2 : (Jvm.Cond.sameMethod y.cls owner y.name y.desc).before a0 Z = true) (w7 : (Jvm.Cond.declares ⟨owner, y.name, y.desc⟩).before a0 Z = true) (hy : owner ≠ "java/lang/invoke/MethodHandle" ∧ owner ≠ "java/lang/invoke/VarHandle") (w3 : (Jvm.Cond.selects C y z).before a0 Z = true) (w5 : (Jvm.Cond.instanceMethod z).before a0 Z = true) (w6 : (Jvm.Cond.initialized z.cls).before a0 Z = true) (w4 : (Jvm.Cond.code z bytes maxL ret).before a0 Z = true)
    (a : Addr) (argsL rest : List Value) (E : Exa Z h a C) (hM : Con l z bytes maxL ret [] rm Z (.ref a :: argsL).toArray h Qc) (hsz : ls.size = c.maxLocals) (hst : st = argsL.reverse ++ .ref a :: rest) (hlen : ∀ sig, parseMethodDescriptor y.desc = some sig → argsL.length = sig.parameters.length) (hW : (rest.map fun v => v.category).sum ≤ W)
    (hf : rm.frames + 1 ≤ R.frames) (hl : W + (maxL + 11) + rm.locals ≤ R.locals) (hd : decode c.code pc = .ok (.invokevirtual index, 3)) (hp : pc + 3 = q) (hc : cells + rm.cells ≤ R.cells) (hs : slots + rm.slots ≤ R.slots)
    (K : ∀ (T' : State) (L : List Loc) (v : Option Value), Stand p l e R s m args below meth c T' (locs ++ L) (cells + rm.cells) (slots + rm.slots) → Qc v T'.heap L → Go p e below s Q ce sl T' (mkF m q ls (v.toList ++ rest))) : Go p e below s Q ce sl T (mkF m pc ls st) := by
  subst hp
  obtain ⟨cq, kq, qa, qb, qc⟩ := isOf hZ eT E
  obtain ⟨v, _, ⟨T', L', k', n'⟩, -, X', ⟨Lc, hQ, l1, y1, z1⟩, stp⟩ := X.virtualBackUp hx (x := y) (y := z) hown (mvT hZ w1) (mvT hZ w2) (mvT hZ w7) hy (mvT hZ w3) (mvT hZ w5) (backOf (W := W) hM hZ w4 w6 hf hl) qa qc (g := mkF m pc ls st) rfl hsz (Steps.refl _) (argsL := argsL) (rest := rest) hlen hst (by show 2 * 0 + _ ≤ _; omega) hd (fun _ _ => ⟨rfl, eT, hc, hs⟩)
  dsimp only [Pt.U, Pt.locs, Pt.cells, Pt.slots] at X' l1 y1 z1 stp hQ
  subst l1 y1 z1
  exact (K T' Lc v X' hQ).to fun t r => stp.trans r
end OwnHeap

section OwnFloat
open Jvm.FP Jvm.FP.Core
/-- the datum with its exponent moved down by k -/
def sh (k : Int) : Datum → Datum
  | .fin s c q => .fin s c (q - k)
  | d => d
/-- the datum's value is i * 2^k -/
def Dy (k i : Int) (d : Datum) : Prop := Whole i (sh k d)
theorem dy_zero_iff {i : Int} {d : Datum} : Dy 0 i d ↔ Whole i d := by
  cases d <;> simp [Dy, sh]
theorem sh_sum (k : Int) (x y : Datum) : exactSum (sh k x) (sh k y) = sh k (exactSum x y) := by
  cases x <;> cases y <;> try rfl
  · rename_i a b; by_cases q : a = b <;> simp [sh, exactSum, q]
  · rename_i s c q t d r
    have e1 : min (q - k) (r - k) = min q r - k := by omega
    have e2 : q - k - (min q r - k) = q - min q r := by omega
    have e3 : r - k - (min q r - k) = r - min q r := by omega
    simp [sh, exactSum, sumUnits, inUnits, e1, e2, e3]
theorem sh_product (k l : Int) {x y : Datum} {s t : Bool} {c d : Nat} {q r : Int} (hx : x = .fin s c q) (hy : y = .fin t d r) : exactProduct (sh k x) (sh l y) = sh (k + l) (exactProduct x y) := by
  subst hx hy
  have e1 : q - k + (r - l) = q + r - (k + l) := by omega
  simp [sh, exactProduct, e1]
theorem sh_negate (k : Int) (x : Datum) : negate (sh k x) = sh k (negate x) := by cases x <;> rfl
theorem sh_order (k : Int) (x y : Datum) : order (sh k x) (sh k y) = order x y := by
  cases x <;> cases y <;> try rfl
  rename_i s c q t d r
  have e1 : min (q - k) (r - k) = min q r - k := by omega
  have e2 : q - k - (min q r - k) = q - min q r := by omega
  have e3 : r - k - (min q r - k) = r - min q r := by omega
  simp [sh, order, inUnits, e1, e2, e3]
theorem dy_fin {k i : Int} {d : Datum} (h : Dy k i d) : ∃ s c q, d = .fin s c q := by
  cases d with
  | nan => exact h.elim
  | inf s => exact h.elim
  | fin s c q => exact ⟨s, c, q, rfl⟩
theorem dy_sum {k i j : Int} {x y : Datum} (hx : Dy k i x) (hy : Dy k j y) : Dy k (i + j) (exactSum x y) := by
  unfold Dy; rw [← sh_sum]; exact whole_sum hx hy
theorem dy_negate {k i : Int} {x : Datum} (hx : Dy k i x) : Dy k (-i) (negate x) := by
  unfold Dy; rw [← sh_negate]; exact whole_negate hx
theorem dy_product {k l i j : Int} {x y : Datum} (hx : Dy k i x) (hy : Dy l j y) : Dy (k + l) (i * j) (exactProduct x y) := by
  obtain ⟨s, c, q, ex⟩ := dy_fin hx
  obtain ⟨t, d, r, ey⟩ := dy_fin hy
  unfold Dy; rw [← sh_product k l ex ey]; exact whole_product hx hy
theorem dy_order {k i j : Int} {x y : Datum} (hx : Dy k i x) (hy : Dy k j y) : order x y = some (compare i j) := by
  rw [← sh_order k]; exact order_whole hx hy
/-- c * 2^q and A * 2^k are alike: by differences, or with both exponents raised -/
theorem p2 {c A : Nat} {q k : Int} (N : Nat) (h1 : 0 ≤ q + N) (h2 : 0 ≤ k + N) : c * 2 ^ (q - k).toNat = A * 2 ^ (k - q).toNat ↔ c * 2 ^ (q + N).toNat = A * 2 ^ (k + N).toNat := by
  rcases Int.le_total q k with hqk | hqk
  · have e1 : (q - k).toNat = 0 := by omega
    have e2 : (k + N).toNat = (k - q).toNat + (q + N).toNat := by omega
    rw [e1, e2, Nat.pow_zero, Nat.mul_one, Nat.pow_add, ← Nat.mul_assoc]
    exact ⟨fun h => by rw [h], fun h => Nat.eq_of_mul_eq_mul_right (Nat.two_pow_pos _) h⟩
  · have e1 : (k - q).toNat = 0 := by omega
    have e2 : (q + N).toNat = (q - k).toNat + (k + N).toNat := by omega
    rw [e1, e2, Nat.pow_zero, Nat.mul_one, Nat.pow_add, ← Nat.mul_assoc]
    exact ⟨fun h => by rw [h], fun h => Nat.eq_of_mul_eq_mul_right (Nat.two_pow_pos _) h⟩
theorem dy_abs {k i : Int} {s : Bool} {c : Nat} {q : Int} (h : Dy k i (.fin s c q)) : c * 2 ^ (q - k).toNat = i.natAbs * 2 ^ (k - q).toNat := by
  have h' : signed s (c * 2 ^ (q - k).toNat) = i * ((2 ^ (-(q - k)).toNat : Nat) : Int) := h
  have e := congrArg Int.natAbs h'
  rw [natAbs_signed, Int.natAbs_mul, Int.natAbs_natCast, show -(q - k) = k - q by omega] at e
  exact e
theorem dy_sgn {k i : Int} {s : Bool} {c : Nat} {q : Int} (h : Dy k i (.fin s c q)) : signed s i.natAbs = i := by
  have h' : signed s (c * 2 ^ (q - k).toNat) = i * ((2 ^ (-(q - k)).toNat : Nat) : Int) := h
  rw [dy_abs h, signed_mul, show -(q - k) = k - q by omega] at h'
  exact Int.eq_of_mul_eq_mul_right (by have := Nat.two_pow_pos (k - q).toNat; omega) h'
theorem dy_mk {k i : Int} {s : Bool} {c : Nat} {q : Int} (h1 : c * 2 ^ (q - k).toNat = i.natAbs * 2 ^ (k - q).toNat) (h2 : signed s i.natAbs = i) : Dy k i (.fin s c q) := by
  show signed s (c * 2 ^ (q - k).toNat) = i * ((2 ^ (-(q - k)).toNat : Nat) : Int)
  rw [h1, signed_mul, h2, show -(q - k) = k - q by omega]
theorem dy_of_units {k i : Int} {s : Bool} {c' : Nat} {q' : Int} (hq : -1074 ≤ q') (hk : -1074 ≤ k) (e2 : inUnits c' q' (-1074) = inUnits i.natAbs k (-1074)) (h2 : signed s i.natAbs = i) : Dy k i (.fin s c' q') := by
  refine dy_mk ?_ h2
  rw [p2 1074 (by omega) (by omega)]
  unfold inUnits at e2
  rw [show q' - -1074 = q' + (1074 : Nat) by omega, show k - -1074 = k + (1074 : Nat) by omega] at e2
  exact e2
theorem dy_roundRatio {k m : Int} {S : Bool} {c d : Nat} {e : Int} (hd : 0 < d) (h : c * 2 ^ (e - k).toNat = m.natAbs * d * 2 ^ (k - e).toNat) (hm : m.natAbs < 2 ^ 53) (k1 : -1074 ≤ k) (k2 : k ≤ 971) (h2 : signed S m.natAbs = m) : Dy k m (roundRatio b64 S c d e) := by
  have hr : roundRatio b64 S c d e = round b64 (.fin S m.natAbs k) := roundRatio_congr (A := c) (B := d) (A' := m.natAbs) (B' := 1) (e := e) (e' := k) hd (by decide) (by rw [Nat.mul_one]; exact h)
  obtain ⟨c', q', e1, e2⟩ := round_exact good_b64 S (c := m.natAbs) (q := k) hm (by rw [qmin_b64]; exact k1) (by show k ≤ 971; exact k2)
  have hf : Core.fits b64 (.fin S c' q') := by rw [← e1]; exact round_fits good_b64 _
  have hq : -1074 ≤ q' := by have := hf.2.1; rw [qmin_b64] at this; exact this
  rw [hr, e1]
  rw [qmin_b64] at e2
  exact dy_of_units hq k1 e2 h2
theorem dy_round {k i : Int} {d : Datum} (h : Dy k i d) (hi : i.natAbs < 2 ^ 53) (k1 : -1074 ≤ k) (k2 : k ≤ 971) : Dy k i (round b64 d) := by
  obtain ⟨s, c, q, rfl⟩ := dy_fin h
  exact dy_roundRatio (d := 1) (by decide) (by rw [Nat.mul_one]; exact dy_abs h) hi k1 k2 (dy_sgn h)
theorem signed_xor1 (s t : Bool) (a b : Nat) : signed (s != t) (a * b) = signed s a * signed t b := signed_xor s t a b
theorem dy_quotient {k l i j m : Int} {x y : Datum} (hx : Dy k i x) (hy : Dy l j y) (hj : j ≠ 0) (hm : i = m * j) (hb : m.natAbs < 2 ^ 53) (k1 : -1074 ≤ k - l) (k2 : k - l ≤ 971) : Dy (k - l) m (quotient b64 x y) := by
  obtain ⟨s, c, q, rfl⟩ := dy_fin hx
  obtain ⟨t, d, r, rfl⟩ := dy_fin hy
  have a1 := dy_abs hx
  have a2 := dy_abs hy
  have jpos : 0 < j.natAbs := by omega
  have dpos : 0 < d := by
    rcases Nat.eq_zero_or_pos d with rfl | h
    · rw [Nat.zero_mul] at a2
      have := Nat.mul_pos jpos (Nat.two_pow_pos (l - r).toNat)
      omega
    · exact h
  have ea : i.natAbs = m.natAbs * j.natAbs := by rw [hm, Int.natAbs_mul]
  show Dy (k - l) m (if d = 0 then (if c = 0 then .nan else .inf (s != t)) else roundRatio b64 (s != t) c d (q - r))
  rw [if_neg (by omega)]
  refine dy_roundRatio dpos ?_ hb k1 k2 ?_
  · have N : Nat := 0
    obtain ⟨M, hM⟩ : ∃ M : Nat, 0 ≤ q + M ∧ 0 ≤ k + M ∧ 0 ≤ r + M ∧ 0 ≤ l + M := ⟨q.natAbs + k.natAbs + r.natAbs + l.natAbs, by omega, by omega, by omega, by omega⟩
    rw [p2 M hM.1 hM.2.1] at a1
    rw [p2 M hM.2.2.1 hM.2.2.2] at a2
    have e1 : q - r - (k - l) = (q + l) - (k + r) := by omega
    have e2 : k - l - (q - r) = (k + r) - (q + l) := by omega
    rw [e1, e2, p2 (2 * M) (by omega) (by omega)]
    have f1 : (q + l + ((2 * M : Nat) : Int)).toNat = (q + M).toNat + (l + M).toNat := by omega
    have f2 : (k + r + ((2 * M : Nat) : Int)).toNat = (k + M).toNat + (r + M).toNat := by omega
    rw [f1, f2, Nat.pow_add, Nat.pow_add]
    refine Nat.eq_of_mul_eq_mul_right jpos ?_
    calc c * (2 ^ (q + M).toNat * 2 ^ (l + M).toNat) * j.natAbs
        = (c * 2 ^ (q + M).toNat) * (j.natAbs * 2 ^ (l + M).toNat) := by ac_rfl
      _ = (i.natAbs * 2 ^ (k + M).toNat) * (d * 2 ^ (r + M).toNat) := by rw [a1, a2]
      _ = m.natAbs * d * (2 ^ (k + M).toNat * 2 ^ (r + M).toNat) * j.natAbs := by rw [ea]; ac_rfl
  · have s1 := dy_sgn hx
    have s2 := dy_sgn hy
    have s3 : signed (s != t) (i.natAbs * j.natAbs) = i * j := by rw [signed_xor, s1, s2]
    have e3 : i.natAbs * j.natAbs = m.natAbs * (j.natAbs * j.natAbs) := by rw [ea, Nat.mul_assoc]
    rw [e3, signed_mul, Int.natAbs_mul_self, hm, Int.mul_assoc] at s3
    exact Int.eq_of_mul_eq_mul_right (Int.mul_ne_zero hj hj) s3
theorem dy_scale {k i : Int} {d : Datum} (h : Dy k i d) (n : Nat) : Dy (k - n) (i * 2 ^ n) d := by
  obtain ⟨s, c, q, rfl⟩ := dy_fin h
  have a1 := dy_abs h
  have s1 := dy_sgn h
  have e0 : (i * 2 ^ n).natAbs = i.natAbs * 2 ^ n := by rw [Int.natAbs_mul, Int.natAbs_pow]; rfl
  refine dy_mk ?_ ?_
  · obtain ⟨M, h1, h2⟩ : ∃ M : Nat, 0 ≤ q + M ∧ 0 ≤ k - n + M := ⟨q.natAbs + k.natAbs + n, by omega, by omega⟩
    rw [p2 M h1 (by omega)] at a1
    rw [p2 M h1 h2, a1, e0]
    have : (k + (M : Int)).toNat = n + (k - n + M).toNat := by omega
    rw [this, Nat.pow_add, Nat.mul_assoc]
  · rw [e0, signed_mul, s1]; congr 1
/-- the double x is worth i * 2^k, and |i| is at most A -/
def DB (k : Int) (A : Nat) (i : Int) (x : UInt64) : Prop := Dy k i (val64 x) ∧ i.natAbs ≤ A
theorem DB.fin {k i : Int} {A : Nat} {x : UInt64} (h : DB k A i x) : DFin x := dy_fin h.1
theorem DB.nn {k i : Int} {A : Nat} {x : UInt64} (h : DB k A i x) : Jvm.Free.Fl.NoNaN64 x := Jvm.Free.Fl.noNaN64_no.mpr h.fin.notNaN
theorem DB.le {k i : Int} {A B : Nat} {x : UInt64} (h : DB k A i x) (hb : i.natAbs ≤ B) : DB k B i x := ⟨h.1, hb⟩
theorem DB.eqv {k i j : Int} {A : Nat} {x : UInt64} (h : DB k A i x) (e : i = j) : DB k A j x := e ▸ h
theorem db_add {k i j : Int} {A B : Nat} {x y : UInt64} (hx : DB k A i x) (hy : DB k B j y) (hA : A + B < 9007199254740992) (k1 : -1074 ≤ k) (k2 : k ≤ 971) : DB k (A + B) (i + j) (FP.dadd x y) := by
  have h1 := hx.2; have h2 := hy.2
  have hb : (i + j).natAbs ≤ A + B := by omega
  refine ⟨?_, hb⟩
  show Dy k (i + j) (val64 (Core.dadd x y))
  rw [val64_dadd]; exact dy_round (dy_sum hx.1 hy.1) (by omega) k1 k2
theorem db_sub {k i j : Int} {A B : Nat} {x y : UInt64} (hx : DB k A i x) (hy : DB k B j y) (hA : A + B < 9007199254740992) (k1 : -1074 ≤ k) (k2 : k ≤ 971) : DB k (A + B) (i - j) (FP.dsub x y) := by
  have h1 := hx.2; have h2 := hy.2
  have hb : (i - j).natAbs ≤ A + B := by omega
  refine ⟨?_, hb⟩
  show Dy k (i - j) (val64 (Core.dsub x y))
  rw [val64_dsub]; exact dy_round (by rw [Int.sub_eq_add_neg]; exact dy_sum hx.1 (dy_negate hy.1)) (by omega) k1 k2
theorem db_mul {k l i j : Int} {A B : Nat} {x y : UInt64} (hx : DB k A i x) (hy : DB l B j y) (hA : A * B < 9007199254740992) (k1 : -1074 ≤ k + l) (k2 : k + l ≤ 971) : DB (k + l) (A * B) (i * j) (FP.dmul x y) := by
  have hb : (i * j).natAbs ≤ A * B := by rw [Int.natAbs_mul]; exact Nat.mul_le_mul hx.2 hy.2
  refine ⟨?_, hb⟩
  show Dy (k + l) (i * j) (val64 (Core.dmul x y))
  rw [val64_dmul]; exact dy_round (dy_product hx.1 hy.1) (by omega) k1 k2
theorem db_div {k l i j : Int} {A B : Nat} {x y : UInt64} (m : Int) (hx : DB k A i x) (hy : DB l B j y) (hj : j ≠ 0) (hm : i = m * j) (hA : A < 9007199254740992) (k1 : -1074 ≤ k - l) (k2 : k - l ≤ 971) : DB (k - l) A m (FP.ddiv x y) := by
  have h1 : m.natAbs ≤ i.natAbs := by rw [hm, Int.natAbs_mul]; exact Nat.le_mul_of_pos_right _ (by omega)
  have h2 := hx.2
  refine ⟨?_, by omega⟩
  show Dy (k - l) m (val64 (Core.ddiv x y))
  rw [val64_ddiv]; exact dy_quotient hx.1 hy.1 hj hm (by omega) k1 k2
theorem DB.scale {k i : Int} {A : Nat} {x : UInt64} (h : DB k A i x) (n : Nat) : DB (k - n) (A * 2 ^ n) (i * 2 ^ n) x :=
  ⟨dy_scale h.1 n, by rw [Int.natAbs_mul, Int.natAbs_pow]; exact Nat.mul_le_mul_right _ h.2⟩
theorem db_i2d (v : Int32) : DB 0 2147483648 v.toInt (FP.i2d v) := ⟨dy_zero_iff.mpr (i2d_int v), by have := Int32.toInt_lt v; have := Int32.le_toInt v; omega⟩
theorem db_i2d' {v : Int32} {A : Nat} (h : v.toInt.natAbs ≤ A) : DB 0 A v.toInt (FP.i2d v) := (db_i2d v).le h
theorem db_l2d {v : Int64} {A : Nat} (h : v.toInt.natAbs ≤ A) (hA : A ≤ 9007199254740992) : DB 0 A v.toInt (FP.l2d v) := ⟨dy_zero_iff.mpr (l2d_int (by omega)), h⟩
theorem db_dcmp {k i j : Int} {A B : Nat} {x y : UInt64} (hx : DB k A i x) (hy : DB k B j y) : FP.dcmp x y = some (compare i j) := dy_order hx.1 hy.1
theorem db_cv {k i j : Int} {A B : Nat} {x y : UInt64} (hx : DB k A i x) (hy : DB k B j y) (o : CmpOp) : cmpValue (FP.dcmp x y) o = if i < j then -1 else if i = j then 0 else 1 := by
  rw [db_dcmp hx hy, compare_ite]
  by_cases h1 : i < j
  · simp [h1]; rfl
  · by_cases h2 : i = j
    · simp [h2]; rfl
    · simp [h1, h2]; rfl
theorem db_lt {k i j : Int} {A B : Nat} {x y : UInt64} (hx : DB k A i x) (hy : DB k B j y) (o : CmpOp) : cmpValue (FP.dcmp x y) o < 0 ↔ i < j := by
  rw [db_cv hx hy]
  by_cases h1 : i < j
  · simp [h1]
  · by_cases h2 : i = j
    · simp [h2]
    · simp [h1, h2]
theorem db_gt {k i j : Int} {A B : Nat} {x y : UInt64} (hx : DB k A i x) (hy : DB k B j y) (o : CmpOp) : 0 < cmpValue (FP.dcmp x y) o ↔ j < i := by
  rw [db_cv hx hy]
  by_cases h1 : i < j
  · simp [h1, show ¬ j < i by omega]
  · by_cases h2 : i = j
    · simp [h2]
    · simp [h1, h2, show j < i by omega]
theorem db_eq {k i j : Int} {A B : Nat} {x y : UInt64} (hx : DB k A i x) (hy : DB k B j y) (o : CmpOp) : cmpValue (FP.dcmp x y) o = 0 ↔ i = j := by
  rw [db_cv hx hy]
  by_cases h1 : i < j
  · simp [h1, show ¬ i = j by omega]
  · by_cases h2 : i = j
    · simp [h2]
    · simp [h1, h2]
theorem db_c0 : DB 0 0 0 0 := ⟨by rw [show val64 0 = .fin false 0 (-1074) by decide +kernel]; exact dy_mk (by simp) rfl, by decide⟩
theorem db_c1 : DB 0 1 1 4607182418800017408 := ⟨by rw [show val64 4607182418800017408 = .fin false (2 ^ 52) (-52) by decide +kernel]; exact dy_mk (by decide +kernel) rfl, by decide⟩
theorem db_c2 : DB 0 2 2 4611686018427387904 := ⟨by rw [show val64 4611686018427387904 = .fin false (2 ^ 52) (-51) by decide +kernel]; exact dy_mk (by decide +kernel) rfl, by decide⟩
end OwnFloat

section OwnFloatGo
variable {p : Program} {l : Launch} {e : Env} {R : Room} {s : State} {m : MethodId} {args : Array Value} {below : List Frame} {meth : Method} {c : Code} {T : State} {locs : List Loc} {cells slots : Nat} {Z : State} {h : Heap} {Q : Option Value → Heap → List Loc → Prop} {ce sl : Nat} {pc q q' : Nat} {ls : Array Slot} {st : List Value} {a0 : Array Value}
theorem go_i2dB (X : Stand p l e R s m args below meth c T locs cells slots) (hx : p.tables.exec = Jvm.exec) {x : Int32} {A : Nat} {i : Int} (hd : decode c.code pc = .ok (.i2d, 1)) (hp : pc + 1 = q) (hA : DB 0 A i (FP.i2d x)) (K : ∀ z, DB 0 A i z → Go p e below s Q ce sl T (mkF m q ls (.double z :: st))) : Go p e below s Q ce sl T (mkF m pc ls (.int x :: st)) :=
  go_i2d X hx hd hp rfl (K _ hA)
theorem go_l2dB (X : Stand p l e R s m args below meth c T locs cells slots) (hx : p.tables.exec = Jvm.exec) {x : Int64} {A : Nat} {i : Int} (hd : decode c.code pc = .ok (.l2d, 1)) (hp : pc + 1 = q) (hA : DB 0 A i (FP.l2d x)) (K : ∀ z, DB 0 A i z → Go p e below s Q ce sl T (mkF m q ls (.double z :: st))) : Go p e below s Q ce sl T (mkF m pc ls (.long x :: st)) :=
  go_l2d X hx hd hp rfl (K _ hA)
theorem go_f2dB (X : Stand p l e R s m args below meth c T locs cells slots) (hx : p.tables.exec = Jvm.exec) {x : UInt32} {A : Nat} {i : Int} (hd : decode c.code pc = .ok (.f2d, 1)) (hp : pc + 1 = q) (hA : DB 0 A i (FP.f2d x)) (K : ∀ z, DB 0 A i z → Go p e below s Q ce sl T (mkF m q ls (.double z :: st))) : Go p e below s Q ce sl T (mkF m pc ls (.float x :: st)) :=
  go_f2d X hx hd hp hA.nn rfl (K _ hA)
theorem go_daddB (X : Stand p l e R s m args below meth c T locs cells slots) (hx : p.tables.exec = Jvm.exec) {x y : UInt64} {k i j : Int} {A B C : Nat} (hd : decode c.code pc = .ok (.dadd, 1)) (hp : pc + 1 = q) (hA : DB k A i x) (hB : DB k B j y) (b1 : A + B < 9007199254740992) (k1 : -1074 ≤ k) (k2 : k ≤ 971) (hC : A + B = C) (K : ∀ z, DB k C (i + j) z → Go p e below s Q ce sl T (mkF m q ls (.double z :: st))) : Go p e below s Q ce sl T (mkF m pc ls (.double y :: .double x :: st)) :=
  go_dadd X hx hd hp (db_add hA hB b1 k1 k2).nn rfl (K _ (hC ▸ db_add hA hB b1 k1 k2))
theorem go_dsubB (X : Stand p l e R s m args below meth c T locs cells slots) (hx : p.tables.exec = Jvm.exec) {x y : UInt64} {k i j : Int} {A B C : Nat} (hd : decode c.code pc = .ok (.dsub, 1)) (hp : pc + 1 = q) (hA : DB k A i x) (hB : DB k B j y) (b1 : A + B < 9007199254740992) (k1 : -1074 ≤ k) (k2 : k ≤ 971) (hC : A + B = C) (K : ∀ z, DB k C (i - j) z → Go p e below s Q ce sl T (mkF m q ls (.double z :: st))) : Go p e below s Q ce sl T (mkF m pc ls (.double y :: .double x :: st)) :=
  go_dsub X hx hd hp (db_sub hA hB b1 k1 k2).nn rfl (K _ (hC ▸ db_sub hA hB b1 k1 k2))
theorem go_dmulB (X : Stand p l e R s m args below meth c T locs cells slots) (hx : p.tables.exec = Jvm.exec) {x y : UInt64} {k k' kk i j : Int} {A B C : Nat} (hd : decode c.code pc = .ok (.dmul, 1)) (hp : pc + 1 = q) (hA : DB k A i x) (hB : DB k' B j y) (b1 : A * B < 9007199254740992) (k1 : -1074 ≤ k + k') (k2 : k + k' ≤ 971) (hk : k + k' = kk) (hC : A * B = C) (K : ∀ z, DB kk C (i * j) z → Go p e below s Q ce sl T (mkF m q ls (.double z :: st))) : Go p e below s Q ce sl T (mkF m pc ls (.double y :: .double x :: st)) :=
  go_dmul X hx hd hp (db_mul hA hB b1 k1 k2).nn rfl (K _ (hC ▸ hk ▸ db_mul hA hB b1 k1 k2))
theorem go_ddivB (X : Stand p l e R s m args below meth c T locs cells slots) (hx : p.tables.exec = Jvm.exec) {x y : UInt64} {k k' kk i j w0 : Int} {A B : Nat} (hd : decode c.code pc = .ok (.ddiv, 1)) (hp : pc + 1 = q) (hA : DB k A i x) (hB : DB k' B j y) (hj : j ≠ 0) (hm : i = w0 * j) (b1 : A < 9007199254740992) (k1 : -1074 ≤ k - k') (k2 : k - k' ≤ 971) (hk : k - k' = kk) (K : ∀ z, DB kk A w0 z → Go p e below s Q ce sl T (mkF m q ls (.double z :: st))) : Go p e below s Q ce sl T (mkF m pc ls (.double y :: .double x :: st)) :=
  go_ddiv X hx hd hp (db_div w0 hA hB hj hm b1 k1 k2).nn rfl (K _ (hk ▸ db_div w0 hA hB hj hm b1 k1 k2))
theorem go_dif_lt (X : Stand p l e R s m args below meth c T locs cells slots) (hx : p.tables.exec = Jvm.exec) {x y : UInt64} {k i j : Int} {A B : Nat} {cm : CmpOp} {o : Int} (hd : decode c.code pc = .ok (.ifCond .lt o, 3)) (hp : pc + 3 = q) (ho : 0 ≤ (pc : Int) + o) (hq : ((pc : Int) + o).toNat = q') (hA : DB k A i x) (hB : DB k B j y) (KY : i < j → Go p e below s Q ce sl T (mkF m q' ls st)) (KN : ¬ i < j → Go p e below s Q ce sl T (mkF m q ls st)) : Go p e below s Q ce sl T (mkF m pc ls (.int (cmpValue (FP.dcmp x y) cm) :: st)) :=
  go_if_lt X hx hd hp ho hq (fun w => KY ((db_lt hA hB _).mp w)) (fun w => KN (fun z => w ((db_lt hA hB _).mpr z)))
theorem go_dif_ge (X : Stand p l e R s m args below meth c T locs cells slots) (hx : p.tables.exec = Jvm.exec) {x y : UInt64} {k i j : Int} {A B : Nat} {cm : CmpOp} {o : Int} (hd : decode c.code pc = .ok (.ifCond .ge o, 3)) (hp : pc + 3 = q) (ho : 0 ≤ (pc : Int) + o) (hq : ((pc : Int) + o).toNat = q') (hA : DB k A i x) (hB : DB k B j y) (KY : ¬ i < j → Go p e below s Q ce sl T (mkF m q' ls st)) (KN : i < j → Go p e below s Q ce sl T (mkF m q ls st)) : Go p e below s Q ce sl T (mkF m pc ls (.int (cmpValue (FP.dcmp x y) cm) :: st)) :=
  go_if_ge X hx hd hp ho hq (fun w => KY (fun z => w ((db_lt hA hB _).mpr z))) (fun w => KN ((db_lt hA hB _).mp w))
theorem go_dif_gt (X : Stand p l e R s m args below meth c T locs cells slots) (hx : p.tables.exec = Jvm.exec) {x y : UInt64} {k i j : Int} {A B : Nat} {cm : CmpOp} {o : Int} (hd : decode c.code pc = .ok (.ifCond .gt o, 3)) (hp : pc + 3 = q) (ho : 0 ≤ (pc : Int) + o) (hq : ((pc : Int) + o).toNat = q') (hA : DB k A i x) (hB : DB k B j y) (KY : j < i → Go p e below s Q ce sl T (mkF m q' ls st)) (KN : ¬ j < i → Go p e below s Q ce sl T (mkF m q ls st)) : Go p e below s Q ce sl T (mkF m pc ls (.int (cmpValue (FP.dcmp x y) cm) :: st)) :=
  go_if_gt X hx hd hp ho hq (fun w => KY ((db_gt hA hB _).mp w)) (fun w => KN (fun z => w ((db_gt hA hB _).mpr z)))
theorem go_dif_le (X : Stand p l e R s m args below meth c T locs cells slots) (hx : p.tables.exec = Jvm.exec) {x y : UInt64} {k i j : Int} {A B : Nat} {cm : CmpOp} {o : Int} (hd : decode c.code pc = .ok (.ifCond .le o, 3)) (hp : pc + 3 = q) (ho : 0 ≤ (pc : Int) + o) (hq : ((pc : Int) + o).toNat = q') (hA : DB k A i x) (hB : DB k B j y) (KY : ¬ j < i → Go p e below s Q ce sl T (mkF m q' ls st)) (KN : j < i → Go p e below s Q ce sl T (mkF m q ls st)) : Go p e below s Q ce sl T (mkF m pc ls (.int (cmpValue (FP.dcmp x y) cm) :: st)) :=
  go_if_le X hx hd hp ho hq (fun w => KY (fun z => w ((db_gt hA hB _).mpr z))) (fun w => KN ((db_gt hA hB _).mp w))
theorem go_dif_eq (X : Stand p l e R s m args below meth c T locs cells slots) (hx : p.tables.exec = Jvm.exec) {x y : UInt64} {k i j : Int} {A B : Nat} {cm : CmpOp} {o : Int} (hd : decode c.code pc = .ok (.ifCond .eq o, 3)) (hp : pc + 3 = q) (ho : 0 ≤ (pc : Int) + o) (hq : ((pc : Int) + o).toNat = q') (hA : DB k A i x) (hB : DB k B j y) (KY : i = j → Go p e below s Q ce sl T (mkF m q' ls st)) (KN : ¬ i = j → Go p e below s Q ce sl T (mkF m q ls st)) : Go p e below s Q ce sl T (mkF m pc ls (.int (cmpValue (FP.dcmp x y) cm) :: st)) :=
  go_if_eq X hx hd hp ho hq (fun w => KY ((db_eq hA hB _).mp w)) (fun w => KN (fun z => w ((db_eq hA hB _).mpr z)))
theorem go_dif_ne (X : Stand p l e R s m args below meth c T locs cells slots) (hx : p.tables.exec = Jvm.exec) {x y : UInt64} {k i j : Int} {A B : Nat} {cm : CmpOp} {o : Int} (hd : decode c.code pc = .ok (.ifCond .ne o, 3)) (hp : pc + 3 = q) (ho : 0 ≤ (pc : Int) + o) (hq : ((pc : Int) + o).toNat = q') (hA : DB k A i x) (hB : DB k B j y) (KY : ¬ i = j → Go p e below s Q ce sl T (mkF m q' ls st)) (KN : i = j → Go p e below s Q ce sl T (mkF m q ls st)) : Go p e below s Q ce sl T (mkF m pc ls (.int (cmpValue (FP.dcmp x y) cm) :: st)) :=
  go_if_ne X hx hd hp ho hq (fun w => KY (fun z => w ((db_eq hA hB _).mpr z))) (fun w => KN ((db_eq hA hB _).mp w))
end OwnFloatGo

theorem own_k (y : Int32) : (y &&& (2147483647 : Int32)) % (6 : Int32) + (1 : Int32) = 1 ∨ (y &&& (2147483647 : Int32)) % (6 : Int32) + (1 : Int32) = 2 ∨ (y &&& (2147483647 : Int32)) % (6 : Int32) + (1 : Int32) = 3 ∨ (y &&& (2147483647 : Int32)) % (6 : Int32) + (1 : Int32) = 4 ∨ (y &&& (2147483647 : Int32)) % (6 : Int32) + (1 : Int32) = 5 ∨ (y &&& (2147483647 : Int32)) % (6 : Int32) + (1 : Int32) = 6 := by
  have h1 := c_and y 2147483647 (by decide); have h2 := c_irem (y &&& 2147483647) 6 6 rfl; have h3 := c_iadd ((y &&& 2147483647) % 6) 1; have h4 := rng32 ((y &&& 2147483647) % 6 + 1)
  have e1 : (1 : Int32).toInt = 1 := rfl
  have h5 := h2.1 h1.1
  simp only [← Int32.toInt_inj]
  show ((y &&& 2147483647) % 6 + 1).toInt = 1 ∨ ((y &&& 2147483647) % 6 + 1).toInt = 2 ∨ ((y &&& 2147483647) % 6 + 1).toInt = 3 ∨ ((y &&& 2147483647) % 6 + 1).toInt = 4 ∨ ((y &&& 2147483647) % 6 + 1).toInt = 5 ∨ ((y &&& 2147483647) % 6 + 1).toInt = 6
  omega
theorem own_ref0 (p : Int32) : ((2 : Int64) * p.toInt64).toInt = 2 * p.toInt + (0 : Int32).toInt ∧ ((2 : Int64) * p.toInt64).toInt.natAbs ≤ 4294967297 := by
  have h1 := c_lmul 2 p.toInt64; have h2 := rng64 (2 * p.toInt64); have h3 := rng32 p
  have e1 : (2 : Int64).toInt = 2 := rfl
  have e0 : (0 : Int32).toInt = 0 := rfl
  rw [c_i2l, e1] at h1
  omega
theorem own_ref1 (p : Int32) : ((2 : Int64) * p.toInt64 + (1 : Int64)).toInt = 2 * p.toInt + (1 : Int32).toInt ∧ ((2 : Int64) * p.toInt64 + (1 : Int64)).toInt.natAbs ≤ 4294967297 := by
  have h1 := c_lmul 2 p.toInt64; have h2 := rng64 (2 * p.toInt64); have h3 := rng32 p; have h4 := c_ladd (2 * p.toInt64) 1; have h5 := rng64 (2 * p.toInt64 + 1)
  have e1 : (2 : Int64).toInt = 2 := rfl
  have e0 : (1 : Int32).toInt = 1 := rfl
  have e2 : (1 : Int64).toInt = 1 := rfl
  rw [c_i2l, e1] at h1
  omega

theorem pd_0 : parseMethodDescriptor "(IJ)I" = some ⟨[.int, .long], some .int⟩ := by decide +kernel
theorem pd_1 : parseMethodDescriptor "([I)D" = some ⟨[(.array .int)], some .double⟩ := by decide +kernel
theorem d1_0 : decode method_2_code 0 = .ok (.iload_n 0, 1) := by decide +kernel
theorem d1_1 : decode method_2_code 1 = .ok (.i2l, 1) := by decide +kernel
theorem d1_2 : decode method_2_code 2 = .ok (.lload_n 1, 1) := by decide +kernel
theorem d1_3 : decode method_2_code 3 = .ok (.ldc2_w 7, 3) := by decide +kernel
theorem d1_6 : decode method_2_code 6 = .ok (.land, 1) := by decide +kernel
theorem d1_7 : decode method_2_code 7 = .ok (.ladd, 1) := by decide +kernel
theorem d1_8 : decode method_2_code 8 = .ok (.lstore_n 3, 1) := by decide +kernel
theorem d1_9 : decode method_2_code 9 = .ok (.lload_n 3, 1) := by decide +kernel
theorem d1_10 : decode method_2_code 10 = .ok (.ldc2_w 11, 3) := by decide +kernel
theorem d1_13 : decode method_2_code 13 = .ok (.lcmp, 1) := by decide +kernel
theorem d1_14 : decode method_2_code 14 = .ok (.ifCond .le 8, 3) := by decide +kernel
theorem d1_17 : decode method_2_code 17 = .ok (.ldc 13, 2) := by decide +kernel
theorem d1_19 : decode method_2_code 19 = .ok (.goto 5, 3) := by decide +kernel
theorem d1_22 : decode method_2_code 22 = .ok (.lload_n 3, 1) := by decide +kernel
theorem d1_23 : decode method_2_code 23 = .ok (.l2i, 1) := by decide +kernel
theorem d1_24 : decode method_2_code 24 = .ok (.ireturn, 1) := by decide +kernel
theorem pn_1 : plainName "com/example/ply4/ply4/LayerSweepMedianPinLaw" = true := by first | (simp [plainName, overriddenIn]; done) | decide +kernel
theorem ef_1 (m : MethodId) (x0 : Int32) (x1 : Int64) : entryFrame m #[(.int x0), (.long x1)] 5 = mkF m 0 #[.val (.int x0), .val (.long x1), .second, .unset, .unset] [] := by first | (simp [entryFrame, mkF, argsToLocals, Value.category]; done) | rfl
set_option maxRecDepth 65536 in
set_option maxHeartbeats 40000000 in
theorem rm1 (l : Launch) (Z : State) (a0 : Array Value) (hw : ∀ d ∈ tables_1, d.before a0 Z = true) (ws : List Jvm.Cond) (p_ : Int32) (d_ : Int64)  (h0 : Heap)  :
    Con l (⟨"com/example/ply4/ply4/LayerSweepMedianPinLaw", "up", "(IJ)I"⟩ : MethodName) method_2_code 5 (some .int) ws ({ frames := 0, cells := 0, slots := 0, locals := 0 } : Room) Z #[(.int p_), (.long d_)] h0 (fun v h L => (∀ n, Fr n L) ∧ (∃ r : Int32, v = some (.int r)) ∧ h = h0) := by
  refine con_of (plainFor_of_name pn_1) ?_
  intro p e s m below meth c s₁ X0 hx hby hml hret hlk hown hnm hZ e0
  refine Go.cast (ef_1 m p_ d_) ?_
  refine go_iloadN (q := 1) X0 hx (hb hby d1_0) rfl rfl ?_
  refine go_i2l (q := 2) (v := (p_.toInt64)) X0 hx (hb hby d1_1) rfl rfl ?_
  refine go_lloadN (q := 3) X0 hx (hb hby d1_2) rfl rfl ?_
  refine go_ldc2J (q := 6) (v := (4294967295 : Int64)) X0 hx hZ hown (hw _ (List.mem_of_getElem? (i := 5) rfl)) (hb hby d1_3) rfl ?_
  refine go_land (q := 7) (v := (d_ &&& (4294967295 : Int64))) X0 hx (hb hby d1_6) rfl rfl ?_
  refine go_ladd (q := 8) (v := ((p_.toInt64) + (d_ &&& (4294967295 : Int64)))) X0 hx (hb hby d1_7) rfl rfl ?_
  refine go_lstoreN (q := 9) (l' := #[.val (.int p_), .val (.long d_), .second, .val (.long ((p_.toInt64) + (d_ &&& (4294967295 : Int64)))), .second]) X0 hx (hb hby d1_8) rfl rfl ?_
  refine go_lloadN (q := 10) X0 hx (hb hby d1_9) rfl rfl ?_
  refine go_ldc2J (q := 13) (v := (2147483647 : Int64)) X0 hx hZ hown (hw _ (List.mem_of_getElem? (i := 6) rfl)) (hb hby d1_10) rfl ?_
  refine go_lcmp (q := 14) X0 hx (hb hby d1_13) rfl ?_
  refine go_lif_le (q := 17) (q' := 22) X0 hx (hb hby d1_14) rfl (by decide) rfl (fun hc14 => ?_) (fun hc14 => ?_)
  · refine go_lloadN (q := 23) X0 hx (hb hby d1_22) rfl rfl ?_
    refine go_l2i (q := 24) (v := (((p_.toInt64) + (d_ &&& (4294967295 : Int64))).toInt32)) X0 hx (hb hby d1_23) rfl rfl ?_
    exact go_retI X0 hx hret hlk (hb hby d1_24) (by decide) (by decide) ⟨fun _ => Fr.nil _, ⟨_, rfl⟩, e0⟩
  · refine go_ldcI (q := 19) (v := (2147483647 : Int32)) X0 hx hZ hown (hw _ (List.mem_of_getElem? (i := 0) rfl)) (hb hby d1_17) rfl ?_
    refine go_goto (q := 24) X0 hx (hb hby d1_19) (by decide) rfl ?_
    exact go_retI X0 hx hret hlk (hb hby d1_24) (by decide) (by decide) ⟨fun _ => Fr.nil _, ⟨_, rfl⟩, e0⟩
theorem d2_0 : decode prog_24_method_8_code 0 = .ok (.ldc2_w 271, 3) := by decide +kernel
theorem d2_3 : decode prog_24_method_8_code 3 = .ok (.aload_n 0, 1) := by decide +kernel
theorem d2_4 : decode prog_24_method_8_code 4 = .ok (.aload_n 0, 1) := by decide +kernel
theorem d2_5 : decode prog_24_method_8_code 5 = .ok (.arraylength, 1) := by decide +kernel
theorem d2_6 : decode prog_24_method_8_code 6 = .ok (.iconst 1, 1) := by decide +kernel
theorem d2_7 : decode prog_24_method_8_code 7 = .ok (.isub, 1) := by decide +kernel
theorem d2_8 : decode prog_24_method_8_code 8 = .ok (.iconst 2, 1) := by decide +kernel
theorem d2_9 : decode prog_24_method_8_code 9 = .ok (.idiv, 1) := by decide +kernel
theorem d2_10 : decode prog_24_method_8_code 10 = .ok (.iaload, 1) := by decide +kernel
theorem d2_11 : decode prog_24_method_8_code 11 = .ok (.i2d, 1) := by decide +kernel
theorem d2_12 : decode prog_24_method_8_code 12 = .ok (.dmul, 1) := by decide +kernel
theorem d2_13 : decode prog_24_method_8_code 13 = .ok (.aload_n 0, 1) := by decide +kernel
theorem d2_14 : decode prog_24_method_8_code 14 = .ok (.arraylength, 1) := by decide +kernel
theorem d2_15 : decode prog_24_method_8_code 15 = .ok (.iconst 2, 1) := by decide +kernel
theorem d2_16 : decode prog_24_method_8_code 16 = .ok (.irem, 1) := by decide +kernel
theorem d2_17 : decode prog_24_method_8_code 17 = .ok (.ifCond .ne 7, 3) := by decide +kernel
theorem d2_24 : decode prog_24_method_8_code 24 = .ok (.iconst 0, 1) := by decide +kernel
theorem d2_25 : decode prog_24_method_8_code 25 = .ok (.i2d, 1) := by decide +kernel
theorem d2_26 : decode prog_24_method_8_code 26 = .ok (.dadd, 1) := by decide +kernel
theorem d2_27 : decode prog_24_method_8_code 27 = .ok (.dreturn, 1) := by decide +kernel
theorem pn_2 : plainName "com/example/ply4/ply4/LayerSweep" = true := by first | (simp [plainName, overriddenIn]; done) | decide +kernel
theorem ef_2 (m : MethodId) (x0 : Addr) : entryFrame m #[(.ref x0)] 1 = mkF m 0 #[.val (.ref x0)] [] := by first | (simp [entryFrame, mkF, argsToLocals, Value.category]; done) | rfl
set_option maxRecDepth 65536 in
set_option maxHeartbeats 40000000 in
theorem rm2_1 (l : Launch) (Z : State) (a0 : Array Value) (hw : ∀ d ∈ tables_1, d.before a0 Z = true) (ws : List Jvm.Cond) (au : Addr) (ku : ClassId) (du : Value) (x0 : Int32) (h0 : Heap) (V_au : Arv Z h0 au ku .int (1 : Int32) [.int x0] du) :
    Con l (⟨"com/example/ply4/ply4/LayerSweep", "median", "([I)D"⟩ : MethodName) prog_24_method_8_code 1 (some .double) ws ({ frames := 0, cells := 0, slots := 0, locals := 0 } : Room) Z #[(.ref au)] h0 (fun v h L => (∀ n, Fr n L) ∧ (∃ r : UInt64, v = some (.double r) ∧ DB 0 4294967297 (2 * x0.toInt + (0 : Int32).toInt) r) ∧ h = h0) := by
  refine con_of (plainFor_of_name pn_2) ?_
  intro p e s m below meth c s₁ X0 hx hby hml hret hlk hown hnm hZ e0
  refine Go.cast (ef_2 m au) ?_
  refine go_ldc2D (q := 3) (v := (4611686018427387904 : UInt64)) X0 hx hZ hown (hw _ (List.mem_of_getElem? (i := 13) rfl)) (hb hby d2_0) rfl ?_
  refine go_aloadN (q := 4) X0 hx (hb hby d2_3) rfl rfl rfl ?_
  refine go_aloadN (q := 5) X0 hx (hb hby d2_4) rfl rfl rfl ?_
  refine go_alen (q := 6) X0 hx hZ e0 V_au (hb hby d2_5) rfl ?_
  refine go_iconst (q := 7) (v := (1 : Int32)) X0 hx (hb hby d2_6) rfl rfl ?_
  refine go_isub (q := 8) (v := (0 : Int32)) X0 hx (hb hby d2_7) rfl rfl ?_
  refine go_iconst (q := 9) (v := (2 : Int32)) X0 hx (hb hby d2_8) rfl rfl ?_
  refine go_idiv (q := 10) (v := (0 : Int32)) X0 hx (hb hby d2_9) rfl (by decide) rfl ?_
  refine go_iaload (q := 11) (v := (.int x0)) X0 hx hZ e0 V_au ⟨by decide, by decide⟩ rfl (hb hby d2_10) rfl ?_
  refine go_i2dB (q := 12) X0 hx (hb hby d2_11) rfl (db_i2d _) (fun z1 hz1 => ?_)
  refine go_dmulB (q := 13) (kk := 0) (C := 4294967296) X0 hx (hb hby d2_12) rfl db_c2 hz1 (by decide) (by decide) (by decide) rfl rfl (fun z2 hz2 => ?_)
  refine go_aloadN (q := 14) X0 hx (hb hby d2_13) rfl rfl rfl ?_
  refine go_alen (q := 15) X0 hx hZ e0 V_au (hb hby d2_14) rfl ?_
  refine go_iconst (q := 16) (v := (2 : Int32)) X0 hx (hb hby d2_15) rfl rfl ?_
  refine go_irem (q := 17) (v := (1 : Int32)) X0 hx (hb hby d2_16) rfl (by decide) rfl ?_
  refine go_if_ne (q := 20) (q' := 24) X0 hx (hb hby d2_17) rfl (by decide) rfl (fun hc17 => ?_) (fun hc17 => ?_)
  · refine go_iconst (q := 25) (v := (0 : Int32)) X0 hx (hb hby d2_24) rfl rfl ?_
    refine go_i2dB (q := 26) X0 hx (hb hby d2_25) rfl (db_i2d' (A := 1) (by decide)) (fun z3 hz3 => ?_)
    refine go_daddB (q := 27) (C := 4294967297) X0 hx (hb hby d2_26) rfl hz2 hz3 (by decide) (by decide) (by decide) rfl (fun z4 hz4 => ?_)
    exact go_retD X0 hx hret hlk (hb hby d2_27) (by decide) (by decide) ⟨fun _ => Fr.nil _, ⟨_, rfl, hz4⟩, e0⟩
  · exact absurd hc17 (by decide)
theorem d2_20 : decode prog_24_method_8_code 20 = .ok (.iconst 1, 1) := by decide +kernel
theorem d2_21 : decode prog_24_method_8_code 21 = .ok (.goto 4, 3) := by decide +kernel
set_option maxRecDepth 65536 in
set_option maxHeartbeats 40000000 in
theorem rm2_2 (l : Launch) (Z : State) (a0 : Array Value) (hw : ∀ d ∈ tables_1, d.before a0 Z = true) (ws : List Jvm.Cond) (au : Addr) (ku : ClassId) (du : Value) (x0 x1 : Int32) (h0 : Heap) (V_au : Arv Z h0 au ku .int (2 : Int32) [.int x0, .int x1] du) :
    Con l (⟨"com/example/ply4/ply4/LayerSweep", "median", "([I)D"⟩ : MethodName) prog_24_method_8_code 1 (some .double) ws ({ frames := 0, cells := 0, slots := 0, locals := 0 } : Room) Z #[(.ref au)] h0 (fun v h L => (∀ n, Fr n L) ∧ (∃ r : UInt64, v = some (.double r) ∧ DB 0 4294967297 (2 * x0.toInt + (1 : Int32).toInt) r) ∧ h = h0) := by
  refine con_of (plainFor_of_name pn_2) ?_
  intro p e s m below meth c s₁ X0 hx hby hml hret hlk hown hnm hZ e0
  refine Go.cast (ef_2 m au) ?_
  refine go_ldc2D (q := 3) (v := (4611686018427387904 : UInt64)) X0 hx hZ hown (hw _ (List.mem_of_getElem? (i := 13) rfl)) (hb hby d2_0) rfl ?_
  refine go_aloadN (q := 4) X0 hx (hb hby d2_3) rfl rfl rfl ?_
  refine go_aloadN (q := 5) X0 hx (hb hby d2_4) rfl rfl rfl ?_
  refine go_alen (q := 6) X0 hx hZ e0 V_au (hb hby d2_5) rfl ?_
  refine go_iconst (q := 7) (v := (1 : Int32)) X0 hx (hb hby d2_6) rfl rfl ?_
  refine go_isub (q := 8) (v := (1 : Int32)) X0 hx (hb hby d2_7) rfl rfl ?_
  refine go_iconst (q := 9) (v := (2 : Int32)) X0 hx (hb hby d2_8) rfl rfl ?_
  refine go_idiv (q := 10) (v := (0 : Int32)) X0 hx (hb hby d2_9) rfl (by decide) rfl ?_
  refine go_iaload (q := 11) (v := (.int x0)) X0 hx hZ e0 V_au ⟨by decide, by decide⟩ rfl (hb hby d2_10) rfl ?_
  refine go_i2dB (q := 12) X0 hx (hb hby d2_11) rfl (db_i2d _) (fun z1 hz1 => ?_)
  refine go_dmulB (q := 13) (kk := 0) (C := 4294967296) X0 hx (hb hby d2_12) rfl db_c2 hz1 (by decide) (by decide) (by decide) rfl rfl (fun z2 hz2 => ?_)
  refine go_aloadN (q := 14) X0 hx (hb hby d2_13) rfl rfl rfl ?_
  refine go_alen (q := 15) X0 hx hZ e0 V_au (hb hby d2_14) rfl ?_
  refine go_iconst (q := 16) (v := (2 : Int32)) X0 hx (hb hby d2_15) rfl rfl ?_
  refine go_irem (q := 17) (v := (0 : Int32)) X0 hx (hb hby d2_16) rfl (by decide) rfl ?_
  refine go_if_ne (q := 20) (q' := 24) X0 hx (hb hby d2_17) rfl (by decide) rfl (fun hc17 => ?_) (fun hc17 => ?_)
  · exact absurd rfl hc17
  · refine go_iconst (q := 21) (v := (1 : Int32)) X0 hx (hb hby d2_20) rfl rfl ?_
    refine go_goto (q := 25) X0 hx (hb hby d2_21) (by decide) rfl ?_
    refine go_i2dB (q := 26) X0 hx (hb hby d2_25) rfl (db_i2d' (A := 1) (by decide)) (fun z3 hz3 => ?_)
    refine go_daddB (q := 27) (C := 4294967297) X0 hx (hb hby d2_26) rfl hz2 hz3 (by decide) (by decide) (by decide) rfl (fun z4 hz4 => ?_)
    exact go_retD X0 hx hret hlk (hb hby d2_27) (by decide) (by decide) ⟨fun _ => Fr.nil _, ⟨_, rfl, hz4⟩, e0⟩
set_option maxRecDepth 65536 in
set_option maxHeartbeats 40000000 in
theorem rm2_3 (l : Launch) (Z : State) (a0 : Array Value) (hw : ∀ d ∈ tables_1, d.before a0 Z = true) (ws : List Jvm.Cond) (au : Addr) (ku : ClassId) (du : Value) (x0 x1 x2 : Int32) (h0 : Heap) (V_au : Arv Z h0 au ku .int (3 : Int32) [.int x0, .int x1, .int x2] du) :
    Con l (⟨"com/example/ply4/ply4/LayerSweep", "median", "([I)D"⟩ : MethodName) prog_24_method_8_code 1 (some .double) ws ({ frames := 0, cells := 0, slots := 0, locals := 0 } : Room) Z #[(.ref au)] h0 (fun v h L => (∀ n, Fr n L) ∧ (∃ r : UInt64, v = some (.double r) ∧ DB 0 4294967297 (2 * x1.toInt + (0 : Int32).toInt) r) ∧ h = h0) := by
  refine con_of (plainFor_of_name pn_2) ?_
  intro p e s m below meth c s₁ X0 hx hby hml hret hlk hown hnm hZ e0
  refine Go.cast (ef_2 m au) ?_
  refine go_ldc2D (q := 3) (v := (4611686018427387904 : UInt64)) X0 hx hZ hown (hw _ (List.mem_of_getElem? (i := 13) rfl)) (hb hby d2_0) rfl ?_
  refine go_aloadN (q := 4) X0 hx (hb hby d2_3) rfl rfl rfl ?_
  refine go_aloadN (q := 5) X0 hx (hb hby d2_4) rfl rfl rfl ?_
  refine go_alen (q := 6) X0 hx hZ e0 V_au (hb hby d2_5) rfl ?_
  refine go_iconst (q := 7) (v := (1 : Int32)) X0 hx (hb hby d2_6) rfl rfl ?_
  refine go_isub (q := 8) (v := (2 : Int32)) X0 hx (hb hby d2_7) rfl rfl ?_
  refine go_iconst (q := 9) (v := (2 : Int32)) X0 hx (hb hby d2_8) rfl rfl ?_
  refine go_idiv (q := 10) (v := (1 : Int32)) X0 hx (hb hby d2_9) rfl (by decide) rfl ?_
  refine go_iaload (q := 11) (v := (.int x1)) X0 hx hZ e0 V_au ⟨by decide, by decide⟩ rfl (hb hby d2_10) rfl ?_
  refine go_i2dB (q := 12) X0 hx (hb hby d2_11) rfl (db_i2d _) (fun z1 hz1 => ?_)
  refine go_dmulB (q := 13) (kk := 0) (C := 4294967296) X0 hx (hb hby d2_12) rfl db_c2 hz1 (by decide) (by decide) (by decide) rfl rfl (fun z2 hz2 => ?_)
  refine go_aloadN (q := 14) X0 hx (hb hby d2_13) rfl rfl rfl ?_
  refine go_alen (q := 15) X0 hx hZ e0 V_au (hb hby d2_14) rfl ?_
  refine go_iconst (q := 16) (v := (2 : Int32)) X0 hx (hb hby d2_15) rfl rfl ?_
  refine go_irem (q := 17) (v := (1 : Int32)) X0 hx (hb hby d2_16) rfl (by decide) rfl ?_
  refine go_if_ne (q := 20) (q' := 24) X0 hx (hb hby d2_17) rfl (by decide) rfl (fun hc17 => ?_) (fun hc17 => ?_)
  · refine go_iconst (q := 25) (v := (0 : Int32)) X0 hx (hb hby d2_24) rfl rfl ?_
    refine go_i2dB (q := 26) X0 hx (hb hby d2_25) rfl (db_i2d' (A := 1) (by decide)) (fun z3 hz3 => ?_)
    refine go_daddB (q := 27) (C := 4294967297) X0 hx (hb hby d2_26) rfl hz2 hz3 (by decide) (by decide) (by decide) rfl (fun z4 hz4 => ?_)
    exact go_retD X0 hx hret hlk (hb hby d2_27) (by decide) (by decide) ⟨fun _ => Fr.nil _, ⟨_, rfl, hz4⟩, e0⟩
  · exact absurd hc17 (by decide)
set_option maxRecDepth 65536 in
set_option maxHeartbeats 40000000 in
theorem rm2_4 (l : Launch) (Z : State) (a0 : Array Value) (hw : ∀ d ∈ tables_1, d.before a0 Z = true) (ws : List Jvm.Cond) (au : Addr) (ku : ClassId) (du : Value) (x0 x1 x2 x3 : Int32) (h0 : Heap) (V_au : Arv Z h0 au ku .int (4 : Int32) [.int x0, .int x1, .int x2, .int x3] du) :
    Con l (⟨"com/example/ply4/ply4/LayerSweep", "median", "([I)D"⟩ : MethodName) prog_24_method_8_code 1 (some .double) ws ({ frames := 0, cells := 0, slots := 0, locals := 0 } : Room) Z #[(.ref au)] h0 (fun v h L => (∀ n, Fr n L) ∧ (∃ r : UInt64, v = some (.double r) ∧ DB 0 4294967297 (2 * x1.toInt + (1 : Int32).toInt) r) ∧ h = h0) := by
  refine con_of (plainFor_of_name pn_2) ?_
  intro p e s m below meth c s₁ X0 hx hby hml hret hlk hown hnm hZ e0
  refine Go.cast (ef_2 m au) ?_
  refine go_ldc2D (q := 3) (v := (4611686018427387904 : UInt64)) X0 hx hZ hown (hw _ (List.mem_of_getElem? (i := 13) rfl)) (hb hby d2_0) rfl ?_
  refine go_aloadN (q := 4) X0 hx (hb hby d2_3) rfl rfl rfl ?_
  refine go_aloadN (q := 5) X0 hx (hb hby d2_4) rfl rfl rfl ?_
  refine go_alen (q := 6) X0 hx hZ e0 V_au (hb hby d2_5) rfl ?_
  refine go_iconst (q := 7) (v := (1 : Int32)) X0 hx (hb hby d2_6) rfl rfl ?_
  refine go_isub (q := 8) (v := (3 : Int32)) X0 hx (hb hby d2_7) rfl rfl ?_
  refine go_iconst (q := 9) (v := (2 : Int32)) X0 hx (hb hby d2_8) rfl rfl ?_
  refine go_idiv (q := 10) (v := (1 : Int32)) X0 hx (hb hby d2_9) rfl (by decide) rfl ?_
  refine go_iaload (q := 11) (v := (.int x1)) X0 hx hZ e0 V_au ⟨by decide, by decide⟩ rfl (hb hby d2_10) rfl ?_
  refine go_i2dB (q := 12) X0 hx (hb hby d2_11) rfl (db_i2d _) (fun z1 hz1 => ?_)
  refine go_dmulB (q := 13) (kk := 0) (C := 4294967296) X0 hx (hb hby d2_12) rfl db_c2 hz1 (by decide) (by decide) (by decide) rfl rfl (fun z2 hz2 => ?_)
  refine go_aloadN (q := 14) X0 hx (hb hby d2_13) rfl rfl rfl ?_
  refine go_alen (q := 15) X0 hx hZ e0 V_au (hb hby d2_14) rfl ?_
  refine go_iconst (q := 16) (v := (2 : Int32)) X0 hx (hb hby d2_15) rfl rfl ?_
  refine go_irem (q := 17) (v := (0 : Int32)) X0 hx (hb hby d2_16) rfl (by decide) rfl ?_
  refine go_if_ne (q := 20) (q' := 24) X0 hx (hb hby d2_17) rfl (by decide) rfl (fun hc17 => ?_) (fun hc17 => ?_)
  · exact absurd rfl hc17
  · refine go_iconst (q := 21) (v := (1 : Int32)) X0 hx (hb hby d2_20) rfl rfl ?_
    refine go_goto (q := 25) X0 hx (hb hby d2_21) (by decide) rfl ?_
    refine go_i2dB (q := 26) X0 hx (hb hby d2_25) rfl (db_i2d' (A := 1) (by decide)) (fun z3 hz3 => ?_)
    refine go_daddB (q := 27) (C := 4294967297) X0 hx (hb hby d2_26) rfl hz2 hz3 (by decide) (by decide) (by decide) rfl (fun z4 hz4 => ?_)
    exact go_retD X0 hx hret hlk (hb hby d2_27) (by decide) (by decide) ⟨fun _ => Fr.nil _, ⟨_, rfl, hz4⟩, e0⟩
set_option maxRecDepth 65536 in
set_option maxHeartbeats 40000000 in
theorem rm2_5 (l : Launch) (Z : State) (a0 : Array Value) (hw : ∀ d ∈ tables_1, d.before a0 Z = true) (ws : List Jvm.Cond) (au : Addr) (ku : ClassId) (du : Value) (x0 x1 x2 x3 x4 : Int32) (h0 : Heap) (V_au : Arv Z h0 au ku .int (5 : Int32) [.int x0, .int x1, .int x2, .int x3, .int x4] du) :
    Con l (⟨"com/example/ply4/ply4/LayerSweep", "median", "([I)D"⟩ : MethodName) prog_24_method_8_code 1 (some .double) ws ({ frames := 0, cells := 0, slots := 0, locals := 0 } : Room) Z #[(.ref au)] h0 (fun v h L => (∀ n, Fr n L) ∧ (∃ r : UInt64, v = some (.double r) ∧ DB 0 4294967297 (2 * x2.toInt + (0 : Int32).toInt) r) ∧ h = h0) := by
  refine con_of (plainFor_of_name pn_2) ?_
  intro p e s m below meth c s₁ X0 hx hby hml hret hlk hown hnm hZ e0
  refine Go.cast (ef_2 m au) ?_
  refine go_ldc2D (q := 3) (v := (4611686018427387904 : UInt64)) X0 hx hZ hown (hw _ (List.mem_of_getElem? (i := 13) rfl)) (hb hby d2_0) rfl ?_
  refine go_aloadN (q := 4) X0 hx (hb hby d2_3) rfl rfl rfl ?_
  refine go_aloadN (q := 5) X0 hx (hb hby d2_4) rfl rfl rfl ?_
  refine go_alen (q := 6) X0 hx hZ e0 V_au (hb hby d2_5) rfl ?_
  refine go_iconst (q := 7) (v := (1 : Int32)) X0 hx (hb hby d2_6) rfl rfl ?_
  refine go_isub (q := 8) (v := (4 : Int32)) X0 hx (hb hby d2_7) rfl rfl ?_
  refine go_iconst (q := 9) (v := (2 : Int32)) X0 hx (hb hby d2_8) rfl rfl ?_
  refine go_idiv (q := 10) (v := (2 : Int32)) X0 hx (hb hby d2_9) rfl (by decide) rfl ?_
  refine go_iaload (q := 11) (v := (.int x2)) X0 hx hZ e0 V_au ⟨by decide, by decide⟩ rfl (hb hby d2_10) rfl ?_
  refine go_i2dB (q := 12) X0 hx (hb hby d2_11) rfl (db_i2d _) (fun z1 hz1 => ?_)
  refine go_dmulB (q := 13) (kk := 0) (C := 4294967296) X0 hx (hb hby d2_12) rfl db_c2 hz1 (by decide) (by decide) (by decide) rfl rfl (fun z2 hz2 => ?_)
  refine go_aloadN (q := 14) X0 hx (hb hby d2_13) rfl rfl rfl ?_
  refine go_alen (q := 15) X0 hx hZ e0 V_au (hb hby d2_14) rfl ?_
  refine go_iconst (q := 16) (v := (2 : Int32)) X0 hx (hb hby d2_15) rfl rfl ?_
  refine go_irem (q := 17) (v := (1 : Int32)) X0 hx (hb hby d2_16) rfl (by decide) rfl ?_
  refine go_if_ne (q := 20) (q' := 24) X0 hx (hb hby d2_17) rfl (by decide) rfl (fun hc17 => ?_) (fun hc17 => ?_)
  · refine go_iconst (q := 25) (v := (0 : Int32)) X0 hx (hb hby d2_24) rfl rfl ?_
    refine go_i2dB (q := 26) X0 hx (hb hby d2_25) rfl (db_i2d' (A := 1) (by decide)) (fun z3 hz3 => ?_)
    refine go_daddB (q := 27) (C := 4294967297) X0 hx (hb hby d2_26) rfl hz2 hz3 (by decide) (by decide) (by decide) rfl (fun z4 hz4 => ?_)
    exact go_retD X0 hx hret hlk (hb hby d2_27) (by decide) (by decide) ⟨fun _ => Fr.nil _, ⟨_, rfl, hz4⟩, e0⟩
  · exact absurd hc17 (by decide)
set_option maxRecDepth 65536 in
set_option maxHeartbeats 40000000 in
theorem rm2_6 (l : Launch) (Z : State) (a0 : Array Value) (hw : ∀ d ∈ tables_1, d.before a0 Z = true) (ws : List Jvm.Cond) (au : Addr) (ku : ClassId) (du : Value) (x0 x1 x2 x3 x4 x5 : Int32) (h0 : Heap) (V_au : Arv Z h0 au ku .int (6 : Int32) [.int x0, .int x1, .int x2, .int x3, .int x4, .int x5] du) :
    Con l (⟨"com/example/ply4/ply4/LayerSweep", "median", "([I)D"⟩ : MethodName) prog_24_method_8_code 1 (some .double) ws ({ frames := 0, cells := 0, slots := 0, locals := 0 } : Room) Z #[(.ref au)] h0 (fun v h L => (∀ n, Fr n L) ∧ (∃ r : UInt64, v = some (.double r) ∧ DB 0 4294967297 (2 * x2.toInt + (1 : Int32).toInt) r) ∧ h = h0) := by
  refine con_of (plainFor_of_name pn_2) ?_
  intro p e s m below meth c s₁ X0 hx hby hml hret hlk hown hnm hZ e0
  refine Go.cast (ef_2 m au) ?_
  refine go_ldc2D (q := 3) (v := (4611686018427387904 : UInt64)) X0 hx hZ hown (hw _ (List.mem_of_getElem? (i := 13) rfl)) (hb hby d2_0) rfl ?_
  refine go_aloadN (q := 4) X0 hx (hb hby d2_3) rfl rfl rfl ?_
  refine go_aloadN (q := 5) X0 hx (hb hby d2_4) rfl rfl rfl ?_
  refine go_alen (q := 6) X0 hx hZ e0 V_au (hb hby d2_5) rfl ?_
  refine go_iconst (q := 7) (v := (1 : Int32)) X0 hx (hb hby d2_6) rfl rfl ?_
  refine go_isub (q := 8) (v := (5 : Int32)) X0 hx (hb hby d2_7) rfl rfl ?_
  refine go_iconst (q := 9) (v := (2 : Int32)) X0 hx (hb hby d2_8) rfl rfl ?_
  refine go_idiv (q := 10) (v := (2 : Int32)) X0 hx (hb hby d2_9) rfl (by decide) rfl ?_
  refine go_iaload (q := 11) (v := (.int x2)) X0 hx hZ e0 V_au ⟨by decide, by decide⟩ rfl (hb hby d2_10) rfl ?_
  refine go_i2dB (q := 12) X0 hx (hb hby d2_11) rfl (db_i2d _) (fun z1 hz1 => ?_)
  refine go_dmulB (q := 13) (kk := 0) (C := 4294967296) X0 hx (hb hby d2_12) rfl db_c2 hz1 (by decide) (by decide) (by decide) rfl rfl (fun z2 hz2 => ?_)
  refine go_aloadN (q := 14) X0 hx (hb hby d2_13) rfl rfl rfl ?_
  refine go_alen (q := 15) X0 hx hZ e0 V_au (hb hby d2_14) rfl ?_
  refine go_iconst (q := 16) (v := (2 : Int32)) X0 hx (hb hby d2_15) rfl rfl ?_
  refine go_irem (q := 17) (v := (0 : Int32)) X0 hx (hb hby d2_16) rfl (by decide) rfl ?_
  refine go_if_ne (q := 20) (q' := 24) X0 hx (hb hby d2_17) rfl (by decide) rfl (fun hc17 => ?_) (fun hc17 => ?_)
  · exact absurd rfl hc17
  · refine go_iconst (q := 21) (v := (1 : Int32)) X0 hx (hb hby d2_20) rfl rfl ?_
    refine go_goto (q := 25) X0 hx (hb hby d2_21) (by decide) rfl ?_
    refine go_i2dB (q := 26) X0 hx (hb hby d2_25) rfl (db_i2d' (A := 1) (by decide)) (fun z3 hz3 => ?_)
    refine go_daddB (q := 27) (C := 4294967297) X0 hx (hb hby d2_26) rfl hz2 hz3 (by decide) (by decide) (by decide) rfl (fun z4 hz4 => ?_)
    exact go_retD X0 hx hret hlk (hb hby d2_27) (by decide) (by decide) ⟨fun _ => Fr.nil _, ⟨_, rfl, hz4⟩, e0⟩
theorem pn_0 : plainName "com/example/ply4/ply4/LayerSweepMedianPinLaw" = true := by first | (simp [plainName, overriddenIn]; done) | decide +kernel
theorem ef_0 (m : MethodId) (x0 : Int32) (x1 : Int32) (x2 : Int64) (x3 : Int64) (x4 : Int32) : entryFrame m #[(.int x0), (.int x1), (.long x2), (.long x3), (.int x4)] maxLocals = mkF m 0 #[.val (.int x0), .val (.int x1), .val (.long x2), .second, .val (.long x3), .second, .val (.int x4), .unset, .unset, .unset, .unset, .unset, .unset, .unset, .unset, .unset, .unset, .unset, .unset] [] := by first | (simp [entryFrame, mkF, argsToLocals, Value.category, maxLocals]; done) | rfl
set_option maxRecDepth 65536 in
set_option maxHeartbeats 40000000 in
theorem rm0 (l : Launch) (Z : State) (a0 : Array Value) (hw : ∀ d ∈ tables_1, d.before a0 Z = true) (ws : List Jvm.Cond) (sel : Int32) (a_ : Int32) (d01 : Int64) (d23 : Int64) (d4 : Int32)  (h0 : Heap)  :
    Con l x code maxLocals ret ws room_1 Z #[(.int sel), (.int a_), (.long d01), (.long d23), (.int d4)] h0 (fun v h L => v = some (.int (1 : Int32)) ∧ Fr h0.size L) := by
  refine con_of (plainFor_of_name pn_0) ?_
  intro p e s m below meth c s₁ X0 hx hby hml hret hlk hown hnm hZ e0
  refine Go.cast (ef_0 m sel a_ d01 d23 d4) ?_
  have N0 := Fr.nil h0.size
  have hsz : h0.size ≤ h0.size := (Nat.le_refl _)
  refine go_iloadN (q := 1) X0 hx (hb hby at_0) rfl rfl ?_
  refine go_ldcI (q := 3) (v := (2147483647 : Int32)) X0 hx hZ hown (hw _ (List.mem_of_getElem? (i := 0) rfl)) (hb hby at_1) rfl ?_
  refine go_iand (q := 4) (v := (sel &&& (2147483647 : Int32))) X0 hx (hb hby at_3) rfl rfl ?_
  refine go_bipush (q := 6) (v := (6 : Int32)) X0 hx (hb hby at_4) rfl rfl ?_
  refine go_irem (q := 7) (v := ((sel &&& (2147483647 : Int32)) % (6 : Int32))) X0 hx (hb hby at_6) rfl (by decide) rfl ?_
  refine go_iconst (q := 8) (v := (1 : Int32)) X0 hx (hb hby at_7) rfl rfl ?_
  refine go_iadd (q := 9) (v := (((sel &&& (2147483647 : Int32)) % (6 : Int32)) + (1 : Int32))) X0 hx (hb hby at_8) rfl rfl ?_
  refine go_istore (q := 11) (l' := #[.val (.int sel), .val (.int a_), .val (.long d01), .second, .val (.long d23), .second, .val (.int d4), .val (.int (((sel &&& (2147483647 : Int32)) % (6 : Int32)) + (1 : Int32))), .unset, .unset, .unset, .unset, .unset, .unset, .unset, .unset, .unset, .unset, .unset]) X0 hx (hb hby at_9) rfl rfl ?_
  suffices Hk_ : ∀ k_ : Int32, k_ = (((sel &&& (2147483647 : Int32)) % (6 : Int32)) + (1 : Int32)) → Go p e below s (fun v h L => v = some (.int (1 : Int32)) ∧ Fr h0.size L) room_1.cells room_1.slots s₁ (mkF m 11 #[.val (.int sel), .val (.int a_), .val (.long d01), .second, .val (.long d23), .second, .val (.int d4), .val (.int k_), .unset, .unset, .unset, .unset, .unset, .unset, .unset, .unset, .unset, .unset, .unset] []) from Hk_ _ rfl
  intro k_ ek_
  have hk : k_ = 1 ∨ k_ = 2 ∨ k_ = 3 ∨ k_ = 4 ∨ k_ = 5 ∨ k_ = 6 := by rw [ek_]; exact own_k _
  refine go_iloadN (q := 12) X0 hx (hb hby at_11) rfl rfl ?_
  refine go_istore (q := 14) (l' := #[.val (.int sel), .val (.int a_), .val (.long d01), .second, .val (.long d23), .second, .val (.int d4), .val (.int k_), .val (.int a_), .unset, .unset, .unset, .unset, .unset, .unset, .unset, .unset, .unset, .unset]) X0 hx (hb hby at_12) rfl rfl ?_
  refine go_iload (q := 16) X0 hx (hb hby at_14) rfl rfl ?_
  refine go_lloadN (q := 17) X0 hx (hb hby at_16) rfl rfl ?_
  refine go_callS (q := 20) (W := 0) X0 hx hZ hown e0 (hw _ (List.mem_of_getElem? (i := 1) rfl)) (hw _ (List.mem_of_getElem? (i := 2) rfl)) (hw _ (List.mem_of_getElem? (i := 3) rfl)) (hw _ (List.mem_of_getElem? (i := 4) rfl)) (by decide) [(.int a_), (.long d01)] [] (rm1 l Z a0 hw [] a_ d01 h0) (by rw [hml]; rfl) rfl (lenOf pd_0 rfl) (Nat.le_of_eq rfl) (by decide) (by decide) (hb hby at_17) rfl (by decide) (by decide) ?_
  rintro T1 L1 v1 X1 ⟨Np1, ⟨p1, rfl⟩, e1⟩
  have N1 := Fr.app N0 (Np1 _)
  show Go p e below s (fun v h L => v = some (.int (1 : Int32)) ∧ Fr h0.size L) room_1.cells room_1.slots T1 (mkF m 20 #[.val (.int sel), .val (.int a_), .val (.long d01), .second, .val (.long d23), .second, .val (.int d4), .val (.int k_), .val (.int a_), .unset, .unset, .unset, .unset, .unset, .unset, .unset, .unset, .unset, .unset] [(.int p1)])
  refine go_istore (q := 22) (l' := #[.val (.int sel), .val (.int a_), .val (.long d01), .second, .val (.long d23), .second, .val (.int d4), .val (.int k_), .val (.int a_), .val (.int p1), .unset, .unset, .unset, .unset, .unset, .unset, .unset, .unset, .unset]) X1 hx (hb hby at_20) rfl rfl ?_
  refine go_iload (q := 24) X1 hx (hb hby at_22) rfl rfl ?_
  refine go_lloadN (q := 25) X1 hx (hb hby at_24) rfl rfl ?_
  refine go_bipush (q := 27) (v := (32 : Int32)) X1 hx (hb hby at_25) rfl rfl ?_
  refine go_lushr (q := 28) (v := ((d01.toUInt64 >>> ((32 : Int32) &&& 0x3f).toInt64.toUInt64).toInt64)) X1 hx (hb hby at_27) rfl rfl ?_
  refine go_callS (q := 31) (W := 0) X1 hx hZ hown e1 (hw _ (List.mem_of_getElem? (i := 1) rfl)) (hw _ (List.mem_of_getElem? (i := 2) rfl)) (hw _ (List.mem_of_getElem? (i := 3) rfl)) (hw _ (List.mem_of_getElem? (i := 4) rfl)) (by decide) [(.int p1), (.long ((d01.toUInt64 >>> ((32 : Int32) &&& 0x3f).toInt64.toUInt64).toInt64))] [] (rm1 l Z a0 hw [] p1 ((d01.toUInt64 >>> ((32 : Int32) &&& 0x3f).toInt64.toUInt64).toInt64) h0) (by rw [hml]; rfl) rfl (lenOf pd_0 rfl) (Nat.le_of_eq rfl) (by decide) (by decide) (hb hby at_28) rfl (by decide) (by decide) ?_
  rintro T2 L2 v2 X2 ⟨Np2, ⟨p2, rfl⟩, e2⟩
  have N2 := Fr.app N1 (Np2 _)
  show Go p e below s (fun v h L => v = some (.int (1 : Int32)) ∧ Fr h0.size L) room_1.cells room_1.slots T2 (mkF m 31 #[.val (.int sel), .val (.int a_), .val (.long d01), .second, .val (.long d23), .second, .val (.int d4), .val (.int k_), .val (.int a_), .val (.int p1), .unset, .unset, .unset, .unset, .unset, .unset, .unset, .unset, .unset] [(.int p2)])
  refine go_istore (q := 33) (l' := #[.val (.int sel), .val (.int a_), .val (.long d01), .second, .val (.long d23), .second, .val (.int d4), .val (.int k_), .val (.int a_), .val (.int p1), .val (.int p2), .unset, .unset, .unset, .unset, .unset, .unset, .unset, .unset]) X2 hx (hb hby at_31) rfl rfl ?_
  refine go_iload (q := 35) X2 hx (hb hby at_33) rfl rfl ?_
  refine go_lload (q := 37) X2 hx (hb hby at_35) rfl rfl ?_
  refine go_callS (q := 40) (W := 0) X2 hx hZ hown e2 (hw _ (List.mem_of_getElem? (i := 1) rfl)) (hw _ (List.mem_of_getElem? (i := 2) rfl)) (hw _ (List.mem_of_getElem? (i := 3) rfl)) (hw _ (List.mem_of_getElem? (i := 4) rfl)) (by decide) [(.int p2), (.long d23)] [] (rm1 l Z a0 hw [] p2 d23 h0) (by rw [hml]; rfl) rfl (lenOf pd_0 rfl) (Nat.le_of_eq rfl) (by decide) (by decide) (hb hby at_37) rfl (by decide) (by decide) ?_
  rintro T3 L3 v3 X3 ⟨Np3, ⟨p3, rfl⟩, e3⟩
  have N3 := Fr.app N2 (Np3 _)
  show Go p e below s (fun v h L => v = some (.int (1 : Int32)) ∧ Fr h0.size L) room_1.cells room_1.slots T3 (mkF m 40 #[.val (.int sel), .val (.int a_), .val (.long d01), .second, .val (.long d23), .second, .val (.int d4), .val (.int k_), .val (.int a_), .val (.int p1), .val (.int p2), .unset, .unset, .unset, .unset, .unset, .unset, .unset, .unset] [(.int p3)])
  refine go_istore (q := 42) (l' := #[.val (.int sel), .val (.int a_), .val (.long d01), .second, .val (.long d23), .second, .val (.int d4), .val (.int k_), .val (.int a_), .val (.int p1), .val (.int p2), .val (.int p3), .unset, .unset, .unset, .unset, .unset, .unset, .unset]) X3 hx (hb hby at_40) rfl rfl ?_
  refine go_iload (q := 44) X3 hx (hb hby at_42) rfl rfl ?_
  refine go_lload (q := 46) X3 hx (hb hby at_44) rfl rfl ?_
  refine go_bipush (q := 48) (v := (32 : Int32)) X3 hx (hb hby at_46) rfl rfl ?_
  refine go_lushr (q := 49) (v := ((d23.toUInt64 >>> ((32 : Int32) &&& 0x3f).toInt64.toUInt64).toInt64)) X3 hx (hb hby at_48) rfl rfl ?_
  refine go_callS (q := 52) (W := 0) X3 hx hZ hown e3 (hw _ (List.mem_of_getElem? (i := 1) rfl)) (hw _ (List.mem_of_getElem? (i := 2) rfl)) (hw _ (List.mem_of_getElem? (i := 3) rfl)) (hw _ (List.mem_of_getElem? (i := 4) rfl)) (by decide) [(.int p3), (.long ((d23.toUInt64 >>> ((32 : Int32) &&& 0x3f).toInt64.toUInt64).toInt64))] [] (rm1 l Z a0 hw [] p3 ((d23.toUInt64 >>> ((32 : Int32) &&& 0x3f).toInt64.toUInt64).toInt64) h0) (by rw [hml]; rfl) rfl (lenOf pd_0 rfl) (Nat.le_of_eq rfl) (by decide) (by decide) (hb hby at_49) rfl (by decide) (by decide) ?_
  rintro T4 L4 v4 X4 ⟨Np4, ⟨p4, rfl⟩, e4⟩
  have N4 := Fr.app N3 (Np4 _)
  show Go p e below s (fun v h L => v = some (.int (1 : Int32)) ∧ Fr h0.size L) room_1.cells room_1.slots T4 (mkF m 52 #[.val (.int sel), .val (.int a_), .val (.long d01), .second, .val (.long d23), .second, .val (.int d4), .val (.int k_), .val (.int a_), .val (.int p1), .val (.int p2), .val (.int p3), .unset, .unset, .unset, .unset, .unset, .unset, .unset] [(.int p4)])
  refine go_istore (q := 54) (l' := #[.val (.int sel), .val (.int a_), .val (.long d01), .second, .val (.long d23), .second, .val (.int d4), .val (.int k_), .val (.int a_), .val (.int p1), .val (.int p2), .val (.int p3), .val (.int p4), .unset, .unset, .unset, .unset, .unset, .unset]) X4 hx (hb hby at_52) rfl rfl ?_
  refine go_iload (q := 56) X4 hx (hb hby at_54) rfl rfl ?_
  refine go_iload (q := 58) X4 hx (hb hby at_56) rfl rfl ?_
  refine go_i2l (q := 59) (v := (d4.toInt64)) X4 hx (hb hby at_58) rfl rfl ?_
  refine go_callS (q := 62) (W := 0) X4 hx hZ hown e4 (hw _ (List.mem_of_getElem? (i := 1) rfl)) (hw _ (List.mem_of_getElem? (i := 2) rfl)) (hw _ (List.mem_of_getElem? (i := 3) rfl)) (hw _ (List.mem_of_getElem? (i := 4) rfl)) (by decide) [(.int p4), (.long (d4.toInt64))] [] (rm1 l Z a0 hw [] p4 (d4.toInt64) h0) (by rw [hml]; rfl) rfl (lenOf pd_0 rfl) (Nat.le_of_eq rfl) (by decide) (by decide) (hb hby at_59) rfl (by decide) (by decide) ?_
  rintro T5 L5 v5 X5 ⟨Np5, ⟨p5, rfl⟩, e5⟩
  have N5 := Fr.app N4 (Np5 _)
  show Go p e below s (fun v h L => v = some (.int (1 : Int32)) ∧ Fr h0.size L) room_1.cells room_1.slots T5 (mkF m 62 #[.val (.int sel), .val (.int a_), .val (.long d01), .second, .val (.long d23), .second, .val (.int d4), .val (.int k_), .val (.int a_), .val (.int p1), .val (.int p2), .val (.int p3), .val (.int p4), .unset, .unset, .unset, .unset, .unset, .unset] [(.int p5)])
  refine go_istore (q := 64) (l' := #[.val (.int sel), .val (.int a_), .val (.long d01), .second, .val (.long d23), .second, .val (.int d4), .val (.int k_), .val (.int a_), .val (.int p1), .val (.int p2), .val (.int p3), .val (.int p4), .val (.int p5), .unset, .unset, .unset, .unset, .unset]) X5 hx (hb hby at_62) rfl rfl ?_
  rcases hk with rfl | rfl | rfl | rfl | rfl | rfl
  · refine go_iload (q := 66) X5 hx (hb hby at_64) rfl rfl ?_
    refine go_iconst (q := 67) (v := (1 : Int32)) X5 hx (hb hby at_66) rfl rfl ?_
    refine go_icmp_ne (q := 70) (q' := 92) X5 hx (hb hby at_67) rfl (by decide) rfl (fun hc67 => ?_) (fun hc67 => ?_)
    · exact absurd rfl hc67
    · refine go_iconst (q := 71) (v := (1 : Int32)) X5 hx (hb hby at_70) rfl rfl ?_
      refine go_newP (q := 73) X5 hx hZ (hw _ (List.mem_of_getElem? (i := 7) rfl)) e5 (hb hby at_71) rfl (by decide) 1 (by decide) (by decide) (by decide) (by decide) (fun T6 h6 k_bp bp eb6 X6 e6 E6 V_bp => ?_)
      have g_bp : h0.size ≤ bp := Nat.le_trans hsz (Nat.le_of_eq eb6.symm)
      replace hsz := Nat.le_trans hsz E6.1
      replace V_bp : Arv Z h6 bp k_bp .int (1 : Int32) [(.int (0 : Int32))] (.int (0 : Int32)) := V_bp.pad (pad_rep [] (.int (0 : Int32)) 1)
      refine go_dup (q := 74) X6 hx (hb hby at_73) rfl rfl ?_
      refine go_iconst (q := 75) (v := (0 : Int32)) X6 hx (hb hby at_74) rfl rfl ?_
      refine go_iload (q := 77) X6 hx (hb hby at_75) rfl rfl ?_
      refine go_iastore (q := 78) X6 hx hZ e6 V_bp ⟨by decide, by decide⟩ 0 rfl (Nat.le_of_ble_eq_true rfl) N5 g_bp (hb hby at_77) rfl (fun T7 h7 l7 X7 N7 e7 W7 V7 => ?_)
      replace hsz := Nat.le_trans hsz (Nat.le_of_eq W7.size.symm)
      replace V_bp : Arv Z h7 bp k_bp .int (1 : Int32) [(.int a_)] (.int (0 : Int32)) := V7
      refine go_astore (q := 80) (l' := #[.val (.int sel), .val (.int a_), .val (.long d01), .second, .val (.long d23), .second, .val (.int d4), .val (.int (1 : Int32)), .val (.int a_), .val (.int p1), .val (.int p2), .val (.int p3), .val (.int p4), .val (.int p5), .val (.ref bp), .unset, .unset, .unset, .unset]) X7 hx (hb hby at_78) rfl rfl rfl ?_
      refine go_ldc2J (q := 83) (v := (2 : Int64)) X7 hx hZ hown (hw _ (List.mem_of_getElem? (i := 8) rfl)) (hb hby at_80) rfl ?_
      refine go_iload (q := 85) X7 hx (hb hby at_83) rfl rfl ?_
      refine go_i2l (q := 86) (v := (a_.toInt64)) X7 hx (hb hby at_85) rfl rfl ?_
      refine go_lmul (q := 87) (v := ((2 : Int64) * (a_.toInt64))) X7 hx (hb hby at_86) rfl rfl ?_
      refine go_lstore (q := 89) (l' := #[.val (.int sel), .val (.int a_), .val (.long d01), .second, .val (.long d23), .second, .val (.int d4), .val (.int (1 : Int32)), .val (.int a_), .val (.int p1), .val (.int p2), .val (.int p3), .val (.int p4), .val (.int p5), .val (.ref bp), .val (.long ((2 : Int64) * (a_.toInt64))), .second, .unset, .unset]) X7 hx (hb hby at_87) rfl rfl ?_
      refine go_goto (q := 305) X7 hx (hb hby at_89) (by decide) rfl ?_
      suffices Hrf : ∀ rf : Int64, rf = ((2 : Int64) * (a_.toInt64)) → Go p e below s (fun v h L => v = some (.int (1 : Int32)) ∧ Fr h0.size L) room_1.cells room_1.slots T7 (mkF m 305 #[.val (.int sel), .val (.int a_), .val (.long d01), .second, .val (.long d23), .second, .val (.int d4), .val (.int (1 : Int32)), .val (.int a_), .val (.int p1), .val (.int p2), .val (.int p3), .val (.int p4), .val (.int p5), .val (.ref bp), .val (.long rf), .second, .unset, .unset] []) from Hrf _ rfl
      intro rf erf
      have hrf := own_ref0 a_
      rw [← erf] at hrf
      refine go_aload (q := 307) X7 hx (hb hby at_305) rfl rfl rfl ?_
      refine go_callS (q := 310) (W := 0) X7 hx hZ hown e7 (hw _ (List.mem_of_getElem? (i := 9) rfl)) (hw _ (List.mem_of_getElem? (i := 10) rfl)) (hw _ (List.mem_of_getElem? (i := 11) rfl)) (hw _ (List.mem_of_getElem? (i := 12) rfl)) (by decide) [(.ref bp)] [] (rm2_1 l Z a0 hw [] bp k_bp _ a_ h7 V_bp) (by rw [hml]; rfl) rfl (lenOf pd_1 rfl) (Nat.le_of_eq rfl) (by decide) (by decide) (hb hby at_307) rfl (by decide) (by decide) ?_
      rintro T8 L8 v8 X8 ⟨Np8, ⟨r_, rfl, hr_⟩, e8⟩
      have N8 := Fr.app N7 (Np8 _)
      show Go p e below s (fun v h L => v = some (.int (1 : Int32)) ∧ Fr h0.size L) room_1.cells room_1.slots T8 (mkF m 310 #[.val (.int sel), .val (.int a_), .val (.long d01), .second, .val (.long d23), .second, .val (.int d4), .val (.int (1 : Int32)), .val (.int a_), .val (.int p1), .val (.int p2), .val (.int p3), .val (.int p4), .val (.int p5), .val (.ref bp), .val (.long rf), .second, .unset, .unset] [(.double r_)])
      refine go_dstore (q := 312) (l' := #[.val (.int sel), .val (.int a_), .val (.long d01), .second, .val (.long d23), .second, .val (.int d4), .val (.int (1 : Int32)), .val (.int a_), .val (.int p1), .val (.int p2), .val (.int p3), .val (.int p4), .val (.int p5), .val (.ref bp), .val (.long rf), .second, .val (.double r_), .second]) X8 hx (hb hby at_310) rfl rfl ?_
      refine go_dload (q := 314) X8 hx (hb hby at_312) rfl rfl ?_
      refine go_lload (q := 316) X8 hx (hb hby at_314) rfl rfl ?_
      refine go_l2dB (q := 317) X8 hx (hb hby at_316) rfl (db_l2d (A := 4294967297) hrf.2 (by decide)) (fun z9 hz9 => ?_)
      refine go_dcmp (q := 318) X8 hx (hb hby at_317) rfl rfl ?_
      refine go_dif_ne (q := 321) (q' := 325) X8 hx (hb hby at_318) rfl (by decide) rfl hr_ hz9 (fun hc318 => ?_) (fun hc318 => ?_)
      · exact absurd hrf.1.symm hc318
      · refine go_iconst (q := 322) (v := (1 : Int32)) X8 hx (hb hby at_321) rfl rfl ?_
        refine go_goto (q := 326) X8 hx (hb hby at_322) (by decide) rfl ?_
        exact go_retN X8 hx (by simp) hret hlk (hb hby at_326) (by decide) (by decide) ⟨rfl, N8⟩
  · refine go_iload (q := 66) X5 hx (hb hby at_64) rfl rfl ?_
    refine go_iconst (q := 67) (v := (1 : Int32)) X5 hx (hb hby at_66) rfl rfl ?_
    refine go_icmp_ne (q := 70) (q' := 92) X5 hx (hb hby at_67) rfl (by decide) rfl (fun hc67 => ?_) (fun hc67 => ?_)
    · refine go_iload (q := 94) X5 hx (hb hby at_92) rfl rfl ?_
      refine go_iconst (q := 95) (v := (2 : Int32)) X5 hx (hb hby at_94) rfl rfl ?_
      refine go_icmp_ne (q := 98) (q' := 127) X5 hx (hb hby at_95) rfl (by decide) rfl (fun hc95 => ?_) (fun hc95 => ?_)
      · exact absurd rfl hc95
      · refine go_iconst (q := 99) (v := (2 : Int32)) X5 hx (hb hby at_98) rfl rfl ?_
        refine go_newP (q := 101) X5 hx hZ (hw _ (List.mem_of_getElem? (i := 7) rfl)) e5 (hb hby at_99) rfl (by decide) 2 (by decide) (by decide) (by decide) (by decide) (fun T10 h10 k_bp bp eb10 X10 e10 E10 V_bp => ?_)
        have g_bp : h0.size ≤ bp := Nat.le_trans hsz (Nat.le_of_eq eb10.symm)
        replace hsz := Nat.le_trans hsz E10.1
        replace V_bp : Arv Z h10 bp k_bp .int (2 : Int32) [(.int (0 : Int32)), (.int (0 : Int32))] (.int (0 : Int32)) := V_bp.pad (pad_rep [] (.int (0 : Int32)) 2)
        refine go_dup (q := 102) X10 hx (hb hby at_101) rfl rfl ?_
        refine go_iconst (q := 103) (v := (0 : Int32)) X10 hx (hb hby at_102) rfl rfl ?_
        refine go_iload (q := 105) X10 hx (hb hby at_103) rfl rfl ?_
        refine go_iastore (q := 106) X10 hx hZ e10 V_bp ⟨by decide, by decide⟩ 0 rfl (Nat.le_of_ble_eq_true rfl) N5 g_bp (hb hby at_105) rfl (fun T11 h11 l11 X11 N11 e11 W11 V11 => ?_)
        replace hsz := Nat.le_trans hsz (Nat.le_of_eq W11.size.symm)
        replace V_bp : Arv Z h11 bp k_bp .int (2 : Int32) [(.int a_), (.int (0 : Int32))] (.int (0 : Int32)) := V11
        refine go_dup (q := 107) X11 hx (hb hby at_106) rfl rfl ?_
        refine go_iconst (q := 108) (v := (1 : Int32)) X11 hx (hb hby at_107) rfl rfl ?_
        refine go_iload (q := 110) X11 hx (hb hby at_108) rfl rfl ?_
        refine go_iastore (q := 111) X11 hx hZ e11 V_bp ⟨by decide, by decide⟩ 1 rfl (Nat.le_of_ble_eq_true rfl) N11 g_bp (hb hby at_110) rfl (fun T12 h12 l12 X12 N12 e12 W12 V12 => ?_)
        replace hsz := Nat.le_trans hsz (Nat.le_of_eq W12.size.symm)
        replace V_bp : Arv Z h12 bp k_bp .int (2 : Int32) [(.int a_), (.int p1)] (.int (0 : Int32)) := V12
        refine go_astore (q := 113) (l' := #[.val (.int sel), .val (.int a_), .val (.long d01), .second, .val (.long d23), .second, .val (.int d4), .val (.int (2 : Int32)), .val (.int a_), .val (.int p1), .val (.int p2), .val (.int p3), .val (.int p4), .val (.int p5), .val (.ref bp), .unset, .unset, .unset, .unset]) X12 hx (hb hby at_111) rfl rfl rfl ?_
        refine go_ldc2J (q := 116) (v := (2 : Int64)) X12 hx hZ hown (hw _ (List.mem_of_getElem? (i := 8) rfl)) (hb hby at_113) rfl ?_
        refine go_iload (q := 118) X12 hx (hb hby at_116) rfl rfl ?_
        refine go_i2l (q := 119) (v := (a_.toInt64)) X12 hx (hb hby at_118) rfl rfl ?_
        refine go_lmul (q := 120) (v := ((2 : Int64) * (a_.toInt64))) X12 hx (hb hby at_119) rfl rfl ?_
        refine go_lconst (q := 121) (v := (1 : Int64)) X12 hx (hb hby at_120) rfl rfl ?_
        refine go_ladd (q := 122) (v := (((2 : Int64) * (a_.toInt64)) + (1 : Int64))) X12 hx (hb hby at_121) rfl rfl ?_
        refine go_lstore (q := 124) (l' := #[.val (.int sel), .val (.int a_), .val (.long d01), .second, .val (.long d23), .second, .val (.int d4), .val (.int (2 : Int32)), .val (.int a_), .val (.int p1), .val (.int p2), .val (.int p3), .val (.int p4), .val (.int p5), .val (.ref bp), .val (.long (((2 : Int64) * (a_.toInt64)) + (1 : Int64))), .second, .unset, .unset]) X12 hx (hb hby at_122) rfl rfl ?_
        refine go_goto (q := 305) X12 hx (hb hby at_124) (by decide) rfl ?_
        suffices Hrf : ∀ rf : Int64, rf = (((2 : Int64) * (a_.toInt64)) + (1 : Int64)) → Go p e below s (fun v h L => v = some (.int (1 : Int32)) ∧ Fr h0.size L) room_1.cells room_1.slots T12 (mkF m 305 #[.val (.int sel), .val (.int a_), .val (.long d01), .second, .val (.long d23), .second, .val (.int d4), .val (.int (2 : Int32)), .val (.int a_), .val (.int p1), .val (.int p2), .val (.int p3), .val (.int p4), .val (.int p5), .val (.ref bp), .val (.long rf), .second, .unset, .unset] []) from Hrf _ rfl
        intro rf erf
        have hrf := own_ref1 a_
        rw [← erf] at hrf
        refine go_aload (q := 307) X12 hx (hb hby at_305) rfl rfl rfl ?_
        refine go_callS (q := 310) (W := 0) X12 hx hZ hown e12 (hw _ (List.mem_of_getElem? (i := 9) rfl)) (hw _ (List.mem_of_getElem? (i := 10) rfl)) (hw _ (List.mem_of_getElem? (i := 11) rfl)) (hw _ (List.mem_of_getElem? (i := 12) rfl)) (by decide) [(.ref bp)] [] (rm2_2 l Z a0 hw [] bp k_bp _ a_ p1 h12 V_bp) (by rw [hml]; rfl) rfl (lenOf pd_1 rfl) (Nat.le_of_eq rfl) (by decide) (by decide) (hb hby at_307) rfl (by decide) (by decide) ?_
        rintro T13 L13 v13 X13 ⟨Np13, ⟨r_, rfl, hr_⟩, e13⟩
        have N13 := Fr.app N12 (Np13 _)
        show Go p e below s (fun v h L => v = some (.int (1 : Int32)) ∧ Fr h0.size L) room_1.cells room_1.slots T13 (mkF m 310 #[.val (.int sel), .val (.int a_), .val (.long d01), .second, .val (.long d23), .second, .val (.int d4), .val (.int (2 : Int32)), .val (.int a_), .val (.int p1), .val (.int p2), .val (.int p3), .val (.int p4), .val (.int p5), .val (.ref bp), .val (.long rf), .second, .unset, .unset] [(.double r_)])
        refine go_dstore (q := 312) (l' := #[.val (.int sel), .val (.int a_), .val (.long d01), .second, .val (.long d23), .second, .val (.int d4), .val (.int (2 : Int32)), .val (.int a_), .val (.int p1), .val (.int p2), .val (.int p3), .val (.int p4), .val (.int p5), .val (.ref bp), .val (.long rf), .second, .val (.double r_), .second]) X13 hx (hb hby at_310) rfl rfl ?_
        refine go_dload (q := 314) X13 hx (hb hby at_312) rfl rfl ?_
        refine go_lload (q := 316) X13 hx (hb hby at_314) rfl rfl ?_
        refine go_l2dB (q := 317) X13 hx (hb hby at_316) rfl (db_l2d (A := 4294967297) hrf.2 (by decide)) (fun z14 hz14 => ?_)
        refine go_dcmp (q := 318) X13 hx (hb hby at_317) rfl rfl ?_
        refine go_dif_ne (q := 321) (q' := 325) X13 hx (hb hby at_318) rfl (by decide) rfl hr_ hz14 (fun hc318 => ?_) (fun hc318 => ?_)
        · exact absurd hrf.1.symm hc318
        · refine go_iconst (q := 322) (v := (1 : Int32)) X13 hx (hb hby at_321) rfl rfl ?_
          refine go_goto (q := 326) X13 hx (hb hby at_322) (by decide) rfl ?_
          exact go_retN X13 hx (by simp) hret hlk (hb hby at_326) (by decide) (by decide) ⟨rfl, N13⟩
    · exact absurd hc67 (by decide)
  · refine go_iload (q := 66) X5 hx (hb hby at_64) rfl rfl ?_
    refine go_iconst (q := 67) (v := (1 : Int32)) X5 hx (hb hby at_66) rfl rfl ?_
    refine go_icmp_ne (q := 70) (q' := 92) X5 hx (hb hby at_67) rfl (by decide) rfl (fun hc67 => ?_) (fun hc67 => ?_)
    · refine go_iload (q := 94) X5 hx (hb hby at_92) rfl rfl ?_
      refine go_iconst (q := 95) (v := (2 : Int32)) X5 hx (hb hby at_94) rfl rfl ?_
      refine go_icmp_ne (q := 98) (q' := 127) X5 hx (hb hby at_95) rfl (by decide) rfl (fun hc95 => ?_) (fun hc95 => ?_)
      · refine go_iload (q := 129) X5 hx (hb hby at_127) rfl rfl ?_
        refine go_iconst (q := 130) (v := (3 : Int32)) X5 hx (hb hby at_129) rfl rfl ?_
        refine go_icmp_ne (q := 133) (q' := 165) X5 hx (hb hby at_130) rfl (by decide) rfl (fun hc130 => ?_) (fun hc130 => ?_)
        · exact absurd rfl hc130
        · refine go_iconst (q := 134) (v := (3 : Int32)) X5 hx (hb hby at_133) rfl rfl ?_
          refine go_newP (q := 136) X5 hx hZ (hw _ (List.mem_of_getElem? (i := 7) rfl)) e5 (hb hby at_134) rfl (by decide) 3 (by decide) (by decide) (by decide) (by decide) (fun T15 h15 k_bp bp eb15 X15 e15 E15 V_bp => ?_)
          have g_bp : h0.size ≤ bp := Nat.le_trans hsz (Nat.le_of_eq eb15.symm)
          replace hsz := Nat.le_trans hsz E15.1
          replace V_bp : Arv Z h15 bp k_bp .int (3 : Int32) [(.int (0 : Int32)), (.int (0 : Int32)), (.int (0 : Int32))] (.int (0 : Int32)) := V_bp.pad (pad_rep [] (.int (0 : Int32)) 3)
          refine go_dup (q := 137) X15 hx (hb hby at_136) rfl rfl ?_
          refine go_iconst (q := 138) (v := (0 : Int32)) X15 hx (hb hby at_137) rfl rfl ?_
          refine go_iload (q := 140) X15 hx (hb hby at_138) rfl rfl ?_
          refine go_iastore (q := 141) X15 hx hZ e15 V_bp ⟨by decide, by decide⟩ 0 rfl (Nat.le_of_ble_eq_true rfl) N5 g_bp (hb hby at_140) rfl (fun T16 h16 l16 X16 N16 e16 W16 V16 => ?_)
          replace hsz := Nat.le_trans hsz (Nat.le_of_eq W16.size.symm)
          replace V_bp : Arv Z h16 bp k_bp .int (3 : Int32) [(.int a_), (.int (0 : Int32)), (.int (0 : Int32))] (.int (0 : Int32)) := V16
          refine go_dup (q := 142) X16 hx (hb hby at_141) rfl rfl ?_
          refine go_iconst (q := 143) (v := (1 : Int32)) X16 hx (hb hby at_142) rfl rfl ?_
          refine go_iload (q := 145) X16 hx (hb hby at_143) rfl rfl ?_
          refine go_iastore (q := 146) X16 hx hZ e16 V_bp ⟨by decide, by decide⟩ 1 rfl (Nat.le_of_ble_eq_true rfl) N16 g_bp (hb hby at_145) rfl (fun T17 h17 l17 X17 N17 e17 W17 V17 => ?_)
          replace hsz := Nat.le_trans hsz (Nat.le_of_eq W17.size.symm)
          replace V_bp : Arv Z h17 bp k_bp .int (3 : Int32) [(.int a_), (.int p1), (.int (0 : Int32))] (.int (0 : Int32)) := V17
          refine go_dup (q := 147) X17 hx (hb hby at_146) rfl rfl ?_
          refine go_iconst (q := 148) (v := (2 : Int32)) X17 hx (hb hby at_147) rfl rfl ?_
          refine go_iload (q := 150) X17 hx (hb hby at_148) rfl rfl ?_
          refine go_iastore (q := 151) X17 hx hZ e17 V_bp ⟨by decide, by decide⟩ 2 rfl (Nat.le_of_ble_eq_true rfl) N17 g_bp (hb hby at_150) rfl (fun T18 h18 l18 X18 N18 e18 W18 V18 => ?_)
          replace hsz := Nat.le_trans hsz (Nat.le_of_eq W18.size.symm)
          replace V_bp : Arv Z h18 bp k_bp .int (3 : Int32) [(.int a_), (.int p1), (.int p2)] (.int (0 : Int32)) := V18
          refine go_astore (q := 153) (l' := #[.val (.int sel), .val (.int a_), .val (.long d01), .second, .val (.long d23), .second, .val (.int d4), .val (.int (3 : Int32)), .val (.int a_), .val (.int p1), .val (.int p2), .val (.int p3), .val (.int p4), .val (.int p5), .val (.ref bp), .unset, .unset, .unset, .unset]) X18 hx (hb hby at_151) rfl rfl rfl ?_
          refine go_ldc2J (q := 156) (v := (2 : Int64)) X18 hx hZ hown (hw _ (List.mem_of_getElem? (i := 8) rfl)) (hb hby at_153) rfl ?_
          refine go_iload (q := 158) X18 hx (hb hby at_156) rfl rfl ?_
          refine go_i2l (q := 159) (v := (p1.toInt64)) X18 hx (hb hby at_158) rfl rfl ?_
          refine go_lmul (q := 160) (v := ((2 : Int64) * (p1.toInt64))) X18 hx (hb hby at_159) rfl rfl ?_
          refine go_lstore (q := 162) (l' := #[.val (.int sel), .val (.int a_), .val (.long d01), .second, .val (.long d23), .second, .val (.int d4), .val (.int (3 : Int32)), .val (.int a_), .val (.int p1), .val (.int p2), .val (.int p3), .val (.int p4), .val (.int p5), .val (.ref bp), .val (.long ((2 : Int64) * (p1.toInt64))), .second, .unset, .unset]) X18 hx (hb hby at_160) rfl rfl ?_
          refine go_goto (q := 305) X18 hx (hb hby at_162) (by decide) rfl ?_
          suffices Hrf : ∀ rf : Int64, rf = ((2 : Int64) * (p1.toInt64)) → Go p e below s (fun v h L => v = some (.int (1 : Int32)) ∧ Fr h0.size L) room_1.cells room_1.slots T18 (mkF m 305 #[.val (.int sel), .val (.int a_), .val (.long d01), .second, .val (.long d23), .second, .val (.int d4), .val (.int (3 : Int32)), .val (.int a_), .val (.int p1), .val (.int p2), .val (.int p3), .val (.int p4), .val (.int p5), .val (.ref bp), .val (.long rf), .second, .unset, .unset] []) from Hrf _ rfl
          intro rf erf
          have hrf := own_ref0 p1
          rw [← erf] at hrf
          refine go_aload (q := 307) X18 hx (hb hby at_305) rfl rfl rfl ?_
          refine go_callS (q := 310) (W := 0) X18 hx hZ hown e18 (hw _ (List.mem_of_getElem? (i := 9) rfl)) (hw _ (List.mem_of_getElem? (i := 10) rfl)) (hw _ (List.mem_of_getElem? (i := 11) rfl)) (hw _ (List.mem_of_getElem? (i := 12) rfl)) (by decide) [(.ref bp)] [] (rm2_3 l Z a0 hw [] bp k_bp _ a_ p1 p2 h18 V_bp) (by rw [hml]; rfl) rfl (lenOf pd_1 rfl) (Nat.le_of_eq rfl) (by decide) (by decide) (hb hby at_307) rfl (by decide) (by decide) ?_
          rintro T19 L19 v19 X19 ⟨Np19, ⟨r_, rfl, hr_⟩, e19⟩
          have N19 := Fr.app N18 (Np19 _)
          show Go p e below s (fun v h L => v = some (.int (1 : Int32)) ∧ Fr h0.size L) room_1.cells room_1.slots T19 (mkF m 310 #[.val (.int sel), .val (.int a_), .val (.long d01), .second, .val (.long d23), .second, .val (.int d4), .val (.int (3 : Int32)), .val (.int a_), .val (.int p1), .val (.int p2), .val (.int p3), .val (.int p4), .val (.int p5), .val (.ref bp), .val (.long rf), .second, .unset, .unset] [(.double r_)])
          refine go_dstore (q := 312) (l' := #[.val (.int sel), .val (.int a_), .val (.long d01), .second, .val (.long d23), .second, .val (.int d4), .val (.int (3 : Int32)), .val (.int a_), .val (.int p1), .val (.int p2), .val (.int p3), .val (.int p4), .val (.int p5), .val (.ref bp), .val (.long rf), .second, .val (.double r_), .second]) X19 hx (hb hby at_310) rfl rfl ?_
          refine go_dload (q := 314) X19 hx (hb hby at_312) rfl rfl ?_
          refine go_lload (q := 316) X19 hx (hb hby at_314) rfl rfl ?_
          refine go_l2dB (q := 317) X19 hx (hb hby at_316) rfl (db_l2d (A := 4294967297) hrf.2 (by decide)) (fun z20 hz20 => ?_)
          refine go_dcmp (q := 318) X19 hx (hb hby at_317) rfl rfl ?_
          refine go_dif_ne (q := 321) (q' := 325) X19 hx (hb hby at_318) rfl (by decide) rfl hr_ hz20 (fun hc318 => ?_) (fun hc318 => ?_)
          · exact absurd hrf.1.symm hc318
          · refine go_iconst (q := 322) (v := (1 : Int32)) X19 hx (hb hby at_321) rfl rfl ?_
            refine go_goto (q := 326) X19 hx (hb hby at_322) (by decide) rfl ?_
            exact go_retN X19 hx (by simp) hret hlk (hb hby at_326) (by decide) (by decide) ⟨rfl, N19⟩
      · exact absurd hc95 (by decide)
    · exact absurd hc67 (by decide)
  · refine go_iload (q := 66) X5 hx (hb hby at_64) rfl rfl ?_
    refine go_iconst (q := 67) (v := (1 : Int32)) X5 hx (hb hby at_66) rfl rfl ?_
    refine go_icmp_ne (q := 70) (q' := 92) X5 hx (hb hby at_67) rfl (by decide) rfl (fun hc67 => ?_) (fun hc67 => ?_)
    · refine go_iload (q := 94) X5 hx (hb hby at_92) rfl rfl ?_
      refine go_iconst (q := 95) (v := (2 : Int32)) X5 hx (hb hby at_94) rfl rfl ?_
      refine go_icmp_ne (q := 98) (q' := 127) X5 hx (hb hby at_95) rfl (by decide) rfl (fun hc95 => ?_) (fun hc95 => ?_)
      · refine go_iload (q := 129) X5 hx (hb hby at_127) rfl rfl ?_
        refine go_iconst (q := 130) (v := (3 : Int32)) X5 hx (hb hby at_129) rfl rfl ?_
        refine go_icmp_ne (q := 133) (q' := 165) X5 hx (hb hby at_130) rfl (by decide) rfl (fun hc130 => ?_) (fun hc130 => ?_)
        · refine go_iload (q := 167) X5 hx (hb hby at_165) rfl rfl ?_
          refine go_iconst (q := 168) (v := (4 : Int32)) X5 hx (hb hby at_167) rfl rfl ?_
          refine go_icmp_ne (q := 171) (q' := 210) X5 hx (hb hby at_168) rfl (by decide) rfl (fun hc168 => ?_) (fun hc168 => ?_)
          · exact absurd rfl hc168
          · refine go_iconst (q := 172) (v := (4 : Int32)) X5 hx (hb hby at_171) rfl rfl ?_
            refine go_newP (q := 174) X5 hx hZ (hw _ (List.mem_of_getElem? (i := 7) rfl)) e5 (hb hby at_172) rfl (by decide) 4 (by decide) (by decide) (by decide) (by decide) (fun T21 h21 k_bp bp eb21 X21 e21 E21 V_bp => ?_)
            have g_bp : h0.size ≤ bp := Nat.le_trans hsz (Nat.le_of_eq eb21.symm)
            replace hsz := Nat.le_trans hsz E21.1
            replace V_bp : Arv Z h21 bp k_bp .int (4 : Int32) [(.int (0 : Int32)), (.int (0 : Int32)), (.int (0 : Int32)), (.int (0 : Int32))] (.int (0 : Int32)) := V_bp.pad (pad_rep [] (.int (0 : Int32)) 4)
            refine go_dup (q := 175) X21 hx (hb hby at_174) rfl rfl ?_
            refine go_iconst (q := 176) (v := (0 : Int32)) X21 hx (hb hby at_175) rfl rfl ?_
            refine go_iload (q := 178) X21 hx (hb hby at_176) rfl rfl ?_
            refine go_iastore (q := 179) X21 hx hZ e21 V_bp ⟨by decide, by decide⟩ 0 rfl (Nat.le_of_ble_eq_true rfl) N5 g_bp (hb hby at_178) rfl (fun T22 h22 l22 X22 N22 e22 W22 V22 => ?_)
            replace hsz := Nat.le_trans hsz (Nat.le_of_eq W22.size.symm)
            replace V_bp : Arv Z h22 bp k_bp .int (4 : Int32) [(.int a_), (.int (0 : Int32)), (.int (0 : Int32)), (.int (0 : Int32))] (.int (0 : Int32)) := V22
            refine go_dup (q := 180) X22 hx (hb hby at_179) rfl rfl ?_
            refine go_iconst (q := 181) (v := (1 : Int32)) X22 hx (hb hby at_180) rfl rfl ?_
            refine go_iload (q := 183) X22 hx (hb hby at_181) rfl rfl ?_
            refine go_iastore (q := 184) X22 hx hZ e22 V_bp ⟨by decide, by decide⟩ 1 rfl (Nat.le_of_ble_eq_true rfl) N22 g_bp (hb hby at_183) rfl (fun T23 h23 l23 X23 N23 e23 W23 V23 => ?_)
            replace hsz := Nat.le_trans hsz (Nat.le_of_eq W23.size.symm)
            replace V_bp : Arv Z h23 bp k_bp .int (4 : Int32) [(.int a_), (.int p1), (.int (0 : Int32)), (.int (0 : Int32))] (.int (0 : Int32)) := V23
            refine go_dup (q := 185) X23 hx (hb hby at_184) rfl rfl ?_
            refine go_iconst (q := 186) (v := (2 : Int32)) X23 hx (hb hby at_185) rfl rfl ?_
            refine go_iload (q := 188) X23 hx (hb hby at_186) rfl rfl ?_
            refine go_iastore (q := 189) X23 hx hZ e23 V_bp ⟨by decide, by decide⟩ 2 rfl (Nat.le_of_ble_eq_true rfl) N23 g_bp (hb hby at_188) rfl (fun T24 h24 l24 X24 N24 e24 W24 V24 => ?_)
            replace hsz := Nat.le_trans hsz (Nat.le_of_eq W24.size.symm)
            replace V_bp : Arv Z h24 bp k_bp .int (4 : Int32) [(.int a_), (.int p1), (.int p2), (.int (0 : Int32))] (.int (0 : Int32)) := V24
            refine go_dup (q := 190) X24 hx (hb hby at_189) rfl rfl ?_
            refine go_iconst (q := 191) (v := (3 : Int32)) X24 hx (hb hby at_190) rfl rfl ?_
            refine go_iload (q := 193) X24 hx (hb hby at_191) rfl rfl ?_
            refine go_iastore (q := 194) X24 hx hZ e24 V_bp ⟨by decide, by decide⟩ 3 rfl (Nat.le_of_ble_eq_true rfl) N24 g_bp (hb hby at_193) rfl (fun T25 h25 l25 X25 N25 e25 W25 V25 => ?_)
            replace hsz := Nat.le_trans hsz (Nat.le_of_eq W25.size.symm)
            replace V_bp : Arv Z h25 bp k_bp .int (4 : Int32) [(.int a_), (.int p1), (.int p2), (.int p3)] (.int (0 : Int32)) := V25
            refine go_astore (q := 196) (l' := #[.val (.int sel), .val (.int a_), .val (.long d01), .second, .val (.long d23), .second, .val (.int d4), .val (.int (4 : Int32)), .val (.int a_), .val (.int p1), .val (.int p2), .val (.int p3), .val (.int p4), .val (.int p5), .val (.ref bp), .unset, .unset, .unset, .unset]) X25 hx (hb hby at_194) rfl rfl rfl ?_
            refine go_ldc2J (q := 199) (v := (2 : Int64)) X25 hx hZ hown (hw _ (List.mem_of_getElem? (i := 8) rfl)) (hb hby at_196) rfl ?_
            refine go_iload (q := 201) X25 hx (hb hby at_199) rfl rfl ?_
            refine go_i2l (q := 202) (v := (p1.toInt64)) X25 hx (hb hby at_201) rfl rfl ?_
            refine go_lmul (q := 203) (v := ((2 : Int64) * (p1.toInt64))) X25 hx (hb hby at_202) rfl rfl ?_
            refine go_lconst (q := 204) (v := (1 : Int64)) X25 hx (hb hby at_203) rfl rfl ?_
            refine go_ladd (q := 205) (v := (((2 : Int64) * (p1.toInt64)) + (1 : Int64))) X25 hx (hb hby at_204) rfl rfl ?_
            refine go_lstore (q := 207) (l' := #[.val (.int sel), .val (.int a_), .val (.long d01), .second, .val (.long d23), .second, .val (.int d4), .val (.int (4 : Int32)), .val (.int a_), .val (.int p1), .val (.int p2), .val (.int p3), .val (.int p4), .val (.int p5), .val (.ref bp), .val (.long (((2 : Int64) * (p1.toInt64)) + (1 : Int64))), .second, .unset, .unset]) X25 hx (hb hby at_205) rfl rfl ?_
            refine go_goto (q := 305) X25 hx (hb hby at_207) (by decide) rfl ?_
            suffices Hrf : ∀ rf : Int64, rf = (((2 : Int64) * (p1.toInt64)) + (1 : Int64)) → Go p e below s (fun v h L => v = some (.int (1 : Int32)) ∧ Fr h0.size L) room_1.cells room_1.slots T25 (mkF m 305 #[.val (.int sel), .val (.int a_), .val (.long d01), .second, .val (.long d23), .second, .val (.int d4), .val (.int (4 : Int32)), .val (.int a_), .val (.int p1), .val (.int p2), .val (.int p3), .val (.int p4), .val (.int p5), .val (.ref bp), .val (.long rf), .second, .unset, .unset] []) from Hrf _ rfl
            intro rf erf
            have hrf := own_ref1 p1
            rw [← erf] at hrf
            refine go_aload (q := 307) X25 hx (hb hby at_305) rfl rfl rfl ?_
            refine go_callS (q := 310) (W := 0) X25 hx hZ hown e25 (hw _ (List.mem_of_getElem? (i := 9) rfl)) (hw _ (List.mem_of_getElem? (i := 10) rfl)) (hw _ (List.mem_of_getElem? (i := 11) rfl)) (hw _ (List.mem_of_getElem? (i := 12) rfl)) (by decide) [(.ref bp)] [] (rm2_4 l Z a0 hw [] bp k_bp _ a_ p1 p2 p3 h25 V_bp) (by rw [hml]; rfl) rfl (lenOf pd_1 rfl) (Nat.le_of_eq rfl) (by decide) (by decide) (hb hby at_307) rfl (by decide) (by decide) ?_
            rintro T26 L26 v26 X26 ⟨Np26, ⟨r_, rfl, hr_⟩, e26⟩
            have N26 := Fr.app N25 (Np26 _)
            show Go p e below s (fun v h L => v = some (.int (1 : Int32)) ∧ Fr h0.size L) room_1.cells room_1.slots T26 (mkF m 310 #[.val (.int sel), .val (.int a_), .val (.long d01), .second, .val (.long d23), .second, .val (.int d4), .val (.int (4 : Int32)), .val (.int a_), .val (.int p1), .val (.int p2), .val (.int p3), .val (.int p4), .val (.int p5), .val (.ref bp), .val (.long rf), .second, .unset, .unset] [(.double r_)])
            refine go_dstore (q := 312) (l' := #[.val (.int sel), .val (.int a_), .val (.long d01), .second, .val (.long d23), .second, .val (.int d4), .val (.int (4 : Int32)), .val (.int a_), .val (.int p1), .val (.int p2), .val (.int p3), .val (.int p4), .val (.int p5), .val (.ref bp), .val (.long rf), .second, .val (.double r_), .second]) X26 hx (hb hby at_310) rfl rfl ?_
            refine go_dload (q := 314) X26 hx (hb hby at_312) rfl rfl ?_
            refine go_lload (q := 316) X26 hx (hb hby at_314) rfl rfl ?_
            refine go_l2dB (q := 317) X26 hx (hb hby at_316) rfl (db_l2d (A := 4294967297) hrf.2 (by decide)) (fun z27 hz27 => ?_)
            refine go_dcmp (q := 318) X26 hx (hb hby at_317) rfl rfl ?_
            refine go_dif_ne (q := 321) (q' := 325) X26 hx (hb hby at_318) rfl (by decide) rfl hr_ hz27 (fun hc318 => ?_) (fun hc318 => ?_)
            · exact absurd hrf.1.symm hc318
            · refine go_iconst (q := 322) (v := (1 : Int32)) X26 hx (hb hby at_321) rfl rfl ?_
              refine go_goto (q := 326) X26 hx (hb hby at_322) (by decide) rfl ?_
              exact go_retN X26 hx (by simp) hret hlk (hb hby at_326) (by decide) (by decide) ⟨rfl, N26⟩
        · exact absurd hc130 (by decide)
      · exact absurd hc95 (by decide)
    · exact absurd hc67 (by decide)
  · refine go_iload (q := 66) X5 hx (hb hby at_64) rfl rfl ?_
    refine go_iconst (q := 67) (v := (1 : Int32)) X5 hx (hb hby at_66) rfl rfl ?_
    refine go_icmp_ne (q := 70) (q' := 92) X5 hx (hb hby at_67) rfl (by decide) rfl (fun hc67 => ?_) (fun hc67 => ?_)
    · refine go_iload (q := 94) X5 hx (hb hby at_92) rfl rfl ?_
      refine go_iconst (q := 95) (v := (2 : Int32)) X5 hx (hb hby at_94) rfl rfl ?_
      refine go_icmp_ne (q := 98) (q' := 127) X5 hx (hb hby at_95) rfl (by decide) rfl (fun hc95 => ?_) (fun hc95 => ?_)
      · refine go_iload (q := 129) X5 hx (hb hby at_127) rfl rfl ?_
        refine go_iconst (q := 130) (v := (3 : Int32)) X5 hx (hb hby at_129) rfl rfl ?_
        refine go_icmp_ne (q := 133) (q' := 165) X5 hx (hb hby at_130) rfl (by decide) rfl (fun hc130 => ?_) (fun hc130 => ?_)
        · refine go_iload (q := 167) X5 hx (hb hby at_165) rfl rfl ?_
          refine go_iconst (q := 168) (v := (4 : Int32)) X5 hx (hb hby at_167) rfl rfl ?_
          refine go_icmp_ne (q := 171) (q' := 210) X5 hx (hb hby at_168) rfl (by decide) rfl (fun hc168 => ?_) (fun hc168 => ?_)
          · refine go_iload (q := 212) X5 hx (hb hby at_210) rfl rfl ?_
            refine go_iconst (q := 213) (v := (5 : Int32)) X5 hx (hb hby at_212) rfl rfl ?_
            refine go_icmp_ne (q := 216) (q' := 258) X5 hx (hb hby at_213) rfl (by decide) rfl (fun hc213 => ?_) (fun hc213 => ?_)
            · exact absurd rfl hc213
            · refine go_iconst (q := 217) (v := (5 : Int32)) X5 hx (hb hby at_216) rfl rfl ?_
              refine go_newP (q := 219) X5 hx hZ (hw _ (List.mem_of_getElem? (i := 7) rfl)) e5 (hb hby at_217) rfl (by decide) 5 (by decide) (by decide) (by decide) (by decide) (fun T28 h28 k_bp bp eb28 X28 e28 E28 V_bp => ?_)
              have g_bp : h0.size ≤ bp := Nat.le_trans hsz (Nat.le_of_eq eb28.symm)
              replace hsz := Nat.le_trans hsz E28.1
              replace V_bp : Arv Z h28 bp k_bp .int (5 : Int32) [(.int (0 : Int32)), (.int (0 : Int32)), (.int (0 : Int32)), (.int (0 : Int32)), (.int (0 : Int32))] (.int (0 : Int32)) := V_bp.pad (pad_rep [] (.int (0 : Int32)) 5)
              refine go_dup (q := 220) X28 hx (hb hby at_219) rfl rfl ?_
              refine go_iconst (q := 221) (v := (0 : Int32)) X28 hx (hb hby at_220) rfl rfl ?_
              refine go_iload (q := 223) X28 hx (hb hby at_221) rfl rfl ?_
              refine go_iastore (q := 224) X28 hx hZ e28 V_bp ⟨by decide, by decide⟩ 0 rfl (Nat.le_of_ble_eq_true rfl) N5 g_bp (hb hby at_223) rfl (fun T29 h29 l29 X29 N29 e29 W29 V29 => ?_)
              replace hsz := Nat.le_trans hsz (Nat.le_of_eq W29.size.symm)
              replace V_bp : Arv Z h29 bp k_bp .int (5 : Int32) [(.int a_), (.int (0 : Int32)), (.int (0 : Int32)), (.int (0 : Int32)), (.int (0 : Int32))] (.int (0 : Int32)) := V29
              refine go_dup (q := 225) X29 hx (hb hby at_224) rfl rfl ?_
              refine go_iconst (q := 226) (v := (1 : Int32)) X29 hx (hb hby at_225) rfl rfl ?_
              refine go_iload (q := 228) X29 hx (hb hby at_226) rfl rfl ?_
              refine go_iastore (q := 229) X29 hx hZ e29 V_bp ⟨by decide, by decide⟩ 1 rfl (Nat.le_of_ble_eq_true rfl) N29 g_bp (hb hby at_228) rfl (fun T30 h30 l30 X30 N30 e30 W30 V30 => ?_)
              replace hsz := Nat.le_trans hsz (Nat.le_of_eq W30.size.symm)
              replace V_bp : Arv Z h30 bp k_bp .int (5 : Int32) [(.int a_), (.int p1), (.int (0 : Int32)), (.int (0 : Int32)), (.int (0 : Int32))] (.int (0 : Int32)) := V30
              refine go_dup (q := 230) X30 hx (hb hby at_229) rfl rfl ?_
              refine go_iconst (q := 231) (v := (2 : Int32)) X30 hx (hb hby at_230) rfl rfl ?_
              refine go_iload (q := 233) X30 hx (hb hby at_231) rfl rfl ?_
              refine go_iastore (q := 234) X30 hx hZ e30 V_bp ⟨by decide, by decide⟩ 2 rfl (Nat.le_of_ble_eq_true rfl) N30 g_bp (hb hby at_233) rfl (fun T31 h31 l31 X31 N31 e31 W31 V31 => ?_)
              replace hsz := Nat.le_trans hsz (Nat.le_of_eq W31.size.symm)
              replace V_bp : Arv Z h31 bp k_bp .int (5 : Int32) [(.int a_), (.int p1), (.int p2), (.int (0 : Int32)), (.int (0 : Int32))] (.int (0 : Int32)) := V31
              refine go_dup (q := 235) X31 hx (hb hby at_234) rfl rfl ?_
              refine go_iconst (q := 236) (v := (3 : Int32)) X31 hx (hb hby at_235) rfl rfl ?_
              refine go_iload (q := 238) X31 hx (hb hby at_236) rfl rfl ?_
              refine go_iastore (q := 239) X31 hx hZ e31 V_bp ⟨by decide, by decide⟩ 3 rfl (Nat.le_of_ble_eq_true rfl) N31 g_bp (hb hby at_238) rfl (fun T32 h32 l32 X32 N32 e32 W32 V32 => ?_)
              replace hsz := Nat.le_trans hsz (Nat.le_of_eq W32.size.symm)
              replace V_bp : Arv Z h32 bp k_bp .int (5 : Int32) [(.int a_), (.int p1), (.int p2), (.int p3), (.int (0 : Int32))] (.int (0 : Int32)) := V32
              refine go_dup (q := 240) X32 hx (hb hby at_239) rfl rfl ?_
              refine go_iconst (q := 241) (v := (4 : Int32)) X32 hx (hb hby at_240) rfl rfl ?_
              refine go_iload (q := 243) X32 hx (hb hby at_241) rfl rfl ?_
              refine go_iastore (q := 244) X32 hx hZ e32 V_bp ⟨by decide, by decide⟩ 4 rfl (Nat.le_of_ble_eq_true rfl) N32 g_bp (hb hby at_243) rfl (fun T33 h33 l33 X33 N33 e33 W33 V33 => ?_)
              replace hsz := Nat.le_trans hsz (Nat.le_of_eq W33.size.symm)
              replace V_bp : Arv Z h33 bp k_bp .int (5 : Int32) [(.int a_), (.int p1), (.int p2), (.int p3), (.int p4)] (.int (0 : Int32)) := V33
              refine go_astore (q := 246) (l' := #[.val (.int sel), .val (.int a_), .val (.long d01), .second, .val (.long d23), .second, .val (.int d4), .val (.int (5 : Int32)), .val (.int a_), .val (.int p1), .val (.int p2), .val (.int p3), .val (.int p4), .val (.int p5), .val (.ref bp), .unset, .unset, .unset, .unset]) X33 hx (hb hby at_244) rfl rfl rfl ?_
              refine go_ldc2J (q := 249) (v := (2 : Int64)) X33 hx hZ hown (hw _ (List.mem_of_getElem? (i := 8) rfl)) (hb hby at_246) rfl ?_
              refine go_iload (q := 251) X33 hx (hb hby at_249) rfl rfl ?_
              refine go_i2l (q := 252) (v := (p2.toInt64)) X33 hx (hb hby at_251) rfl rfl ?_
              refine go_lmul (q := 253) (v := ((2 : Int64) * (p2.toInt64))) X33 hx (hb hby at_252) rfl rfl ?_
              refine go_lstore (q := 255) (l' := #[.val (.int sel), .val (.int a_), .val (.long d01), .second, .val (.long d23), .second, .val (.int d4), .val (.int (5 : Int32)), .val (.int a_), .val (.int p1), .val (.int p2), .val (.int p3), .val (.int p4), .val (.int p5), .val (.ref bp), .val (.long ((2 : Int64) * (p2.toInt64))), .second, .unset, .unset]) X33 hx (hb hby at_253) rfl rfl ?_
              refine go_goto (q := 305) X33 hx (hb hby at_255) (by decide) rfl ?_
              suffices Hrf : ∀ rf : Int64, rf = ((2 : Int64) * (p2.toInt64)) → Go p e below s (fun v h L => v = some (.int (1 : Int32)) ∧ Fr h0.size L) room_1.cells room_1.slots T33 (mkF m 305 #[.val (.int sel), .val (.int a_), .val (.long d01), .second, .val (.long d23), .second, .val (.int d4), .val (.int (5 : Int32)), .val (.int a_), .val (.int p1), .val (.int p2), .val (.int p3), .val (.int p4), .val (.int p5), .val (.ref bp), .val (.long rf), .second, .unset, .unset] []) from Hrf _ rfl
              intro rf erf
              have hrf := own_ref0 p2
              rw [← erf] at hrf
              refine go_aload (q := 307) X33 hx (hb hby at_305) rfl rfl rfl ?_
              refine go_callS (q := 310) (W := 0) X33 hx hZ hown e33 (hw _ (List.mem_of_getElem? (i := 9) rfl)) (hw _ (List.mem_of_getElem? (i := 10) rfl)) (hw _ (List.mem_of_getElem? (i := 11) rfl)) (hw _ (List.mem_of_getElem? (i := 12) rfl)) (by decide) [(.ref bp)] [] (rm2_5 l Z a0 hw [] bp k_bp _ a_ p1 p2 p3 p4 h33 V_bp) (by rw [hml]; rfl) rfl (lenOf pd_1 rfl) (Nat.le_of_eq rfl) (by decide) (by decide) (hb hby at_307) rfl (by decide) (by decide) ?_
              rintro T34 L34 v34 X34 ⟨Np34, ⟨r_, rfl, hr_⟩, e34⟩
              have N34 := Fr.app N33 (Np34 _)
              show Go p e below s (fun v h L => v = some (.int (1 : Int32)) ∧ Fr h0.size L) room_1.cells room_1.slots T34 (mkF m 310 #[.val (.int sel), .val (.int a_), .val (.long d01), .second, .val (.long d23), .second, .val (.int d4), .val (.int (5 : Int32)), .val (.int a_), .val (.int p1), .val (.int p2), .val (.int p3), .val (.int p4), .val (.int p5), .val (.ref bp), .val (.long rf), .second, .unset, .unset] [(.double r_)])
              refine go_dstore (q := 312) (l' := #[.val (.int sel), .val (.int a_), .val (.long d01), .second, .val (.long d23), .second, .val (.int d4), .val (.int (5 : Int32)), .val (.int a_), .val (.int p1), .val (.int p2), .val (.int p3), .val (.int p4), .val (.int p5), .val (.ref bp), .val (.long rf), .second, .val (.double r_), .second]) X34 hx (hb hby at_310) rfl rfl ?_
              refine go_dload (q := 314) X34 hx (hb hby at_312) rfl rfl ?_
              refine go_lload (q := 316) X34 hx (hb hby at_314) rfl rfl ?_
              refine go_l2dB (q := 317) X34 hx (hb hby at_316) rfl (db_l2d (A := 4294967297) hrf.2 (by decide)) (fun z35 hz35 => ?_)
              refine go_dcmp (q := 318) X34 hx (hb hby at_317) rfl rfl ?_
              refine go_dif_ne (q := 321) (q' := 325) X34 hx (hb hby at_318) rfl (by decide) rfl hr_ hz35 (fun hc318 => ?_) (fun hc318 => ?_)
              · exact absurd hrf.1.symm hc318
              · refine go_iconst (q := 322) (v := (1 : Int32)) X34 hx (hb hby at_321) rfl rfl ?_
                refine go_goto (q := 326) X34 hx (hb hby at_322) (by decide) rfl ?_
                exact go_retN X34 hx (by simp) hret hlk (hb hby at_326) (by decide) (by decide) ⟨rfl, N34⟩
          · exact absurd hc168 (by decide)
        · exact absurd hc130 (by decide)
      · exact absurd hc95 (by decide)
    · exact absurd hc67 (by decide)
  · refine go_iload (q := 66) X5 hx (hb hby at_64) rfl rfl ?_
    refine go_iconst (q := 67) (v := (1 : Int32)) X5 hx (hb hby at_66) rfl rfl ?_
    refine go_icmp_ne (q := 70) (q' := 92) X5 hx (hb hby at_67) rfl (by decide) rfl (fun hc67 => ?_) (fun hc67 => ?_)
    · refine go_iload (q := 94) X5 hx (hb hby at_92) rfl rfl ?_
      refine go_iconst (q := 95) (v := (2 : Int32)) X5 hx (hb hby at_94) rfl rfl ?_
      refine go_icmp_ne (q := 98) (q' := 127) X5 hx (hb hby at_95) rfl (by decide) rfl (fun hc95 => ?_) (fun hc95 => ?_)
      · refine go_iload (q := 129) X5 hx (hb hby at_127) rfl rfl ?_
        refine go_iconst (q := 130) (v := (3 : Int32)) X5 hx (hb hby at_129) rfl rfl ?_
        refine go_icmp_ne (q := 133) (q' := 165) X5 hx (hb hby at_130) rfl (by decide) rfl (fun hc130 => ?_) (fun hc130 => ?_)
        · refine go_iload (q := 167) X5 hx (hb hby at_165) rfl rfl ?_
          refine go_iconst (q := 168) (v := (4 : Int32)) X5 hx (hb hby at_167) rfl rfl ?_
          refine go_icmp_ne (q := 171) (q' := 210) X5 hx (hb hby at_168) rfl (by decide) rfl (fun hc168 => ?_) (fun hc168 => ?_)
          · refine go_iload (q := 212) X5 hx (hb hby at_210) rfl rfl ?_
            refine go_iconst (q := 213) (v := (5 : Int32)) X5 hx (hb hby at_212) rfl rfl ?_
            refine go_icmp_ne (q := 216) (q' := 258) X5 hx (hb hby at_213) rfl (by decide) rfl (fun hc213 => ?_) (fun hc213 => ?_)
            · refine go_bipush (q := 260) (v := (6 : Int32)) X5 hx (hb hby at_258) rfl rfl ?_
              refine go_newP (q := 262) X5 hx hZ (hw _ (List.mem_of_getElem? (i := 7) rfl)) e5 (hb hby at_260) rfl (by decide) 6 (by decide) (by decide) (by decide) (by decide) (fun T36 h36 k_bp bp eb36 X36 e36 E36 V_bp => ?_)
              have g_bp : h0.size ≤ bp := Nat.le_trans hsz (Nat.le_of_eq eb36.symm)
              replace hsz := Nat.le_trans hsz E36.1
              replace V_bp : Arv Z h36 bp k_bp .int (6 : Int32) [(.int (0 : Int32)), (.int (0 : Int32)), (.int (0 : Int32)), (.int (0 : Int32)), (.int (0 : Int32)), (.int (0 : Int32))] (.int (0 : Int32)) := V_bp.pad (pad_rep [] (.int (0 : Int32)) 6)
              refine go_dup (q := 263) X36 hx (hb hby at_262) rfl rfl ?_
              refine go_iconst (q := 264) (v := (0 : Int32)) X36 hx (hb hby at_263) rfl rfl ?_
              refine go_iload (q := 266) X36 hx (hb hby at_264) rfl rfl ?_
              refine go_iastore (q := 267) X36 hx hZ e36 V_bp ⟨by decide, by decide⟩ 0 rfl (Nat.le_of_ble_eq_true rfl) N5 g_bp (hb hby at_266) rfl (fun T37 h37 l37 X37 N37 e37 W37 V37 => ?_)
              replace hsz := Nat.le_trans hsz (Nat.le_of_eq W37.size.symm)
              replace V_bp : Arv Z h37 bp k_bp .int (6 : Int32) [(.int a_), (.int (0 : Int32)), (.int (0 : Int32)), (.int (0 : Int32)), (.int (0 : Int32)), (.int (0 : Int32))] (.int (0 : Int32)) := V37
              refine go_dup (q := 268) X37 hx (hb hby at_267) rfl rfl ?_
              refine go_iconst (q := 269) (v := (1 : Int32)) X37 hx (hb hby at_268) rfl rfl ?_
              refine go_iload (q := 271) X37 hx (hb hby at_269) rfl rfl ?_
              refine go_iastore (q := 272) X37 hx hZ e37 V_bp ⟨by decide, by decide⟩ 1 rfl (Nat.le_of_ble_eq_true rfl) N37 g_bp (hb hby at_271) rfl (fun T38 h38 l38 X38 N38 e38 W38 V38 => ?_)
              replace hsz := Nat.le_trans hsz (Nat.le_of_eq W38.size.symm)
              replace V_bp : Arv Z h38 bp k_bp .int (6 : Int32) [(.int a_), (.int p1), (.int (0 : Int32)), (.int (0 : Int32)), (.int (0 : Int32)), (.int (0 : Int32))] (.int (0 : Int32)) := V38
              refine go_dup (q := 273) X38 hx (hb hby at_272) rfl rfl ?_
              refine go_iconst (q := 274) (v := (2 : Int32)) X38 hx (hb hby at_273) rfl rfl ?_
              refine go_iload (q := 276) X38 hx (hb hby at_274) rfl rfl ?_
              refine go_iastore (q := 277) X38 hx hZ e38 V_bp ⟨by decide, by decide⟩ 2 rfl (Nat.le_of_ble_eq_true rfl) N38 g_bp (hb hby at_276) rfl (fun T39 h39 l39 X39 N39 e39 W39 V39 => ?_)
              replace hsz := Nat.le_trans hsz (Nat.le_of_eq W39.size.symm)
              replace V_bp : Arv Z h39 bp k_bp .int (6 : Int32) [(.int a_), (.int p1), (.int p2), (.int (0 : Int32)), (.int (0 : Int32)), (.int (0 : Int32))] (.int (0 : Int32)) := V39
              refine go_dup (q := 278) X39 hx (hb hby at_277) rfl rfl ?_
              refine go_iconst (q := 279) (v := (3 : Int32)) X39 hx (hb hby at_278) rfl rfl ?_
              refine go_iload (q := 281) X39 hx (hb hby at_279) rfl rfl ?_
              refine go_iastore (q := 282) X39 hx hZ e39 V_bp ⟨by decide, by decide⟩ 3 rfl (Nat.le_of_ble_eq_true rfl) N39 g_bp (hb hby at_281) rfl (fun T40 h40 l40 X40 N40 e40 W40 V40 => ?_)
              replace hsz := Nat.le_trans hsz (Nat.le_of_eq W40.size.symm)
              replace V_bp : Arv Z h40 bp k_bp .int (6 : Int32) [(.int a_), (.int p1), (.int p2), (.int p3), (.int (0 : Int32)), (.int (0 : Int32))] (.int (0 : Int32)) := V40
              refine go_dup (q := 283) X40 hx (hb hby at_282) rfl rfl ?_
              refine go_iconst (q := 284) (v := (4 : Int32)) X40 hx (hb hby at_283) rfl rfl ?_
              refine go_iload (q := 286) X40 hx (hb hby at_284) rfl rfl ?_
              refine go_iastore (q := 287) X40 hx hZ e40 V_bp ⟨by decide, by decide⟩ 4 rfl (Nat.le_of_ble_eq_true rfl) N40 g_bp (hb hby at_286) rfl (fun T41 h41 l41 X41 N41 e41 W41 V41 => ?_)
              replace hsz := Nat.le_trans hsz (Nat.le_of_eq W41.size.symm)
              replace V_bp : Arv Z h41 bp k_bp .int (6 : Int32) [(.int a_), (.int p1), (.int p2), (.int p3), (.int p4), (.int (0 : Int32))] (.int (0 : Int32)) := V41
              refine go_dup (q := 288) X41 hx (hb hby at_287) rfl rfl ?_
              refine go_iconst (q := 289) (v := (5 : Int32)) X41 hx (hb hby at_288) rfl rfl ?_
              refine go_iload (q := 291) X41 hx (hb hby at_289) rfl rfl ?_
              refine go_iastore (q := 292) X41 hx hZ e41 V_bp ⟨by decide, by decide⟩ 5 rfl (Nat.le_of_ble_eq_true rfl) N41 g_bp (hb hby at_291) rfl (fun T42 h42 l42 X42 N42 e42 W42 V42 => ?_)
              replace hsz := Nat.le_trans hsz (Nat.le_of_eq W42.size.symm)
              replace V_bp : Arv Z h42 bp k_bp .int (6 : Int32) [(.int a_), (.int p1), (.int p2), (.int p3), (.int p4), (.int p5)] (.int (0 : Int32)) := V42
              refine go_astore (q := 294) (l' := #[.val (.int sel), .val (.int a_), .val (.long d01), .second, .val (.long d23), .second, .val (.int d4), .val (.int (6 : Int32)), .val (.int a_), .val (.int p1), .val (.int p2), .val (.int p3), .val (.int p4), .val (.int p5), .val (.ref bp), .unset, .unset, .unset, .unset]) X42 hx (hb hby at_292) rfl rfl rfl ?_
              refine go_ldc2J (q := 297) (v := (2 : Int64)) X42 hx hZ hown (hw _ (List.mem_of_getElem? (i := 8) rfl)) (hb hby at_294) rfl ?_
              refine go_iload (q := 299) X42 hx (hb hby at_297) rfl rfl ?_
              refine go_i2l (q := 300) (v := (p2.toInt64)) X42 hx (hb hby at_299) rfl rfl ?_
              refine go_lmul (q := 301) (v := ((2 : Int64) * (p2.toInt64))) X42 hx (hb hby at_300) rfl rfl ?_
              refine go_lconst (q := 302) (v := (1 : Int64)) X42 hx (hb hby at_301) rfl rfl ?_
              refine go_ladd (q := 303) (v := (((2 : Int64) * (p2.toInt64)) + (1 : Int64))) X42 hx (hb hby at_302) rfl rfl ?_
              refine go_lstore (q := 305) (l' := #[.val (.int sel), .val (.int a_), .val (.long d01), .second, .val (.long d23), .second, .val (.int d4), .val (.int (6 : Int32)), .val (.int a_), .val (.int p1), .val (.int p2), .val (.int p3), .val (.int p4), .val (.int p5), .val (.ref bp), .val (.long (((2 : Int64) * (p2.toInt64)) + (1 : Int64))), .second, .unset, .unset]) X42 hx (hb hby at_303) rfl rfl ?_
              suffices Hrf : ∀ rf : Int64, rf = (((2 : Int64) * (p2.toInt64)) + (1 : Int64)) → Go p e below s (fun v h L => v = some (.int (1 : Int32)) ∧ Fr h0.size L) room_1.cells room_1.slots T42 (mkF m 305 #[.val (.int sel), .val (.int a_), .val (.long d01), .second, .val (.long d23), .second, .val (.int d4), .val (.int (6 : Int32)), .val (.int a_), .val (.int p1), .val (.int p2), .val (.int p3), .val (.int p4), .val (.int p5), .val (.ref bp), .val (.long rf), .second, .unset, .unset] []) from Hrf _ rfl
              intro rf erf
              have hrf := own_ref1 p2
              rw [← erf] at hrf
              refine go_aload (q := 307) X42 hx (hb hby at_305) rfl rfl rfl ?_
              refine go_callS (q := 310) (W := 0) X42 hx hZ hown e42 (hw _ (List.mem_of_getElem? (i := 9) rfl)) (hw _ (List.mem_of_getElem? (i := 10) rfl)) (hw _ (List.mem_of_getElem? (i := 11) rfl)) (hw _ (List.mem_of_getElem? (i := 12) rfl)) (by decide) [(.ref bp)] [] (rm2_6 l Z a0 hw [] bp k_bp _ a_ p1 p2 p3 p4 p5 h42 V_bp) (by rw [hml]; rfl) rfl (lenOf pd_1 rfl) (Nat.le_of_eq rfl) (by decide) (by decide) (hb hby at_307) rfl (by decide) (by decide) ?_
              rintro T43 L43 v43 X43 ⟨Np43, ⟨r_, rfl, hr_⟩, e43⟩
              have N43 := Fr.app N42 (Np43 _)
              show Go p e below s (fun v h L => v = some (.int (1 : Int32)) ∧ Fr h0.size L) room_1.cells room_1.slots T43 (mkF m 310 #[.val (.int sel), .val (.int a_), .val (.long d01), .second, .val (.long d23), .second, .val (.int d4), .val (.int (6 : Int32)), .val (.int a_), .val (.int p1), .val (.int p2), .val (.int p3), .val (.int p4), .val (.int p5), .val (.ref bp), .val (.long rf), .second, .unset, .unset] [(.double r_)])
              refine go_dstore (q := 312) (l' := #[.val (.int sel), .val (.int a_), .val (.long d01), .second, .val (.long d23), .second, .val (.int d4), .val (.int (6 : Int32)), .val (.int a_), .val (.int p1), .val (.int p2), .val (.int p3), .val (.int p4), .val (.int p5), .val (.ref bp), .val (.long rf), .second, .val (.double r_), .second]) X43 hx (hb hby at_310) rfl rfl ?_
              refine go_dload (q := 314) X43 hx (hb hby at_312) rfl rfl ?_
              refine go_lload (q := 316) X43 hx (hb hby at_314) rfl rfl ?_
              refine go_l2dB (q := 317) X43 hx (hb hby at_316) rfl (db_l2d (A := 4294967297) hrf.2 (by decide)) (fun z44 hz44 => ?_)
              refine go_dcmp (q := 318) X43 hx (hb hby at_317) rfl rfl ?_
              refine go_dif_ne (q := 321) (q' := 325) X43 hx (hb hby at_318) rfl (by decide) rfl hr_ hz44 (fun hc318 => ?_) (fun hc318 => ?_)
              · exact absurd hrf.1.symm hc318
              · refine go_iconst (q := 322) (v := (1 : Int32)) X43 hx (hb hby at_321) rfl rfl ?_
                refine go_goto (q := 326) X43 hx (hb hby at_322) (by decide) rfl ?_
                exact go_retN X43 hx (by simp) hret hlk (hb hby at_326) (by decide) (by decide) ⟨rfl, N43⟩
            · exact absurd hc213 (by decide)
          · exact absurd hc168 (by decide)
        · exact absurd hc130 (by decide)
      · exact absurd hc95 (by decide)
    · exact absurd hc67 (by decide)
set_option maxRecDepth 65536 in
set_option maxHeartbeats 40000000 in
theorem comes_1 {Post : Tables → Env → Array Value → State → Outcome → State → Prop} (hpost : ∀ tb e args s v u, (limb_1_1.after args s (.returned v) u = true ∧ limb_1_2.after args s (.returned v) u = true ∧ True) → FrameEnd s (.returned v) u (Jvm.fieldLocs frame_1_writes args s ++ Jvm.arrayLocs frame_1_arrays args s ++ Jvm.staticLocs frame_1_statics s) 16 128 → Post tb e args s (.returned v) u) :
    ArmFor flags0 classFile x code maxLocals ret World_1 tables_1 room_1 Calls_1 rest_1 Pre_1 Post := by
  intro l hfl _ _ p e ha hc hk s m args below hf hA hF happ hP
  obtain ⟨hcalls, hrest, hpre⟩ := hP
  obtain ⟨-, -, -, hnamed, -, -, -, hat⟩ := (Spec.applies_iff hf).mp happ
  obtain ⟨hg, hn⟩ := and_e (Cond.before_iff.mp (show (Jvm.Cond.and given_1 narrow_1).before args s = true from hpre))
  obtain ⟨hcnt, hg0⟩ := and_e hg
  obtain ⟨ha0, hg1⟩ := and_e hg0
  obtain ⟨ha1, hg2⟩ := and_e hg1
  obtain ⟨ha2, hg3⟩ := and_e hg2
  obtain ⟨ha3, hg4⟩ := and_e hg3
  have ha4 := hg4
  obtain ⟨w0, w1, w2, w3, w4, rfl⟩ : ∃ w0 w1 w2 w3 w4 : Value, args = #[w0, w1, w2, w3, w4] := by
    have hs : args.size = 5 := by simpa [Cond.value, given_1] using hcnt
    obtain ⟨L⟩ := args
    match L, hs with
    | [w0, w1, w2, w3, w4], _ => exact ⟨w0, w1, w2, w3, w4, rfl⟩
  have hw := fun d (hd : d ∈ tables_1) => atoms_spec (ws := Jvm.Cond.code x code maxLocals ret :: tables_1) hat d (List.mem_cons_of_mem _ hd)
  obtain ⟨i0, ei0⟩ := is_v ha0
  obtain rfl : w0 = (.int i0) := Option.some.inj ei0
  obtain ⟨i1, ei1⟩ := is_v ha1
  obtain rfl : w1 = (.int i1) := Option.some.inj ei1
  obtain ⟨i2, ei2⟩ := isL_v ha2
  obtain rfl : w2 = (.long i2) := Option.some.inj ei2
  obtain ⟨i3, ei3⟩ := isL_v ha3
  obtain rfl : w3 = (.long i3) := Option.some.inj ei3
  obtain ⟨i4, ei4⟩ := is_v ha4
  obtain rfl : w4 = (.int i4) := Option.some.inj ei4
  obtain ⟨n, o, h1, h2, h3, _, L, rfl, ⟨rfl, N⟩, hq⟩ := rm0 l s _ hw tables_1 i0 i1 i2 i3 i4  s.heap  p e ha hc hk s m _ below hf ((Spec.applies_iff_loose hf).mp happ).1 ⟨rfl, State.Warmed39.refl s, rfl⟩ trivial
  refine ⟨n, _, h1, h2, h3, hpost _ _ _ _ _ _ ⟨Cond.after_iff.mpr rfl, Cond.after_iff.mpr (eq_i res_at (Term.int_eval (1)) rfl), trivial⟩ ⟨hq.1, hq.2.1, (hq.2.2.sift fun y hy => Or.inr (N y hy)).mono (by decide) (by decide)⟩⟩
theorem main_1_1 : Claimed_1_1 := comes_1 fun _ _ _ _ _ _ h hF => ⟨h.1, hF⟩
theorem main_1_2 : Claimed_1_2 := comes_1 fun _ _ _ _ _ _ h hF => ⟨h.2.1, hF⟩

end Jvm.Pilot.@@N@@
namespace Jvm.Pilot.@@N@@
open Jvm Jvm.ClassFile Sem Op Lib Jvm.Free Jvm.Stand Jvm.Pilot.@@N@@.Jvm.D
/-! MADE BY PROGRAM (witnessworld.py) out of the Statement's table words and the real class files: 9 classes; the members and pool entries that the words name. The judged class is class 1, her method 2. -/
namespace start1
open Jvm.ClassFile
def u (s : String) : CpInfo := .utf8 (stringToUtf16 s)
/-- a pool by its gaps: so many unusable entries, then the entry; so many at the end -/
def gap : Nat → List CpInfo → List CpInfo
  | 0, r => r
  | n + 1, r => .unusable :: gap n r
def poolList (es : List (Nat × CpInfo)) (last : Nat) : List CpInfo := es.foldr (fun e r => gap e.1 (e.2 :: r)) (gap last [])
def pool (es : List (Nat × CpInfo)) (last : Nat) : Array CpInfo := ⟨poolList es last⟩
def fileOf (pool : Array CpInfo) (this : Nat) (attrs : Array Attribute := #[]) (ms : Array MethodInfo := #[]) (fl : Nat := 33) (sup : Nat := 0) (ifs : Array Nat := #[]) (fds : Array FieldInfo := #[]) : ClassFile where
  minorVersion := 0
  majorVersion := 65
  constantPool := pool
  accessFlags := fl
  thisClass := this
  superClass := sup
  interfaces := ifs
  fields := fds
  methods := ms
  attributes := attrs
def plain (name : String) (sup : Option ClassId) : Class where
  name := name
  kind := .ordinary
  loader := none
  accessFlags := 33
  super := sup
  interfaces := #[]
  cf := none
  fields := #[]
  methods := #[]
  instanceTypes := #[]
  staticTypes := #[]
  resolved := #[]
  callSites := []
  init := .initialized
  statics := none
  mirror := none

def pool0 : Array CpInfo := pool [(5, u "<init>"), (0, u "()V"), (1, .class_ 10), (1, u "java/lang/Object")] 113

def k0m0 : Method := { name := "<init>", desc := "()V", sig := { parameters := [], returnType := none }, accessFlags := 1, code := none }
/-- java/lang/Object -/
def k0 : Class := { plain "java/lang/Object" none with
  accessFlags := 33
  interfaces := #[]
  cf := some (fileOf pool0 8 #[] #[{ accessFlags := 1, nameIndex := 5, descriptorIndex := 6, attributes := #[] }] 33 0 #[] #[])
  fields := #[]
  methods := #[k0m0]
  instanceTypes := #[]
  staticTypes := #[]
  resolved := Array.replicate 124 none
  statics := none }

def pool1 : Array CpInfo := pool [(2, .class_ 4), (1, u "java/lang/Object"), (0, u "<init>"), (0, u "()V"), (0, .long 4294967295), (3, .long 2147483647), (1, .integer 2147483647), (0, .methodref 15 16), (0, .class_ 17), (0, .nameAndType 18 19), (0, u "com/example/ply4/ply4/LayerSweepMedianPinLaw"), (0, u "up"), (0, u "(IJ)I"), (0, .long 2), (1, .methodref 23 24), (0, .class_ 25), (0, .nameAndType 26 27), (0, u "com/example/ply4/ply4/LayerSweep"), (0, u "median"), (0, u "([I)D"), (3, u "law"), (0, u "(IIJJI)Z")] 4

def k1m0 : Method := { name := "<init>", desc := "()V", sig := { parameters := [], returnType := none }, accessFlags := 2, code := none }
def k1c1 : Code := { maxStack := 6, maxLocals := 5, code := method_2_code, exceptionTable := #[], attributes := #[] }
def k1m1 : Method := { name := "up", desc := "(IJ)I", sig := { parameters := [.int, .long], returnType := some .int }, accessFlags := 10, code := some k1c1 }
def k1c2 : Code := { maxStack := 4, maxLocals := 19, code := code, exceptionTable := #[], attributes := #[] }
def k1m2 : Method := { name := "law", desc := "(IIJJI)Z", sig := { parameters := [.int, .int, .long, .long, .int], returnType := some .boolean }, accessFlags := 9, code := some k1c2 }
/-- com/example/ply4/ply4/LayerSweepMedianPinLaw -/
def k1 : Class := { plain "com/example/ply4/ply4/LayerSweepMedianPinLaw" (some 0) with
  accessFlags := 49
  interfaces := #[]
  cf := some (fileOf pool1 15 #[] #[{ accessFlags := 2, nameIndex := 5, descriptorIndex := 6, attributes := #[] }, { accessFlags := 10, nameIndex := 18, descriptorIndex := 19, attributes := #[] }, { accessFlags := 9, nameIndex := 31, descriptorIndex := 32, attributes := #[] }] 49 2 #[] #[])
  fields := #[]
  methods := #[k1m0, k1m1, k1m2]
  instanceTypes := #[]
  staticTypes := #[]
  resolved := Array.replicate 37 none
  statics := none }

def pool2 : Array CpInfo := pool [(2, .class_ 4), (1, u "java/lang/Object"), (0, u "<init>"), (0, u "()V"), (10, .class_ 19), (1, u "com/example/ply4/ply4/LayerSweep"), (251, .double 4611686018427387904), (22, u "([I)D"), (0, u "median")] 63

def k2m0 : Method := { name := "<init>", desc := "()V", sig := { parameters := [], returnType := none }, accessFlags := 2, code := none }
def k2c1 : Code := { maxStack := 5, maxLocals := 1, code := prog_24_method_8_code, exceptionTable := #[], attributes := #[] }
def k2m1 : Method := { name := "median", desc := "([I)D", sig := { parameters := [(.array .int)], returnType := some .double }, accessFlags := 8, code := some k2c1 }
/-- com/example/ply4/ply4/LayerSweep -/
def k2 : Class := { plain "com/example/ply4/ply4/LayerSweep" (some 0) with
  accessFlags := 48
  interfaces := #[]
  cf := some (fileOf pool2 17 #[] #[{ accessFlags := 2, nameIndex := 5, descriptorIndex := 6, attributes := #[] }, { accessFlags := 8, nameIndex := 295, descriptorIndex := 294, attributes := #[] }] 48 2 #[] #[])
  fields := #[]
  methods := #[k2m0, k2m1]
  instanceTypes := #[]
  staticTypes := #[]
  resolved := Array.replicate 359 none
  statics := none }

def pool3 : Array CpInfo := pool [(1, u "java/lang/Cloneable"), (0, .class_ 1), (0, u "java/lang/Object"), (0, .class_ 3)] 3

/-- java/lang/Cloneable -/
def k3 : Class := { plain "java/lang/Cloneable" (some 0) with
  accessFlags := 1537
  interfaces := #[]
  cf := some (fileOf pool3 2 #[] #[] 1537 4 #[] #[])
  fields := #[]
  methods := #[]
  instanceTypes := #[]
  staticTypes := #[]
  resolved := Array.replicate 8 none
  statics := none }

def pool4 : Array CpInfo := pool [(1, u "java/io/Serializable"), (0, .class_ 1), (0, u "java/lang/Object"), (0, .class_ 3)] 3

/-- java/io/Serializable -/
def k4 : Class := { plain "java/io/Serializable" (some 0) with
  accessFlags := 1537
  interfaces := #[]
  cf := some (fileOf pool4 2 #[] #[] 1537 4 #[] #[])
  fields := #[]
  methods := #[]
  instanceTypes := #[]
  staticTypes := #[]
  resolved := Array.replicate 8 none
  statics := none }

/-- the primitive byte -/
def k5 : Class := { plain "byte" none with kind := .primitive 'B', accessFlags := 0x411 }
/-- [B -/
def k6 : Class := { plain "[B" (some 0) with kind := .array 5 .byte, interfaces := #[3, 4], accessFlags := 1041 }

/-- the primitive int -/
def k7 : Class := { plain "int" none with kind := .primitive 'I', accessFlags := 0x411 }
/-- [I -/
def k8 : Class := { plain "[I" (some 0) with kind := .array 7 .int, interfaces := #[3, 4], accessFlags := 1041 }

def heap : Heap := #[]
def classes : Array Class := #[k0, k1, k2, k3, k4, k5, k6, k7, k8]
def interned : List (Array UInt16 × Addr) := []
def slotsUsed : Nat := 0
def theMethod : MethodId := ⟨1, 2⟩
def args0 : Array Value := #[.int 3, .int 5, .long 7, .long 9, .int 2]
def aboutOver (below : List Frame) : State where
  vm := { classes := classes, interned := interned.toArray }
  heap := heap
  slotsUsed := slotsUsed
  threads := #[{ frames := .invoking theMethod args0 :: below }]
def below0 : List Frame := [.native { method := ⟨0, 0⟩, args := #[] }]
def about1 : State := aboutOver below0
def p0 : Program := .bare "" "" ""
def e0 : Env := launch0.env 0 0 0
theorem w_frames : about1.frames = Frame.invoking theMethod args0 :: below0 := rfl
set_option maxRecDepth 65536 in
theorem w_args : argsFit about1.vm theMethod args0 = true := by decide +kernel
set_option maxRecDepth 65536 in
theorem w_heap : heapFits about1 = true := by decide +kernel
set_option maxRecDepth 65536 in
theorem w_runnable : about1.curStatus? = some .runnable := by decide +kernel
set_option maxRecDepth 65536 in
theorem w_alone : about1.alone = true := by decide +kernel
set_option maxRecDepth 65536 in
theorem w_named : about1.methodNamed? x = some theMethod := by decide +kernel
set_option maxRecDepth 65536 in
theorem w_hears : about1.hears theMethod below0 = true := by decide +kernel
set_option maxRecDepth 65536 in
theorem w_ripe : about1.ripe theMethod args0 below0 = true := by decide +kernel
theorem w_running : about1.status = .running := rfl
set_option maxRecDepth 65536 in
theorem w_room : about1.hasRoom e0.platform room_1 = true :=
  launch0.hasRoom_least _ room_1 (by decide +kernel) (by decide +kernel) (by decide +kernel) (by decide +kernel) (by decide +kernel) (by decide +kernel)
theorem allAtoms_all (ts : List Jvm.Cond) (a : Array Jvm.Value) (st : Jvm.State) : (allAtoms ts).before a st = ts.all (fun c => c.before a st) := by
  induction ts with
  | nil => rfl
  | cons c t ih =>
    show (Jvm.Cond.and c (allAtoms t)).before a st = _
    rw [Jvm.Cond.before_and, ih, List.all_cons]
def words1 : List Jvm.Cond := Jvm.Cond.code x code maxLocals ret :: tables_1
/-- a 'code' word, met by the world's own term for the bytes: nothing is compared byte by byte -/
theorem code_word {y : MethodName} {bytes : ByteArray} {mx : Nat} {rt : Option FieldType} {a : Array Value} {s : State} {m : MethodId} {meth : Method} {c : Code} (h1 : s.methodNamed? y = some m) (h2 : s.vm.method? m = some meth) (h3 : meth.code = some c) (h4 : c.code = bytes)
    (h5 : (c.maxLocals == mx && c.exceptionTable.isEmpty && decide (c.maxStack ≤ mostOperands) && decide (meth.sig.returnType = rt) && !meth.locks && decide (parseMethodDescriptor y.desc = some meth.sig)) = true) : (Jvm.Cond.code y bytes mx rt).before a s = true := by
  simp only [Bool.and_eq_true, beq_iff_eq, Bool.not_eq_true', decide_eq_true_eq] at h5
  obtain ⟨⟨⟨⟨⟨g1, g2⟩, g3⟩, g4⟩, g5⟩, g6⟩ := h5
  simp [Cond.before, Cond.holds, Cond.value, h1, h2, h3, h4, g1, g2, g3, g4, g5, g6]
def isCode : Jvm.Cond → Bool
  | .code _ _ _ _ => true
  | _ => false
theorem all_split {L : List Jvm.Cond} {P : Jvm.Cond → Bool} (h1 : L.all (fun c => isCode c || P c) = true) (h2 : ∀ c ∈ L.filter isCode, P c = true) : L.all P = true := by
  refine List.all_eq_true.mpr fun c hc => ?_
  have h := List.all_eq_true.mp h1 c hc
  rcases Bool.eq_false_or_eq_true (isCode c) with hi | hi
  · exact h2 c (List.mem_filter.mpr ⟨hc, hi⟩)
  · simpa [hi] using h
set_option maxRecDepth 65536 in
theorem w_c0 : (Jvm.Cond.code x code maxLocals ret).before args0 about1 = true := code_word (m := ⟨1, 2⟩) (meth := k1m2) (c := k1c2) (by decide +kernel) rfl rfl rfl (by decide +kernel)
set_option maxRecDepth 65536 in
theorem w_c1 : (Jvm.Cond.code ({ cls := "com/example/ply4/ply4/LayerSweepMedianPinLaw", name := "up", desc := "(IJ)I" } : Jvm.MethodName) method_2_code (5 : Nat) (Option.some Jvm.ClassFile.FieldType.int)).before args0 about1 = true := code_word (m := ⟨1, 1⟩) (meth := k1m1) (c := k1c1) (by decide +kernel) rfl rfl rfl (by decide +kernel)
set_option maxRecDepth 65536 in
theorem w_c2 : (Jvm.Cond.code ({ cls := "com/example/ply4/ply4/LayerSweep", name := "median", desc := "([I)D" } : Jvm.MethodName) prog_24_method_8_code (1 : Nat) (Option.some Jvm.ClassFile.FieldType.double)).before args0 about1 = true := code_word (m := ⟨2, 1⟩) (meth := k2m1) (c := k2c1) (by decide +kernel) rfl rfl rfl (by decide +kernel)
def codes1 : List Jvm.Cond := [Jvm.Cond.code x code maxLocals ret, Jvm.Cond.code ({ cls := "com/example/ply4/ply4/LayerSweepMedianPinLaw", name := "up", desc := "(IJ)I" } : Jvm.MethodName) method_2_code (5 : Nat) (Option.some Jvm.ClassFile.FieldType.int), Jvm.Cond.code ({ cls := "com/example/ply4/ply4/LayerSweep", name := "median", desc := "([I)D" } : Jvm.MethodName) prog_24_method_8_code (1 : Nat) (Option.some Jvm.ClassFile.FieldType.double)]
set_option maxRecDepth 65536 in
theorem codes_eq : words1.filter isCode = codes1 := rfl
theorem w_codes : ∀ c ∈ words1.filter isCode, c.before args0 about1 = true := by
  rw [codes_eq]
  intro c hc
  simp only [codes1, List.mem_cons, List.not_mem_nil, or_false] at hc
  rcases hc with rfl | rfl | rfl
  · exact w_c0
  · exact w_c1
  · exact w_c2
set_option maxRecDepth 65536 in
theorem w_t1 : words1.all (fun c => isCode c || c.before args0 about1) = true := by decide +kernel
theorem w_tables : (allAtoms (Jvm.Cond.code x code maxLocals ret :: tables_1)).before args0 about1 = true := by
  rw [allAtoms_all]
  show words1.all (fun c => c.before args0 about1) = true
  refine all_split ?_ w_codes
  rw [w_t1]
set_option maxRecDepth 65536 in
theorem w_case : (Jvm.Cond.and given_1 narrow_1).before args0 about1 = true := by decide +kernel
theorem w_applies : (headSpec (Jvm.Cond.code x code maxLocals ret :: tables_1) room_1).applies x e0.platform about1 = true :=
  (Spec.applies_iff w_frames).mpr ⟨w_running, w_runnable, w_alone, w_named, w_hears, w_ripe, w_room, w_tables⟩
theorem atStart : AtStart classFile x code maxLocals ret World_1 tables_1 room_1 Calls_1 rest_1 Pre_1 launch0 p0 e0 about1 theMethod args0 below0 :=
  ⟨lists_1, trivial, launch0.admits_env _ _ _, launch0.least_env, fairChoices_fair.cas, fairChoices_fair.clock, w_frames, w_args, w_heap, w_applies, trivial, trivial, w_case⟩
end start1
theorem witness_1 : WitnessClaimed_1 := ⟨start1.p0, start1.e0, start1.about1, start1.theMethod, start1.args0, start1.below0, start1.atStart⟩
end Jvm.Pilot.@@N@@
