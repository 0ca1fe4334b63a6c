import JvmDerived
import JvmDerived.Pilot.@@N@@Statement
import JvmDerived.Pilot.@@N@@Code
set_option linter.unusedVariables false
set_option linter.unusedSimpArgs false
namespace Jvm.Pilot.@@N@@
open Jvm Jvm.ClassFile Sem Op Lib Jvm.Free Jvm.Stand Jvm.LawKit Jvm.RoadKit Bundle Jvm.Pilot.@@N@@.Jvm.D

section OwnWalk
variable {p : Program} {l : Launch} {e : Env} {R : Room} {s : State} {m : MethodId} {args : Array Value} {below : List Frame} {meth : Method} {c : Code} {T : State} {locs : List Loc} {cells slots : Nat} {Z : State} {h : Heap} {Q : Option Value → Heap → List Loc → Prop} {ce sl : Nat} {pc q q' : Nat} {ls : Array Slot} {st : List Value} {a0 : Array Value}
/-- the rest of a body's run, from the frame g on -/
def Go (p : Program) (e : Env) (below : List Frame) (s : State) (Q : Option Value → Heap → List Loc → Prop) (ce sl : Nat) (T : State) (g : JFrame) : Prop :=
  ∃ s₂ o, Steps p.tables e below (T.setTop g) s₂ ∧ s₂.status = .running ∧ Ended s₂ below o ∧ ∃ v L, o = .returned v ∧ Q v s₂.heap L ∧ FrameEnd s o s₂ L ce sl
theorem Go.to {T' : State} {g g' : JFrame} (k : Go p e below s Q ce sl T' g') (f : ∀ t, Steps p.tables e below (T'.setTop g') t → Steps p.tables e below (T.setTop g) t) : Go p e below s Q ce sl T g := by
  obtain ⟨s2, o, h1, r⟩ := k
  exact ⟨s2, o, f _ h1, r⟩
theorem Go.cast {g g' : JFrame} (w : g = g') (k : Go p e below s Q ce sl T g') : Go p e below s Q ce sl T g := w ▸ k
/-- a body's contract: from these arguments, over this heap, it returns with Q -/
abbrev Con (l : Launch) (y : MethodName) (bytes : ByteArray) (maxL : Nat) (ret : Option FieldType) (ws : List Jvm.Cond) (rm : Room) (Z : State) (as' : Array Value) (h : Heap) (Q : Option Value → Heap → List Loc → Prop) : Prop :=
  MetFree l y (head1 (Jvm.Cond.code y bytes maxL ret :: ws) rm) (fun a U => a = as' ∧ Z.Warmed39 U.vm ∧ U.heap = h) (fun _ _ _ _ _ => True) (fun _ U o U' => ∃ v L, o = .returned v ∧ Q v U'.heap L ∧ FrameEnd U o U' L rm.cells rm.slots)
theorem con_of {y : MethodName} {bytes : ByteArray} {maxL : Nat} {ret : Option FieldType} {ws : List Jvm.Cond} {rm : Room} {as' : Array Value} (hpl : plainFor y = true)
    (body : ∀ (p : Program) (e : Env) (s : State) (m : MethodId) (below : List Frame) (meth : Method) (c : Code) (s₁ : State), Stand p l e rm s m as' below meth c s₁ [] 0 0 → p.tables.exec = Jvm.exec → c.code = bytes → c.maxLocals = maxL → meth.sig.returnType = ret → meth.locks = false → s.vm.findClass y.cls = some m.cls → meth.name = y.name → Z.Warmed39 s.vm → s₁.heap = h → Go p e below s Q rm.cells rm.slots s₁ (entryFrame m as' maxL)) :
    Con l y bytes maxL ret ws rm Z as' h Q := by
  refine MetFree.of_bodySF hpl hisR ?_
  intro p e s m args below meth c s₁ Bd hml0 hP hK
  obtain ⟨rfl, hZ, hh⟩ := hP
  exact body p e s m below meth c s₁ (Stand.of_body Bd) Bd.exec Bd.bytes hml0 Bd.returns Bd.notSynchronized (findClass_of_methodNamed Bd.named) (name_of_methodNamed Bd.named Bd.method).1 hZ (by rw [← hh, Bd.state]; rfl)
theorem go_iload (X : Stand p l e R s m args below meth c T locs cells slots) (hx : p.tables.exec = Jvm.exec) {k : Nat} {v : Int32} (hd : decode c.code pc = .ok (.iload k, 2)) (hp : pc + 2 = q) (hl : ls[k]? = some (.val (.int v))) (K : Go p e below s Q ce sl T (mkF m q ls (.int v :: st))) : Go p e below s Q ce sl T (mkF m pc ls st) := by
  subst hp
  exact K.to fun _ r => XS.iload X.here hx rfl hd hl r
theorem go_iloadN (X : Stand p l e R s m args below meth c T locs cells slots) (hx : p.tables.exec = Jvm.exec) {k : Fin 4} {v : Int32} (hd : decode c.code pc = .ok (.iload_n k, 1)) (hp : pc + 1 = q) (hl : ls[k.val]? = some (.val (.int v))) (K : Go p e below s Q ce sl T (mkF m q ls (.int v :: st))) : Go p e below s Q ce sl T (mkF m pc ls st) := by
  subst hp
  exact K.to fun _ r => XS.iloadN X.here hx rfl hd hl r
theorem go_istore (X : Stand p l e R s m args below meth c T locs cells slots) (hx : p.tables.exec = Jvm.exec) {k : Nat} {v : Int32} {l' : Array Slot} (hd : decode c.code pc = .ok (.istore k, 2)) (hp : pc + 2 = q) (hl : storeLocals ls k (.int v) = some l') (K : Go p e below s Q ce sl T (mkF m q l' st)) : Go p e below s Q ce sl T (mkF m pc ls (.int v :: st)) := by
  subst hp
  exact K.to fun _ r => XS.istore X.here hx rfl hd rfl hl r
theorem go_istoreN (X : Stand p l e R s m args below meth c T locs cells slots) (hx : p.tables.exec = Jvm.exec) {k : Fin 4} {v : Int32} {l' : Array Slot} (hd : decode c.code pc = .ok (.istore_n k, 1)) (hp : pc + 1 = q) (hl : storeLocals ls k.val (.int v) = some l') (K : Go p e below s Q ce sl T (mkF m q l' st)) : Go p e below s Q ce sl T (mkF m pc ls (.int v :: st)) := by
  subst hp
  exact K.to fun _ r => XS.istoreN X.here hx rfl hd rfl hl r
theorem go_lload (X : Stand p l e R s m args below meth c T locs cells slots) (hx : p.tables.exec = Jvm.exec) {k : Nat} {v : Int64} (hd : decode c.code pc = .ok (.lload k, 2)) (hp : pc + 2 = q) (hl : ls[k]? = some (.val (.long v))) (K : Go p e below s Q ce sl T (mkF m q ls (.long v :: st))) : Go p e below s Q ce sl T (mkF m pc ls st) := by
  subst hp
  exact K.to fun _ r => XS.lload X.here hx rfl hd hl r
theorem go_lloadN (X : Stand p l e R s m args below meth c T locs cells slots) (hx : p.tables.exec = Jvm.exec) {k : Fin 4} {v : Int64} (hd : decode c.code pc = .ok (.lload_n k, 1)) (hp : pc + 1 = q) (hl : ls[k.val]? = some (.val (.long v))) (K : Go p e below s Q ce sl T (mkF m q ls (.long v :: st))) : Go p e below s Q ce sl T (mkF m pc ls st) := by
  subst hp
  exact K.to fun _ r => XS.lloadN X.here hx rfl hd hl r
theorem go_lstore (X : Stand p l e R s m args below meth c T locs cells slots) (hx : p.tables.exec = Jvm.exec) {k : Nat} {v : Int64} {l' : Array Slot} (hd : decode c.code pc = .ok (.lstore k, 2)) (hp : pc + 2 = q) (hl : storeLocals ls k (.long v) = some l') (K : Go p e below s Q ce sl T (mkF m q l' st)) : Go p e below s Q ce sl T (mkF m pc ls (.long v :: st)) := by
  subst hp
  exact K.to fun _ r => XS.lstore X.here hx rfl hd rfl hl r
theorem go_lstoreN (X : Stand p l e R s m args below meth c T locs cells slots) (hx : p.tables.exec = Jvm.exec) {k : Fin 4} {v : Int64} {l' : Array Slot} (hd : decode c.code pc = .ok (.lstore_n k, 1)) (hp : pc + 1 = q) (hl : storeLocals ls k.val (.long v) = some l') (K : Go p e below s Q ce sl T (mkF m q l' st)) : Go p e below s Q ce sl T (mkF m pc ls (.long v :: st)) := by
  subst hp
  exact K.to fun _ r => XS.lstoreN X.here hx rfl hd rfl hl r
theorem go_dload (X : Stand p l e R s m args below meth c T locs cells slots) (hx : p.tables.exec = Jvm.exec) {k : Nat} {v : UInt64} (hd : decode c.code pc = .ok (.dload k, 2)) (hp : pc + 2 = q) (hl : ls[k]? = some (.val (.double v))) (K : Go p e below s Q ce sl T (mkF m q ls (.double v :: st))) : Go p e below s Q ce sl T (mkF m pc ls st) := by
  subst hp
  exact K.to fun _ r => XS.dload X.here hx rfl hd hl r
theorem go_dloadN (X : Stand p l e R s m args below meth c T locs cells slots) (hx : p.tables.exec = Jvm.exec) {k : Fin 4} {v : UInt64} (hd : decode c.code pc = .ok (.dload_n k, 1)) (hp : pc + 1 = q) (hl : ls[k.val]? = some (.val (.double v))) (K : Go p e below s Q ce sl T (mkF m q ls (.double v :: st))) : Go p e below s Q ce sl T (mkF m pc ls st) := by
  subst hp
  exact K.to fun _ r => XS.dloadN X.here hx rfl hd hl r
theorem go_dstore (X : Stand p l e R s m args below meth c T locs cells slots) (hx : p.tables.exec = Jvm.exec) {k : Nat} {v : UInt64} {l' : Array Slot} (hd : decode c.code pc = .ok (.dstore k, 2)) (hp : pc + 2 = q) (hl : storeLocals ls k (.double v) = some l') (K : Go p e below s Q ce sl T (mkF m q l' st)) : Go p e below s Q ce sl T (mkF m pc ls (.double v :: st)) := by
  subst hp
  exact K.to fun _ r => XS.dstore X.here hx rfl hd rfl hl r
theorem go_dstoreN (X : Stand p l e R s m args below meth c T locs cells slots) (hx : p.tables.exec = Jvm.exec) {k : Fin 4} {v : UInt64} {l' : Array Slot} (hd : decode c.code pc = .ok (.dstore_n k, 1)) (hp : pc + 1 = q) (hl : storeLocals ls k.val (.double v) = some l') (K : Go p e below s Q ce sl T (mkF m q l' st)) : Go p e below s Q ce sl T (mkF m pc ls (.double v :: st)) := by
  subst hp
  exact K.to fun _ r => XS.dstoreN X.here hx rfl hd rfl hl r
theorem go_fload (X : Stand p l e R s m args below meth c T locs cells slots) (hx : p.tables.exec = Jvm.exec) {k : Nat} {v : UInt32} (hd : decode c.code pc = .ok (.fload k, 2)) (hp : pc + 2 = q) (hl : ls[k]? = some (.val (.float v))) (K : Go p e below s Q ce sl T (mkF m q ls (.float v :: st))) : Go p e below s Q ce sl T (mkF m pc ls st) := by
  subst hp
  exact K.to fun _ r => XS.fload X.here hx rfl hd hl r
theorem go_floadN (X : Stand p l e R s m args below meth c T locs cells slots) (hx : p.tables.exec = Jvm.exec) {k : Fin 4} {v : UInt32} (hd : decode c.code pc = .ok (.fload_n k, 1)) (hp : pc + 1 = q) (hl : ls[k.val]? = some (.val (.float v))) (K : Go p e below s Q ce sl T (mkF m q ls (.float v :: st))) : Go p e below s Q ce sl T (mkF m pc ls st) := by
  subst hp
  exact K.to fun _ r => XS.floadN X.here hx rfl hd hl r
theorem go_fstore (X : Stand p l e R s m args below meth c T locs cells slots) (hx : p.tables.exec = Jvm.exec) {k : Nat} {v : UInt32} {l' : Array Slot} (hd : decode c.code pc = .ok (.fstore k, 2)) (hp : pc + 2 = q) (hl : storeLocals ls k (.float v) = some l') (K : Go p e below s Q ce sl T (mkF m q l' st)) : Go p e below s Q ce sl T (mkF m pc ls (.float v :: st)) := by
  subst hp
  exact K.to fun _ r => XS.fstore X.here hx rfl hd rfl hl r
theorem go_fstoreN (X : Stand p l e R s m args below meth c T locs cells slots) (hx : p.tables.exec = Jvm.exec) {k : Fin 4} {v : UInt32} {l' : Array Slot} (hd : decode c.code pc = .ok (.fstore_n k, 1)) (hp : pc + 1 = q) (hl : storeLocals ls k.val (.float v) = some l') (K : Go p e below s Q ce sl T (mkF m q l' st)) : Go p e below s Q ce sl T (mkF m pc ls (.float v :: st)) := by
  subst hp
  exact K.to fun _ r => XS.fstoreN X.here hx rfl hd rfl hl r
theorem go_aload (X : Stand p l e R s m args below meth c T locs cells slots) (hx : p.tables.exec = Jvm.exec) {k : Nat} {v : Value} (hd : decode c.code pc = .ok (.aload k, 2)) (hp : pc + 2 = q) (hl : ls[k]? = some (.val v)) (hv : v.isRef = true) (K : Go p e below s Q ce sl T (mkF m q ls (v :: st))) : Go p e below s Q ce sl T (mkF m pc ls st) := by
  subst hp
  exact K.to fun _ r => XS.aload X.here hx rfl hd hl hv r
theorem go_aloadN (X : Stand p l e R s m args below meth c T locs cells slots) (hx : p.tables.exec = Jvm.exec) {k : Fin 4} {v : Value} (hd : decode c.code pc = .ok (.aload_n k, 1)) (hp : pc + 1 = q) (hl : ls[k.val]? = some (.val v)) (hv : v.isRef = true) (K : Go p e below s Q ce sl T (mkF m q ls (v :: st))) : Go p e below s Q ce sl T (mkF m pc ls st) := by
  subst hp
  exact K.to fun _ r => XS.aloadN X.here hx rfl hd hl hv r
theorem go_astore (X : Stand p l e R s m args below meth c T locs cells slots) (hx : p.tables.exec = Jvm.exec) {k : Nat} {v : Value} {l' : Array Slot} (hd : decode c.code pc = .ok (.astore k, 2)) (hp : pc + 2 = q) (hv : v.isRef = true) (hl : storeLocals ls k v = some l') (K : Go p e below s Q ce sl T (mkF m q l' st)) : Go p e below s Q ce sl T (mkF m pc ls (v :: st)) := by
  subst hp
  exact K.to fun _ r => XS.astore X.here hx rfl hd rfl hv hl r
theorem go_astoreN (X : Stand p l e R s m args below meth c T locs cells slots) (hx : p.tables.exec = Jvm.exec) {k : Fin 4} {v : Value} {l' : Array Slot} (hd : decode c.code pc = .ok (.astore_n k, 1)) (hp : pc + 1 = q) (hv : v.isRef = true) (hl : storeLocals ls k.val v = some l') (K : Go p e below s Q ce sl T (mkF m q l' st)) : Go p e below s Q ce sl T (mkF m pc ls (v :: st)) := by
  subst hp
  exact K.to fun _ r => XS.astoreN X.here hx rfl hd rfl hv hl r
theorem go_iconst (X : Stand p l e R s m args below meth c T locs cells slots) (hx : p.tables.exec = Jvm.exec) {i : Int} {v : Int32} (hd : decode c.code pc = .ok (.iconst i, 1)) (hp : pc + 1 = q) (hv : Int32.ofInt i = v) (K : Go p e below s Q ce sl T (mkF m q ls (.int v :: st))) : Go p e below s Q ce sl T (mkF m pc ls st) := by
  subst hp
  exact K.to fun _ r => XS.iconst X.here hx rfl hd (hv ▸ r)
theorem go_bipush (X : Stand p l e R s m args below meth c T locs cells slots) (hx : p.tables.exec = Jvm.exec) {i : Int} {v : Int32} (hd : decode c.code pc = .ok (.bipush i, 2)) (hp : pc + 2 = q) (hv : (Int8.ofInt i).toInt32 = v) (K : Go p e below s Q ce sl T (mkF m q ls (.int v :: st))) : Go p e below s Q ce sl T (mkF m pc ls st) := by
  subst hp
  exact K.to fun _ r => XS.bipush X.here hx rfl hd (hv ▸ r)
theorem go_sipush (X : Stand p l e R s m args below meth c T locs cells slots) (hx : p.tables.exec = Jvm.exec) {i : Int} {v : Int32} (hd : decode c.code pc = .ok (.sipush i, 3)) (hp : pc + 3 = q) (hv : (Int16.ofInt i).toInt32 = v) (K : Go p e below s Q ce sl T (mkF m q ls (.int v :: st))) : Go p e below s Q ce sl T (mkF m pc ls st) := by
  subst hp
  exact K.to fun _ r => XS.sipush X.here hx rfl hd (hv ▸ r)
theorem go_lconst (X : Stand p l e R s m args below meth c T locs cells slots) (hx : p.tables.exec = Jvm.exec) {k : Fin 2} {v : Int64} (hd : decode c.code pc = .ok (.lconst k, 1)) (hp : pc + 1 = q) (hv : Int64.ofNat k = v) (K : Go p e below s Q ce sl T (mkF m q ls (.long v :: st))) : Go p e below s Q ce sl T (mkF m pc ls st) := by
  subst hp
  exact K.to fun _ r => XS.lconst X.here hx rfl hd (hv ▸ r)
theorem go_aconstNull (X : Stand p l e R s m args below meth c T locs cells slots) (hx : p.tables.exec = Jvm.exec)  (hd : decode c.code pc = .ok (.aconst_null, 1)) (hp : pc + 1 = q)  (K : Go p e below s Q ce sl T (mkF m q ls (.null :: st))) : Go p e below s Q ce sl T (mkF m pc ls st) := by
  subst hp
  exact K.to fun _ r => XS.aconstNull X.here hx rfl hd r
theorem go_dconst0 (X : Stand p l e R s m args below meth c T locs cells slots) (hx : p.tables.exec = Jvm.exec) {v : UInt64} (hd : decode c.code pc = .ok (.dconst 0, 1)) (hp : pc + 1 = q) (hv : FP.dconst0 = v) (K : Go p e below s Q ce sl T (mkF m q ls (.double v :: st))) : Go p e below s Q ce sl T (mkF m pc ls st) := by
  subst hp
  exact K.to fun _ r => XS.dconst0 X.here hx rfl hd hv r
theorem go_dconst1 (X : Stand p l e R s m args below meth c T locs cells slots) (hx : p.tables.exec = Jvm.exec) {v : UInt64} (hd : decode c.code pc = .ok (.dconst 1, 1)) (hp : pc + 1 = q) (hv : FP.dconst1 = v) (K : Go p e below s Q ce sl T (mkF m q ls (.double v :: st))) : Go p e below s Q ce sl T (mkF m pc ls st) := by
  subst hp
  exact K.to fun _ r => XS.dconst1 X.here hx rfl hd hv r
theorem go_iadd (X : Stand p l e R s m args below meth c T locs cells slots) (hx : p.tables.exec = Jvm.exec) {x y v : Int32} (hd : decode c.code pc = .ok (.iadd, 1)) (hp : pc + 1 = q) (hv : x + y = v) (K : Go p e below s Q ce sl T (mkF m q ls (.int v :: st))) : Go p e below s Q ce sl T (mkF m pc ls (.int y :: .int x :: st)) := by
  subst hp
  exact K.to fun _ r => XS.iadd X.here hx rfl hd rfl (hv ▸ r)
theorem go_isub (X : Stand p l e R s m args below meth c T locs cells slots) (hx : p.tables.exec = Jvm.exec) {x y v : Int32} (hd : decode c.code pc = .ok (.isub, 1)) (hp : pc + 1 = q) (hv : x - y = v) (K : Go p e below s Q ce sl T (mkF m q ls (.int v :: st))) : Go p e below s Q ce sl T (mkF m pc ls (.int y :: .int x :: st)) := by
  subst hp
  exact K.to fun _ r => XS.isub X.here hx rfl hd rfl (hv ▸ r)
theorem go_imul (X : Stand p l e R s m args below meth c T locs cells slots) (hx : p.tables.exec = Jvm.exec) {x y v : Int32} (hd : decode c.code pc = .ok (.imul, 1)) (hp : pc + 1 = q) (hv : x * y = v) (K : Go p e below s Q ce sl T (mkF m q ls (.int v :: st))) : Go p e below s Q ce sl T (mkF m pc ls (.int y :: .int x :: st)) := by
  subst hp
  exact K.to fun _ r => XS.imul X.here hx rfl hd rfl (hv ▸ r)
theorem go_iand (X : Stand p l e R s m args below meth c T locs cells slots) (hx : p.tables.exec = Jvm.exec) {x y v : Int32} (hd : decode c.code pc = .ok (.iand, 1)) (hp : pc + 1 = q) (hv : x &&& y = v) (K : Go p e below s Q ce sl T (mkF m q ls (.int v :: st))) : Go p e below s Q ce sl T (mkF m pc ls (.int y :: .int x :: st)) := by
  subst hp
  exact K.to fun _ r => XS.iand X.here hx rfl hd rfl (hv ▸ r)
theorem go_ior (X : Stand p l e R s m args below meth c T locs cells slots) (hx : p.tables.exec = Jvm.exec) {x y v : Int32} (hd : decode c.code pc = .ok (.ior, 1)) (hp : pc + 1 = q) (hv : x ||| y = v) (K : Go p e below s Q ce sl T (mkF m q ls (.int v :: st))) : Go p e below s Q ce sl T (mkF m pc ls (.int y :: .int x :: st)) := by
  subst hp
  exact K.to fun _ r => XS.ior X.here hx rfl hd rfl (hv ▸ r)
theorem go_ixor (X : Stand p l e R s m args below meth c T locs cells slots) (hx : p.tables.exec = Jvm.exec) {x y v : Int32} (hd : decode c.code pc = .ok (.ixor, 1)) (hp : pc + 1 = q) (hv : x ^^^ y = v) (K : Go p e below s Q ce sl T (mkF m q ls (.int v :: st))) : Go p e below s Q ce sl T (mkF m pc ls (.int y :: .int x :: st)) := by
  subst hp
  exact K.to fun _ r => XS.ixor X.here hx rfl hd rfl (hv ▸ r)
theorem go_ineg (X : Stand p l e R s m args below meth c T locs cells slots) (hx : p.tables.exec = Jvm.exec) {x v : Int32} (hd : decode c.code pc = .ok (.ineg, 1)) (hp : pc + 1 = q) (hv : -x = v) (K : Go p e below s Q ce sl T (mkF m q ls (.int v :: st))) : Go p e below s Q ce sl T (mkF m pc ls (.int x :: st)) := by
  subst hp
  exact K.to fun _ r => XS.ineg X.here hx rfl hd rfl (hv ▸ r)
theorem go_idiv (X : Stand p l e R s m args below meth c T locs cells slots) (hx : p.tables.exec = Jvm.exec) {x y v : Int32} (hd : decode c.code pc = .ok (.idiv, 1)) (hp : pc + 1 = q) (hy : y ≠ 0) (hv : x / y = v) (K : Go p e below s Q ce sl T (mkF m q ls (.int v :: st))) : Go p e below s Q ce sl T (mkF m pc ls (.int y :: .int x :: st)) := by
  subst hp
  exact K.to fun _ r => XS.idiv X.here hx rfl hd rfl hy (hv ▸ r)
theorem go_ladd (X : Stand p l e R s m args below meth c T locs cells slots) (hx : p.tables.exec = Jvm.exec) {x y v : Int64} (hd : decode c.code pc = .ok (.ladd, 1)) (hp : pc + 1 = q) (hv : x + y = v) (K : Go p e below s Q ce sl T (mkF m q ls (.long v :: st))) : Go p e below s Q ce sl T (mkF m pc ls (.long y :: .long x :: st)) := by
  subst hp
  exact K.to fun _ r => XS.ladd X.here hx rfl hd rfl (hv ▸ r)
theorem go_lsub (X : Stand p l e R s m args below meth c T locs cells slots) (hx : p.tables.exec = Jvm.exec) {x y v : Int64} (hd : decode c.code pc = .ok (.lsub, 1)) (hp : pc + 1 = q) (hv : x - y = v) (K : Go p e below s Q ce sl T (mkF m q ls (.long v :: st))) : Go p e below s Q ce sl T (mkF m pc ls (.long y :: .long x :: st)) := by
  subst hp
  exact K.to fun _ r => XS.lsub X.here hx rfl hd rfl (hv ▸ r)
theorem go_lmul (X : Stand p l e R s m args below meth c T locs cells slots) (hx : p.tables.exec = Jvm.exec) {x y v : Int64} (hd : decode c.code pc = .ok (.lmul, 1)) (hp : pc + 1 = q) (hv : x * y = v) (K : Go p e below s Q ce sl T (mkF m q ls (.long v :: st))) : Go p e below s Q ce sl T (mkF m pc ls (.long y :: .long x :: st)) := by
  subst hp
  exact K.to fun _ r => XS.lmul X.here hx rfl hd rfl (hv ▸ r)
theorem go_land (X : Stand p l e R s m args below meth c T locs cells slots) (hx : p.tables.exec = Jvm.exec) {x y v : Int64} (hd : decode c.code pc = .ok (.land, 1)) (hp : pc + 1 = q) (hv : x &&& y = v) (K : Go p e below s Q ce sl T (mkF m q ls (.long v :: st))) : Go p e below s Q ce sl T (mkF m pc ls (.long y :: .long x :: st)) := by
  subst hp
  exact K.to fun _ r => XS.land X.here hx rfl hd rfl (hv ▸ r)
theorem go_lor (X : Stand p l e R s m args below meth c T locs cells slots) (hx : p.tables.exec = Jvm.exec) {x y v : Int64} (hd : decode c.code pc = .ok (.lor, 1)) (hp : pc + 1 = q) (hv : x ||| y = v) (K : Go p e below s Q ce sl T (mkF m q ls (.long v :: st))) : Go p e below s Q ce sl T (mkF m pc ls (.long y :: .long x :: st)) := by
  subst hp
  exact K.to fun _ r => XS.lor X.here hx rfl hd rfl (hv ▸ r)
theorem go_lxor (X : Stand p l e R s m args below meth c T locs cells slots) (hx : p.tables.exec = Jvm.exec) {x y v : Int64} (hd : decode c.code pc = .ok (.lxor, 1)) (hp : pc + 1 = q) (hv : x ^^^ y = v) (K : Go p e below s Q ce sl T (mkF m q ls (.long v :: st))) : Go p e below s Q ce sl T (mkF m pc ls (.long y :: .long x :: st)) := by
  subst hp
  exact K.to fun _ r => XS.lxor X.here hx rfl hd rfl (hv ▸ r)
theorem go_lneg (X : Stand p l e R s m args below meth c T locs cells slots) (hx : p.tables.exec = Jvm.exec) {x v : Int64} (hd : decode c.code pc = .ok (.lneg, 1)) (hp : pc + 1 = q) (hv : -x = v) (K : Go p e below s Q ce sl T (mkF m q ls (.long v :: st))) : Go p e below s Q ce sl T (mkF m pc ls (.long x :: st)) := by
  subst hp
  exact K.to fun _ r => XS.lneg X.here hx rfl hd rfl (hv ▸ r)
theorem go_ldiv (X : Stand p l e R s m args below meth c T locs cells slots) (hx : p.tables.exec = Jvm.exec) {x y v : Int64} (hd : decode c.code pc = .ok (.ldiv, 1)) (hp : pc + 1 = q) (hy : y ≠ 0) (hv : x / y = v) (K : Go p e below s Q ce sl T (mkF m q ls (.long v :: st))) : Go p e below s Q ce sl T (mkF m pc ls (.long y :: .long x :: st)) := by
  subst hp
  exact K.to fun _ r => XS.ldiv X.here hx rfl hd rfl hy (hv ▸ r)
theorem go_irem (X : Stand p l e R s m args below meth c T locs cells slots) (hx : p.tables.exec = Jvm.exec) {x y v : Int32} (hd : decode c.code pc = .ok (.irem, 1)) (hp : pc + 1 = q) (hy : y ≠ 0) (hv : x % y = v) (K : Go p e below s Q ce sl T (mkF m q ls (.int v :: st))) : Go p e below s Q ce sl T (mkF m pc ls (.int y :: .int x :: st)) := by
  subst hp
  exact K.to fun _ r => iremM X hx rfl hd rfl hy (hv ▸ r)
theorem go_lrem (X : Stand p l e R s m args below meth c T locs cells slots) (hx : p.tables.exec = Jvm.exec) {x y v : Int64} (hd : decode c.code pc = .ok (.lrem, 1)) (hp : pc + 1 = q) (hy : y ≠ 0) (hv : x % y = v) (K : Go p e below s Q ce sl T (mkF m q ls (.long v :: st))) : Go p e below s Q ce sl T (mkF m pc ls (.long y :: .long x :: st)) := by
  subst hp
  exact K.to fun _ r => XS.lrem X.here hx rfl hd rfl hy ((lrem_mod x y).symm ▸ hv ▸ r)
theorem go_ishl (X : Stand p l e R s m args below meth c T locs cells slots) (hx : p.tables.exec = Jvm.exec) {x v : Int32} {y : Int32} (hd : decode c.code pc = .ok (.ishl, 1)) (hp : pc + 1 = q) (hv : (x <<< (y &&& 31)) = v) (K : Go p e below s Q ce sl T (mkF m q ls (.int v :: st))) : Go p e below s Q ce sl T (mkF m pc ls (.int y :: .int x :: st)) := by
  subst hp
  exact K.to fun _ r => XS.ishl X.here hx rfl hd rfl (hv ▸ r)
theorem go_ishr (X : Stand p l e R s m args below meth c T locs cells slots) (hx : p.tables.exec = Jvm.exec) {x v : Int32} {y : Int32} (hd : decode c.code pc = .ok (.ishr, 1)) (hp : pc + 1 = q) (hv : (x >>> (y &&& 31)) = v) (K : Go p e below s Q ce sl T (mkF m q ls (.int v :: st))) : Go p e below s Q ce sl T (mkF m pc ls (.int y :: .int x :: st)) := by
  subst hp
  exact K.to fun _ r => XS.ishr X.here hx rfl hd rfl (hv ▸ r)
theorem go_iushr (X : Stand p l e R s m args below meth c T locs cells slots) (hx : p.tables.exec = Jvm.exec) {x v : Int32} {y : Int32} (hd : decode c.code pc = .ok (.iushr, 1)) (hp : pc + 1 = q) (hv : ((x.toUInt32 >>> (y &&& 31).toUInt32).toInt32) = v) (K : Go p e below s Q ce sl T (mkF m q ls (.int v :: st))) : Go p e below s Q ce sl T (mkF m pc ls (.int y :: .int x :: st)) := by
  subst hp
  exact K.to fun _ r => XS.iushr X.here hx rfl hd rfl (hv ▸ r)
theorem go_lshl (X : Stand p l e R s m args below meth c T locs cells slots) (hx : p.tables.exec = Jvm.exec) {x v : Int64} {y : Int32} (hd : decode c.code pc = .ok (.lshl, 1)) (hp : pc + 1 = q) (hv : (x <<< (y &&& 0x3f).toInt64) = v) (K : Go p e below s Q ce sl T (mkF m q ls (.long v :: st))) : Go p e below s Q ce sl T (mkF m pc ls (.int y :: .long x :: st)) := by
  subst hp
  exact K.to fun _ r => XS.lshl X.here hx rfl hd rfl (hv ▸ r)
theorem go_lshr (X : Stand p l e R s m args below meth c T locs cells slots) (hx : p.tables.exec = Jvm.exec) {x v : Int64} {y : Int32} (hd : decode c.code pc = .ok (.lshr, 1)) (hp : pc + 1 = q) (hv : (x >>> (y &&& 0x3f).toInt64) = v) (K : Go p e below s Q ce sl T (mkF m q ls (.long v :: st))) : Go p e below s Q ce sl T (mkF m pc ls (.int y :: .long x :: st)) := by
  subst hp
  exact K.to fun _ r => XS.lshr X.here hx rfl hd rfl (hv ▸ r)
theorem go_lushr (X : Stand p l e R s m args below meth c T locs cells slots) (hx : p.tables.exec = Jvm.exec) {x v : Int64} {y : Int32} (hd : decode c.code pc = .ok (.lushr, 1)) (hp : pc + 1 = q) (hv : ((x.toUInt64 >>> (y &&& 0x3f).toInt64.toUInt64).toInt64) = v) (K : Go p e below s Q ce sl T (mkF m q ls (.long v :: st))) : Go p e below s Q ce sl T (mkF m pc ls (.int y :: .long x :: st)) := by
  subst hp
  exact K.to fun _ r => XS.lushr X.here hx rfl hd rfl (hv ▸ r)
theorem go_i2l (X : Stand p l e R s m args below meth c T locs cells slots) (hx : p.tables.exec = Jvm.exec) {x : Int32} {v : Int64} (hd : decode c.code pc = .ok (.i2l, 1)) (hp : pc + 1 = q) (hv : x.toInt64 = v) (K : Go p e below s Q ce sl T (mkF m q ls (.long v :: st))) : Go p e below s Q ce sl T (mkF m pc ls (.int x :: st)) := by
  subst hp
  exact K.to fun _ r => XS.i2l X.here hx rfl hd rfl (hv ▸ r)
theorem go_l2i (X : Stand p l e R s m args below meth c T locs cells slots) (hx : p.tables.exec = Jvm.exec) {x : Int64} {v : Int32} (hd : decode c.code pc = .ok (.l2i, 1)) (hp : pc + 1 = q) (hv : x.toInt32 = v) (K : Go p e below s Q ce sl T (mkF m q ls (.int v :: st))) : Go p e below s Q ce sl T (mkF m pc ls (.long x :: st)) := by
  subst hp
  exact K.to fun _ r => XS.l2i X.here hx rfl hd rfl (hv ▸ r)
theorem go_i2b (X : Stand p l e R s m args below meth c T locs cells slots) (hx : p.tables.exec = Jvm.exec) {x : Int32} {v : Int32} (hd : decode c.code pc = .ok (.i2b, 1)) (hp : pc + 1 = q) (hv : x.toInt8.toInt32 = v) (K : Go p e below s Q ce sl T (mkF m q ls (.int v :: st))) : Go p e below s Q ce sl T (mkF m pc ls (.int x :: st)) := by
  subst hp
  exact K.to fun _ r => XS.i2b X.here hx rfl hd rfl (hv ▸ r)
theorem go_i2s (X : Stand p l e R s m args below meth c T locs cells slots) (hx : p.tables.exec = Jvm.exec) {x : Int32} {v : Int32} (hd : decode c.code pc = .ok (.i2s, 1)) (hp : pc + 1 = q) (hv : x.toInt16.toInt32 = v) (K : Go p e below s Q ce sl T (mkF m q ls (.int v :: st))) : Go p e below s Q ce sl T (mkF m pc ls (.int x :: st)) := by
  subst hp
  exact K.to fun _ r => XS.i2s X.here hx rfl hd rfl (hv ▸ r)
theorem go_i2c (X : Stand p l e R s m args below meth c T locs cells slots) (hx : p.tables.exec = Jvm.exec) {x : Int32} {v : Int32} (hd : decode c.code pc = .ok (.i2c, 1)) (hp : pc + 1 = q) (hv : x.toUInt32.toUInt16.toUInt32.toInt32 = v) (K : Go p e below s Q ce sl T (mkF m q ls (.int v :: st))) : Go p e below s Q ce sl T (mkF m pc ls (.int x :: st)) := by
  subst hp
  exact K.to fun _ r => XS.i2c X.here hx rfl hd rfl (hv ▸ r)
theorem go_lcmp (X : Stand p l e R s m args below meth c T locs cells slots) (hx : p.tables.exec = Jvm.exec) {x y : Int64} (hd : decode c.code pc = .ok (.lcmp, 1)) (hp : pc + 1 = q)  (K : Go p e below s Q ce sl T (mkF m q ls (.int (lcmpW x y) :: st))) : Go p e below s Q ce sl T (mkF m pc ls (.long y :: .long x :: st)) := by
  subst hp
  exact K.to fun _ r => XS.lcmp X.here hx rfl hd rfl r
theorem go_i2d (X : Stand p l e R s m args below meth c T locs cells slots) (hx : p.tables.exec = Jvm.exec) {x : Int32} {v : UInt64} (hd : decode c.code pc = .ok (.i2d, 1)) (hp : pc + 1 = q) (hv : FP.i2d x = v) (K : Go p e below s Q ce sl T (mkF m q ls (.double v :: st))) : Go p e below s Q ce sl T (mkF m pc ls (.int x :: st)) := by
  subst hp
  exact K.to fun _ r => XS.i2dS X.here hx rfl hd rfl hv r
theorem go_l2d (X : Stand p l e R s m args below meth c T locs cells slots) (hx : p.tables.exec = Jvm.exec) {x : Int64} {v : UInt64} (hd : decode c.code pc = .ok (.l2d, 1)) (hp : pc + 1 = q) (hv : FP.l2d x = v) (K : Go p e below s Q ce sl T (mkF m q ls (.double v :: st))) : Go p e below s Q ce sl T (mkF m pc ls (.long x :: st)) := by
  subst hp
  exact K.to fun _ r => XS.l2dS X.here hx rfl hd rfl hv r
theorem go_d2l (X : Stand p l e R s m args below meth c T locs cells slots) (hx : p.tables.exec = Jvm.exec) {x : UInt64} {v : Int64} (hd : decode c.code pc = .ok (.d2l, 1)) (hp : pc + 1 = q) (hv : FP.d2l x = v) (K : Go p e below s Q ce sl T (mkF m q ls (.long v :: st))) : Go p e below s Q ce sl T (mkF m pc ls (.double x :: st)) := by
  subst hp
  exact K.to fun _ r => XS.d2lS X.here hx rfl hd rfl hv r
theorem go_i2f (X : Stand p l e R s m args below meth c T locs cells slots) (hx : p.tables.exec = Jvm.exec) {x : Int32} {v : UInt32} (hd : decode c.code pc = .ok (.i2f, 1)) (hp : pc + 1 = q) (hv : FP.i2f x = v) (K : Go p e below s Q ce sl T (mkF m q ls (.float v :: st))) : Go p e below s Q ce sl T (mkF m pc ls (.int x :: st)) := by
  subst hp
  exact K.to fun _ r => XS.i2fS X.here hx rfl hd rfl hv r
theorem go_f2d (X : Stand p l e R s m args below meth c T locs cells slots) (hx : p.tables.exec = Jvm.exec) {x : UInt32} {v : UInt64} (hd : decode c.code pc = .ok (.f2d, 1)) (hp : pc + 1 = q) (hn : Jvm.Free.Fl.NoNaN64 (FP.f2d x)) (hv : FP.f2d x = v) (K : Go p e below s Q ce sl T (mkF m q ls (.double v :: st))) : Go p e below s Q ce sl T (mkF m pc ls (.float x :: st)) := by
  subst hp
  exact K.to fun _ r => XS.f2dS X.here hx rfl hd rfl hn hv r
theorem go_dcmp (X : Stand p l e R s m args below meth c T locs cells slots) (hx : p.tables.exec = Jvm.exec) {o : CmpOp} {x y : UInt64} {v : Int32} (hd : decode c.code pc = .ok (.dcmp o, 1)) (hp : pc + 1 = q) (hv : cmpValue (FP.dcmp x y) o = v) (K : Go p e below s Q ce sl T (mkF m q ls (.int v :: st))) : Go p e below s Q ce sl T (mkF m pc ls (.double y :: .double x :: st)) := by
  subst hp
  exact K.to fun _ r => XS.dcmpS X.here hx rfl hd rfl hv r
theorem go_dadd (X : Stand p l e R s m args below meth c T locs cells slots) (hx : p.tables.exec = Jvm.exec) {x y v : UInt64} (hd : decode c.code pc = .ok (.dadd, 1)) (hp : pc + 1 = q) (hn : Jvm.Free.Fl.NoNaN64 (FP.dadd x y)) (hv : FP.dadd x y = v) (K : Go p e below s Q ce sl T (mkF m q ls (.double v :: st))) : Go p e below s Q ce sl T (mkF m pc ls (.double y :: .double x :: st)) := by
  subst hp
  exact K.to fun _ r => XS.daddS X.here hx rfl hd rfl hn hv r
theorem go_dsub (X : Stand p l e R s m args below meth c T locs cells slots) (hx : p.tables.exec = Jvm.exec) {x y v : UInt64} (hd : decode c.code pc = .ok (.dsub, 1)) (hp : pc + 1 = q) (hn : Jvm.Free.Fl.NoNaN64 (FP.dsub x y)) (hv : FP.dsub x y = v) (K : Go p e below s Q ce sl T (mkF m q ls (.double v :: st))) : Go p e below s Q ce sl T (mkF m pc ls (.double y :: .double x :: st)) := by
  subst hp
  exact K.to fun _ r => XS.dsubS X.here hx rfl hd rfl hn hv r
theorem go_dmul (X : Stand p l e R s m args below meth c T locs cells slots) (hx : p.tables.exec = Jvm.exec) {x y v : UInt64} (hd : decode c.code pc = .ok (.dmul, 1)) (hp : pc + 1 = q) (hn : Jvm.Free.Fl.NoNaN64 (FP.dmul x y)) (hv : FP.dmul x y = v) (K : Go p e below s Q ce sl T (mkF m q ls (.double v :: st))) : Go p e below s Q ce sl T (mkF m pc ls (.double y :: .double x :: st)) := by
  subst hp
  exact K.to fun _ r => XS.dmulS X.here hx rfl hd rfl hn hv r
theorem go_ddiv (X : Stand p l e R s m args below meth c T locs cells slots) (hx : p.tables.exec = Jvm.exec) {x y v : UInt64} (hd : decode c.code pc = .ok (.ddiv, 1)) (hp : pc + 1 = q) (hn : Jvm.Free.Fl.NoNaN64 (FP.ddiv x y)) (hv : FP.ddiv x y = v) (K : Go p e below s Q ce sl T (mkF m q ls (.double v :: st))) : Go p e below s Q ce sl T (mkF m pc ls (.double y :: .double x :: st)) := by
  subst hp
  exact K.to fun _ r => XS.ddivS X.here hx rfl hd rfl hn hv r
theorem go_dup (X : Stand p l e R s m args below meth c T locs cells slots) (hx : p.tables.exec = Jvm.exec) {v : Value} (hd : decode c.code pc = .ok (.dup, 1)) (hp : pc + 1 = q) (hv : v.category = 1) (K : Go p e below s Q ce sl T (mkF m q ls (v :: v :: st))) : Go p e below s Q ce sl T (mkF m pc ls (v :: st)) := by
  subst hp
  exact K.to fun _ r => XS.dup X.here hx rfl hd rfl hv r
theorem go_pop (X : Stand p l e R s m args below meth c T locs cells slots) (hx : p.tables.exec = Jvm.exec) {v : Value} (hd : decode c.code pc = .ok (.pop, 1)) (hp : pc + 1 = q) (hv : v.category = 1) (K : Go p e below s Q ce sl T (mkF m q ls st)) : Go p e below s Q ce sl T (mkF m pc ls (v :: st)) := by
  subst hp
  exact K.to fun _ r => XS.pop X.here hx rfl hd rfl hv r
theorem go_iinc (X : Stand p l e R s m args below meth c T locs cells slots) (hx : p.tables.exec = Jvm.exec) {k : Nat} {i : Int} {v : Int32} {l' : Array Slot} (hd : decode c.code pc = .ok (.iinc k i, 3)) (hp : pc + 3 = q) (hl : ls[k]? = some (.val (.int v))) (hs : storeLocals ls k (.int (v + Int32.ofInt i)) = some l') (K : Go p e below s Q ce sl T (mkF m q l' st)) : Go p e below s Q ce sl T (mkF m pc ls st) := by
  subst hp
  exact K.to fun _ r => XS.iinc X.here hx rfl hd hl hs r
theorem go_goto (X : Stand p l e R s m args below meth c T locs cells slots) (hx : p.tables.exec = Jvm.exec) {o : Int} (hd : decode c.code pc = .ok (.goto o, 3)) (ho : 0 ≤ (pc : Int) + o) (hq : ((pc : Int) + o).toNat = q) (K : Go p e below s Q ce sl T (mkF m q ls st)) : Go p e below s Q ce sl T (mkF m pc ls st) :=
  K.to fun _ r => XS.goto X.here hx rfl (pc0 := pc) rfl hd ho hq r
theorem go_icmp_lt (X : Stand p l e R s m args below meth c T locs cells slots) (hx : p.tables.exec = Jvm.exec) {x y : Int32} {o : Int} (hd : decode c.code pc = .ok (.if_icmp .lt o, 3)) (hp : pc + 3 = q) (ho : 0 ≤ (pc : Int) + o) (hq : ((pc : Int) + o).toNat = q') (KY : x < y → Go p e below s Q ce sl T (mkF m q' ls st)) (KN : ¬ x < y → Go p e below s Q ce sl T (mkF m q ls st)) : Go p e below s Q ce sl T (mkF m pc ls (.int y :: .int x :: st)) := by
  subst hp
  by_cases hc : x < y
  · exact (KY hc).to fun _ r => XS.icmpYes X.here hx rfl (pc0 := pc) rfl hd rfl (tlt hc).1 ho hq r
  · exact (KN hc).to fun _ r => XS.icmpNo X.here hx rfl hd rfl (flt hc).1 r
theorem go_if_lt (X : Stand p l e R s m args below meth c T locs cells slots) (hx : p.tables.exec = Jvm.exec) {x : Int32} {o : Int} (hd : decode c.code pc = .ok (.ifCond .lt o, 3)) (hp : pc + 3 = q) (ho : 0 ≤ (pc : Int) + o) (hq : ((pc : Int) + o).toNat = q') (KY : x < (0 : Int32) → Go p e below s Q ce sl T (mkF m q' ls st)) (KN : ¬ x < (0 : Int32) → Go p e below s Q ce sl T (mkF m q ls st)) : Go p e below s Q ce sl T (mkF m pc ls (.int x :: st)) := by
  subst hp
  by_cases hc : x < (0 : Int32)
  · exact (KY hc).to fun _ r => XS.ifYes X.here hx rfl (pc0 := pc) rfl hd rfl ((if0 _ _).trans (tlt hc).1) ho hq r
  · exact (KN hc).to fun _ r => XS.ifNo X.here hx rfl hd rfl ((if0 _ _).trans (flt hc).1) r
theorem go_lif_lt (X : Stand p l e R s m args below meth c T locs cells slots) (hx : p.tables.exec = Jvm.exec) {a b : Int64} {o : Int} (hd : decode c.code pc = .ok (.ifCond .lt o, 3)) (hp : pc + 3 = q) (ho : 0 ≤ (pc : Int) + o) (hq : ((pc : Int) + o).toNat = q') (KY : a < b → Go p e below s Q ce sl T (mkF m q' ls st)) (KN : ¬ a < b → Go p e below s Q ce sl T (mkF m q ls st)) : Go p e below s Q ce sl T (mkF m pc ls (.int (lcmpW a b) :: st)) :=
  go_if_lt X hx hd hp ho hq (fun w => KY ((lw_lt _ _).mp w)) (fun w => KN (fun z => w ((lw_lt _ _).mpr z)))
theorem go_icmp_ge (X : Stand p l e R s m args below meth c T locs cells slots) (hx : p.tables.exec = Jvm.exec) {x y : Int32} {o : Int} (hd : decode c.code pc = .ok (.if_icmp .ge o, 3)) (hp : pc + 3 = q) (ho : 0 ≤ (pc : Int) + o) (hq : ((pc : Int) + o).toNat = q') (KY : ¬ x < y → Go p e below s Q ce sl T (mkF m q' ls st)) (KN : x < y → Go p e below s Q ce sl T (mkF m q ls st)) : Go p e below s Q ce sl T (mkF m pc ls (.int y :: .int x :: st)) := by
  subst hp
  by_cases hc : x < y
  · exact (KN hc).to fun _ r => XS.icmpNo X.here hx rfl hd rfl (tlt hc).2.1 r
  · exact (KY hc).to fun _ r => XS.icmpYes X.here hx rfl (pc0 := pc) rfl hd rfl (flt hc).2.1 ho hq r
theorem go_if_ge (X : Stand p l e R s m args below meth c T locs cells slots) (hx : p.tables.exec = Jvm.exec) {x : Int32} {o : Int} (hd : decode c.code pc = .ok (.ifCond .ge o, 3)) (hp : pc + 3 = q) (ho : 0 ≤ (pc : Int) + o) (hq : ((pc : Int) + o).toNat = q') (KY : ¬ x < (0 : Int32) → Go p e below s Q ce sl T (mkF m q' ls st)) (KN : x < (0 : Int32) → Go p e below s Q ce sl T (mkF m q ls st)) : Go p e below s Q ce sl T (mkF m pc ls (.int x :: st)) := by
  subst hp
  by_cases hc : x < (0 : Int32)
  · exact (KN hc).to fun _ r => XS.ifNo X.here hx rfl hd rfl ((if0 _ _).trans (tlt hc).2.1) r
  · exact (KY hc).to fun _ r => XS.ifYes X.here hx rfl (pc0 := pc) rfl hd rfl ((if0 _ _).trans (flt hc).2.1) ho hq r
theorem go_lif_ge (X : Stand p l e R s m args below meth c T locs cells slots) (hx : p.tables.exec = Jvm.exec) {a b : Int64} {o : Int} (hd : decode c.code pc = .ok (.ifCond .ge o, 3)) (hp : pc + 3 = q) (ho : 0 ≤ (pc : Int) + o) (hq : ((pc : Int) + o).toNat = q') (KY : ¬ a < b → Go p e below s Q ce sl T (mkF m q' ls st)) (KN : a < b → Go p e below s Q ce sl T (mkF m q ls st)) : Go p e below s Q ce sl T (mkF m pc ls (.int (lcmpW a b) :: st)) :=
  go_if_ge X hx hd hp ho hq (fun w => KY (fun z => w ((lw_lt _ _).mpr z))) (fun w => KN ((lw_lt _ _).mp w))
theorem go_icmp_gt (X : Stand p l e R s m args below meth c T locs cells slots) (hx : p.tables.exec = Jvm.exec) {x y : Int32} {o : Int} (hd : decode c.code pc = .ok (.if_icmp .gt o, 3)) (hp : pc + 3 = q) (ho : 0 ≤ (pc : Int) + o) (hq : ((pc : Int) + o).toNat = q') (KY : y < x → Go p e below s Q ce sl T (mkF m q' ls st)) (KN : ¬ y < x → Go p e below s Q ce sl T (mkF m q ls st)) : Go p e below s Q ce sl T (mkF m pc ls (.int y :: .int x :: st)) := by
  subst hp
  by_cases hc : y < x
  · exact (KY hc).to fun _ r => XS.icmpYes X.here hx rfl (pc0 := pc) rfl hd rfl (tlt hc).2.2.1 ho hq r
  · exact (KN hc).to fun _ r => XS.icmpNo X.here hx rfl hd rfl (flt hc).2.2.1 r
theorem go_if_gt (X : Stand p l e R s m args below meth c T locs cells slots) (hx : p.tables.exec = Jvm.exec) {x : Int32} {o : Int} (hd : decode c.code pc = .ok (.ifCond .gt o, 3)) (hp : pc + 3 = q) (ho : 0 ≤ (pc : Int) + o) (hq : ((pc : Int) + o).toNat = q') (KY : (0 : Int32) < x → Go p e below s Q ce sl T (mkF m q' ls st)) (KN : ¬ (0 : Int32) < x → Go p e below s Q ce sl T (mkF m q ls st)) : Go p e below s Q ce sl T (mkF m pc ls (.int x :: st)) := by
  subst hp
  by_cases hc : (0 : Int32) < x
  · exact (KY hc).to fun _ r => XS.ifYes X.here hx rfl (pc0 := pc) rfl hd rfl ((if0 _ _).trans (tlt hc).2.2.1) ho hq r
  · exact (KN hc).to fun _ r => XS.ifNo X.here hx rfl hd rfl ((if0 _ _).trans (flt hc).2.2.1) r
theorem go_lif_gt (X : Stand p l e R s m args below meth c T locs cells slots) (hx : p.tables.exec = Jvm.exec) {a b : Int64} {o : Int} (hd : decode c.code pc = .ok (.ifCond .gt o, 3)) (hp : pc + 3 = q) (ho : 0 ≤ (pc : Int) + o) (hq : ((pc : Int) + o).toNat = q') (KY : b < a → Go p e below s Q ce sl T (mkF m q' ls st)) (KN : ¬ b < a → Go p e below s Q ce sl T (mkF m q ls st)) : Go p e below s Q ce sl T (mkF m pc ls (.int (lcmpW a b) :: st)) :=
  go_if_gt X hx hd hp ho hq (fun w => KY ((lw_gt _ _).mp w)) (fun w => KN (fun z => w ((lw_gt _ _).mpr z)))
theorem go_icmp_le (X : Stand p l e R s m args below meth c T locs cells slots) (hx : p.tables.exec = Jvm.exec) {x y : Int32} {o : Int} (hd : decode c.code pc = .ok (.if_icmp .le o, 3)) (hp : pc + 3 = q) (ho : 0 ≤ (pc : Int) + o) (hq : ((pc : Int) + o).toNat = q') (KY : ¬ y < x → Go p e below s Q ce sl T (mkF m q' ls st)) (KN : y < x → Go p e below s Q ce sl T (mkF m q ls st)) : Go p e below s Q ce sl T (mkF m pc ls (.int y :: .int x :: st)) := by
  subst hp
  by_cases hc : y < x
  · exact (KN hc).to fun _ r => XS.icmpNo X.here hx rfl hd rfl (tlt hc).2.2.2 r
  · exact (KY hc).to fun _ r => XS.icmpYes X.here hx rfl (pc0 := pc) rfl hd rfl (flt hc).2.2.2 ho hq r
theorem go_if_le (X : Stand p l e R s m args below meth c T locs cells slots) (hx : p.tables.exec = Jvm.exec) {x : Int32} {o : Int} (hd : decode c.code pc = .ok (.ifCond .le o, 3)) (hp : pc + 3 = q) (ho : 0 ≤ (pc : Int) + o) (hq : ((pc : Int) + o).toNat = q') (KY : ¬ (0 : Int32) < x → Go p e below s Q ce sl T (mkF m q' ls st)) (KN : (0 : Int32) < x → Go p e below s Q ce sl T (mkF m q ls st)) : Go p e below s Q ce sl T (mkF m pc ls (.int x :: st)) := by
  subst hp
  by_cases hc : (0 : Int32) < x
  · exact (KN hc).to fun _ r => XS.ifNo X.here hx rfl hd rfl ((if0 _ _).trans (tlt hc).2.2.2) r
  · exact (KY hc).to fun _ r => XS.ifYes X.here hx rfl (pc0 := pc) rfl hd rfl ((if0 _ _).trans (flt hc).2.2.2) ho hq r
theorem go_lif_le (X : Stand p l e R s m args below meth c T locs cells slots) (hx : p.tables.exec = Jvm.exec) {a b : Int64} {o : Int} (hd : decode c.code pc = .ok (.ifCond .le o, 3)) (hp : pc + 3 = q) (ho : 0 ≤ (pc : Int) + o) (hq : ((pc : Int) + o).toNat = q') (KY : ¬ b < a → Go p e below s Q ce sl T (mkF m q' ls st)) (KN : b < a → Go p e below s Q ce sl T (mkF m q ls st)) : Go p e below s Q ce sl T (mkF m pc ls (.int (lcmpW a b) :: st)) :=
  go_if_le X hx hd hp ho hq (fun w => KY (fun z => w ((lw_gt _ _).mpr z))) (fun w => KN ((lw_gt _ _).mp w))
theorem go_icmp_eq (X : Stand p l e R s m args below meth c T locs cells slots) (hx : p.tables.exec = Jvm.exec) {x y : Int32} {o : Int} (hd : decode c.code pc = .ok (.if_icmp .eq o, 3)) (hp : pc + 3 = q) (ho : 0 ≤ (pc : Int) + o) (hq : ((pc : Int) + o).toNat = q') (KY : x = y → Go p e below s Q ce sl T (mkF m q' ls st)) (KN : ¬ x = y → Go p e below s Q ce sl T (mkF m q ls st)) : Go p e below s Q ce sl T (mkF m pc ls (.int y :: .int x :: st)) := by
  subst hp
  by_cases hc : x = y
  · exact (KY hc).to fun _ r => XS.icmpYes X.here hx rfl (pc0 := pc) rfl hd rfl (teq hc).1 ho hq r
  · exact (KN hc).to fun _ r => XS.icmpNo X.here hx rfl hd rfl (feq hc).1 r
theorem go_if_eq (X : Stand p l e R s m args below meth c T locs cells slots) (hx : p.tables.exec = Jvm.exec) {x : Int32} {o : Int} (hd : decode c.code pc = .ok (.ifCond .eq o, 3)) (hp : pc + 3 = q) (ho : 0 ≤ (pc : Int) + o) (hq : ((pc : Int) + o).toNat = q') (KY : x = (0 : Int32) → Go p e below s Q ce sl T (mkF m q' ls st)) (KN : ¬ x = (0 : Int32) → Go p e below s Q ce sl T (mkF m q ls st)) : Go p e below s Q ce sl T (mkF m pc ls (.int x :: st)) := by
  subst hp
  by_cases hc : x = (0 : Int32)
  · exact (KY hc).to fun _ r => XS.ifYes X.here hx rfl (pc0 := pc) rfl hd rfl ((if0 _ _).trans (teq hc).1) ho hq r
  · exact (KN hc).to fun _ r => XS.ifNo X.here hx rfl hd rfl ((if0 _ _).trans (feq hc).1) r
theorem go_lif_eq (X : Stand p l e R s m args below meth c T locs cells slots) (hx : p.tables.exec = Jvm.exec) {a b : Int64} {o : Int} (hd : decode c.code pc = .ok (.ifCond .eq o, 3)) (hp : pc + 3 = q) (ho : 0 ≤ (pc : Int) + o) (hq : ((pc : Int) + o).toNat = q') (KY : a = b → Go p e below s Q ce sl T (mkF m q' ls st)) (KN : ¬ a = b → Go p e below s Q ce sl T (mkF m q ls st)) : Go p e below s Q ce sl T (mkF m pc ls (.int (lcmpW a b) :: st)) :=
  go_if_eq X hx hd hp ho hq (fun w => KY ((lw_eq _ _).mp w)) (fun w => KN (fun z => w ((lw_eq _ _).mpr z)))
theorem go_icmp_ne (X : Stand p l e R s m args below meth c T locs cells slots) (hx : p.tables.exec = Jvm.exec) {x y : Int32} {o : Int} (hd : decode c.code pc = .ok (.if_icmp .ne o, 3)) (hp : pc + 3 = q) (ho : 0 ≤ (pc : Int) + o) (hq : ((pc : Int) + o).toNat = q') (KY : ¬ x = y → Go p e below s Q ce sl T (mkF m q' ls st)) (KN : x = y → Go p e below s Q ce sl T (mkF m q ls st)) : Go p e below s Q ce sl T (mkF m pc ls (.int y :: .int x :: st)) := by
  subst hp
  by_cases hc : x = y
  · exact (KN hc).to fun _ r => XS.icmpNo X.here hx rfl hd rfl (teq hc).2 r
  · exact (KY hc).to fun _ r => XS.icmpYes X.here hx rfl (pc0 := pc) rfl hd rfl (feq hc).2 ho hq r
theorem go_if_ne (X : Stand p l e R s m args below meth c T locs cells slots) (hx : p.tables.exec = Jvm.exec) {x : Int32} {o : Int} (hd : decode c.code pc = .ok (.ifCond .ne o, 3)) (hp : pc + 3 = q) (ho : 0 ≤ (pc : Int) + o) (hq : ((pc : Int) + o).toNat = q') (KY : ¬ x = (0 : Int32) → Go p e below s Q ce sl T (mkF m q' ls st)) (KN : x = (0 : Int32) → Go p e below s Q ce sl T (mkF m q ls st)) : Go p e below s Q ce sl T (mkF m pc ls (.int x :: st)) := by
  subst hp
  by_cases hc : x = (0 : Int32)
  · exact (KN hc).to fun _ r => XS.ifNo X.here hx rfl hd rfl ((if0 _ _).trans (teq hc).2) r
  · exact (KY hc).to fun _ r => XS.ifYes X.here hx rfl (pc0 := pc) rfl hd rfl ((if0 _ _).trans (feq hc).2) ho hq r
theorem go_lif_ne (X : Stand p l e R s m args below meth c T locs cells slots) (hx : p.tables.exec = Jvm.exec) {a b : Int64} {o : Int} (hd : decode c.code pc = .ok (.ifCond .ne o, 3)) (hp : pc + 3 = q) (ho : 0 ≤ (pc : Int) + o) (hq : ((pc : Int) + o).toNat = q') (KY : ¬ a = b → Go p e below s Q ce sl T (mkF m q' ls st)) (KN : a = b → Go p e below s Q ce sl T (mkF m q ls st)) : Go p e below s Q ce sl T (mkF m pc ls (.int (lcmpW a b) :: st)) :=
  go_if_ne X hx hd hp ho hq (fun w => KY (fun z => w ((lw_eq _ _).mpr z))) (fun w => KN ((lw_eq _ _).mp w))
theorem go_ret (X : Stand p l e R s m args below meth c T locs cells slots) (hx : p.tables.exec = Jvm.exec) {w : Value} {t : FieldType} {i : Instr} (hret : meth.sig.returnType = some t) (hlk : meth.locks = false) (hn : narrow t w = w)
    (hi : (i = .ireturn ∧ (t = .int ∨ t = .boolean ∨ t = .byte ∨ t = .char ∨ t = .short) ∧ ∃ z, w = .int z) ∨ (i = .lreturn ∧ t = .long ∧ ∃ z, w = .long z) ∨ (i = .dreturn ∧ t = .double ∧ ∃ z, w = .double z) ∨ (i = .freturn ∧ t = .float ∧ ∃ z, w = .float z) ∨ (i = .areturn ∧ t.isReference = true ∧ w.isRef = true))
    (hd : decode c.code pc = .ok (i, 1)) (hc : cells ≤ ce) (hs : slots ≤ sl) (hQ : Q (some w) T.heap locs) : Go p e below s Q ce sl T (mkF m pc ls (w :: st)) := by
  obtain ⟨fs, hr, hrun, hended, hW, hsame⟩ := X.leave (v := some w) (fun h => by rw [hret] at h; cases h) hlk
  exact ⟨_, _, retOut X hx hret hn hi hd hr, hrun, hended, _, _, rfl, hQ, ⟨_, rfl⟩, hW, hsame.mono hc hs⟩
theorem go_retD (X : Stand p l e R s m args below meth c T locs cells slots) (hx : p.tables.exec = Jvm.exec) {v : UInt64} (hret : meth.sig.returnType = some .double) (hlk : meth.locks = false) (hd : decode c.code pc = .ok (.dreturn, 1)) (hc : cells ≤ ce) (hs : slots ≤ sl) (hQ : Q (some (.double v)) T.heap locs) : Go p e below s Q ce sl T (mkF m pc ls (.double v :: st)) :=
  go_ret X hx hret hlk rfl (Or.inr (Or.inr (Or.inl ⟨rfl, rfl, v, rfl⟩))) hd hc hs hQ
theorem go_retJ (X : Stand p l e R s m args below meth c T locs cells slots) (hx : p.tables.exec = Jvm.exec) {v : Int64} (hret : meth.sig.returnType = some .long) (hlk : meth.locks = false) (hd : decode c.code pc = .ok (.lreturn, 1)) (hc : cells ≤ ce) (hs : slots ≤ sl) (hQ : Q (some (.long v)) T.heap locs) : Go p e below s Q ce sl T (mkF m pc ls (.long v :: st)) :=
  go_ret X hx hret hlk rfl (Or.inr (Or.inl ⟨rfl, rfl, v, rfl⟩)) hd hc hs hQ
theorem go_retI (X : Stand p l e R s m args below meth c T locs cells slots) (hx : p.tables.exec = Jvm.exec) {v : Int32} (hret : meth.sig.returnType = some .int) (hlk : meth.locks = false) (hd : decode c.code pc = .ok (.ireturn, 1)) (hc : cells ≤ ce) (hs : slots ≤ sl) (hQ : Q (some (.int v)) T.heap locs) : Go p e below s Q ce sl T (mkF m pc ls (.int v :: st)) :=
  go_ret X hx hret hlk rfl (Or.inl ⟨rfl, Or.inl rfl, v, rfl⟩) hd hc hs hQ
theorem go_retA (X : Stand p l e R s m args below meth c T locs cells slots) (hx : p.tables.exec = Jvm.exec) {v : Value} {t : FieldType} (hret : meth.sig.returnType = some t) (hlk : meth.locks = false) (ht : t.isReference = true) (hv : v.isRef = true) (hn : narrow t v = v) (hd : decode c.code pc = .ok (.areturn, 1)) (hc : cells ≤ ce) (hs : slots ≤ sl) (hQ : Q (some v) T.heap locs) : Go p e below s Q ce sl T (mkF m pc ls (v :: st)) :=
  go_ret X hx hret hlk hn (Or.inr (Or.inr (Or.inr (Or.inr ⟨rfl, ht, hv⟩)))) hd hc hs hQ
theorem go_retN (X : Stand p l e R s m args below meth c T locs cells slots) (hx : p.tables.exec = Jvm.exec) {z : Int32} {t : FieldType} (ht : t = .boolean ∨ t = .byte ∨ t = .char ∨ t = .short) (hret : meth.sig.returnType = some t) (hlk : meth.locks = false) (hd : decode c.code pc = .ok (.ireturn, 1)) (hc : cells ≤ ce) (hs : slots ≤ sl) (hQ : Q (some (.int (nar t z))) T.heap locs) : Go p e below s Q ce sl T (mkF m pc ls (.int z :: st)) := by
  obtain ⟨fs, hr, hrun, hended, hW, hsame⟩ := X.leave (v := some (.int (nar t z))) (fun h => by rw [hret] at h; cases h) hlk
  exact ⟨_, _, retN X hx hret ht hd hr, hrun, hended, _, _, rfl, hQ, ⟨_, rfl⟩, hW, hsame.mono hc hs⟩
theorem go_retV (X : Stand p l e R s m args below meth c T locs cells slots) (hx : p.tables.exec = Jvm.exec) (hret : meth.sig.returnType = none) (hlk : meth.locks = false) (hd : decode c.code pc = .ok (.return_, 1)) (hc : cells ≤ ce) (hs : slots ≤ sl) (hQ : Q none T.heap locs) : Go p e below s Q ce sl T (mkF m pc ls []) := by
  obtain ⟨fs, hr, hrun, hended, hW, hsame⟩ := X.leave (v := none) (fun _ => rfl) hlk
  exact ⟨_, _, X.returnOut hx hret hd hr, hrun, hended, _, _, rfl, hQ, ⟨_, rfl⟩, hW, hsame.mono hc hs⟩
theorem go_ldcI (X : Stand p l e R s m args below meth c T locs cells slots) (hx : p.tables.exec = Jvm.exec) (hZ : Z.Warmed39 s.vm) {own : String} {index : Nat} {v : Int32} (hown : s.vm.findClass own = some m.cls) (w : (Jvm.Cond.constant own index v).before a0 Z = true) (hd : decode c.code pc = .ok (.ldc index, 2)) (hp : pc + 2 = q) (K : Go p e below s Q ce sl T (mkF m q ls (.int v :: st))) : Go p e below s Q ce sl T (mkF m pc ls st) := by
  subst hp
  exact K.to fun t r => X.ldcInt hx hown (mvT hZ w) (g := mkF m pc ls st) rfl hd t r
theorem go_ldc2J (X : Stand p l e R s m args below meth c T locs cells slots) (hx : p.tables.exec = Jvm.exec) (hZ : Z.Warmed39 s.vm) {own : String} {index : Nat} {v : Int64} (hown : s.vm.findClass own = some m.cls) (w : (Jvm.Cond.constantLong own index v).before a0 Z = true) (hd : decode c.code pc = .ok (.ldc2_w index, 3)) (hp : pc + 3 = q) (K : Go p e below s Q ce sl T (mkF m q ls (.long v :: st))) : Go p e below s Q ce sl T (mkF m pc ls st) := by
  subst hp
  exact K.to fun t r => X.ldc2Long hx hown (mvT hZ w) (g := mkF m pc ls st) rfl hd t r
theorem go_ldc2D (X : Stand p l e R s m args below meth c T locs cells slots) (hx : p.tables.exec = Jvm.exec) (hZ : Z.Warmed39 s.vm) {own : String} {index : Nat} {v : UInt64} (hown : s.vm.findClass own = some m.cls) (w : (Jvm.Cond.constantDouble own index v).before a0 Z = true) (hd : decode c.code pc = .ok (.ldc2_w index, 3)) (hp : pc + 3 = q) (K : Go p e below s Q ce sl T (mkF m q ls (.double v :: st))) : Go p e below s Q ce sl T (mkF m pc ls st) := by
  subst hp
  exact K.to fun t r => X.ldc2DoubleC hx hown (mvT hZ w) (g := mkF m pc ls st) rfl hd t r
theorem go_callS (X : Stand p l e R s m args below meth c T locs cells slots) (hx : p.tables.exec = Jvm.exec) (hZ : Z.Warmed39 s.vm) {own : String} {index : Nat} {y : MethodName} {bytes : ByteArray} {maxL : Nat} {ret : Option FieldType} {rm : Room} {W : Nat} {Qc : Option Value → Heap → List Loc → Prop} (hown : s.vm.findClass own = some m.cls) (eT : T.heap = h)
    (w1 : (Jvm.Cond.methodLink own index y).before a0 Z = true) (w2 : (Jvm.Cond.static y).before a0 Z = true) (w3 : (Jvm.Cond.initialized y.cls).before a0 Z = true) (w4 : (Jvm.Cond.code y bytes maxL ret).before a0 Z = true) (hy : y.cls ≠ "java/lang/invoke/MethodHandle" ∧ y.cls ≠ "java/lang/invoke/VarHandle")
    (argsL rest : List Value) (hM : Con l y bytes maxL ret [] rm Z argsL.toArray h Qc) (hsz : ls.size = c.maxLocals) (hst : st = argsL.reverse ++ rest) (hlen : ∀ sig, parseMethodDescriptor y.desc = some sig → argsL.length = sig.parameters.length) (hW : (rest.map fun v => v.category).sum ≤ W)
    (hf : rm.frames + 1 ≤ R.frames) (hl : W + (maxL + 11) + rm.locals ≤ R.locals) (hd : decode c.code pc = .ok (.invokestatic index, 3)) (hp : pc + 3 = q) (hc : cells + rm.cells ≤ R.cells) (hs : slots + rm.slots ≤ R.slots)
    (K : ∀ (T' : State) (L : List Loc) (v : Option Value), Stand p l e R s m args below meth c T' (locs ++ L) (cells + rm.cells) (slots + rm.slots) → Qc v T'.heap L → Go p e below s Q ce sl T' (mkF m q ls (v.toList ++ rest))) : Go p e below s Q ce sl T (mkF m pc ls st) := by
  subst hp
  obtain ⟨v, _, ⟨T', L', k', n'⟩, -, X', ⟨Lc, hQ, l1, y1, z1⟩, stp⟩ := Jvm.LawKit.callS X hx (y := y) hown (mvT hZ w1) (mvT hZ w2) (mvT hZ w3) (mvT hZ w4) hy (backOf (W := W) hM hZ w4 w3 hf hl) (g := mkF m pc ls st) rfl hsz (argsL := argsL) (rest := rest) hlen hst (by show 2 * 0 + _ ≤ _; omega) hd (fun _ _ => ⟨rfl, eT, hc, hs⟩)
  dsimp only [Pt.U, Pt.locs, Pt.cells, Pt.slots] at X' l1 y1 z1 stp hQ
  subst l1 y1 z1
  exact (K T' Lc v X' hQ).to fun t r => stp t r
theorem go_callI (X : Stand p l e R s m args below meth c T locs cells slots) (hx : p.tables.exec = Jvm.exec) (hZ : Z.Warmed39 s.vm) {own : String} {index : Nat} {y : MethodName} {bytes : ByteArray} {maxL : Nat} {rm : Room} {W : Nat} {Qc : Option Value → Heap → List Loc → Prop} (hown : s.vm.findClass own = some m.cls) (eT : T.heap = h) (hy1 : y.name = "<init>")
    (w1 : (Jvm.Cond.methodLink own index y).before a0 Z = true) (w2 : (Jvm.Cond.instanceMethod y).before a0 Z = true) (w3 : (Jvm.Cond.initialized y.cls).before a0 Z = true) (w4 : (Jvm.Cond.code y bytes maxL none).before a0 Z = true) (hy : y.cls ≠ "java/lang/invoke/MethodHandle" ∧ y.cls ≠ "java/lang/invoke/VarHandle")
    (a : Addr) (argsL rest : List Value) (hM : Con l y bytes maxL none [] rm Z (.ref a :: argsL).toArray h Qc) (hsz : ls.size = c.maxLocals) (hst : st = argsL.reverse ++ .ref a :: rest) (hlen : ∀ sig, parseMethodDescriptor y.desc = some sig → argsL.length = sig.parameters.length) (hW : (rest.map fun v => v.category).sum ≤ W)
    (hf : rm.frames + 1 ≤ R.frames) (hl : W + (maxL + 11) + rm.locals ≤ R.locals) (hd : decode c.code pc = .ok (.invokespecial index, 3)) (hp : pc + 3 = q) (hc : cells + rm.cells ≤ R.cells) (hs : slots + rm.slots ≤ R.slots)
    (K : ∀ (T' : State) (L : List Loc) (v : Option Value), Stand p l e R s m args below meth c T' (locs ++ L) (cells + rm.cells) (slots + rm.slots) → Qc v T'.heap L → Go p e below s Q ce sl T' (mkF m q ls (v.toList ++ rest))) : Go p e below s Q ce sl T (mkF m pc ls st) := by
  subst hp
  obtain ⟨v, _, ⟨T', L', k', n'⟩, -, X', ⟨Lc, hQ, l1, y1, z1⟩, stp⟩ := X.specialBack hx (y := y) hy1 hown (mvT hZ w1) (mvT hZ w2) (mvT hZ w4) hy (backOf (W := W) hM hZ w4 w3 hf hl) (g := mkF m pc ls st) rfl hsz (Steps.refl _) (a := a) (argsL := argsL) (rest := rest) hlen hst (by show 2 * 0 + _ ≤ _; omega) hd (fun _ _ => ⟨rfl, eT, hc, hs⟩)
  dsimp only [Pt.U, Pt.locs, Pt.cells, Pt.slots] at X' l1 y1 z1 stp hQ
  subst l1 y1 z1
  exact (K T' Lc v X' hQ).to fun t r => stp.trans r
theorem go_callV (X : Stand p l e R s m args below meth c T locs cells slots) (hx : p.tables.exec = Jvm.exec) (hZ : Z.Warmed39 s.vm) {own C : String} {index : Nat} {y : MethodName} {bytes : ByteArray} {maxL : Nat} {ret : Option FieldType} {rm : Room} {W : Nat} {Qc : Option Value → Heap → List Loc → Prop} {z : MethodName} (hown : s.vm.findClass own = some m.cls) (eT : T.heap = h)
    (w1 : (Jvm.Cond.methodLink own index y).before a0 Z = true) (w2 : (Jvm.Cond.declares y).before a0 Z = true) (hnf : NotFace s y) (w3 : (Jvm.Cond.selects C y z).before a0 Z = true) (w5 : (Jvm.Cond.instanceMethod z).before a0 Z = true) (w6 : (Jvm.Cond.initialized z.cls).before a0 Z = true) (w4 : (Jvm.Cond.code z bytes maxL ret).before a0 Z = true) (hy : y.cls ≠ "java/lang/invoke/MethodHandle" ∧ y.cls ≠ "java/lang/invoke/VarHandle")
    (a : Addr) (argsL rest : List Value) (E : Exa Z h a C) (hM : Con l z bytes maxL ret [] rm Z (.ref a :: argsL).toArray h Qc) (hsz : ls.size = c.maxLocals) (hst : st = argsL.reverse ++ .ref a :: rest) (hlen : ∀ sig, parseMethodDescriptor y.desc = some sig → argsL.length = sig.parameters.length) (hW : (rest.map fun v => v.category).sum ≤ W)
    (hf : rm.frames + 1 ≤ R.frames) (hl : W + (maxL + 11) + rm.locals ≤ R.locals) (hd : decode c.code pc = .ok (.invokevirtual index, 3)) (hp : pc + 3 = q) (hc : cells + rm.cells ≤ R.cells) (hs : slots + rm.slots ≤ R.slots)
    (K : ∀ (T' : State) (L : List Loc) (v : Option Value), Stand p l e R s m args below meth c T' (locs ++ L) (cells + rm.cells) (slots + rm.slots) → Qc v T'.heap L → Go p e below s Q ce sl T' (mkF m q ls (v.toList ++ rest))) : Go p e below s Q ce sl T (mkF m pc ls st) := by
  subst hp
  obtain ⟨cq, kq, qa, qb, qc⟩ := isOf hZ eT E
  obtain ⟨v, _, ⟨T', L', k', n'⟩, -, X', ⟨Lc, hQ, l1, y1, z1⟩, stp⟩ := X.virtualBack hx (y := y) (z := z) hown (mvT hZ w1) (mvT hZ w2) hnf (mvT hZ w3) (mvT hZ w5) hy (backOf (W := W) hM hZ w4 w6 hf hl) qa qc (g := mkF m pc ls st) rfl hsz (Steps.refl _) (argsL := argsL) (rest := rest) hlen hst (by show 2 * 0 + _ ≤ _; omega) hd (fun _ _ => ⟨rfl, eT, hc, hs⟩)
  dsimp only [Pt.U, Pt.locs, Pt.cells, Pt.slots] at X' l1 y1 z1 stp hQ
  subst l1 y1 z1
  exact (K T' Lc v X' hQ).to fun t r => stp.trans r
end OwnWalk

section OwnHeap
variable {p : Program} {l : Launch} {e : Env} {R : Room} {s : State} {m : MethodId} {args : Array Value} {below : List Frame} {meth : Method} {c : Code} {T : State} {locs : List Loc} {cells slots : Nat} {Z : State} {h : Heap} {Q : Option Value → Heap → List Loc → Prop} {ce sl : Nat} {pc q q' : Nat} {ls : Array Slot} {st : List Value} {a0 : Array Value} {n0 : Nat} {a : Addr}
theorem go_getS (X : Stand p l e R s m args below meth c T locs cells slots) (hx : p.tables.exec = Jvm.exec) (hZ : Z.Warmed39 s.vm) {own R0 O n d host : String} {index : Nat} (hown : s.vm.findClass own = some m.cls) (w : (Jvm.Cond.fieldLink own index R0 n d).before a0 Z = true ∨ (Jvm.Cond.fieldLinkNest own index R0 n d host).before a0 Z = true) (via : Via Z R0 O n d) (eT : T.heap = h) {v : Value} (F : Sta Z h O n d v) (hd : decode c.code pc = .ok (.getstatic index, 3)) (hp : pc + 3 = q) (K : ∀ T', Stand p l e R s m args below meth c T' locs cells slots → T'.heap = h → Go p e below s Q ce sl T' (mkF m q ls (v :: st))) : Go p e below s Q ce sl T (mkF m pc ls st) := by
  subst hp
  obtain ⟨T', X', e', st'⟩ := getS2 X hx hZ hown w via eT F (g := mkF m pc ls st) rfl hd
  exact (K T' X' e').to fun t r => st' t r
theorem go_getF (X : Stand p l e R s m args below meth c T locs cells slots) (hx : p.tables.exec = Jvm.exec) (hZ : Z.Warmed39 s.vm) {own R0 O n d host : String} {index : Nat} (hown : s.vm.findClass own = some m.cls) (w : (Jvm.Cond.fieldLink own index R0 n d).before a0 Z = true ∨ (Jvm.Cond.fieldLinkNest own index R0 n d host).before a0 Z = true) (via : Via Z R0 O n d) (eT : T.heap = h) {v : Value} (F : Fld Z h a O n d v) (hd : decode c.code pc = .ok (.getfield index, 3)) (hp : pc + 3 = q) (K : ∀ T', Stand p l e R s m args below meth c T' locs cells slots → T'.heap = h → Go p e below s Q ce sl T' (mkF m q ls (v :: st))) : Go p e below s Q ce sl T (mkF m pc ls (.ref a :: st)) := by
  subst hp
  obtain ⟨T', X', e', st'⟩ := getF X hx hZ hown w via eT F (g := mkF m pc ls (.ref a :: st)) rfl rfl hd
  exact (K T' X' e').to fun t r => st' t r
theorem go_putF (X : Stand p l e R s m args below meth c T locs cells slots) (hx : p.tables.exec = Jvm.exec) (hZ : Z.Warmed39 s.vm) {own R0 O n d host : String} {index : Nat} (hown : s.vm.findClass own = some m.cls) (w : (Jvm.Cond.fieldLink own index R0 n d).before a0 Z = true ∨ (Jvm.Cond.fieldLinkNest own index R0 n d host).before a0 Z = true) (via : Via Z R0 O n d) (eT : T.heap = h) {C : String} {kk : Nat} {ty : FieldType} {v old : Value} (F : Fld Z h a O n d old) (E : Exa Z h a C) (L : (Jvm.Cond.lays C O n d).before a0 Z = true ∨ ((Jvm.Cond.laysFinal C O n d).before a0 Z = true ∧ own = O ∧ meth.name = "<init>")) (wi : (Jvm.Cond.instantiable C kk).before a0 Z = true) (hty : parseFieldDescriptor d = some ty) (hn : narrow ty v = v) (hf : fits ty v = true) (N : Fr n0 locs) (ha : n0 ≤ a) (hd : decode c.code pc = .ok (.putfield index, 3)) (hp : pc + 3 = q)
    (K : ∀ T' h' locs', Stand p l e R s m args below meth c T' locs' cells slots → Fr n0 locs' → T'.heap = h' → Wr h h' a (Jvm.RoadKit.slotOf Z O n d) v → Go p e below s Q ce sl T' (mkF m q ls st)) : Go p e below s Q ce sl T (mkF m pc ls (v :: .ref a :: st)) := by
  subst hp
  obtain ⟨T', h', X', e', W', st'⟩ := putF X hx hZ hown w via eT F E L wi hty hn hf (g := mkF m pc ls (v :: .ref a :: st)) rfl rfl hd
  exact (K T' h' _ X' (Fr.snoc X' N ha) e' W').to fun t r => st' t r
theorem go_newO (X : Stand p l e R s m args below meth c T locs cells slots) (hx : p.tables.exec = Jvm.exec) (hZ : Z.Warmed39 s.vm) {own C : String} {index n : Nat} (hown : s.vm.findClass own = some m.cls) (w : (Jvm.Cond.classLink own index C).before a0 Z = true) (wi : (Jvm.Cond.instantiable C n).before a0 Z = true) (wz : (Jvm.Cond.initialized C).before a0 Z = true) (eT : T.heap = h) (hd : decode c.code pc = .ok (.new index, 3)) (hp : pc + 3 = q) (hc : cells + 1 ≤ R.cells) (hl : slots + n ≤ R.slots)
    (K : ∀ T' h' b, b = h.size → Stand p l e R s m args below meth c T' locs (cells + 1) (slots + n) → T'.heap = h' → Ext h h' → Exa Z h' b C → (∀ {O nm d : String} {ty : FieldType}, Laid Z a0 C O nm d → parseFieldDescriptor d = some ty → Fld Z h' b O nm d (defaultValue ty)) → Go p e below s Q ce sl T' (mkF m q ls (.ref b :: st))) : Go p e below s Q ce sl T (mkF m pc ls st) := by
  subst hp
  obtain ⟨T', h', X', e', E', A', D', -, st'⟩ := newO X hx hZ hown w wi wz eT (g := mkF m pc ls st) rfl hd hc hl
  exact (K T' h' _ rfl X' e' E' A' D').to fun t r => st' t r
theorem go_newP (X : Stand p l e R s m args below meth c T locs cells slots) (hx : p.tables.exec = Jvm.exec) (hZ : Z.Warmed39 s.vm) {aty : ArrayType} (w : (Jvm.Cond.arrayClass (newarray.typeOf aty)).before a0 Z = true) (eT : T.heap = h) (hd : decode c.code pc = .ok (.newarray aty, 2)) (hp : pc + 2 = q) {n : Int32} (hn : ¬ n < 0) (cap : Nat) (hcap : n.toNatClampNeg ≤ cap) (hb : cap * 8 ≤ 536870912) (hc : cells + 1 ≤ R.cells) (hl : slots + cap ≤ R.slots)
    (K : ∀ T' h' kc b, b = h.size → Stand p l e R s m args below meth c T' locs (cells + 1) (slots + cap) → T'.heap = h' → Ext h h' → Arv Z h' b kc (newarray.typeOf aty) n [] (defaultValue (newarray.typeOf aty)) → Go p e below s Q ce sl T' (mkF m q ls (.ref b :: st))) : Go p e below s Q ce sl T (mkF m pc ls (.int n :: st)) := by
  subst hp
  obtain ⟨T', h', kc, X', e', E', A', st'⟩ := newP X hx hZ w eT (g := mkF m pc ls (.int n :: st)) rfl hd rfl hn (cap := cap) hcap hb hc hl
  exact (K T' h' kc _ rfl X' e' E' (Arv.new A' hn)).to fun t r => st' t r
theorem go_initO (X : Stand p l e R s m args below meth c T locs cells slots) (hx : p.tables.exec = Jvm.exec) (hZ : Z.Warmed39 s.vm) {own : String} {index W : Nat} (hown : s.vm.findClass own = some m.cls) (w1 : (Jvm.Cond.methodLink own index Lib.objectInit).before a0 Z = true) (w2 : (Jvm.Cond.instanceMethod Lib.objectInit).before a0 Z = true) (w3 : (Jvm.Cond.code Lib.objectInit ⟨#[0xb1]⟩ 1 none).before a0 Z = true) (eT : T.heap = h) (hsz : ls.size = c.maxLocals) (hd : decode c.code pc = .ok (.invokespecial index, 3)) (hp : pc + 3 = q) (hf : 1 ≤ R.frames) (hW : (st.map fun v => v.category).sum ≤ W) (hl : W + 12 ≤ R.locals) (K : ∀ T', Stand p l e R s m args below meth c T' locs cells slots → T'.heap = h → Go p e below s Q ce sl T' (mkF m q ls st)) : Go p e below s Q ce sl T (mkF m pc ls (.ref a :: st)) := by
  subst hp
  obtain ⟨T', X', e', st'⟩ := initO X hx hZ hown w1 w2 w3 eT (g := mkF m pc ls (.ref a :: st)) rfl hsz rfl hd hf (W := W) (by show 2 * 0 + _ ≤ _; omega) hl
  exact (K T' X' e').to fun t r => st' t r
theorem go_iaload (X : Stand p l e R s m args below meth c T locs cells slots) (hx : p.tables.exec = Jvm.exec) (hZ : Z.Warmed39 s.vm) (eT : T.heap = h) {k : ClassId} {z j : Int32} {vs : List Value} {dv : Value} {v : Value} (F : Arv Z h a k .int z vs dv) (hj : ¬ j < 0 ∧ j < z) (hv : vs.getD j.toNatClampNeg dv = v) (hd : decode c.code pc = .ok (.iaload, 1)) (hp : pc + 1 = q) (K : Go p e below s Q ce sl T (mkF m q ls (v :: st))) : Go p e below s Q ce sl T (mkF m pc ls (.int j :: .ref a :: st)) := by
  subst hp
  obtain ⟨cl, A, -, S, -, H, -⟩ := F
  exact K.to fun t r => X.iaload hx (by rw [eT]; exact A.1) (State.isArrayOf_alike hZ.alike A.2.1) A.2.2 (inb_of S hj) (H.at (inb_of S hj) hv) (g := mkF m pc ls (.int j :: .ref a :: st)) rfl rfl hd t r
theorem go_daload (X : Stand p l e R s m args below meth c T locs cells slots) (hx : p.tables.exec = Jvm.exec) (hZ : Z.Warmed39 s.vm) (eT : T.heap = h) {k : ClassId} {z j : Int32} {vs : List Value} {dv : Value} {v : Value} (F : Arv Z h a k .double z vs dv) (hj : ¬ j < 0 ∧ j < z) (hv : vs.getD j.toNatClampNeg dv = v) (hd : decode c.code pc = .ok (.daload, 1)) (hp : pc + 1 = q) (K : Go p e below s Q ce sl T (mkF m q ls (v :: st))) : Go p e below s Q ce sl T (mkF m pc ls (.int j :: .ref a :: st)) := by
  subst hp
  obtain ⟨cl, A, -, S, -, H, -⟩ := F
  exact K.to fun t r => X.daload hx (by rw [eT]; exact A.1) (State.isArrayOf_alike hZ.alike A.2.1) A.2.2 (inb_of S hj) (H.at (inb_of S hj) hv) (g := mkF m pc ls (.int j :: .ref a :: st)) rfl rfl hd t r
theorem go_faload (X : Stand p l e R s m args below meth c T locs cells slots) (hx : p.tables.exec = Jvm.exec) (hZ : Z.Warmed39 s.vm) (eT : T.heap = h) {k : ClassId} {z j : Int32} {vs : List Value} {dv : Value} {v : Value} (F : Arv Z h a k .float z vs dv) (hj : ¬ j < 0 ∧ j < z) (hv : vs.getD j.toNatClampNeg dv = v) (hd : decode c.code pc = .ok (.faload, 1)) (hp : pc + 1 = q) (K : Go p e below s Q ce sl T (mkF m q ls (v :: st))) : Go p e below s Q ce sl T (mkF m pc ls (.int j :: .ref a :: st)) := by
  subst hp
  obtain ⟨cl, A, -, S, -, H, -⟩ := F
  exact K.to fun t r => X.faload hx (by rw [eT]; exact A.1) (State.isArrayOf_alike hZ.alike A.2.1) A.2.2 (inb_of S hj) (H.at (inb_of S hj) hv) (g := mkF m pc ls (.int j :: .ref a :: st)) rfl rfl hd t r
theorem go_baload (X : Stand p l e R s m args below meth c T locs cells slots) (hx : p.tables.exec = Jvm.exec) (hZ : Z.Warmed39 s.vm) (eT : T.heap = h) {k : ClassId} {z j : Int32} {vs : List Value} {dv : Value} {v : Value} (F : Arv Z h a k .boolean z vs dv) (hj : ¬ j < 0 ∧ j < z) (hv : vs.getD j.toNatClampNeg dv = v) (hd : decode c.code pc = .ok (.baload, 1)) (hp : pc + 1 = q) (K : Go p e below s Q ce sl T (mkF m q ls (v :: st))) : Go p e below s Q ce sl T (mkF m pc ls (.int j :: .ref a :: st)) := by
  subst hp
  obtain ⟨cl, A, -, S, -, H, -⟩ := F
  exact K.to fun t r => X.baloadBooleans hx (by rw [eT]; exact A.1) (State.isArrayOf_alike hZ.alike A.2.1) A.2.2 (inb_of S hj) (H.at (inb_of S hj) hv) (g := mkF m pc ls (.int j :: .ref a :: st)) rfl rfl hd t r
theorem go_baloadB (X : Stand p l e R s m args below meth c T locs cells slots) (hx : p.tables.exec = Jvm.exec) (hZ : Z.Warmed39 s.vm) (eT : T.heap = h) {k : ClassId} {z j : Int32} {vs : List Value} {dv : Value} {v : Value} (F : Arv Z h a k .byte z vs dv) (hj : ¬ j < 0 ∧ j < z) (hv : vs.getD j.toNatClampNeg dv = v) (hd : decode c.code pc = .ok (.baload, 1)) (hp : pc + 1 = q) (K : Go p e below s Q ce sl T (mkF m q ls (v :: st))) : Go p e below s Q ce sl T (mkF m pc ls (.int j :: .ref a :: st)) := by
  subst hp
  obtain ⟨cl, A, -, S, -, H, -⟩ := F
  exact K.to fun t r => X.baloadBytes hx (by rw [eT]; exact A.1) (State.isArrayOf_alike hZ.alike A.2.1) A.2.2 (inb_of S hj) (H.at (inb_of S hj) hv) (g := mkF m pc ls (.int j :: .ref a :: st)) rfl rfl hd t r
theorem go_caload (X : Stand p l e R s m args below meth c T locs cells slots) (hx : p.tables.exec = Jvm.exec) (hZ : Z.Warmed39 s.vm) (eT : T.heap = h) {k : ClassId} {z j : Int32} {vs : List Value} {dv : Value} {v : Value} (F : Arv Z h a k .char z vs dv) (hj : ¬ j < 0 ∧ j < z) (hv : vs.getD j.toNatClampNeg dv = v) (hd : decode c.code pc = .ok (.caload, 1)) (hp : pc + 1 = q) (K : Go p e below s Q ce sl T (mkF m q ls (v :: st))) : Go p e below s Q ce sl T (mkF m pc ls (.int j :: .ref a :: st)) := by
  subst hp
  obtain ⟨cl, A, -, S, -, H, -⟩ := F
  exact K.to fun t r => X.caload hx (by rw [eT]; exact A.1) (State.isArrayOf_alike hZ.alike A.2.1) A.2.2 (inb_of S hj) (H.at (inb_of S hj) hv) (g := mkF m pc ls (.int j :: .ref a :: st)) rfl rfl hd t r
theorem go_alen (X : Stand p l e R s m args below meth c T locs cells slots) (hx : p.tables.exec = Jvm.exec) (hZ : Z.Warmed39 s.vm) (eT : T.heap = h) {k : ClassId} {z : Int32} {vs : List Value} {dv : Value} {ty : FieldType} (F : Arv Z h a k ty z vs dv) (hd : decode c.code pc = .ok (.arraylength, 1)) (hp : pc + 1 = q) (K : Go p e below s Q ce sl T (mkF m q ls (.int z :: st))) : Go p e below s Q ce sl T (mkF m pc ls (.ref a :: st)) := by
  subst hp
  obtain ⟨cl, A, -, S, N, -, -⟩ := F
  exact K.to fun t r => X.arraylength hx (by rw [eT]; exact A.1) (State.isArrayOf_alike hZ.alike A.2.1) (g := mkF m pc ls (.ref a :: st)) rfl rfl hd t (by rw [len_of S N]; exact r)
theorem go_iastore (X : Stand p l e R s m args below meth c T locs cells slots) (hx : p.tables.exec = Jvm.exec) (hZ : Z.Warmed39 s.vm) (eT : T.heap = h) {k : ClassId} {z j : Int32} {vs : List Value} {dv : Value} {x : Int32} (F : Arv Z h a k .int z vs dv) (hj : ¬ j < 0 ∧ j < z) (i : Nat) (hi : j.toNatClampNeg = i) (hl : i < vs.length) (N : Fr n0 locs) (ha : n0 ≤ a) (hd : decode c.code pc = .ok (.iastore, 1)) (hp : pc + 1 = q)
    (K : ∀ T' h' locs', Stand p l e R s m args below meth c T' locs' cells slots → Fr n0 locs' → T'.heap = h' → Wr h h' a j.toNatClampNeg (.int x) → Arv Z h' a k .int z (vs.set i (.int x)) dv → Go p e below s Q ce sl T' (mkF m q ls st)) : Go p e below s Q ce sl T (mkF m pc ls ((.int x) :: .int j :: .ref a :: st)) := by
  subst hp
  obtain ⟨cl, A, q1, S, q3, H, G⟩ := F
  obtain ⟨T', h', X', e', W', st'⟩ := stI X hx hZ eT A (inb_of S hj) (g := mkF m pc ls ((.int x) :: .int j :: .ref a :: st)) rfl rfl hd
  exact (K T' h' _ X' (Fr.snoc X' N ha) e' W' (Arv.set A q1 S q3 H G rfl W' i hi hl)).to fun t r => st' t r
theorem go_dastore (X : Stand p l e R s m args below meth c T locs cells slots) (hx : p.tables.exec = Jvm.exec) (hZ : Z.Warmed39 s.vm) (eT : T.heap = h) {k : ClassId} {z j : Int32} {vs : List Value} {dv : Value} {x : UInt64} (F : Arv Z h a k .double z vs dv) (hj : ¬ j < 0 ∧ j < z) (i : Nat) (hi : j.toNatClampNeg = i) (hl : i < vs.length) (N : Fr n0 locs) (ha : n0 ≤ a) (hd : decode c.code pc = .ok (.dastore, 1)) (hp : pc + 1 = q)
    (K : ∀ T' h' locs', Stand p l e R s m args below meth c T' locs' cells slots → Fr n0 locs' → T'.heap = h' → Wr h h' a j.toNatClampNeg (.double x) → Arv Z h' a k .double z (vs.set i (.double x)) dv → Go p e below s Q ce sl T' (mkF m q ls st)) : Go p e below s Q ce sl T (mkF m pc ls ((.double x) :: .int j :: .ref a :: st)) := by
  subst hp
  obtain ⟨cl, A, q1, S, q3, H, G⟩ := F
  obtain ⟨T', h', X', e', W', st'⟩ := stD X hx hZ eT A (inb_of S hj) (g := mkF m pc ls ((.double x) :: .int j :: .ref a :: st)) rfl rfl hd
  exact (K T' h' _ X' (Fr.snoc X' N ha) e' W' (Arv.set A q1 S q3 H G rfl W' i hi hl)).to fun t r => st' t r
theorem go_fastore (X : Stand p l e R s m args below meth c T locs cells slots) (hx : p.tables.exec = Jvm.exec) (hZ : Z.Warmed39 s.vm) (eT : T.heap = h) {k : ClassId} {z j : Int32} {vs : List Value} {dv : Value} {x : UInt32} (F : Arv Z h a k .float z vs dv) (hj : ¬ j < 0 ∧ j < z) (i : Nat) (hi : j.toNatClampNeg = i) (hl : i < vs.length) (N : Fr n0 locs) (ha : n0 ≤ a) (hd : decode c.code pc = .ok (.fastore, 1)) (hp : pc + 1 = q)
    (K : ∀ T' h' locs', Stand p l e R s m args below meth c T' locs' cells slots → Fr n0 locs' → T'.heap = h' → Wr h h' a j.toNatClampNeg (.float x) → Arv Z h' a k .float z (vs.set i (.float x)) dv → Go p e below s Q ce sl T' (mkF m q ls st)) : Go p e below s Q ce sl T (mkF m pc ls ((.float x) :: .int j :: .ref a :: st)) := by
  subst hp
  obtain ⟨cl, A, q1, S, q3, H, G⟩ := F
  obtain ⟨T', h', X', e', W', st'⟩ := stF X hx hZ eT A (inb_of S hj) (g := mkF m pc ls ((.float x) :: .int j :: .ref a :: st)) rfl rfl hd
  exact (K T' h' _ X' (Fr.snoc X' N ha) e' W' (Arv.set A q1 S q3 H G rfl W' i hi hl)).to fun t r => st' t r
theorem go_bastore (X : Stand p l e R s m args below meth c T locs cells slots) (hx : p.tables.exec = Jvm.exec) (hZ : Z.Warmed39 s.vm) (eT : T.heap = h) {k : ClassId} {z j : Int32} {vs : List Value} {dv : Value} {x : Int32} (F : Arv Z h a k .boolean z vs dv) (hj : ¬ j < 0 ∧ j < z) (i : Nat) (hi : j.toNatClampNeg = i) (hl : i < vs.length) (N : Fr n0 locs) (ha : n0 ≤ a) (hd : decode c.code pc = .ok (.bastore, 1)) (hp : pc + 1 = q)
    (K : ∀ T' h' locs', Stand p l e R s m args below meth c T' locs' cells slots → Fr n0 locs' → T'.heap = h' → Wr h h' a j.toNatClampNeg (.int (nar .boolean x)) → Arv Z h' a k .boolean z (vs.set i (.int (nar .boolean x))) dv → Go p e below s Q ce sl T' (mkF m q ls st)) : Go p e below s Q ce sl T (mkF m pc ls ((.int x) :: .int j :: .ref a :: st)) := by
  subst hp
  obtain ⟨cl, A, q1, S, q3, H, G⟩ := F
  obtain ⟨T', h', X', e', W', st'⟩ := stZ X hx hZ eT A (inb_of S hj) (g := mkF m pc ls ((.int x) :: .int j :: .ref a :: st)) rfl rfl hd
  exact (K T' h' _ X' (Fr.snoc X' N ha) e' W' (Arv.set A q1 S q3 H G (fits_nar_bool _) W' i hi hl)).to fun t r => st' t r
theorem go_castore (X : Stand p l e R s m args below meth c T locs cells slots) (hx : p.tables.exec = Jvm.exec) (hZ : Z.Warmed39 s.vm) (eT : T.heap = h) {k : ClassId} {z j : Int32} {vs : List Value} {dv : Value} {x : Int32} (F : Arv Z h a k .char z vs dv) (hj : ¬ j < 0 ∧ j < z) (i : Nat) (hi : j.toNatClampNeg = i) (hl : i < vs.length) (N : Fr n0 locs) (ha : n0 ≤ a) (hd : decode c.code pc = .ok (.castore, 1)) (hp : pc + 1 = q)
    (K : ∀ T' h' locs', Stand p l e R s m args below meth c T' locs' cells slots → Fr n0 locs' → T'.heap = h' → Wr h h' a j.toNatClampNeg (.int (nar .char x)) → Arv Z h' a k .char z (vs.set i (.int (nar .char x))) dv → Go p e below s Q ce sl T' (mkF m q ls st)) : Go p e below s Q ce sl T (mkF m pc ls ((.int x) :: .int j :: .ref a :: st)) := by
  subst hp
  obtain ⟨cl, A, q1, S, q3, H, G⟩ := F
  obtain ⟨T', h', X', e', W', st'⟩ := stC X hx hZ eT A (inb_of S hj) (g := mkF m pc ls ((.int x) :: .int j :: .ref a :: st)) rfl rfl hd
  exact (K T' h' _ X' (Fr.snoc X' N ha) e' W' (Arv.set A q1 S q3 H G (fits_nar_char _) W' i hi hl)).to fun t r => st' t r
theorem go_bastoreB (X : Stand p l e R s m args below meth c T locs cells slots) (hx : p.tables.exec = Jvm.exec) (hZ : Z.Warmed39 s.vm) (eT : T.heap = h) {k : ClassId} {z j : Int32} {vs : List Value} {dv : Value} {x : Int32} (F : Arv Z h a k .byte z vs dv) (hj : ¬ j < 0 ∧ j < z) (i : Nat) (hi : j.toNatClampNeg = i) (hl : i < vs.length) (N : Fr n0 locs) (ha : n0 ≤ a) (hd : decode c.code pc = .ok (.bastore, 1)) (hp : pc + 1 = q)
    (K : ∀ T' h' locs', Stand p l e R s m args below meth c T' locs' cells slots → Fr n0 locs' → T'.heap = h' → Wr h h' a j.toNatClampNeg (.int (nar .byte x)) → Arv Z h' a k .byte z (vs.set i (.int (nar .byte x))) dv → Go p e below s Q ce sl T' (mkF m q ls st)) : Go p e below s Q ce sl T (mkF m pc ls ((.int x) :: .int j :: .ref a :: st)) := by
  subst hp
  obtain ⟨cl, A, q1, S, q3, H, G⟩ := F
  obtain ⟨T', h', X', e', W', st'⟩ := stB X hx hZ eT A (inb_of S hj) (g := mkF m pc ls ((.int x) :: .int j :: .ref a :: st)) rfl rfl hd
  exact (K T' h' _ X' (Fr.snoc X' N ha) e' W' (Arv.set A q1 S q3 H G (fits_nar_byte _) W' i hi hl)).to fun t r => st' t r
theorem go_acmp_eq (X : Stand p l e R s m args below meth c T locs cells slots) (hx : p.tables.exec = Jvm.exec) {x y : Value} (h1 : x.isRef = true) (h2 : y.isRef = true) {o : Int} (hd : decode c.code pc = .ok (.if_acmp .eq o, 3)) (hp : pc + 3 = q) (ho : 0 ≤ (pc : Int) + o) (hq : ((pc : Int) + o).toNat = q') (KY : x = y → Go p e below s Q ce sl T (mkF m q' ls st)) (KN : ¬ x = y → Go p e below s Q ce sl T (mkF m q ls st)) : Go p e below s Q ce sl T (mkF m pc ls (y :: x :: st)) := by
  subst hp hq
  by_cases w : x = y
  · exact (KY w).to fun t r => Jvm.RoadKit.acmp (g := mkF m pc ls (y :: x :: st)) X hx rfl h1 h2 (pc0 := pc) (same := true) rfl hd rfl (decide_eq_true w) ho rfl r
  · exact (KN w).to fun t r => Jvm.RoadKit.acmp (g := mkF m pc ls (y :: x :: st)) X hx rfl h1 h2 (pc0 := pc) (same := false) rfl hd rfl (decide_eq_false w) ho rfl r
theorem go_acmp_ne (X : Stand p l e R s m args below meth c T locs cells slots) (hx : p.tables.exec = Jvm.exec) {x y : Value} (h1 : x.isRef = true) (h2 : y.isRef = true) {o : Int} (hd : decode c.code pc = .ok (.if_acmp .ne o, 3)) (hp : pc + 3 = q) (ho : 0 ≤ (pc : Int) + o) (hq : ((pc : Int) + o).toNat = q') (KY : ¬ x = y → Go p e below s Q ce sl T (mkF m q' ls st)) (KN : x = y → Go p e below s Q ce sl T (mkF m q ls st)) : Go p e below s Q ce sl T (mkF m pc ls (y :: x :: st)) := by
  subst hp hq
  by_cases w : x = y
  · exact (KN w).to fun t r => Jvm.RoadKit.acmp (g := mkF m pc ls (y :: x :: st)) X hx rfl h1 h2 (pc0 := pc) (same := true) rfl hd rfl (decide_eq_true w) ho rfl r
  · exact (KY w).to fun t r => Jvm.RoadKit.acmp (g := mkF m pc ls (y :: x :: st)) X hx rfl h1 h2 (pc0 := pc) (same := false) rfl hd rfl (decide_eq_false w) ho rfl r
theorem go_ifnullR (X : Stand p l e R s m args below meth c T locs cells slots) (hx : p.tables.exec = Jvm.exec) {b : Addr} {o : Int} (hd : decode c.code pc = .ok (.ifnull o, 3)) (hp : pc + 3 = q) (K : Go p e below s Q ce sl T (mkF m q ls st)) : Go p e below s Q ce sl T (mkF m pc ls (.ref b :: st)) := by
  subst hp
  exact K.to fun t r => XS.ifnullNo X.here hx rfl hd rfl r
theorem go_ifnonnullR (X : Stand p l e R s m args below meth c T locs cells slots) (hx : p.tables.exec = Jvm.exec) {b : Addr} {o : Int} (hd : decode c.code pc = .ok (.ifnonnull o, 3)) (ho : 0 ≤ (pc : Int) + o) (hq : ((pc : Int) + o).toNat = q') (K : Go p e below s Q ce sl T (mkF m q' ls st)) : Go p e below s Q ce sl T (mkF m pc ls (.ref b :: st)) :=
  K.to fun t r => XS.ifnonnullYes X.here hx rfl (pc0 := pc) rfl hd rfl ho hq r
theorem go_tsw (X : Stand p l e R s m args below meth c T locs cells slots) (hx : p.tables.exec = Jvm.exec) {dflt low high off : Int} {offs : Array Int} {len : Nat} {i : Int32} (hd : decode c.code pc = .ok (.tableswitch dflt low high offs, len)) (hin : ¬ (i.toInt < low ∨ i.toInt > high)) (hoff : offs[(i.toInt - low).toNat]? = some off) (ho : 0 ≤ (pc : Int) + off) (hq : ((pc : Int) + off).toNat = q) (K : Go p e below s Q ce sl T (mkF m q ls st)) : Go p e below s Q ce sl T (mkF m pc ls (.int i :: st)) :=
  K.to fun t r => XS.tswIn X.here hx rfl (pc0 := pc) rfl hd rfl hin hoff ho hq r
theorem go_callVU (X : Stand p l e R s m args below meth c T locs cells slots) (hx : p.tables.exec = Jvm.exec) (hZ : Z.Warmed39 s.vm) {own C owner : String} {index : Nat} {y : MethodName} {bytes : ByteArray} {maxL : Nat} {ret : Option FieldType} {rm : Room} {W : Nat} {Qc : Option Value → Heap → List Loc → Prop} {z : MethodName} (hown : s.vm.findClass own = some m.cls) (eT : T.heap = h)
    (w1 : (Jvm.Cond.methodLink own index y).before a0 Z = true) (w2 : (Jvm.Cond.sameMethod y.cls owner y.name y.desc).before a0 Z = true) (w7 : (Jvm.Cond.declares ⟨owner, y.name, y.desc⟩).before a0 Z = true) (hy : owner ≠ "java/lang/invoke/MethodHandle" ∧ owner ≠ "java/lang/invoke/VarHandle") (w3 : (Jvm.Cond.selects C y z).before a0 Z = true) (w5 : (Jvm.Cond.instanceMethod z).before a0 Z = true) (w6 : (Jvm.Cond.initialized z.cls).before a0 Z = true) (w4 : (Jvm.Cond.code z bytes maxL ret).before a0 Z = true)
    (a : Addr) (argsL rest : List Value) (E : Exa Z h a C) (hM : Con l z bytes maxL ret [] rm Z (.ref a :: argsL).toArray h Qc) (hsz : ls.size = c.maxLocals) (hst : st = argsL.reverse ++ .ref a :: rest) (hlen : ∀ sig, parseMethodDescriptor y.desc = some sig → argsL.length = sig.parameters.length) (hW : (rest.map fun v => v.category).sum ≤ W)
    (hf : rm.frames + 1 ≤ R.frames) (hl : W + (maxL + 11) + rm.locals ≤ R.locals) (hd : decode c.code pc = .ok (.invokevirtual index, 3)) (hp : pc + 3 = q) (hc : cells + rm.cells ≤ R.cells) (hs : slots + rm.slots ≤ R.slots)
    (K : ∀ (T' : State) (L : List Loc) (v : Option Value), Stand p l e R s m args below meth c T' (locs ++ L) (cells + rm.cells) (slots + rm.slots) → Qc v T'.heap L → Go p e below s Q ce sl T' (mkF m q ls (v.toList ++ rest))) : Go p e below s Q ce sl T (mkF m pc ls st) := by
  subst hp
  obtain ⟨cq, kq, qa, qb, qc⟩ := isOf hZ eT E
  obtain ⟨v, _, ⟨T', L', k', n'⟩, -, X', ⟨Lc, hQ, l1, y1, z1⟩, stp⟩ := X.virtualBackUp hx (x := y) (y := z) hown (mvT hZ w1) (mvT hZ w2) (mvT hZ w7) hy (mvT hZ w3) (mvT hZ w5) (backOf (W := W) hM hZ w4 w6 hf hl) qa qc (g := mkF m pc ls st) rfl hsz (Steps.refl _) (argsL := argsL) (rest := rest) hlen hst (by show 2 * 0 + _ ≤ _; omega) hd (fun _ _ => ⟨rfl, eT, hc, hs⟩)
  dsimp only [Pt.U, Pt.locs, Pt.cells, Pt.slots] at X' l1 y1 z1 stp hQ
  subst l1 y1 z1
  exact (K T' Lc v X' hQ).to fun t r => stp.trans r
end OwnHeap

section OwnFloat
open Jvm.FP Jvm.FP.Core
/-- the datum with its exponent moved down by k -/
def sh (k : Int) : Datum → Datum
  | .fin s c q => .fin s c (q - k)
  | d => d
/-- the datum's value is i * 2^k -/
def Dy (k i : Int) (d : Datum) : Prop := Whole i (sh k d)
theorem dy_zero_iff {i : Int} {d : Datum} : Dy 0 i d ↔ Whole i d := by
  cases d <;> simp [Dy, sh]
theorem sh_sum (k : Int) (x y : Datum) : exactSum (sh k x) (sh k y) = sh k (exactSum x y) := by
  cases x <;> cases y <;> try rfl
  · rename_i a b; by_cases q : a = b <;> simp [sh, exactSum, q]
  · rename_i s c q t d r
    have e1 : min (q - k) (r - k) = min q r - k := by omega
    have e2 : q - k - (min q r - k) = q - min q r := by omega
    have e3 : r - k - (min q r - k) = r - min q r := by omega
    simp [sh, exactSum, sumUnits, inUnits, e1, e2, e3]
theorem sh_product (k l : Int) {x y : Datum} {s t : Bool} {c d : Nat} {q r : Int} (hx : x = .fin s c q) (hy : y = .fin t d r) : exactProduct (sh k x) (sh l y) = sh (k + l) (exactProduct x y) := by
  subst hx hy
  have e1 : q - k + (r - l) = q + r - (k + l) := by omega
  simp [sh, exactProduct, e1]
theorem sh_negate (k : Int) (x : Datum) : negate (sh k x) = sh k (negate x) := by cases x <;> rfl
theorem sh_order (k : Int) (x y : Datum) : order (sh k x) (sh k y) = order x y := by
  cases x <;> cases y <;> try rfl
  rename_i s c q t d r
  have e1 : min (q - k) (r - k) = min q r - k := by omega
  have e2 : q - k - (min q r - k) = q - min q r := by omega
  have e3 : r - k - (min q r - k) = r - min q r := by omega
  simp [sh, order, inUnits, e1, e2, e3]
theorem dy_fin {k i : Int} {d : Datum} (h : Dy k i d) : ∃ s c q, d = .fin s c q := by
  cases d with
  | nan => exact h.elim
  | inf s => exact h.elim
  | fin s c q => exact ⟨s, c, q, rfl⟩
theorem dy_sum {k i j : Int} {x y : Datum} (hx : Dy k i x) (hy : Dy k j y) : Dy k (i + j) (exactSum x y) := by
  unfold Dy; rw [← sh_sum]; exact whole_sum hx hy
theorem dy_negate {k i : Int} {x : Datum} (hx : Dy k i x) : Dy k (-i) (negate x) := by
  unfold Dy; rw [← sh_negate]; exact whole_negate hx
theorem dy_product {k l i j : Int} {x y : Datum} (hx : Dy k i x) (hy : Dy l j y) : Dy (k + l) (i * j) (exactProduct x y) := by
  obtain ⟨s, c, q, ex⟩ := dy_fin hx
  obtain ⟨t, d, r, ey⟩ := dy_fin hy
  unfold Dy; rw [← sh_product k l ex ey]; exact whole_product hx hy
theorem dy_order {k i j : Int} {x y : Datum} (hx : Dy k i x) (hy : Dy k j y) : order x y = some (compare i j) := by
  rw [← sh_order k]; exact order_whole hx hy
/-- c * 2^q and A * 2^k are alike: by differences, or with both exponents raised -/
theorem p2 {c A : Nat} {q k : Int} (N : Nat) (h1 : 0 ≤ q + N) (h2 : 0 ≤ k + N) : c * 2 ^ (q - k).toNat = A * 2 ^ (k - q).toNat ↔ c * 2 ^ (q + N).toNat = A * 2 ^ (k + N).toNat := by
  rcases Int.le_total q k with hqk | hqk
  · have e1 : (q - k).toNat = 0 := by omega
    have e2 : (k + N).toNat = (k - q).toNat + (q + N).toNat := by omega
    rw [e1, e2, Nat.pow_zero, Nat.mul_one, Nat.pow_add, ← Nat.mul_assoc]
    exact ⟨fun h => by rw [h], fun h => Nat.eq_of_mul_eq_mul_right (Nat.two_pow_pos _) h⟩
  · have e1 : (k - q).toNat = 0 := by omega
    have e2 : (q + N).toNat = (q - k).toNat + (k + N).toNat := by omega
    rw [e1, e2, Nat.pow_zero, Nat.mul_one, Nat.pow_add, ← Nat.mul_assoc]
    exact ⟨fun h => by rw [h], fun h => Nat.eq_of_mul_eq_mul_right (Nat.two_pow_pos _) h⟩
theorem dy_abs {k i : Int} {s : Bool} {c : Nat} {q : Int} (h : Dy k i (.fin s c q)) : c * 2 ^ (q - k).toNat = i.natAbs * 2 ^ (k - q).toNat := by
  have h' : signed s (c * 2 ^ (q - k).toNat) = i * ((2 ^ (-(q - k)).toNat : Nat) : Int) := h
  have e := congrArg Int.natAbs h'
  rw [natAbs_signed, Int.natAbs_mul, Int.natAbs_natCast, show -(q - k) = k - q by omega] at e
  exact e
theorem dy_sgn {k i : Int} {s : Bool} {c : Nat} {q : Int} (h : Dy k i (.fin s c q)) : signed s i.natAbs = i := by
  have h' : signed s (c * 2 ^ (q - k).toNat) = i * ((2 ^ (-(q - k)).toNat : Nat) : Int) := h
  rw [dy_abs h, signed_mul, show -(q - k) = k - q by omega] at h'
  exact Int.eq_of_mul_eq_mul_right (by have := Nat.two_pow_pos (k - q).toNat; omega) h'
theorem dy_mk {k i : Int} {s : Bool} {c : Nat} {q : Int} (h1 : c * 2 ^ (q - k).toNat = i.natAbs * 2 ^ (k - q).toNat) (h2 : signed s i.natAbs = i) : Dy k i (.fin s c q) := by
  show signed s (c * 2 ^ (q - k).toNat) = i * ((2 ^ (-(q - k)).toNat : Nat) : Int)
  rw [h1, signed_mul, h2, show -(q - k) = k - q by omega]
theorem dy_of_units {k i : Int} {s : Bool} {c' : Nat} {q' : Int} (hq : -1074 ≤ q') (hk : -1074 ≤ k) (e2 : inUnits c' q' (-1074) = inUnits i.natAbs k (-1074)) (h2 : signed s i.natAbs = i) : Dy k i (.fin s c' q') := by
  refine dy_mk ?_ h2
  rw [p2 1074 (by omega) (by omega)]
  unfold inUnits at e2
  rw [show q' - -1074 = q' + (1074 : Nat) by omega, show k - -1074 = k + (1074 : Nat) by omega] at e2
  exact e2
theorem dy_roundRatio {k m : Int} {S : Bool} {c d : Nat} {e : Int} (hd : 0 < d) (h : c * 2 ^ (e - k).toNat = m.natAbs * d * 2 ^ (k - e).toNat) (hm : m.natAbs < 2 ^ 53) (k1 : -1074 ≤ k) (k2 : k ≤ 971) (h2 : signed S m.natAbs = m) : Dy k m (roundRatio b64 S c d e) := by
  have hr : roundRatio b64 S c d e = round b64 (.fin S m.natAbs k) := roundRatio_congr (A := c) (B := d) (A' := m.natAbs) (B' := 1) (e := e) (e' := k) hd (by decide) (by rw [Nat.mul_one]; exact h)
  obtain ⟨c', q', e1, e2⟩ := round_exact good_b64 S (c := m.natAbs) (q := k) hm (by rw [qmin_b64]; exact k1) (by show k ≤ 971; exact k2)
  have hf : Core.fits b64 (.fin S c' q') := by rw [← e1]; exact round_fits good_b64 _
  have hq : -1074 ≤ q' := by have := hf.2.1; rw [qmin_b64] at this; exact this
  rw [hr, e1]
  rw [qmin_b64] at e2
  exact dy_of_units hq k1 e2 h2
theorem dy_round {k i : Int} {d : Datum} (h : Dy k i d) (hi : i.natAbs < 2 ^ 53) (k1 : -1074 ≤ k) (k2 : k ≤ 971) : Dy k i (round b64 d) := by
  obtain ⟨s, c, q, rfl⟩ := dy_fin h
  exact dy_roundRatio (d := 1) (by decide) (by rw [Nat.mul_one]; exact dy_abs h) hi k1 k2 (dy_sgn h)
theorem signed_xor1 (s t : Bool) (a b : Nat) : signed (s != t) (a * b) = signed s a * signed t b := signed_xor s t a b
theorem dy_quotient {k l i j m : Int} {x y : Datum} (hx : Dy k i x) (hy : Dy l j y) (hj : j ≠ 0) (hm : i = m * j) (hb : m.natAbs < 2 ^ 53) (k1 : -1074 ≤ k - l) (k2 : k - l ≤ 971) : Dy (k - l) m (quotient b64 x y) := by
  obtain ⟨s, c, q, rfl⟩ := dy_fin hx
  obtain ⟨t, d, r, rfl⟩ := dy_fin hy
  have a1 := dy_abs hx
  have a2 := dy_abs hy
  have jpos : 0 < j.natAbs := by omega
  have dpos : 0 < d := by
    rcases Nat.eq_zero_or_pos d with rfl | h
    · rw [Nat.zero_mul] at a2
      have := Nat.mul_pos jpos (Nat.two_pow_pos (l - r).toNat)
      omega
    · exact h
  have ea : i.natAbs = m.natAbs * j.natAbs := by rw [hm, Int.natAbs_mul]
  show Dy (k - l) m (if d = 0 then (if c = 0 then .nan else .inf (s != t)) else roundRatio b64 (s != t) c d (q - r))
  rw [if_neg (by omega)]
  refine dy_roundRatio dpos ?_ hb k1 k2 ?_
  · have N : Nat := 0
    obtain ⟨M, hM⟩ : ∃ M : Nat, 0 ≤ q + M ∧ 0 ≤ k + M ∧ 0 ≤ r + M ∧ 0 ≤ l + M := ⟨q.natAbs + k.natAbs + r.natAbs + l.natAbs, by omega, by omega, by omega, by omega⟩
    rw [p2 M hM.1 hM.2.1] at a1
    rw [p2 M hM.2.2.1 hM.2.2.2] at a2
    have e1 : q - r - (k - l) = (q + l) - (k + r) := by omega
    have e2 : k - l - (q - r) = (k + r) - (q + l) := by omega
    rw [e1, e2, p2 (2 * M) (by omega) (by omega)]
    have f1 : (q + l + ((2 * M : Nat) : Int)).toNat = (q + M).toNat + (l + M).toNat := by omega
    have f2 : (k + r + ((2 * M : Nat) : Int)).toNat = (k + M).toNat + (r + M).toNat := by omega
    rw [f1, f2, Nat.pow_add, Nat.pow_add]
    refine Nat.eq_of_mul_eq_mul_right jpos ?_
    calc c * (2 ^ (q + M).toNat * 2 ^ (l + M).toNat) * j.natAbs
        = (c * 2 ^ (q + M).toNat) * (j.natAbs * 2 ^ (l + M).toNat) := by ac_rfl
      _ = (i.natAbs * 2 ^ (k + M).toNat) * (d * 2 ^ (r + M).toNat) := by rw [a1, a2]
      _ = m.natAbs * d * (2 ^ (k + M).toNat * 2 ^ (r + M).toNat) * j.natAbs := by rw [ea]; ac_rfl
  · have s1 := dy_sgn hx
    have s2 := dy_sgn hy
    have s3 : signed (s != t) (i.natAbs * j.natAbs) = i * j := by rw [signed_xor, s1, s2]
    have e3 : i.natAbs * j.natAbs = m.natAbs * (j.natAbs * j.natAbs) := by rw [ea, Nat.mul_assoc]
    rw [e3, signed_mul, Int.natAbs_mul_self, hm, Int.mul_assoc] at s3
    exact Int.eq_of_mul_eq_mul_right (Int.mul_ne_zero hj hj) s3
theorem dy_scale {k i : Int} {d : Datum} (h : Dy k i d) (n : Nat) : Dy (k - n) (i * 2 ^ n) d := by
  obtain ⟨s, c, q, rfl⟩ := dy_fin h
  have a1 := dy_abs h
  have s1 := dy_sgn h
  have e0 : (i * 2 ^ n).natAbs = i.natAbs * 2 ^ n := by rw [Int.natAbs_mul, Int.natAbs_pow]; rfl
  refine dy_mk ?_ ?_
  · obtain ⟨M, h1, h2⟩ : ∃ M : Nat, 0 ≤ q + M ∧ 0 ≤ k - n + M := ⟨q.natAbs + k.natAbs + n, by omega, by omega⟩
    rw [p2 M h1 (by omega)] at a1
    rw [p2 M h1 h2, a1, e0]
    have : (k + (M : Int)).toNat = n + (k - n + M).toNat := by omega
    rw [this, Nat.pow_add, Nat.mul_assoc]
  · rw [e0, signed_mul, s1]; congr 1
/-- the double x is worth i * 2^k, and |i| is at most A -/
def DB (k : Int) (A : Nat) (i : Int) (x : UInt64) : Prop := Dy k i (val64 x) ∧ i.natAbs ≤ A
theorem DB.fin {k i : Int} {A : Nat} {x : UInt64} (h : DB k A i x) : DFin x := dy_fin h.1
theorem DB.nn {k i : Int} {A : Nat} {x : UInt64} (h : DB k A i x) : Jvm.Free.Fl.NoNaN64 x := Jvm.Free.Fl.noNaN64_no.mpr h.fin.notNaN
theorem DB.le {k i : Int} {A B : Nat} {x : UInt64} (h : DB k A i x) (hb : i.natAbs ≤ B) : DB k B i x := ⟨h.1, hb⟩
theorem DB.eqv {k i j : Int} {A : Nat} {x : UInt64} (h : DB k A i x) (e : i = j) : DB k A j x := e ▸ h
theorem db_add {k i j : Int} {A B : Nat} {x y : UInt64} (hx : DB k A i x) (hy : DB k B j y) (hA : A + B < 9007199254740992) (k1 : -1074 ≤ k) (k2 : k ≤ 971) : DB k (A + B) (i + j) (FP.dadd x y) := by
  have h1 := hx.2; have h2 := hy.2
  have hb : (i + j).natAbs ≤ A + B := by omega
  refine ⟨?_, hb⟩
  show Dy k (i + j) (val64 (Core.dadd x y))
  rw [val64_dadd]; exact dy_round (dy_sum hx.1 hy.1) (by omega) k1 k2
theorem db_sub {k i j : Int} {A B : Nat} {x y : UInt64} (hx : DB k A i x) (hy : DB k B j y) (hA : A + B < 9007199254740992) (k1 : -1074 ≤ k) (k2 : k ≤ 971) : DB k (A + B) (i - j) (FP.dsub x y) := by
  have h1 := hx.2; have h2 := hy.2
  have hb : (i - j).natAbs ≤ A + B := by omega
  refine ⟨?_, hb⟩
  show Dy k (i - j) (val64 (Core.dsub x y))
  rw [val64_dsub]; exact dy_round (by rw [Int.sub_eq_add_neg]; exact dy_sum hx.1 (dy_negate hy.1)) (by omega) k1 k2
theorem db_mul {k l i j : Int} {A B : Nat} {x y : UInt64} (hx : DB k A i x) (hy : DB l B j y) (hA : A * B < 9007199254740992) (k1 : -1074 ≤ k + l) (k2 : k + l ≤ 971) : DB (k + l) (A * B) (i * j) (FP.dmul x y) := by
  have hb : (i * j).natAbs ≤ A * B := by rw [Int.natAbs_mul]; exact Nat.mul_le_mul hx.2 hy.2
  refine ⟨?_, hb⟩
  show Dy (k + l) (i * j) (val64 (Core.dmul x y))
  rw [val64_dmul]; exact dy_round (dy_product hx.1 hy.1) (by omega) k1 k2
theorem db_div {k l i j : Int} {A B : Nat} {x y : UInt64} (m : Int) (hx : DB k A i x) (hy : DB l B j y) (hj : j ≠ 0) (hm : i = m * j) (hA : A < 9007199254740992) (k1 : -1074 ≤ k - l) (k2 : k - l ≤ 971) : DB (k - l) A m (FP.ddiv x y) := by
  have h1 : m.natAbs ≤ i.natAbs := by rw [hm, Int.natAbs_mul]; exact Nat.le_mul_of_pos_right _ (by omega)
  have h2 := hx.2
  refine ⟨?_, by omega⟩
  show Dy (k - l) m (val64 (Core.ddiv x y))
  rw [val64_ddiv]; exact dy_quotient hx.1 hy.1 hj hm (by omega) k1 k2
theorem DB.scale {k i : Int} {A : Nat} {x : UInt64} (h : DB k A i x) (n : Nat) : DB (k - n) (A * 2 ^ n) (i * 2 ^ n) x :=
  ⟨dy_scale h.1 n, by rw [Int.natAbs_mul, Int.natAbs_pow]; exact Nat.mul_le_mul_right _ h.2⟩
theorem db_i2d (v : Int32) : DB 0 2147483648 v.toInt (FP.i2d v) := ⟨dy_zero_iff.mpr (i2d_int v), by have := Int32.toInt_lt v; have := Int32.le_toInt v; omega⟩
theorem db_i2d' {v : Int32} {A : Nat} (h : v.toInt.natAbs ≤ A) : DB 0 A v.toInt (FP.i2d v) := (db_i2d v).le h
theorem db_l2d {v : Int64} {A : Nat} (h : v.toInt.natAbs ≤ A) (hA : A ≤ 9007199254740992) : DB 0 A v.toInt (FP.l2d v) := ⟨dy_zero_iff.mpr (l2d_int (by omega)), h⟩
theorem db_dcmp {k i j : Int} {A B : Nat} {x y : UInt64} (hx : DB k A i x) (hy : DB k B j y) : FP.dcmp x y = some (compare i j) := dy_order hx.1 hy.1
theorem db_cv {k i j : Int} {A B : Nat} {x y : UInt64} (hx : DB k A i x) (hy : DB k B j y) (o : CmpOp) : cmpValue (FP.dcmp x y) o = if i < j then -1 else if i = j then 0 else 1 := by
  rw [db_dcmp hx hy, compare_ite]
  by_cases h1 : i < j
  · simp [h1]; rfl
  · by_cases h2 : i = j
    · simp [h2]; rfl
    · simp [h1, h2]; rfl
theorem db_lt {k i j : Int} {A B : Nat} {x y : UInt64} (hx : DB k A i x) (hy : DB k B j y) (o : CmpOp) : cmpValue (FP.dcmp x y) o < 0 ↔ i < j := by
  rw [db_cv hx hy]
  by_cases h1 : i < j
  · simp [h1]
  · by_cases h2 : i = j
    · simp [h2]
    · simp [h1, h2]
theorem db_gt {k i j : Int} {A B : Nat} {x y : UInt64} (hx : DB k A i x) (hy : DB k B j y) (o : CmpOp) : 0 < cmpValue (FP.dcmp x y) o ↔ j < i := by
  rw [db_cv hx hy]
  by_cases h1 : i < j
  · simp [h1, show ¬ j < i by omega]
  · by_cases h2 : i = j
    · simp [h2]
    · simp [h1, h2, show j < i by omega]
theorem db_eq {k i j : Int} {A B : Nat} {x y : UInt64} (hx : DB k A i x) (hy : DB k B j y) (o : CmpOp) : cmpValue (FP.dcmp x y) o = 0 ↔ i = j := by
  rw [db_cv hx hy]
  by_cases h1 : i < j
  · simp [h1, show ¬ i = j by omega]
  · by_cases h2 : i = j
    · simp [h2]
    · simp [h1, h2]
theorem db_c0 : DB 0 0 0 0 := ⟨by rw [show val64 0 = .fin false 0 (-1074) by decide +kernel]; exact dy_mk (by simp) rfl, by decide⟩
theorem db_c1 : DB 0 1 1 4607182418800017408 := ⟨by rw [show val64 4607182418800017408 = .fin false (2 ^ 52) (-52) by decide +kernel]; exact dy_mk (by decide +kernel) rfl, by decide⟩
theorem db_c2 : DB 0 2 2 4611686018427387904 := ⟨by rw [show val64 4611686018427387904 = .fin false (2 ^ 52) (-51) by decide +kernel]; exact dy_mk (by decide +kernel) rfl, by decide⟩
end OwnFloat

section OwnFloatGo
variable {p : Program} {l : Launch} {e : Env} {R : Room} {s : State} {m : MethodId} {args : Array Value} {below : List Frame} {meth : Method} {c : Code} {T : State} {locs : List Loc} {cells slots : Nat} {Z : State} {h : Heap} {Q : Option Value → Heap → List Loc → Prop} {ce sl : Nat} {pc q q' : Nat} {ls : Array Slot} {st : List Value} {a0 : Array Value}
theorem go_i2dB (X : Stand p l e R s m args below meth c T locs cells slots) (hx : p.tables.exec = Jvm.exec) {x : Int32} {A : Nat} {i : Int} (hd : decode c.code pc = .ok (.i2d, 1)) (hp : pc + 1 = q) (hA : DB 0 A i (FP.i2d x)) (K : ∀ z, DB 0 A i z → Go p e below s Q ce sl T (mkF m q ls (.double z :: st))) : Go p e below s Q ce sl T (mkF m pc ls (.int x :: st)) :=
  go_i2d X hx hd hp rfl (K _ hA)
theorem go_l2dB (X : Stand p l e R s m args below meth c T locs cells slots) (hx : p.tables.exec = Jvm.exec) {x : Int64} {A : Nat} {i : Int} (hd : decode c.code pc = .ok (.l2d, 1)) (hp : pc + 1 = q) (hA : DB 0 A i (FP.l2d x)) (K : ∀ z, DB 0 A i z → Go p e below s Q ce sl T (mkF m q ls (.double z :: st))) : Go p e below s Q ce sl T (mkF m pc ls (.long x :: st)) :=
  go_l2d X hx hd hp rfl (K _ hA)
theorem go_f2dB (X : Stand p l e R s m args below meth c T locs cells slots) (hx : p.tables.exec = Jvm.exec) {x : UInt32} {A : Nat} {i : Int} (hd : decode c.code pc = .ok (.f2d, 1)) (hp : pc + 1 = q) (hA : DB 0 A i (FP.f2d x)) (K : ∀ z, DB 0 A i z → Go p e below s Q ce sl T (mkF m q ls (.double z :: st))) : Go p e below s Q ce sl T (mkF m pc ls (.float x :: st)) :=
  go_f2d X hx hd hp hA.nn rfl (K _ hA)
theorem go_daddB (X : Stand p l e R s m args below meth c T locs cells slots) (hx : p.tables.exec = Jvm.exec) {x y : UInt64} {k i j : Int} {A B C : Nat} (hd : decode c.code pc = .ok (.dadd, 1)) (hp : pc + 1 = q) (hA : DB k A i x) (hB : DB k B j y) (b1 : A + B < 9007199254740992) (k1 : -1074 ≤ k) (k2 : k ≤ 971) (hC : A + B = C) (K : ∀ z, DB k C (i + j) z → Go p e below s Q ce sl T (mkF m q ls (.double z :: st))) : Go p e below s Q ce sl T (mkF m pc ls (.double y :: .double x :: st)) :=
  go_dadd X hx hd hp (db_add hA hB b1 k1 k2).nn rfl (K _ (hC ▸ db_add hA hB b1 k1 k2))
theorem go_dsubB (X : Stand p l e R s m args below meth c T locs cells slots) (hx : p.tables.exec = Jvm.exec) {x y : UInt64} {k i j : Int} {A B C : Nat} (hd : decode c.code pc = .ok (.dsub, 1)) (hp : pc + 1 = q) (hA : DB k A i x) (hB : DB k B j y) (b1 : A + B < 9007199254740992) (k1 : -1074 ≤ k) (k2 : k ≤ 971) (hC : A + B = C) (K : ∀ z, DB k C (i - j) z → Go p e below s Q ce sl T (mkF m q ls (.double z :: st))) : Go p e below s Q ce sl T (mkF m pc ls (.double y :: .double x :: st)) :=
  go_dsub X hx hd hp (db_sub hA hB b1 k1 k2).nn rfl (K _ (hC ▸ db_sub hA hB b1 k1 k2))
theorem go_dmulB (X : Stand p l e R s m args below meth c T locs cells slots) (hx : p.tables.exec = Jvm.exec) {x y : UInt64} {k k' kk i j : Int} {A B C : Nat} (hd : decode c.code pc = .ok (.dmul, 1)) (hp : pc + 1 = q) (hA : DB k A i x) (hB : DB k' B j y) (b1 : A * B < 9007199254740992) (k1 : -1074 ≤ k + k') (k2 : k + k' ≤ 971) (hk : k + k' = kk) (hC : A * B = C) (K : ∀ z, DB kk C (i * j) z → Go p e below s Q ce sl T (mkF m q ls (.double z :: st))) : Go p e below s Q ce sl T (mkF m pc ls (.double y :: .double x :: st)) :=
  go_dmul X hx hd hp (db_mul hA hB b1 k1 k2).nn rfl (K _ (hC ▸ hk ▸ db_mul hA hB b1 k1 k2))
theorem go_ddivB (X : Stand p l e R s m args below meth c T locs cells slots) (hx : p.tables.exec = Jvm.exec) {x y : UInt64} {k k' kk i j w0 : Int} {A B : Nat} (hd : decode c.code pc = .ok (.ddiv, 1)) (hp : pc + 1 = q) (hA : DB k A i x) (hB : DB k' B j y) (hj : j ≠ 0) (hm : i = w0 * j) (b1 : A < 9007199254740992) (k1 : -1074 ≤ k - k') (k2 : k - k' ≤ 971) (hk : k - k' = kk) (K : ∀ z, DB kk A w0 z → Go p e below s Q ce sl T (mkF m q ls (.double z :: st))) : Go p e below s Q ce sl T (mkF m pc ls (.double y :: .double x :: st)) :=
  go_ddiv X hx hd hp (db_div w0 hA hB hj hm b1 k1 k2).nn rfl (K _ (hk ▸ db_div w0 hA hB hj hm b1 k1 k2))
theorem go_dif_lt (X : Stand p l e R s m args below meth c T locs cells slots) (hx : p.tables.exec = Jvm.exec) {x y : UInt64} {k i j : Int} {A B : Nat} {cm : CmpOp} {o : Int} (hd : decode c.code pc = .ok (.ifCond .lt o, 3)) (hp : pc + 3 = q) (ho : 0 ≤ (pc : Int) + o) (hq : ((pc : Int) + o).toNat = q') (hA : DB k A i x) (hB : DB k B j y) (KY : i < j → Go p e below s Q ce sl T (mkF m q' ls st)) (KN : ¬ i < j → Go p e below s Q ce sl T (mkF m q ls st)) : Go p e below s Q ce sl T (mkF m pc ls (.int (cmpValue (FP.dcmp x y) cm) :: st)) :=
  go_if_lt X hx hd hp ho hq (fun w => KY ((db_lt hA hB _).mp w)) (fun w => KN (fun z => w ((db_lt hA hB _).mpr z)))
theorem go_dif_ge (X : Stand p l e R s m args below meth c T locs cells slots) (hx : p.tables.exec = Jvm.exec) {x y : UInt64} {k i j : Int} {A B : Nat} {cm : CmpOp} {o : Int} (hd : decode c.code pc = .ok (.ifCond .ge o, 3)) (hp : pc + 3 = q) (ho : 0 ≤ (pc : Int) + o) (hq : ((pc : Int) + o).toNat = q') (hA : DB k A i x) (hB : DB k B j y) (KY : ¬ i < j → Go p e below s Q ce sl T (mkF m q' ls st)) (KN : i < j → Go p e below s Q ce sl T (mkF m q ls st)) : Go p e below s Q ce sl T (mkF m pc ls (.int (cmpValue (FP.dcmp x y) cm) :: st)) :=
  go_if_ge X hx hd hp ho hq (fun w => KY (fun z => w ((db_lt hA hB _).mpr z))) (fun w => KN ((db_lt hA hB _).mp w))
theorem go_dif_gt (X : Stand p l e R s m args below meth c T locs cells slots) (hx : p.tables.exec = Jvm.exec) {x y : UInt64} {k i j : Int} {A B : Nat} {cm : CmpOp} {o : Int} (hd : decode c.code pc = .ok (.ifCond .gt o, 3)) (hp : pc + 3 = q) (ho : 0 ≤ (pc : Int) + o) (hq : ((pc : Int) + o).toNat = q') (hA : DB k A i x) (hB : DB k B j y) (KY : j < i → Go p e below s Q ce sl T (mkF m q' ls st)) (KN : ¬ j < i → Go p e below s Q ce sl T (mkF m q ls st)) : Go p e below s Q ce sl T (mkF m pc ls (.int (cmpValue (FP.dcmp x y) cm) :: st)) :=
  go_if_gt X hx hd hp ho hq (fun w => KY ((db_gt hA hB _).mp w)) (fun w => KN (fun z => w ((db_gt hA hB _).mpr z)))
theorem go_dif_le (X : Stand p l e R s m args below meth c T locs cells slots) (hx : p.tables.exec = Jvm.exec) {x y : UInt64} {k i j : Int} {A B : Nat} {cm : CmpOp} {o : Int} (hd : decode c.code pc = .ok (.ifCond .le o, 3)) (hp : pc + 3 = q) (ho : 0 ≤ (pc : Int) + o) (hq : ((pc : Int) + o).toNat = q') (hA : DB k A i x) (hB : DB k B j y) (KY : ¬ j < i → Go p e below s Q ce sl T (mkF m q' ls st)) (KN : j < i → Go p e below s Q ce sl T (mkF m q ls st)) : Go p e below s Q ce sl T (mkF m pc ls (.int (cmpValue (FP.dcmp x y) cm) :: st)) :=
  go_if_le X hx hd hp ho hq (fun w => KY (fun z => w ((db_gt hA hB _).mpr z))) (fun w => KN ((db_gt hA hB _).mp w))
theorem go_dif_eq (X : Stand p l e R s m args below meth c T locs cells slots) (hx : p.tables.exec = Jvm.exec) {x y : UInt64} {k i j : Int} {A B : Nat} {cm : CmpOp} {o : Int} (hd : decode c.code pc = .ok (.ifCond .eq o, 3)) (hp : pc + 3 = q) (ho : 0 ≤ (pc : Int) + o) (hq : ((pc : Int) + o).toNat = q') (hA : DB k A i x) (hB : DB k B j y) (KY : i = j → Go p e below s Q ce sl T (mkF m q' ls st)) (KN : ¬ i = j → Go p e below s Q ce sl T (mkF m q ls st)) : Go p e below s Q ce sl T (mkF m pc ls (.int (cmpValue (FP.dcmp x y) cm) :: st)) :=
  go_if_eq X hx hd hp ho hq (fun w => KY ((db_eq hA hB _).mp w)) (fun w => KN (fun z => w ((db_eq hA hB _).mpr z)))
theorem go_dif_ne (X : Stand p l e R s m args below meth c T locs cells slots) (hx : p.tables.exec = Jvm.exec) {x y : UInt64} {k i j : Int} {A B : Nat} {cm : CmpOp} {o : Int} (hd : decode c.code pc = .ok (.ifCond .ne o, 3)) (hp : pc + 3 = q) (ho : 0 ≤ (pc : Int) + o) (hq : ((pc : Int) + o).toNat = q') (hA : DB k A i x) (hB : DB k B j y) (KY : ¬ i = j → Go p e below s Q ce sl T (mkF m q' ls st)) (KN : i = j → Go p e below s Q ce sl T (mkF m q ls st)) : Go p e below s Q ce sl T (mkF m pc ls (.int (cmpValue (FP.dcmp x y) cm) :: st)) :=
  go_if_ne X hx hd hp ho hq (fun w => KY (fun z => w ((db_eq hA hB _).mpr z))) (fun w => KN ((db_eq hA hB _).mp w))
end OwnFloatGo

theorem own_c20 : DB 20 1 1 4697254411347427328 := ⟨by rw [show FP.Core.val64 4697254411347427328 = .fin false (2 ^ 52) (-32) by decide +kernel]; exact dy_mk (by decide +kernel) rfl, by decide⟩
theorem own_sq {n : Int32} (h : n.toInt.natAbs ≤ 67108863) : (n.toInt64 * n.toInt64).toInt = n.toInt * n.toInt ∧ (n.toInt64 * n.toInt64).toInt.natAbs ≤ 4503599493152769 := by
  have h1 : (n.toInt * n.toInt).natAbs ≤ 67108863 * 67108863 := by rw [Int.natAbs_mul]; exact Nat.mul_le_mul h h
  have e : (n.toInt64 * n.toInt64).toInt = n.toInt * n.toInt := by rw [Int64.toInt_mul, Int32.toInt_toInt64]; exact Int.bmod_eq_of_le (by omega) (by omega)
  exact ⟨e, by omega⟩

theorem pd_0 : parseMethodDescriptor "(D)D" = some ⟨[.double], some .double⟩ := by decide +kernel
theorem d1_0 : decode prog_24_method_4_code 0 = .ok (.aload_n 0, 1) := by decide +kernel
theorem d1_1 : decode prog_24_method_4_code 1 = .ok (.getstatic 3, 3) := by decide +kernel
theorem d1_4 : decode prog_24_method_4_code 4 = .ok (.if_acmp .ne 9, 3) := by decide +kernel
theorem d1_7 : decode prog_24_method_4_code 7 = .ok (.dload_n 1, 1) := by decide +kernel
theorem d1_8 : decode prog_24_method_4_code 8 = .ok (.dload_n 1, 1) := by decide +kernel
theorem d1_9 : decode prog_24_method_4_code 9 = .ok (.dmul, 1) := by decide +kernel
theorem d1_10 : decode prog_24_method_4_code 10 = .ok (.goto 4, 3) := by decide +kernel
theorem d1_13 : decode prog_24_method_4_code 13 = .ok (.dload_n 1, 1) := by decide +kernel
theorem d1_14 : decode prog_24_method_4_code 14 = .ok (.dreturn, 1) := by decide +kernel
theorem pn_1 : plainName "com/example/cyclecast/cyclecast/PeriodicPlanner$Objective" = true := by first | (simp [plainName, overriddenIn]; done) | decide +kernel
theorem ef_1 (m : MethodId) (x0 : Addr) (x1 : UInt64) : entryFrame m #[(.ref x0), (.double x1)] 3 = mkF m 0 #[.val (.ref x0), .val (.double x1), .second] [] := by first | (simp [entryFrame, mkF, argsToLocals, Value.category]; done) | rfl
set_option maxRecDepth 65536 in
set_option maxHeartbeats 40000000 in
theorem rm1 (l : Launch) (Z : State) (a0 : Array Value) (hw : ∀ d ∈ tables_1, d.before a0 Z = true) (ws : List Jvm.Cond) (ao : Addr) (d0 : UInt64) (aA : Addr) (h0 : Heap) (S_AVE : Sta Z h0 "com/example/cyclecast/cyclecast/PeriodicPlanner$Objective" "AVE" "Lcom/example/cyclecast/cyclecast/PeriodicPlanner$Objective;" (.ref aA)) (hnn : Jvm.Free.Fl.NoNaN64 (FP.dmul d0 d0)) :
    Con l (⟨"com/example/cyclecast/cyclecast/PeriodicPlanner$Objective", "leaf", "(D)D"⟩ : MethodName) prog_24_method_4_code 3 (some .double) ws ({ frames := 0, cells := 0, slots := 0, locals := 0 } : Room) Z #[(.ref ao), (.double d0)] h0 (fun v h L => Fr h0.size L ∧ v = some (.double (if ao = aA then FP.dmul d0 d0 else d0)) ∧ h = h0) := by
  refine con_of (plainFor_of_name pn_1) ?_
  intro p e s m below meth c s₁ X0 hx hby hml hret hlk hown hnm hZ e0
  refine Go.cast (ef_1 m ao d0) ?_
  have N0 := Fr.nil h0.size
  have hsz : h0.size ≤ h0.size := (Nat.le_refl _)
  refine go_aloadN (q := 1) X0 hx (hb hby d1_0) rfl rfl rfl ?_
  refine go_getS (q := 4) X0 hx hZ (host := "") hown (Or.inl (hw _ (List.mem_of_getElem? (i := 11) rfl))) Via.refl e0 S_AVE (hb hby d1_1) rfl (fun T1 X1 e1 => ?_)
  refine go_acmp_ne (q := 7) (q' := 13) X1 hx rfl rfl (hb hby d1_4) rfl (by decide) rfl (fun hc4 => ?_) (fun hc4 => ?_)
  · refine go_dloadN (q := 14) X1 hx (hb hby d1_13) rfl rfl ?_
    exact go_retD X1 hx hret hlk (hb hby d1_14) (by decide) (by decide) ⟨N0, by rw [if_neg (fun q => hc4 (congrArg Value.ref q))], e1⟩
  · refine go_dloadN (q := 8) X1 hx (hb hby d1_7) rfl rfl ?_
    refine go_dloadN (q := 9) X1 hx (hb hby d1_8) rfl rfl ?_
    refine go_dmul (q := 10) X1 hx (hb hby d1_9) rfl hnn rfl ?_
    refine go_goto (q := 14) X1 hx (hb hby d1_10) (by decide) rfl ?_
    exact go_retD X1 hx hret hlk (hb hby d1_14) (by decide) (by decide) ⟨N0, by rw [if_pos (Value.ref.inj hc4)], e1⟩
theorem pn_0 : plainName "com/example/cyclecast/cyclecast/ObjectiveLeafPinLaw" = true := by first | (simp [plainName, overriddenIn]; done) | decide +kernel
theorem ef_0 (m : MethodId) (x0 : Int32) (x1 : Int32) : entryFrame m #[(.int x0), (.int x1)] maxLocals = mkF m 0 #[.val (.int x0), .val (.int x1), .unset, .unset, .unset, .unset, .unset, .unset, .unset, .unset, .unset, .unset, .unset, .unset, .unset] [] := by first | (simp [entryFrame, mkF, argsToLocals, Value.category, maxLocals]; done) | rfl
set_option maxRecDepth 65536 in
set_option maxHeartbeats 40000000 in
theorem rm0 (l : Launch) (Z : State) (a0 : Array Value) (hw : ∀ d ∈ tables_1, d.before a0 Z = true) (ws : List Jvm.Cond) (x_ : Int32) (flags : Int32) (aA aM : Addr) (h0 : Heap) (S_AVE : Sta Z h0 "com/example/cyclecast/cyclecast/PeriodicPlanner$Objective" "AVE" "Lcom/example/cyclecast/cyclecast/PeriodicPlanner$Objective;" (.ref aA)) (S_MAX : Sta Z h0 "com/example/cyclecast/cyclecast/PeriodicPlanner$Objective" "MAX" "Lcom/example/cyclecast/cyclecast/PeriodicPlanner$Objective;" (.ref aM)) (E_aA : Exa Z h0 aA "com/example/cyclecast/cyclecast/PeriodicPlanner$Objective") (E_aM : Exa Z h0 aM "com/example/cyclecast/cyclecast/PeriodicPlanner$Objective") (hne : aM ≠ aA) :
    Con l x code maxLocals ret ws room_1 Z #[(.int x_), (.int flags)] h0 (fun v h L => v = some (.int (1 : Int32)) ∧ Fr h0.size L) := by
  refine con_of (plainFor_of_name pn_0) ?_
  intro p e s m below meth c s₁ X0 hx hby hml hret hlk hown hnm hZ e0
  refine Go.cast (ef_0 m x_ flags) ?_
  have N0 := Fr.nil h0.size
  have hsz : h0.size ≤ h0.size := (Nat.le_refl _)
  refine go_iloadN (q := 1) X0 hx (hb hby at_0) rfl rfl ?_
  refine go_ldcI (q := 3) (v := (67108863 : Int32)) X0 hx hZ hown (hw _ (List.mem_of_getElem? (i := 0) rfl)) (hb hby at_1) rfl ?_
  refine go_iand (q := 4) (v := (x_ &&& (67108863 : Int32))) X0 hx (hb hby at_3) rfl rfl ?_
  refine go_istoreN (q := 5) (l' := #[.val (.int x_), .val (.int flags), .val (.int (x_ &&& (67108863 : Int32))), .unset, .unset, .unset, .unset, .unset, .unset, .unset, .unset, .unset, .unset, .unset, .unset]) X0 hx (hb hby at_4) rfl rfl ?_
  suffices Hn0_ : ∀ n0_ : Int32, n0_ = (x_ &&& (67108863 : Int32)) → Go p e below s (fun v h L => v = some (.int (1 : Int32)) ∧ Fr h0.size L) room_1.cells room_1.slots s₁ (mkF m 5 #[.val (.int x_), .val (.int flags), .val (.int n0_), .unset, .unset, .unset, .unset, .unset, .unset, .unset, .unset, .unset, .unset, .unset, .unset] []) from Hn0_ _ rfl
  intro n0_ en0_
  have hn0 : 0 ≤ n0_.toInt ∧ n0_.toInt ≤ 67108863 := by rw [en0_]; exact c_and _ _ (by decide)
  refine go_iloadN (q := 6) X0 hx (hb hby at_5) rfl rfl ?_
  refine go_ldcI (q := 8) (v := (67108864 : Int32)) X0 hx hZ hown (hw _ (List.mem_of_getElem? (i := 1) rfl)) (hb hby at_6) rfl ?_
  refine go_iand (q := 9) (v := (x_ &&& (67108864 : Int32))) X0 hx (hb hby at_8) rfl rfl ?_
  suffices J : ∀ n_ : Int32, n_.toInt.natAbs ≤ 67108863 → Go p e below s (fun v h L => v = some (.int (1 : Int32)) ∧ Fr h0.size L) room_1.cells room_1.slots s₁ (mkF m 15 #[.val (.int x_), .val (.int flags), .val (.int n_), .unset, .unset, .unset, .unset, .unset, .unset, .unset, .unset, .unset, .unset, .unset, .unset] []) by
    refine go_if_eq (q := 12) (q' := 15) X0 hx (hb hby at_9) rfl (by decide) rfl (fun hc9 => ?_) (fun hc9 => ?_)
    · exact J _ (by omega)
    · refine go_iloadN (q := 13) X0 hx (hb hby at_12) rfl rfl ?_
      refine go_ineg (q := 14) (v := (-n0_)) X0 hx (hb hby at_13) rfl rfl ?_
      refine go_istoreN (q := 15) (l' := #[.val (.int x_), .val (.int flags), .val (.int (-n0_)), .unset, .unset, .unset, .unset, .unset, .unset, .unset, .unset, .unset, .unset, .unset, .unset]) X0 hx (hb hby at_14) rfl rfl ?_
      exact J _ (by have h1 := c_ineg n0_; have h2 := rng32 (-n0_); omega)
  intro n_ hn_
  refine go_iloadN (q := 16) X0 hx (hb hby at_15) rfl rfl ?_
  refine go_iconst (q := 17) (v := (2 : Int32)) X0 hx (hb hby at_16) rfl rfl ?_
  refine go_iand (q := 18) (v := (flags &&& (2 : Int32))) X0 hx (hb hby at_17) rfl rfl ?_
  refine go_if_eq (q := 21) (q' := 27) X0 hx (hb hby at_18) rfl (by decide) rfl (fun hc18 => ?_) (fun hc18 => ?_)
  · refine go_dconst1 (q := 28) (v := (4607182418800017408 : UInt64)) X0 hx (hb hby at_27) rfl rfl ?_
    refine go_dstoreN (q := 29) (l' := #[.val (.int x_), .val (.int flags), .val (.int n_), .val (.double (4607182418800017408 : UInt64)), .second, .unset, .unset, .unset, .unset, .unset, .unset, .unset, .unset, .unset, .unset]) X0 hx (hb hby at_28) rfl rfl ?_
    refine go_iloadN (q := 30) X0 hx (hb hby at_29) rfl rfl ?_
    refine go_i2dB (q := 31) X0 hx (hb hby at_30) rfl (db_i2d' (A := 67108863) hn_) (fun z1 hz1 => ?_)
    refine go_dloadN (q := 32) X0 hx (hb hby at_31) rfl rfl ?_
    refine go_ddivB (q := 33) (kk := 0) (w0 := n_.toInt) X0 hx (hb hby at_32) rfl hz1 db_c1 (by decide) (by omega) (by decide) (by decide) (by decide) rfl (fun z2 hz2 => ?_)
    refine go_dstore (q := 35) (l' := #[.val (.int x_), .val (.int flags), .val (.int n_), .val (.double (4607182418800017408 : UInt64)), .second, .val (.double z2), .second, .unset, .unset, .unset, .unset, .unset, .unset, .unset, .unset]) X0 hx (hb hby at_33) rfl rfl ?_
    refine go_iloadN (q := 36) X0 hx (hb hby at_35) rfl rfl ?_
    refine go_iconst (q := 37) (v := (1 : Int32)) X0 hx (hb hby at_36) rfl rfl ?_
    refine go_iand (q := 38) (v := (flags &&& (1 : Int32))) X0 hx (hb hby at_37) rfl rfl ?_
    refine go_if_ne (q := 41) (q' := 45) X0 hx (hb hby at_38) rfl (by decide) rfl (fun hc38 => ?_) (fun hc38 => ?_)
    · refine go_iconst (q := 46) (v := (0 : Int32)) X0 hx (hb hby at_45) rfl rfl ?_
      refine go_istore (q := 48) (l' := #[.val (.int x_), .val (.int flags), .val (.int n_), .val (.double (4607182418800017408 : UInt64)), .second, .val (.double z2), .second, .val (.int (0 : Int32)), .unset, .unset, .unset, .unset, .unset, .unset, .unset]) X0 hx (hb hby at_46) rfl rfl ?_
      refine go_iload (q := 50) X0 hx (hb hby at_48) rfl rfl ?_
      refine go_if_eq (q := 53) (q' := 59) X0 hx (hb hby at_50) rfl (by decide) rfl (fun hc50 => ?_) (fun hc50 => ?_)
      · refine go_getS (q := 62) X0 hx hZ (host := "") hown (Or.inl (hw _ (List.mem_of_getElem? (i := 3) rfl))) Via.refl e0 S_MAX (hb hby at_59) rfl (fun T3 X3 e3 => ?_)
        refine go_astore (q := 64) (l' := #[.val (.int x_), .val (.int flags), .val (.int n_), .val (.double (4607182418800017408 : UInt64)), .second, .val (.double z2), .second, .val (.int (0 : Int32)), .val (.ref aM), .unset, .unset, .unset, .unset, .unset, .unset]) X3 hx (hb hby at_62) rfl rfl rfl ?_
        refine go_aload (q := 66) X3 hx (hb hby at_64) rfl rfl rfl ?_
        refine go_dload (q := 68) X3 hx (hb hby at_66) rfl rfl ?_
        refine go_callV (q := 71) (W := 0) X3 hx hZ hown e3 (hw _ (List.mem_of_getElem? (i := 6) rfl)) (hw _ (List.mem_of_getElem? (i := 7) rfl)) (notFace_of_selects (args := #[]) (mvT hZ (hw _ (List.mem_of_getElem? (i := 9) rfl)))) (hw _ (List.mem_of_getElem? (i := 9) rfl)) (hw _ (List.mem_of_getElem? (i := 8) rfl)) (hw _ (List.mem_of_getElem? (i := 4) rfl)) (hw _ (List.mem_of_getElem? (i := 10) rfl)) (by decide) aM [(.double z2)] [] E_aM (rm1 l Z a0 hw [] aM z2 aA h0 S_AVE (db_mul hz2 hz2 (by decide) (by decide) (by decide)).nn) (by rw [hml]; rfl) rfl (lenOf pd_0 rfl) (Nat.le_of_eq rfl) (by decide) (by decide) (hb hby at_68) rfl (by decide) (by decide) ?_
        rintro T4 L4 v4 X4 ⟨Nq4, rfl, e4⟩
        have N4 := Fr.app N0 Nq4
        show Go p e below s (fun v h L => v = some (.int (1 : Int32)) ∧ Fr h0.size L) room_1.cells room_1.slots T4 (mkF m 71 #[.val (.int x_), .val (.int flags), .val (.int n_), .val (.double (4607182418800017408 : UInt64)), .second, .val (.double z2), .second, .val (.int (0 : Int32)), .val (.ref aM), .unset, .unset, .unset, .unset, .unset, .unset] [(.double (if aM = aA then FP.dmul z2 z2 else z2))])
        suffices Hcost : ∀ cost : UInt64, cost = (if aM = aA then FP.dmul z2 z2 else z2) → Go p e below s (fun v h L => v = some (.int (1 : Int32)) ∧ Fr h0.size L) room_1.cells room_1.slots T4 (mkF m 71 #[.val (.int x_), .val (.int flags), .val (.int n_), .val (.double (4607182418800017408 : UInt64)), .second, .val (.double z2), .second, .val (.int (0 : Int32)), .val (.ref aM), .unset, .unset, .unset, .unset, .unset, .unset] [(.double cost)]) from Hcost _ rfl
        intro cost ecost
        rw [if_neg hne] at ecost
        have hcost : DB (0) 67108863 n_.toInt cost := by rw [ecost]; exact hz2
        refine go_dstore (q := 73) (l' := #[.val (.int x_), .val (.int flags), .val (.int n_), .val (.double (4607182418800017408 : UInt64)), .second, .val (.double z2), .second, .val (.int (0 : Int32)), .val (.ref aM), .val (.double cost), .second, .unset, .unset, .unset, .unset]) X4 hx (hb hby at_71) rfl rfl ?_
        refine go_iloadN (q := 74) X4 hx (hb hby at_73) rfl rfl ?_
        refine go_i2l (q := 75) (v := (n_.toInt64)) X4 hx (hb hby at_74) rfl rfl ?_
        refine go_iloadN (q := 76) X4 hx (hb hby at_75) rfl rfl ?_
        refine go_i2l (q := 77) (v := (n_.toInt64)) X4 hx (hb hby at_76) rfl rfl ?_
        refine go_lmul (q := 78) (v := ((n_.toInt64) * (n_.toInt64))) X4 hx (hb hby at_77) rfl rfl ?_
        refine go_lstore (q := 80) (l' := #[.val (.int x_), .val (.int flags), .val (.int n_), .val (.double (4607182418800017408 : UInt64)), .second, .val (.double z2), .second, .val (.int (0 : Int32)), .val (.ref aM), .val (.double cost), .second, .val (.long ((n_.toInt64) * (n_.toInt64))), .second, .unset, .unset]) X4 hx (hb hby at_78) rfl rfl ?_
        refine go_iload (q := 82) X4 hx (hb hby at_80) rfl rfl ?_
        refine go_if_eq (q := 85) (q' := 95) X4 hx (hb hby at_82) rfl (by decide) rfl (fun hc82 => ?_) (fun hc82 => ?_)
        · refine go_iloadN (q := 96) X4 hx (hb hby at_95) rfl rfl ?_
          refine go_i2dB (q := 97) X4 hx (hb hby at_96) rfl (db_i2d' (A := 67108863) hn_) (fun z5 hz5 => ?_)
          refine go_dloadN (q := 98) X4 hx (hb hby at_97) rfl rfl ?_
          refine go_ddivB (q := 99) (kk := 0) (w0 := n_.toInt) X4 hx (hb hby at_98) rfl hz5 db_c1 (by decide) (by omega) (by decide) (by decide) (by decide) rfl (fun z6 hz6 => ?_)
          refine go_dstore (q := 101) (l' := #[.val (.int x_), .val (.int flags), .val (.int n_), .val (.double (4607182418800017408 : UInt64)), .second, .val (.double z2), .second, .val (.int (0 : Int32)), .val (.ref aM), .val (.double cost), .second, .val (.long ((n_.toInt64) * (n_.toInt64))), .second, .val (.double z6), .second]) X4 hx (hb hby at_99) rfl rfl ?_
          refine go_dload (q := 103) X4 hx (hb hby at_101) rfl rfl ?_
          refine go_dload (q := 105) X4 hx (hb hby at_103) rfl rfl ?_
          refine go_dcmp (q := 106) X4 hx (hb hby at_105) rfl rfl ?_
          refine go_dif_ne (q := 109) (q' := 113) X4 hx (hb hby at_106) rfl (by decide) rfl hcost hz6 (fun hc106 => ?_) (fun hc106 => ?_)
          · exact absurd rfl hc106
          · refine go_iconst (q := 110) (v := (1 : Int32)) X4 hx (hb hby at_109) rfl rfl ?_
            refine go_goto (q := 114) X4 hx (hb hby at_110) (by decide) rfl ?_
            exact go_retN X4 hx (by simp) hret hlk (hb hby at_114) (by decide) (by decide) ⟨rfl, N4⟩
        · exact absurd rfl hc82
      · exact absurd rfl hc50
    · refine go_iconst (q := 42) (v := (1 : Int32)) X0 hx (hb hby at_41) rfl rfl ?_
      refine go_goto (q := 46) X0 hx (hb hby at_42) (by decide) rfl ?_
      refine go_istore (q := 48) (l' := #[.val (.int x_), .val (.int flags), .val (.int n_), .val (.double (4607182418800017408 : UInt64)), .second, .val (.double z2), .second, .val (.int (1 : Int32)), .unset, .unset, .unset, .unset, .unset, .unset, .unset]) X0 hx (hb hby at_46) rfl rfl ?_
      refine go_iload (q := 50) X0 hx (hb hby at_48) rfl rfl ?_
      refine go_if_eq (q := 53) (q' := 59) X0 hx (hb hby at_50) rfl (by decide) rfl (fun hc50 => ?_) (fun hc50 => ?_)
      · exact absurd hc50 (by decide)
      · refine go_getS (q := 56) X0 hx hZ (host := "") hown (Or.inl (hw _ (List.mem_of_getElem? (i := 13) rfl))) Via.refl e0 S_AVE (hb hby at_53) rfl (fun T7 X7 e7 => ?_)
        refine go_goto (q := 62) X7 hx (hb hby at_56) (by decide) rfl ?_
        refine go_astore (q := 64) (l' := #[.val (.int x_), .val (.int flags), .val (.int n_), .val (.double (4607182418800017408 : UInt64)), .second, .val (.double z2), .second, .val (.int (1 : Int32)), .val (.ref aA), .unset, .unset, .unset, .unset, .unset, .unset]) X7 hx (hb hby at_62) rfl rfl rfl ?_
        refine go_aload (q := 66) X7 hx (hb hby at_64) rfl rfl rfl ?_
        refine go_dload (q := 68) X7 hx (hb hby at_66) rfl rfl ?_
        refine go_callV (q := 71) (W := 0) X7 hx hZ hown e7 (hw _ (List.mem_of_getElem? (i := 6) rfl)) (hw _ (List.mem_of_getElem? (i := 7) rfl)) (notFace_of_selects (args := #[]) (mvT hZ (hw _ (List.mem_of_getElem? (i := 9) rfl)))) (hw _ (List.mem_of_getElem? (i := 9) rfl)) (hw _ (List.mem_of_getElem? (i := 8) rfl)) (hw _ (List.mem_of_getElem? (i := 4) rfl)) (hw _ (List.mem_of_getElem? (i := 10) rfl)) (by decide) aA [(.double z2)] [] E_aA (rm1 l Z a0 hw [] aA z2 aA h0 S_AVE (db_mul hz2 hz2 (by decide) (by decide) (by decide)).nn) (by rw [hml]; rfl) rfl (lenOf pd_0 rfl) (Nat.le_of_eq rfl) (by decide) (by decide) (hb hby at_68) rfl (by decide) (by decide) ?_
        rintro T8 L8 v8 X8 ⟨Nq8, rfl, e8⟩
        have N8 := Fr.app N0 Nq8
        show Go p e below s (fun v h L => v = some (.int (1 : Int32)) ∧ Fr h0.size L) room_1.cells room_1.slots T8 (mkF m 71 #[.val (.int x_), .val (.int flags), .val (.int n_), .val (.double (4607182418800017408 : UInt64)), .second, .val (.double z2), .second, .val (.int (1 : Int32)), .val (.ref aA), .unset, .unset, .unset, .unset, .unset, .unset] [(.double (if aA = aA then FP.dmul z2 z2 else z2))])
        suffices Hcost : ∀ cost : UInt64, cost = (if aA = aA then FP.dmul z2 z2 else z2) → Go p e below s (fun v h L => v = some (.int (1 : Int32)) ∧ Fr h0.size L) room_1.cells room_1.slots T8 (mkF m 71 #[.val (.int x_), .val (.int flags), .val (.int n_), .val (.double (4607182418800017408 : UInt64)), .second, .val (.double z2), .second, .val (.int (1 : Int32)), .val (.ref aA), .unset, .unset, .unset, .unset, .unset, .unset] [(.double cost)]) from Hcost _ rfl
        intro cost ecost
        rw [if_pos rfl] at ecost
        have hcost : DB (0) 4503599493152769 (n_.toInt * n_.toInt) cost := by rw [ecost]; exact db_mul hz2 hz2 (by decide) (by decide) (by decide)
        refine go_dstore (q := 73) (l' := #[.val (.int x_), .val (.int flags), .val (.int n_), .val (.double (4607182418800017408 : UInt64)), .second, .val (.double z2), .second, .val (.int (1 : Int32)), .val (.ref aA), .val (.double cost), .second, .unset, .unset, .unset, .unset]) X8 hx (hb hby at_71) rfl rfl ?_
        refine go_iloadN (q := 74) X8 hx (hb hby at_73) rfl rfl ?_
        refine go_i2l (q := 75) (v := (n_.toInt64)) X8 hx (hb hby at_74) rfl rfl ?_
        refine go_iloadN (q := 76) X8 hx (hb hby at_75) rfl rfl ?_
        refine go_i2l (q := 77) (v := (n_.toInt64)) X8 hx (hb hby at_76) rfl rfl ?_
        refine go_lmul (q := 78) (v := ((n_.toInt64) * (n_.toInt64))) X8 hx (hb hby at_77) rfl rfl ?_
        refine go_lstore (q := 80) (l' := #[.val (.int x_), .val (.int flags), .val (.int n_), .val (.double (4607182418800017408 : UInt64)), .second, .val (.double z2), .second, .val (.int (1 : Int32)), .val (.ref aA), .val (.double cost), .second, .val (.long ((n_.toInt64) * (n_.toInt64))), .second, .unset, .unset]) X8 hx (hb hby at_78) rfl rfl ?_
        refine go_iload (q := 82) X8 hx (hb hby at_80) rfl rfl ?_
        refine go_if_eq (q := 85) (q' := 95) X8 hx (hb hby at_82) rfl (by decide) rfl (fun hc82 => ?_) (fun hc82 => ?_)
        · exact absurd hc82 (by decide)
        · refine go_lload (q := 87) X8 hx (hb hby at_85) rfl rfl ?_
          refine go_l2dB (q := 88) X8 hx (hb hby at_87) rfl (db_l2d (A := 4503599493152769) (own_sq hn_).2 (by decide)) (fun z9 hz9 => ?_)
          refine go_dloadN (q := 89) X8 hx (hb hby at_88) rfl rfl ?_
          refine go_dloadN (q := 90) X8 hx (hb hby at_89) rfl rfl ?_
          refine go_dmulB (q := 91) (kk := 0) (C := 1) X8 hx (hb hby at_90) rfl db_c1 db_c1 (by decide) (by decide) (by decide) rfl rfl (fun z10 hz10 => ?_)
          refine go_ddivB (q := 92) (kk := 0) (w0 := (n_.toInt64 * n_.toInt64).toInt) X8 hx (hb hby at_91) rfl hz9 hz10 (by decide) (by omega) (by decide) (by decide) (by decide) rfl (fun z11 hz11 => ?_)
          refine go_goto (q := 99) X8 hx (hb hby at_92) (by decide) rfl ?_
          refine go_dstore (q := 101) (l' := #[.val (.int x_), .val (.int flags), .val (.int n_), .val (.double (4607182418800017408 : UInt64)), .second, .val (.double z2), .second, .val (.int (1 : Int32)), .val (.ref aA), .val (.double cost), .second, .val (.long ((n_.toInt64) * (n_.toInt64))), .second, .val (.double z11), .second]) X8 hx (hb hby at_99) rfl rfl ?_
          refine go_dload (q := 103) X8 hx (hb hby at_101) rfl rfl ?_
          refine go_dload (q := 105) X8 hx (hb hby at_103) rfl rfl ?_
          refine go_dcmp (q := 106) X8 hx (hb hby at_105) rfl rfl ?_
          refine go_dif_ne (q := 109) (q' := 113) X8 hx (hb hby at_106) rfl (by decide) rfl hcost hz11 (fun hc106 => ?_) (fun hc106 => ?_)
          · exact absurd (own_sq hn_).1.symm hc106
          · refine go_iconst (q := 110) (v := (1 : Int32)) X8 hx (hb hby at_109) rfl rfl ?_
            refine go_goto (q := 114) X8 hx (hb hby at_110) (by decide) rfl ?_
            exact go_retN X8 hx (by simp) hret hlk (hb hby at_114) (by decide) (by decide) ⟨rfl, N8⟩
  · refine go_ldc2D (q := 24) (v := (4697254411347427328 : UInt64)) X0 hx hZ hown (hw _ (List.mem_of_getElem? (i := 2) rfl)) (hb hby at_21) rfl ?_
    refine go_goto (q := 28) X0 hx (hb hby at_24) (by decide) rfl ?_
    refine go_dstoreN (q := 29) (l' := #[.val (.int x_), .val (.int flags), .val (.int n_), .val (.double (4697254411347427328 : UInt64)), .second, .unset, .unset, .unset, .unset, .unset, .unset, .unset, .unset, .unset, .unset]) X0 hx (hb hby at_28) rfl rfl ?_
    refine go_iloadN (q := 30) X0 hx (hb hby at_29) rfl rfl ?_
    refine go_i2dB (q := 31) X0 hx (hb hby at_30) rfl (db_i2d' (A := 67108863) hn_) (fun z12 hz12 => ?_)
    refine go_dloadN (q := 32) X0 hx (hb hby at_31) rfl rfl ?_
    refine go_ddivB (q := 33) (kk := (-20)) (w0 := n_.toInt) X0 hx (hb hby at_32) rfl hz12 own_c20 (by decide) (by omega) (by decide) (by decide) (by decide) rfl (fun z13 hz13 => ?_)
    refine go_dstore (q := 35) (l' := #[.val (.int x_), .val (.int flags), .val (.int n_), .val (.double (4697254411347427328 : UInt64)), .second, .val (.double z13), .second, .unset, .unset, .unset, .unset, .unset, .unset, .unset, .unset]) X0 hx (hb hby at_33) rfl rfl ?_
    refine go_iloadN (q := 36) X0 hx (hb hby at_35) rfl rfl ?_
    refine go_iconst (q := 37) (v := (1 : Int32)) X0 hx (hb hby at_36) rfl rfl ?_
    refine go_iand (q := 38) (v := (flags &&& (1 : Int32))) X0 hx (hb hby at_37) rfl rfl ?_
    refine go_if_ne (q := 41) (q' := 45) X0 hx (hb hby at_38) rfl (by decide) rfl (fun hc38 => ?_) (fun hc38 => ?_)
    · refine go_iconst (q := 46) (v := (0 : Int32)) X0 hx (hb hby at_45) rfl rfl ?_
      refine go_istore (q := 48) (l' := #[.val (.int x_), .val (.int flags), .val (.int n_), .val (.double (4697254411347427328 : UInt64)), .second, .val (.double z13), .second, .val (.int (0 : Int32)), .unset, .unset, .unset, .unset, .unset, .unset, .unset]) X0 hx (hb hby at_46) rfl rfl ?_
      refine go_iload (q := 50) X0 hx (hb hby at_48) rfl rfl ?_
      refine go_if_eq (q := 53) (q' := 59) X0 hx (hb hby at_50) rfl (by decide) rfl (fun hc50 => ?_) (fun hc50 => ?_)
      · refine go_getS (q := 62) X0 hx hZ (host := "") hown (Or.inl (hw _ (List.mem_of_getElem? (i := 3) rfl))) Via.refl e0 S_MAX (hb hby at_59) rfl (fun T14 X14 e14 => ?_)
        refine go_astore (q := 64) (l' := #[.val (.int x_), .val (.int flags), .val (.int n_), .val (.double (4697254411347427328 : UInt64)), .second, .val (.double z13), .second, .val (.int (0 : Int32)), .val (.ref aM), .unset, .unset, .unset, .unset, .unset, .unset]) X14 hx (hb hby at_62) rfl rfl rfl ?_
        refine go_aload (q := 66) X14 hx (hb hby at_64) rfl rfl rfl ?_
        refine go_dload (q := 68) X14 hx (hb hby at_66) rfl rfl ?_
        refine go_callV (q := 71) (W := 0) X14 hx hZ hown e14 (hw _ (List.mem_of_getElem? (i := 6) rfl)) (hw _ (List.mem_of_getElem? (i := 7) rfl)) (notFace_of_selects (args := #[]) (mvT hZ (hw _ (List.mem_of_getElem? (i := 9) rfl)))) (hw _ (List.mem_of_getElem? (i := 9) rfl)) (hw _ (List.mem_of_getElem? (i := 8) rfl)) (hw _ (List.mem_of_getElem? (i := 4) rfl)) (hw _ (List.mem_of_getElem? (i := 10) rfl)) (by decide) aM [(.double z13)] [] E_aM (rm1 l Z a0 hw [] aM z13 aA h0 S_AVE (db_mul hz13 hz13 (by decide) (by decide) (by decide)).nn) (by rw [hml]; rfl) rfl (lenOf pd_0 rfl) (Nat.le_of_eq rfl) (by decide) (by decide) (hb hby at_68) rfl (by decide) (by decide) ?_
        rintro T15 L15 v15 X15 ⟨Nq15, rfl, e15⟩
        have N15 := Fr.app N0 Nq15
        show Go p e below s (fun v h L => v = some (.int (1 : Int32)) ∧ Fr h0.size L) room_1.cells room_1.slots T15 (mkF m 71 #[.val (.int x_), .val (.int flags), .val (.int n_), .val (.double (4697254411347427328 : UInt64)), .second, .val (.double z13), .second, .val (.int (0 : Int32)), .val (.ref aM), .unset, .unset, .unset, .unset, .unset, .unset] [(.double (if aM = aA then FP.dmul z13 z13 else z13))])
        suffices Hcost : ∀ cost : UInt64, cost = (if aM = aA then FP.dmul z13 z13 else z13) → Go p e below s (fun v h L => v = some (.int (1 : Int32)) ∧ Fr h0.size L) room_1.cells room_1.slots T15 (mkF m 71 #[.val (.int x_), .val (.int flags), .val (.int n_), .val (.double (4697254411347427328 : UInt64)), .second, .val (.double z13), .second, .val (.int (0 : Int32)), .val (.ref aM), .unset, .unset, .unset, .unset, .unset, .unset] [(.double cost)]) from Hcost _ rfl
        intro cost ecost
        rw [if_neg hne] at ecost
        have hcost : DB (-20) 67108863 n_.toInt cost := by rw [ecost]; exact hz13
        refine go_dstore (q := 73) (l' := #[.val (.int x_), .val (.int flags), .val (.int n_), .val (.double (4697254411347427328 : UInt64)), .second, .val (.double z13), .second, .val (.int (0 : Int32)), .val (.ref aM), .val (.double cost), .second, .unset, .unset, .unset, .unset]) X15 hx (hb hby at_71) rfl rfl ?_
        refine go_iloadN (q := 74) X15 hx (hb hby at_73) rfl rfl ?_
        refine go_i2l (q := 75) (v := (n_.toInt64)) X15 hx (hb hby at_74) rfl rfl ?_
        refine go_iloadN (q := 76) X15 hx (hb hby at_75) rfl rfl ?_
        refine go_i2l (q := 77) (v := (n_.toInt64)) X15 hx (hb hby at_76) rfl rfl ?_
        refine go_lmul (q := 78) (v := ((n_.toInt64) * (n_.toInt64))) X15 hx (hb hby at_77) rfl rfl ?_
        refine go_lstore (q := 80) (l' := #[.val (.int x_), .val (.int flags), .val (.int n_), .val (.double (4697254411347427328 : UInt64)), .second, .val (.double z13), .second, .val (.int (0 : Int32)), .val (.ref aM), .val (.double cost), .second, .val (.long ((n_.toInt64) * (n_.toInt64))), .second, .unset, .unset]) X15 hx (hb hby at_78) rfl rfl ?_
        refine go_iload (q := 82) X15 hx (hb hby at_80) rfl rfl ?_
        refine go_if_eq (q := 85) (q' := 95) X15 hx (hb hby at_82) rfl (by decide) rfl (fun hc82 => ?_) (fun hc82 => ?_)
        · refine go_iloadN (q := 96) X15 hx (hb hby at_95) rfl rfl ?_
          refine go_i2dB (q := 97) X15 hx (hb hby at_96) rfl (db_i2d' (A := 67108863) hn_) (fun z16 hz16 => ?_)
          refine go_dloadN (q := 98) X15 hx (hb hby at_97) rfl rfl ?_
          refine go_ddivB (q := 99) (kk := (-20)) (w0 := n_.toInt) X15 hx (hb hby at_98) rfl hz16 own_c20 (by decide) (by omega) (by decide) (by decide) (by decide) rfl (fun z17 hz17 => ?_)
          refine go_dstore (q := 101) (l' := #[.val (.int x_), .val (.int flags), .val (.int n_), .val (.double (4697254411347427328 : UInt64)), .second, .val (.double z13), .second, .val (.int (0 : Int32)), .val (.ref aM), .val (.double cost), .second, .val (.long ((n_.toInt64) * (n_.toInt64))), .second, .val (.double z17), .second]) X15 hx (hb hby at_99) rfl rfl ?_
          refine go_dload (q := 103) X15 hx (hb hby at_101) rfl rfl ?_
          refine go_dload (q := 105) X15 hx (hb hby at_103) rfl rfl ?_
          refine go_dcmp (q := 106) X15 hx (hb hby at_105) rfl rfl ?_
          refine go_dif_ne (q := 109) (q' := 113) X15 hx (hb hby at_106) rfl (by decide) rfl hcost hz17 (fun hc106 => ?_) (fun hc106 => ?_)
          · exact absurd rfl hc106
          · refine go_iconst (q := 110) (v := (1 : Int32)) X15 hx (hb hby at_109) rfl rfl ?_
            refine go_goto (q := 114) X15 hx (hb hby at_110) (by decide) rfl ?_
            exact go_retN X15 hx (by simp) hret hlk (hb hby at_114) (by decide) (by decide) ⟨rfl, N15⟩
        · exact absurd rfl hc82
      · exact absurd rfl hc50
    · refine go_iconst (q := 42) (v := (1 : Int32)) X0 hx (hb hby at_41) rfl rfl ?_
      refine go_goto (q := 46) X0 hx (hb hby at_42) (by decide) rfl ?_
      refine go_istore (q := 48) (l' := #[.val (.int x_), .val (.int flags), .val (.int n_), .val (.double (4697254411347427328 : UInt64)), .second, .val (.double z13), .second, .val (.int (1 : Int32)), .unset, .unset, .unset, .unset, .unset, .unset, .unset]) X0 hx (hb hby at_46) rfl rfl ?_
      refine go_iload (q := 50) X0 hx (hb hby at_48) rfl rfl ?_
      refine go_if_eq (q := 53) (q' := 59) X0 hx (hb hby at_50) rfl (by decide) rfl (fun hc50 => ?_) (fun hc50 => ?_)
      · exact absurd hc50 (by decide)
      · refine go_getS (q := 56) X0 hx hZ (host := "") hown (Or.inl (hw _ (List.mem_of_getElem? (i := 13) rfl))) Via.refl e0 S_AVE (hb hby at_53) rfl (fun T18 X18 e18 => ?_)
        refine go_goto (q := 62) X18 hx (hb hby at_56) (by decide) rfl ?_
        refine go_astore (q := 64) (l' := #[.val (.int x_), .val (.int flags), .val (.int n_), .val (.double (4697254411347427328 : UInt64)), .second, .val (.double z13), .second, .val (.int (1 : Int32)), .val (.ref aA), .unset, .unset, .unset, .unset, .unset, .unset]) X18 hx (hb hby at_62) rfl rfl rfl ?_
        refine go_aload (q := 66) X18 hx (hb hby at_64) rfl rfl rfl ?_
        refine go_dload (q := 68) X18 hx (hb hby at_66) rfl rfl ?_
        refine go_callV (q := 71) (W := 0) X18 hx hZ hown e18 (hw _ (List.mem_of_getElem? (i := 6) rfl)) (hw _ (List.mem_of_getElem? (i := 7) rfl)) (notFace_of_selects (args := #[]) (mvT hZ (hw _ (List.mem_of_getElem? (i := 9) rfl)))) (hw _ (List.mem_of_getElem? (i := 9) rfl)) (hw _ (List.mem_of_getElem? (i := 8) rfl)) (hw _ (List.mem_of_getElem? (i := 4) rfl)) (hw _ (List.mem_of_getElem? (i := 10) rfl)) (by decide) aA [(.double z13)] [] E_aA (rm1 l Z a0 hw [] aA z13 aA h0 S_AVE (db_mul hz13 hz13 (by decide) (by decide) (by decide)).nn) (by rw [hml]; rfl) rfl (lenOf pd_0 rfl) (Nat.le_of_eq rfl) (by decide) (by decide) (hb hby at_68) rfl (by decide) (by decide) ?_
        rintro T19 L19 v19 X19 ⟨Nq19, rfl, e19⟩
        have N19 := Fr.app N0 Nq19
        show Go p e below s (fun v h L => v = some (.int (1 : Int32)) ∧ Fr h0.size L) room_1.cells room_1.slots T19 (mkF m 71 #[.val (.int x_), .val (.int flags), .val (.int n_), .val (.double (4697254411347427328 : UInt64)), .second, .val (.double z13), .second, .val (.int (1 : Int32)), .val (.ref aA), .unset, .unset, .unset, .unset, .unset, .unset] [(.double (if aA = aA then FP.dmul z13 z13 else z13))])
        suffices Hcost : ∀ cost : UInt64, cost = (if aA = aA then FP.dmul z13 z13 else z13) → Go p e below s (fun v h L => v = some (.int (1 : Int32)) ∧ Fr h0.size L) room_1.cells room_1.slots T19 (mkF m 71 #[.val (.int x_), .val (.int flags), .val (.int n_), .val (.double (4697254411347427328 : UInt64)), .second, .val (.double z13), .second, .val (.int (1 : Int32)), .val (.ref aA), .unset, .unset, .unset, .unset, .unset, .unset] [(.double cost)]) from Hcost _ rfl
        intro cost ecost
        rw [if_pos rfl] at ecost
        have hcost : DB (-40) 4503599493152769 (n_.toInt * n_.toInt) cost := by rw [ecost]; exact db_mul hz13 hz13 (by decide) (by decide) (by decide)
        refine go_dstore (q := 73) (l' := #[.val (.int x_), .val (.int flags), .val (.int n_), .val (.double (4697254411347427328 : UInt64)), .second, .val (.double z13), .second, .val (.int (1 : Int32)), .val (.ref aA), .val (.double cost), .second, .unset, .unset, .unset, .unset]) X19 hx (hb hby at_71) rfl rfl ?_
        refine go_iloadN (q := 74) X19 hx (hb hby at_73) rfl rfl ?_
        refine go_i2l (q := 75) (v := (n_.toInt64)) X19 hx (hb hby at_74) rfl rfl ?_
        refine go_iloadN (q := 76) X19 hx (hb hby at_75) rfl rfl ?_
        refine go_i2l (q := 77) (v := (n_.toInt64)) X19 hx (hb hby at_76) rfl rfl ?_
        refine go_lmul (q := 78) (v := ((n_.toInt64) * (n_.toInt64))) X19 hx (hb hby at_77) rfl rfl ?_
        refine go_lstore (q := 80) (l' := #[.val (.int x_), .val (.int flags), .val (.int n_), .val (.double (4697254411347427328 : UInt64)), .second, .val (.double z13), .second, .val (.int (1 : Int32)), .val (.ref aA), .val (.double cost), .second, .val (.long ((n_.toInt64) * (n_.toInt64))), .second, .unset, .unset]) X19 hx (hb hby at_78) rfl rfl ?_
        refine go_iload (q := 82) X19 hx (hb hby at_80) rfl rfl ?_
        refine go_if_eq (q := 85) (q' := 95) X19 hx (hb hby at_82) rfl (by decide) rfl (fun hc82 => ?_) (fun hc82 => ?_)
        · exact absurd hc82 (by decide)
        · refine go_lload (q := 87) X19 hx (hb hby at_85) rfl rfl ?_
          refine go_l2dB (q := 88) X19 hx (hb hby at_87) rfl (db_l2d (A := 4503599493152769) (own_sq hn_).2 (by decide)) (fun z20 hz20 => ?_)
          refine go_dloadN (q := 89) X19 hx (hb hby at_88) rfl rfl ?_
          refine go_dloadN (q := 90) X19 hx (hb hby at_89) rfl rfl ?_
          refine go_dmulB (q := 91) (kk := 40) (C := 1) X19 hx (hb hby at_90) rfl own_c20 own_c20 (by decide) (by decide) (by decide) rfl rfl (fun z21 hz21 => ?_)
          refine go_ddivB (q := 92) (kk := (-40)) (w0 := (n_.toInt64 * n_.toInt64).toInt) X19 hx (hb hby at_91) rfl hz20 hz21 (by decide) (by omega) (by decide) (by decide) (by decide) rfl (fun z22 hz22 => ?_)
          refine go_goto (q := 99) X19 hx (hb hby at_92) (by decide) rfl ?_
          refine go_dstore (q := 101) (l' := #[.val (.int x_), .val (.int flags), .val (.int n_), .val (.double (4697254411347427328 : UInt64)), .second, .val (.double z13), .second, .val (.int (1 : Int32)), .val (.ref aA), .val (.double cost), .second, .val (.long ((n_.toInt64) * (n_.toInt64))), .second, .val (.double z22), .second]) X19 hx (hb hby at_99) rfl rfl ?_
          refine go_dload (q := 103) X19 hx (hb hby at_101) rfl rfl ?_
          refine go_dload (q := 105) X19 hx (hb hby at_103) rfl rfl ?_
          refine go_dcmp (q := 106) X19 hx (hb hby at_105) rfl rfl ?_
          refine go_dif_ne (q := 109) (q' := 113) X19 hx (hb hby at_106) rfl (by decide) rfl hcost hz22 (fun hc106 => ?_) (fun hc106 => ?_)
          · exact absurd (own_sq hn_).1.symm hc106
          · refine go_iconst (q := 110) (v := (1 : Int32)) X19 hx (hb hby at_109) rfl rfl ?_
            refine go_goto (q := 114) X19 hx (hb hby at_110) (by decide) rfl ?_
            exact go_retN X19 hx (by simp) hret hlk (hb hby at_114) (by decide) (by decide) ⟨rfl, N19⟩
set_option maxRecDepth 65536 in
set_option maxHeartbeats 40000000 in
theorem comes_1 {Post : Tables → Env → Array Value → State → Outcome → State → Prop} (hpost : ∀ tb e args s v u, (limb_1_1.after args s (.returned v) u = true ∧ limb_1_2.after args s (.returned v) u = true ∧ True) → FrameEnd s (.returned v) u (Jvm.fieldLocs frame_1_writes args s ++ Jvm.arrayLocs frame_1_arrays args s ++ Jvm.staticLocs frame_1_statics s) 0 0 → Post tb e args s (.returned v) u) :
    ArmFor flags0 classFile x code maxLocals ret World_1 tables_1 room_1 Calls_1 rest_1 Pre_1 Post := by
  intro l hfl _ _ p e ha hc hk s m args below hf hA hF happ hP
  obtain ⟨hcalls, hrest, hpre⟩ := hP
  obtain ⟨-, -, -, hnamed, -, -, -, hat⟩ := (Spec.applies_iff hf).mp happ
  obtain ⟨hg, hn⟩ := and_e (Cond.before_iff.mp (show (Jvm.Cond.and given_1 narrow_1).before args s = true from hpre))
  obtain ⟨hcnt, hg0⟩ := and_e hg
  obtain ⟨ha0, hg1⟩ := and_e hg0
  have ha1 := hg1
  obtain ⟨w0, w1, rfl⟩ : ∃ w0 w1 : Value, args = #[w0, w1] := by
    have hs : args.size = 2 := by simpa [Cond.value, given_1] using hcnt
    obtain ⟨L⟩ := args
    match L, hs with
    | [w0, w1], _ => exact ⟨w0, w1, rfl⟩
  have hw := fun d (hd : d ∈ tables_1) => atoms_spec (ws := Jvm.Cond.code x code maxLocals ret :: tables_1) hat d (List.mem_cons_of_mem _ hd)
  obtain ⟨i0, ei0⟩ := is_v ha0
  obtain rfl : w0 = (.int i0) := Option.some.inj ei0
  obtain ⟨i1, ei1⟩ := is_v ha1
  obtain rfl : w1 = (.int i1) := Option.some.inj ei1
  obtain ⟨hx1, hn2⟩ := and_e hn
  obtain ⟨hx2, hn3⟩ := and_e hn2
  obtain ⟨ho1, ho2⟩ := and_e hn3
  obtain ⟨aM, evM⟩ := exa_v hx1
  obtain ⟨aA, evA⟩ := exa_v hx2
  have EM := Exa.start evM hx1
  have EA := Exa.start evA hx2
  have SM := Sta.start evM (Or.inr ⟨(hw _ (List.mem_of_getElem? (i := 4) rfl)), (hw _ (List.mem_of_getElem? (i := 5) rfl))⟩)
  have SA := Sta.start evA (Or.inr ⟨(hw _ (List.mem_of_getElem? (i := 4) rfl)), (hw _ (List.mem_of_getElem? (i := 12) rfl))⟩)
  have f1 := Fld.start ((fld_at evM).symm.trans (eqv_i (Term.int_eval 1) ho1))
  have f2 := Fld.start ((fld_at evA).symm.trans (eqv_i (Term.int_eval 0) ho2))
  have hne : aM ≠ aA := Fld.ne f1 f2 (by decide)
  obtain ⟨n, o, h1, h2, h3, _, L, rfl, ⟨rfl, N⟩, hq⟩ := rm0 l s _ hw tables_1 i0 i1 aA aM s.heap SA SM EA EM hne p e ha hc hk s m _ below hf ((Spec.applies_iff_loose hf).mp happ).1 ⟨rfl, State.Warmed39.refl s, rfl⟩ trivial
  refine ⟨n, _, h1, h2, h3, hpost _ _ _ _ _ _ ⟨Cond.after_iff.mpr rfl, Cond.after_iff.mpr (eq_i res_at (Term.int_eval (1)) rfl), trivial⟩ ⟨hq.1, hq.2.1, (hq.2.2.sift fun y hy => Or.inr (N y hy)).mono (by decide) (by decide)⟩⟩
theorem main_1_1 : Claimed_1_1 := comes_1 fun _ _ _ _ _ _ h hF => ⟨h.1, hF⟩
theorem main_1_2 : Claimed_1_2 := comes_1 fun _ _ _ _ _ _ h hF => ⟨h.2.1, hF⟩

end Jvm.Pilot.@@N@@
namespace Jvm.Pilot.@@N@@
open Jvm Jvm.ClassFile Sem Op Lib Jvm.Free Jvm.Stand Jvm.Pilot.@@N@@.Jvm.D
/-! MADE BY PROGRAM (witnessworld.py) out of the Statement's table words and the real class files: 12 classes; the members and pool entries that the words name. The judged class is class 1, her method 1. -/
namespace start1
open Jvm.ClassFile
def u (s : String) : CpInfo := .utf8 (stringToUtf16 s)
/-- a pool by its gaps: so many unusable entries, then the entry; so many at the end -/
def gap : Nat → List CpInfo → List CpInfo
  | 0, r => r
  | n + 1, r => .unusable :: gap n r
def poolList (es : List (Nat × CpInfo)) (last : Nat) : List CpInfo := es.foldr (fun e r => gap e.1 (e.2 :: r)) (gap last [])
def pool (es : List (Nat × CpInfo)) (last : Nat) : Array CpInfo := ⟨poolList es last⟩
def fileOf (pool : Array CpInfo) (this : Nat) (attrs : Array Attribute := #[]) (ms : Array MethodInfo := #[]) (fl : Nat := 33) (sup : Nat := 0) (ifs : Array Nat := #[]) (fds : Array FieldInfo := #[]) : ClassFile where
  minorVersion := 0
  majorVersion := 65
  constantPool := pool
  accessFlags := fl
  thisClass := this
  superClass := sup
  interfaces := ifs
  fields := fds
  methods := ms
  attributes := attrs
def plain (name : String) (sup : Option ClassId) : Class where
  name := name
  kind := .ordinary
  loader := none
  accessFlags := 33
  super := sup
  interfaces := #[]
  cf := none
  fields := #[]
  methods := #[]
  instanceTypes := #[]
  staticTypes := #[]
  resolved := #[]
  callSites := []
  init := .initialized
  statics := none
  mirror := none

def pool0 : Array CpInfo := pool [(5, u "<init>"), (0, u "()V"), (1, .class_ 10), (1, u "java/lang/Object")] 113

def k0m0 : Method := { name := "<init>", desc := "()V", sig := { parameters := [], returnType := none }, accessFlags := 1, code := none }
/-- java/lang/Object -/
def k0 : Class := { plain "java/lang/Object" none with
  accessFlags := 33
  interfaces := #[]
  cf := some (fileOf pool0 8 #[] #[{ accessFlags := 1, nameIndex := 5, descriptorIndex := 6, attributes := #[] }] 33 0 #[] #[])
  fields := #[]
  methods := #[k0m0]
  instanceTypes := #[]
  staticTypes := #[]
  resolved := Array.replicate 124 none
  statics := none }

def pool1 : Array CpInfo := pool [(2, .class_ 4), (1, u "java/lang/Object"), (0, u "<init>"), (0, u "()V"), (0, .integer 67108863), (0, .integer 67108864), (0, .double 4697254411347427328), (1, .fieldref 12 13), (0, .class_ 14), (0, .nameAndType 15 16), (0, u "com/example/cyclecast/cyclecast/PeriodicPlanner$Objective"), (0, u "AVE"), (0, u "Lcom/example/cyclecast/cyclecast/PeriodicPlanner$Objective;"), (0, .fieldref 12 18), (0, .nameAndType 19 16), (0, u "MAX"), (0, .methodref 12 21), (0, .nameAndType 22 23), (0, u "leaf"), (0, u "(D)D"), (0, .class_ 25), (0, u "com/example/cyclecast/cyclecast/ObjectiveLeafPinLaw"), (2, u "law"), (0, u "(II)Z")] 7

def k1m0 : Method := { name := "<init>", desc := "()V", sig := { parameters := [], returnType := none }, accessFlags := 2, code := none }
def k1c1 : Code := { maxStack := 6, maxLocals := 15, code := code, exceptionTable := #[], attributes := #[] }
def k1m1 : Method := { name := "law", desc := "(II)Z", sig := { parameters := [.int, .int], returnType := some .boolean }, accessFlags := 9, code := some k1c1 }
/-- com/example/cyclecast/cyclecast/ObjectiveLeafPinLaw -/
def k1 : Class := { plain "com/example/cyclecast/cyclecast/ObjectiveLeafPinLaw" (some 0) with
  accessFlags := 49
  interfaces := #[]
  cf := some (fileOf pool1 24 #[] #[{ accessFlags := 2, nameIndex := 5, descriptorIndex := 6, attributes := #[] }, { accessFlags := 9, nameIndex := 28, descriptorIndex := 29, attributes := #[] }] 49 2 #[] #[])
  fields := #[]
  methods := #[k1m0, k1m1]
  instanceTypes := #[]
  staticTypes := #[]
  resolved := Array.replicate 37 none
  statics := none }

def pool2 : Array CpInfo := pool [(1, .class_ 2), (0, u "java/lang/constant/Constable"), (0, .class_ 4), (0, u "java/lang/Object")] 6

/-- java/lang/constant/Constable -/
def k2 : Class := { plain "java/lang/constant/Constable" (some 0) with
  accessFlags := 1537
  interfaces := #[]
  cf := some (fileOf pool2 1 #[] #[] 1537 3 #[] #[])
  fields := #[]
  methods := #[]
  instanceTypes := #[]
  staticTypes := #[]
  resolved := Array.replicate 11 none
  statics := none }

def pool3 : Array CpInfo := pool [(1, .class_ 2), (0, u "java/lang/Comparable"), (0, .class_ 4), (0, u "java/lang/Object")] 7

/-- java/lang/Comparable -/
def k3 : Class := { plain "java/lang/Comparable" (some 0) with
  accessFlags := 1537
  interfaces := #[]
  cf := some (fileOf pool3 1 #[] #[] 1537 3 #[] #[])
  fields := #[]
  methods := #[]
  instanceTypes := #[]
  staticTypes := #[]
  resolved := Array.replicate 12 none
  statics := none }

def pool4 : Array CpInfo := pool [(1, .class_ 2), (0, u "java/io/Serializable"), (0, .class_ 4), (0, u "java/lang/Object")] 2

/-- java/io/Serializable -/
def k4 : Class := { plain "java/io/Serializable" (some 0) with
  accessFlags := 1537
  interfaces := #[]
  cf := some (fileOf pool4 1 #[] #[] 1537 3 #[] #[])
  fields := #[]
  methods := #[]
  instanceTypes := #[]
  staticTypes := #[]
  resolved := Array.replicate 7 none
  statics := none }

def pool5 : Array CpInfo := pool [(2, .class_ 4), (1, u "java/lang/Enum"), (0, u "name"), (0, u "Ljava/lang/String;"), (2, u "ordinal"), (0, u "I"), (1, .class_ 14), (1, u "java/lang/Object"), (4, u "hash"), (86, .class_ 108), (1, u "java/lang/Enum$EnumDesc"), (2, .class_ 112), (0, u "java/lang/constant/Constable"), (0, .class_ 114), (0, u "java/lang/Comparable"), (0, .class_ 116), (0, u "java/io/Serializable")] 87

/-- java/lang/Enum -/
def k5 : Class := { plain "java/lang/Enum" (some 0) with
  accessFlags := 1057
  interfaces := #[2, 3, 4]
  cf := some (fileOf pool5 2 #[.nestMembers #[106]] #[] 1057 12 #[111, 113, 115] #[{ accessFlags := 18, nameIndex := 5, descriptorIndex := 6, attributes := #[] }, { accessFlags := 18, nameIndex := 9, descriptorIndex := 10, attributes := #[] }, { accessFlags := 2, nameIndex := 19, descriptorIndex := 10, attributes := #[] }])
  fields := #[{ name := "name", type := (.object "java/lang/String"), accessFlags := 18, slot := 0, constantValue := 0 }, { name := "ordinal", type := .int, accessFlags := 18, slot := 1, constantValue := 0 }, { name := "hash", type := .int, accessFlags := 2, slot := 2, constantValue := 0 }]
  methods := #[]
  instanceTypes := #[(.object "java/lang/String"), .int, .int]
  staticTypes := #[]
  resolved := Array.replicate 204 none
  statics := none }

def pool6 : Array CpInfo := pool [(1, .class_ 2), (0, u "com/example/cyclecast/cyclecast/PeriodicPlanner$Objective"), (0, .fieldref 1 4), (0, .nameAndType 5 6), (0, u "AVE"), (0, u "Lcom/example/cyclecast/cyclecast/PeriodicPlanner$Objective;"), (2, u "MAX"), (2, u "$VALUES"), (0, u "[Lcom/example/cyclecast/cyclecast/PeriodicPlanner$Objective;"), (6, .class_ 22), (1, u "java/lang/Enum"), (26, u "leaf"), (0, u "(D)D"), (7, .class_ 59), (0, u "com/example/cyclecast/cyclecast/PeriodicPlanner")] 2

def k6c0 : Code := { maxStack := 4, maxLocals := 3, code := prog_24_method_4_code, exceptionTable := #[], attributes := #[] }
def k6m0 : Method := { name := "leaf", desc := "(D)D", sig := { parameters := [.double], returnType := some .double }, accessFlags := 0, code := some k6c0 }
/-- com/example/cyclecast/cyclecast/PeriodicPlanner$Objective -/
def k6 : Class := { plain "com/example/cyclecast/cyclecast/PeriodicPlanner$Objective" (some 5) with
  accessFlags := 16433
  interfaces := #[]
  cf := some (fileOf pool6 1 #[.nestHost 58] #[{ accessFlags := 0, nameIndex := 49, descriptorIndex := 50, attributes := #[] }] 16433 20 #[] #[{ accessFlags := 16409, nameIndex := 5, descriptorIndex := 6, attributes := #[] }, { accessFlags := 16409, nameIndex := 9, descriptorIndex := 6, attributes := #[] }, { accessFlags := 4122, nameIndex := 12, descriptorIndex := 13, attributes := #[] }])
  fields := #[{ name := "AVE", type := (.object "com/example/cyclecast/cyclecast/PeriodicPlanner$Objective"), accessFlags := 16409, slot := 0, constantValue := 0 }, { name := "MAX", type := (.object "com/example/cyclecast/cyclecast/PeriodicPlanner$Objective"), accessFlags := 16409, slot := 1, constantValue := 0 }, { name := "$VALUES", type := (.array (.object "com/example/cyclecast/cyclecast/PeriodicPlanner$Objective")), accessFlags := 4122, slot := 2, constantValue := 0 }]
  methods := #[k6m0]
  instanceTypes := #[(.object "java/lang/String"), .int, .int]
  staticTypes := #[(.object "com/example/cyclecast/cyclecast/PeriodicPlanner$Objective"), (.object "com/example/cyclecast/cyclecast/PeriodicPlanner$Objective"), (.array (.object "com/example/cyclecast/cyclecast/PeriodicPlanner$Objective"))]
  resolved := Array.replicate 62 none
  statics := some 0 }

def pool7 : Array CpInfo := pool [(1, u "java/lang/Cloneable"), (0, .class_ 1), (0, u "java/lang/Object"), (0, .class_ 3)] 3

/-- java/lang/Cloneable -/
def k7 : Class := { plain "java/lang/Cloneable" (some 0) with
  accessFlags := 1537
  interfaces := #[]
  cf := some (fileOf pool7 2 #[] #[] 1537 4 #[] #[])
  fields := #[]
  methods := #[]
  instanceTypes := #[]
  staticTypes := #[]
  resolved := Array.replicate 8 none
  statics := none }

/-- the primitive byte -/
def k8 : Class := { plain "byte" none with kind := .primitive 'B', accessFlags := 0x411 }
/-- [B -/
def k9 : Class := { plain "[B" (some 0) with kind := .array 8 .byte, interfaces := #[7, 4], accessFlags := 1041 }

/-- the primitive int -/
def k10 : Class := { plain "int" none with kind := .primitive 'I', accessFlags := 0x411 }
/-- [I -/
def k11 : Class := { plain "[I" (some 0) with kind := .array 10 .int, interfaces := #[7, 4], accessFlags := 1041 }

def heap : Heap := #[{ cls := 6, slots := #[.ref 1, .ref 2, .null], vm := .statics 6 },
  { cls := 6, slots := #[.null, .int 0, .int 0], vm := .none },
  { cls := 6, slots := #[.null, .int 1, .int 0], vm := .none }]
def classes : Array Class := #[k0, k1, k2, k3, k4, k5, k6, k7, k8, k9, k10, k11]
def interned : List (Array UInt16 × Addr) := []
def slotsUsed : Nat := 9
def theMethod : MethodId := ⟨1, 1⟩
def args0 : Array Value := #[.int 5, .int 1]
def aboutOver (below : List Frame) : State where
  vm := { classes := classes, interned := interned.toArray }
  heap := heap
  slotsUsed := slotsUsed
  threads := #[{ frames := .invoking theMethod args0 :: below }]
def below0 : List Frame := [.native { method := ⟨0, 0⟩, args := #[] }]
def about1 : State := aboutOver below0
def p0 : Program := .bare "" "" ""
def e0 : Env := launch0.env 0 0 0
theorem w_frames : about1.frames = Frame.invoking theMethod args0 :: below0 := rfl
set_option maxRecDepth 65536 in
theorem w_args : argsFit about1.vm theMethod args0 = true := by decide +kernel
set_option maxRecDepth 65536 in
theorem w_heap : heapFits about1 = true := by decide +kernel
set_option maxRecDepth 65536 in
theorem w_runnable : about1.curStatus? = some .runnable := by decide +kernel
set_option maxRecDepth 65536 in
theorem w_alone : about1.alone = true := by decide +kernel
set_option maxRecDepth 65536 in
theorem w_named : about1.methodNamed? x = some theMethod := by decide +kernel
set_option maxRecDepth 65536 in
theorem w_hears : about1.hears theMethod below0 = true := by decide +kernel
set_option maxRecDepth 65536 in
theorem w_ripe : about1.ripe theMethod args0 below0 = true := by decide +kernel
theorem w_running : about1.status = .running := rfl
set_option maxRecDepth 65536 in
theorem w_room : about1.hasRoom e0.platform room_1 = true :=
  launch0.hasRoom_least _ room_1 (by decide +kernel) (by decide +kernel) (by decide +kernel) (by decide +kernel) (by decide +kernel) (by decide +kernel)
theorem allAtoms_all (ts : List Jvm.Cond) (a : Array Jvm.Value) (st : Jvm.State) : (allAtoms ts).before a st = ts.all (fun c => c.before a st) := by
  induction ts with
  | nil => rfl
  | cons c t ih =>
    show (Jvm.Cond.and c (allAtoms t)).before a st = _
    rw [Jvm.Cond.before_and, ih, List.all_cons]
def words1 : List Jvm.Cond := Jvm.Cond.code x code maxLocals ret :: tables_1
/-- a 'code' word, met by the world's own term for the bytes: nothing is compared byte by byte -/
theorem code_word {y : MethodName} {bytes : ByteArray} {mx : Nat} {rt : Option FieldType} {a : Array Value} {s : State} {m : MethodId} {meth : Method} {c : Code} (h1 : s.methodNamed? y = some m) (h2 : s.vm.method? m = some meth) (h3 : meth.code = some c) (h4 : c.code = bytes)
    (h5 : (c.maxLocals == mx && c.exceptionTable.isEmpty && decide (c.maxStack ≤ mostOperands) && decide (meth.sig.returnType = rt) && !meth.locks && decide (parseMethodDescriptor y.desc = some meth.sig)) = true) : (Jvm.Cond.code y bytes mx rt).before a s = true := by
  simp only [Bool.and_eq_true, beq_iff_eq, Bool.not_eq_true', decide_eq_true_eq] at h5
  obtain ⟨⟨⟨⟨⟨g1, g2⟩, g3⟩, g4⟩, g5⟩, g6⟩ := h5
  simp [Cond.before, Cond.holds, Cond.value, h1, h2, h3, h4, g1, g2, g3, g4, g5, g6]
def isCode : Jvm.Cond → Bool
  | .code _ _ _ _ => true
  | _ => false
theorem all_split {L : List Jvm.Cond} {P : Jvm.Cond → Bool} (h1 : L.all (fun c => isCode c || P c) = true) (h2 : ∀ c ∈ L.filter isCode, P c = true) : L.all P = true := by
  refine List.all_eq_true.mpr fun c hc => ?_
  have h := List.all_eq_true.mp h1 c hc
  rcases Bool.eq_false_or_eq_true (isCode c) with hi | hi
  · exact h2 c (List.mem_filter.mpr ⟨hc, hi⟩)
  · simpa [hi] using h
set_option maxRecDepth 65536 in
theorem w_c0 : (Jvm.Cond.code x code maxLocals ret).before args0 about1 = true := code_word (m := ⟨1, 1⟩) (meth := k1m1) (c := k1c1) (by decide +kernel) rfl rfl rfl (by decide +kernel)
set_option maxRecDepth 65536 in
theorem w_c1 : (Jvm.Cond.code ({ cls := "com/example/cyclecast/cyclecast/PeriodicPlanner$Objective", name := "leaf", desc := "(D)D" } : Jvm.MethodName) prog_24_method_4_code (3 : Nat) (Option.some Jvm.ClassFile.FieldType.double)).before args0 about1 = true := code_word (m := ⟨6, 0⟩) (meth := k6m0) (c := k6c0) (by decide +kernel) rfl rfl rfl (by decide +kernel)
def codes1 : List Jvm.Cond := [Jvm.Cond.code x code maxLocals ret, Jvm.Cond.code ({ cls := "com/example/cyclecast/cyclecast/PeriodicPlanner$Objective", name := "leaf", desc := "(D)D" } : Jvm.MethodName) prog_24_method_4_code (3 : Nat) (Option.some Jvm.ClassFile.FieldType.double)]
set_option maxRecDepth 65536 in
theorem codes_eq : words1.filter isCode = codes1 := rfl
theorem w_codes : ∀ c ∈ words1.filter isCode, c.before args0 about1 = true := by
  rw [codes_eq]
  intro c hc
  simp only [codes1, List.mem_cons, List.not_mem_nil, or_false] at hc
  rcases hc with rfl | rfl
  · exact w_c0
  · exact w_c1
set_option maxRecDepth 65536 in
theorem w_t1 : words1.all (fun c => isCode c || c.before args0 about1) = true := by decide +kernel
theorem w_tables : (allAtoms (Jvm.Cond.code x code maxLocals ret :: tables_1)).before args0 about1 = true := by
  rw [allAtoms_all]
  show words1.all (fun c => c.before args0 about1) = true
  refine all_split ?_ w_codes
  rw [w_t1]
set_option maxRecDepth 65536 in
theorem w_case : (Jvm.Cond.and given_1 narrow_1).before args0 about1 = true := by decide +kernel
theorem w_applies : (headSpec (Jvm.Cond.code x code maxLocals ret :: tables_1) room_1).applies x e0.platform about1 = true :=
  (Spec.applies_iff w_frames).mpr ⟨w_running, w_runnable, w_alone, w_named, w_hears, w_ripe, w_room, w_tables⟩
theorem atStart : AtStart classFile x code maxLocals ret World_1 tables_1 room_1 Calls_1 rest_1 Pre_1 launch0 p0 e0 about1 theMethod args0 below0 :=
  ⟨lists_1, trivial, launch0.admits_env _ _ _, launch0.least_env, fairChoices_fair.cas, fairChoices_fair.clock, w_frames, w_args, w_heap, w_applies, trivial, trivial, w_case⟩
end start1
theorem witness_1 : WitnessClaimed_1 := ⟨start1.p0, start1.e0, start1.about1, start1.theMethod, start1.args0, start1.below0, start1.atStart⟩
end Jvm.Pilot.@@N@@
