import JvmDerived
import JvmDerived.Pilot.@@N@@Statement
import JvmDerived.Pilot.@@N@@Code
set_option linter.unusedVariables false
set_option linter.unusedSimpArgs false
namespace Jvm.Pilot.@@N@@
open Jvm Jvm.ClassFile Sem Op Lib Jvm.Free Jvm.Stand Jvm.LawKit Jvm.RoadKit Bundle Jvm.Pilot.@@N@@.Jvm.D

section OwnWalk
variable {p : Program} {l : Launch} {e : Env} {R : Room} {s : State} {m : MethodId} {args : Array Value} {below : List Frame} {meth : Method} {c : Code} {T : State} {locs : List Loc} {cells slots : Nat} {Z : State} {h : Heap} {Q : Option Value → Heap → List Loc → Prop} {ce sl : Nat} {pc q q' : Nat} {ls : Array Slot} {st : List Value} {a0 : Array Value}
/-- the rest of a body's run, from the frame g on -/
def Go (p : Program) (e : Env) (below : List Frame) (s : State) (Q : Option Value → Heap → List Loc → Prop) (ce sl : Nat) (T : State) (g : JFrame) : Prop :=
  ∃ s₂ o, Steps p.tables e below (T.setTop g) s₂ ∧ s₂.status = .running ∧ Ended s₂ below o ∧ ∃ v L, o = .returned v ∧ Q v s₂.heap L ∧ FrameEnd s o s₂ L ce sl
theorem Go.to {T' : State} {g g' : JFrame} (k : Go p e below s Q ce sl T' g') (f : ∀ t, Steps p.tables e below (T'.setTop g') t → Steps p.tables e below (T.setTop g) t) : Go p e below s Q ce sl T g := by
  obtain ⟨s2, o, h1, r⟩ := k
  exact ⟨s2, o, f _ h1, r⟩
theorem Go.cast {g g' : JFrame} (w : g = g') (k : Go p e below s Q ce sl T g') : Go p e below s Q ce sl T g := w ▸ k
/-- a body's contract: from these arguments, over this heap, it returns with Q -/
abbrev Con (l : Launch) (y : MethodName) (bytes : ByteArray) (maxL : Nat) (ret : Option FieldType) (ws : List Jvm.Cond) (rm : Room) (Z : State) (as' : Array Value) (h : Heap) (Q : Option Value → Heap → List Loc → Prop) : Prop :=
  MetFree l y (head1 (Jvm.Cond.code y bytes maxL ret :: ws) rm) (fun a U => a = as' ∧ Z.Warmed39 U.vm ∧ U.heap = h) (fun _ _ _ _ _ => True) (fun _ U o U' => ∃ v L, o = .returned v ∧ Q v U'.heap L ∧ FrameEnd U o U' L rm.cells rm.slots)
theorem con_of {y : MethodName} {bytes : ByteArray} {maxL : Nat} {ret : Option FieldType} {ws : List Jvm.Cond} {rm : Room} {as' : Array Value} (hpl : plainFor y = true)
    (body : ∀ (p : Program) (e : Env) (s : State) (m : MethodId) (below : List Frame) (meth : Method) (c : Code) (s₁ : State), Stand p l e rm s m as' below meth c s₁ [] 0 0 → p.tables.exec = Jvm.exec → c.code = bytes → c.maxLocals = maxL → meth.sig.returnType = ret → meth.locks = false → s.vm.findClass y.cls = some m.cls → meth.name = y.name → Z.Warmed39 s.vm → s₁.heap = h → Go p e below s Q rm.cells rm.slots s₁ (entryFrame m as' maxL)) :
    Con l y bytes maxL ret ws rm Z as' h Q := by
  refine MetFree.of_bodySF hpl hisR ?_
  intro p e s m args below meth c s₁ Bd hml0 hP hK
  obtain ⟨rfl, hZ, hh⟩ := hP
  exact body p e s m below meth c s₁ (Stand.of_body Bd) Bd.exec Bd.bytes hml0 Bd.returns Bd.notSynchronized (findClass_of_methodNamed Bd.named) (name_of_methodNamed Bd.named Bd.method).1 hZ (by rw [← hh, Bd.state]; rfl)
theorem go_iload (X : Stand p l e R s m args below meth c T locs cells slots) (hx : p.tables.exec = Jvm.exec) {k : Nat} {v : Int32} (hd : decode c.code pc = .ok (.iload k, 2)) (hp : pc + 2 = q) (hl : ls[k]? = some (.val (.int v))) (K : Go p e below s Q ce sl T (mkF m q ls (.int v :: st))) : Go p e below s Q ce sl T (mkF m pc ls st) := by
  subst hp
  exact K.to fun _ r => XS.iload X.here hx rfl hd hl r
theorem go_iloadN (X : Stand p l e R s m args below meth c T locs cells slots) (hx : p.tables.exec = Jvm.exec) {k : Fin 4} {v : Int32} (hd : decode c.code pc = .ok (.iload_n k, 1)) (hp : pc + 1 = q) (hl : ls[k.val]? = some (.val (.int v))) (K : Go p e below s Q ce sl T (mkF m q ls (.int v :: st))) : Go p e below s Q ce sl T (mkF m pc ls st) := by
  subst hp
  exact K.to fun _ r => XS.iloadN X.here hx rfl hd hl r
theorem go_istore (X : Stand p l e R s m args below meth c T locs cells slots) (hx : p.tables.exec = Jvm.exec) {k : Nat} {v : Int32} {l' : Array Slot} (hd : decode c.code pc = .ok (.istore k, 2)) (hp : pc + 2 = q) (hl : storeLocals ls k (.int v) = some l') (K : Go p e below s Q ce sl T (mkF m q l' st)) : Go p e below s Q ce sl T (mkF m pc ls (.int v :: st)) := by
  subst hp
  exact K.to fun _ r => XS.istore X.here hx rfl hd rfl hl r
theorem go_istoreN (X : Stand p l e R s m args below meth c T locs cells slots) (hx : p.tables.exec = Jvm.exec) {k : Fin 4} {v : Int32} {l' : Array Slot} (hd : decode c.code pc = .ok (.istore_n k, 1)) (hp : pc + 1 = q) (hl : storeLocals ls k.val (.int v) = some l') (K : Go p e below s Q ce sl T (mkF m q l' st)) : Go p e below s Q ce sl T (mkF m pc ls (.int v :: st)) := by
  subst hp
  exact K.to fun _ r => XS.istoreN X.here hx rfl hd rfl hl r
theorem go_lload (X : Stand p l e R s m args below meth c T locs cells slots) (hx : p.tables.exec = Jvm.exec) {k : Nat} {v : Int64} (hd : decode c.code pc = .ok (.lload k, 2)) (hp : pc + 2 = q) (hl : ls[k]? = some (.val (.long v))) (K : Go p e below s Q ce sl T (mkF m q ls (.long v :: st))) : Go p e below s Q ce sl T (mkF m pc ls st) := by
  subst hp
  exact K.to fun _ r => XS.lload X.here hx rfl hd hl r
theorem go_lloadN (X : Stand p l e R s m args below meth c T locs cells slots) (hx : p.tables.exec = Jvm.exec) {k : Fin 4} {v : Int64} (hd : decode c.code pc = .ok (.lload_n k, 1)) (hp : pc + 1 = q) (hl : ls[k.val]? = some (.val (.long v))) (K : Go p e below s Q ce sl T (mkF m q ls (.long v :: st))) : Go p e below s Q ce sl T (mkF m pc ls st) := by
  subst hp
  exact K.to fun _ r => XS.lloadN X.here hx rfl hd hl r
theorem go_lstore (X : Stand p l e R s m args below meth c T locs cells slots) (hx : p.tables.exec = Jvm.exec) {k : Nat} {v : Int64} {l' : Array Slot} (hd : decode c.code pc = .ok (.lstore k, 2)) (hp : pc + 2 = q) (hl : storeLocals ls k (.long v) = some l') (K : Go p e below s Q ce sl T (mkF m q l' st)) : Go p e below s Q ce sl T (mkF m pc ls (.long v :: st)) := by
  subst hp
  exact K.to fun _ r => XS.lstore X.here hx rfl hd rfl hl r
theorem go_lstoreN (X : Stand p l e R s m args below meth c T locs cells slots) (hx : p.tables.exec = Jvm.exec) {k : Fin 4} {v : Int64} {l' : Array Slot} (hd : decode c.code pc = .ok (.lstore_n k, 1)) (hp : pc + 1 = q) (hl : storeLocals ls k.val (.long v) = some l') (K : Go p e below s Q ce sl T (mkF m q l' st)) : Go p e below s Q ce sl T (mkF m pc ls (.long v :: st)) := by
  subst hp
  exact K.to fun _ r => XS.lstoreN X.here hx rfl hd rfl hl r
theorem go_dload (X : Stand p l e R s m args below meth c T locs cells slots) (hx : p.tables.exec = Jvm.exec) {k : Nat} {v : UInt64} (hd : decode c.code pc = .ok (.dload k, 2)) (hp : pc + 2 = q) (hl : ls[k]? = some (.val (.double v))) (K : Go p e below s Q ce sl T (mkF m q ls (.double v :: st))) : Go p e below s Q ce sl T (mkF m pc ls st) := by
  subst hp
  exact K.to fun _ r => XS.dload X.here hx rfl hd hl r
theorem go_dloadN (X : Stand p l e R s m args below meth c T locs cells slots) (hx : p.tables.exec = Jvm.exec) {k : Fin 4} {v : UInt64} (hd : decode c.code pc = .ok (.dload_n k, 1)) (hp : pc + 1 = q) (hl : ls[k.val]? = some (.val (.double v))) (K : Go p e below s Q ce sl T (mkF m q ls (.double v :: st))) : Go p e below s Q ce sl T (mkF m pc ls st) := by
  subst hp
  exact K.to fun _ r => XS.dloadN X.here hx rfl hd hl r
theorem go_dstore (X : Stand p l e R s m args below meth c T locs cells slots) (hx : p.tables.exec = Jvm.exec) {k : Nat} {v : UInt64} {l' : Array Slot} (hd : decode c.code pc = .ok (.dstore k, 2)) (hp : pc + 2 = q) (hl : storeLocals ls k (.double v) = some l') (K : Go p e below s Q ce sl T (mkF m q l' st)) : Go p e below s Q ce sl T (mkF m pc ls (.double v :: st)) := by
  subst hp
  exact K.to fun _ r => XS.dstore X.here hx rfl hd rfl hl r
theorem go_dstoreN (X : Stand p l e R s m args below meth c T locs cells slots) (hx : p.tables.exec = Jvm.exec) {k : Fin 4} {v : UInt64} {l' : Array Slot} (hd : decode c.code pc = .ok (.dstore_n k, 1)) (hp : pc + 1 = q) (hl : storeLocals ls k.val (.double v) = some l') (K : Go p e below s Q ce sl T (mkF m q l' st)) : Go p e below s Q ce sl T (mkF m pc ls (.double v :: st)) := by
  subst hp
  exact K.to fun _ r => XS.dstoreN X.here hx rfl hd rfl hl r
theorem go_fload (X : Stand p l e R s m args below meth c T locs cells slots) (hx : p.tables.exec = Jvm.exec) {k : Nat} {v : UInt32} (hd : decode c.code pc = .ok (.fload k, 2)) (hp : pc + 2 = q) (hl : ls[k]? = some (.val (.float v))) (K : Go p e below s Q ce sl T (mkF m q ls (.float v :: st))) : Go p e below s Q ce sl T (mkF m pc ls st) := by
  subst hp
  exact K.to fun _ r => XS.fload X.here hx rfl hd hl r
theorem go_floadN (X : Stand p l e R s m args below meth c T locs cells slots) (hx : p.tables.exec = Jvm.exec) {k : Fin 4} {v : UInt32} (hd : decode c.code pc = .ok (.fload_n k, 1)) (hp : pc + 1 = q) (hl : ls[k.val]? = some (.val (.float v))) (K : Go p e below s Q ce sl T (mkF m q ls (.float v :: st))) : Go p e below s Q ce sl T (mkF m pc ls st) := by
  subst hp
  exact K.to fun _ r => XS.floadN X.here hx rfl hd hl r
theorem go_fstore (X : Stand p l e R s m args below meth c T locs cells slots) (hx : p.tables.exec = Jvm.exec) {k : Nat} {v : UInt32} {l' : Array Slot} (hd : decode c.code pc = .ok (.fstore k, 2)) (hp : pc + 2 = q) (hl : storeLocals ls k (.float v) = some l') (K : Go p e below s Q ce sl T (mkF m q l' st)) : Go p e below s Q ce sl T (mkF m pc ls (.float v :: st)) := by
  subst hp
  exact K.to fun _ r => XS.fstore X.here hx rfl hd rfl hl r
theorem go_fstoreN (X : Stand p l e R s m args below meth c T locs cells slots) (hx : p.tables.exec = Jvm.exec) {k : Fin 4} {v : UInt32} {l' : Array Slot} (hd : decode c.code pc = .ok (.fstore_n k, 1)) (hp : pc + 1 = q) (hl : storeLocals ls k.val (.float v) = some l') (K : Go p e below s Q ce sl T (mkF m q l' st)) : Go p e below s Q ce sl T (mkF m pc ls (.float v :: st)) := by
  subst hp
  exact K.to fun _ r => XS.fstoreN X.here hx rfl hd rfl hl r
theorem go_aload (X : Stand p l e R s m args below meth c T locs cells slots) (hx : p.tables.exec = Jvm.exec) {k : Nat} {v : Value} (hd : decode c.code pc = .ok (.aload k, 2)) (hp : pc + 2 = q) (hl : ls[k]? = some (.val v)) (hv : v.isRef = true) (K : Go p e below s Q ce sl T (mkF m q ls (v :: st))) : Go p e below s Q ce sl T (mkF m pc ls st) := by
  subst hp
  exact K.to fun _ r => XS.aload X.here hx rfl hd hl hv r
theorem go_aloadN (X : Stand p l e R s m args below meth c T locs cells slots) (hx : p.tables.exec = Jvm.exec) {k : Fin 4} {v : Value} (hd : decode c.code pc = .ok (.aload_n k, 1)) (hp : pc + 1 = q) (hl : ls[k.val]? = some (.val v)) (hv : v.isRef = true) (K : Go p e below s Q ce sl T (mkF m q ls (v :: st))) : Go p e below s Q ce sl T (mkF m pc ls st) := by
  subst hp
  exact K.to fun _ r => XS.aloadN X.here hx rfl hd hl hv r
theorem go_astore (X : Stand p l e R s m args below meth c T locs cells slots) (hx : p.tables.exec = Jvm.exec) {k : Nat} {v : Value} {l' : Array Slot} (hd : decode c.code pc = .ok (.astore k, 2)) (hp : pc + 2 = q) (hv : v.isRef = true) (hl : storeLocals ls k v = some l') (K : Go p e below s Q ce sl T (mkF m q l' st)) : Go p e below s Q ce sl T (mkF m pc ls (v :: st)) := by
  subst hp
  exact K.to fun _ r => XS.astore X.here hx rfl hd rfl hv hl r
theorem go_astoreN (X : Stand p l e R s m args below meth c T locs cells slots) (hx : p.tables.exec = Jvm.exec) {k : Fin 4} {v : Value} {l' : Array Slot} (hd : decode c.code pc = .ok (.astore_n k, 1)) (hp : pc + 1 = q) (hv : v.isRef = true) (hl : storeLocals ls k.val v = some l') (K : Go p e below s Q ce sl T (mkF m q l' st)) : Go p e below s Q ce sl T (mkF m pc ls (v :: st)) := by
  subst hp
  exact K.to fun _ r => XS.astoreN X.here hx rfl hd rfl hv hl r
theorem go_iconst (X : Stand p l e R s m args below meth c T locs cells slots) (hx : p.tables.exec = Jvm.exec) {i : Int} {v : Int32} (hd : decode c.code pc = .ok (.iconst i, 1)) (hp : pc + 1 = q) (hv : Int32.ofInt i = v) (K : Go p e below s Q ce sl T (mkF m q ls (.int v :: st))) : Go p e below s Q ce sl T (mkF m pc ls st) := by
  subst hp
  exact K.to fun _ r => XS.iconst X.here hx rfl hd (hv ▸ r)
theorem go_bipush (X : Stand p l e R s m args below meth c T locs cells slots) (hx : p.tables.exec = Jvm.exec) {i : Int} {v : Int32} (hd : decode c.code pc = .ok (.bipush i, 2)) (hp : pc + 2 = q) (hv : (Int8.ofInt i).toInt32 = v) (K : Go p e below s Q ce sl T (mkF m q ls (.int v :: st))) : Go p e below s Q ce sl T (mkF m pc ls st) := by
  subst hp
  exact K.to fun _ r => XS.bipush X.here hx rfl hd (hv ▸ r)
theorem go_sipush (X : Stand p l e R s m args below meth c T locs cells slots) (hx : p.tables.exec = Jvm.exec) {i : Int} {v : Int32} (hd : decode c.code pc = .ok (.sipush i, 3)) (hp : pc + 3 = q) (hv : (Int16.ofInt i).toInt32 = v) (K : Go p e below s Q ce sl T (mkF m q ls (.int v :: st))) : Go p e below s Q ce sl T (mkF m pc ls st) := by
  subst hp
  exact K.to fun _ r => XS.sipush X.here hx rfl hd (hv ▸ r)
theorem go_lconst (X : Stand p l e R s m args below meth c T locs cells slots) (hx : p.tables.exec = Jvm.exec) {k : Fin 2} {v : Int64} (hd : decode c.code pc = .ok (.lconst k, 1)) (hp : pc + 1 = q) (hv : Int64.ofNat k = v) (K : Go p e below s Q ce sl T (mkF m q ls (.long v :: st))) : Go p e below s Q ce sl T (mkF m pc ls st) := by
  subst hp
  exact K.to fun _ r => XS.lconst X.here hx rfl hd (hv ▸ r)
theorem go_aconstNull (X : Stand p l e R s m args below meth c T locs cells slots) (hx : p.tables.exec = Jvm.exec)  (hd : decode c.code pc = .ok (.aconst_null, 1)) (hp : pc + 1 = q)  (K : Go p e below s Q ce sl T (mkF m q ls (.null :: st))) : Go p e below s Q ce sl T (mkF m pc ls st) := by
  subst hp
  exact K.to fun _ r => XS.aconstNull X.here hx rfl hd r
theorem go_dconst0 (X : Stand p l e R s m args below meth c T locs cells slots) (hx : p.tables.exec = Jvm.exec) {v : UInt64} (hd : decode c.code pc = .ok (.dconst 0, 1)) (hp : pc + 1 = q) (hv : FP.dconst0 = v) (K : Go p e below s Q ce sl T (mkF m q ls (.double v :: st))) : Go p e below s Q ce sl T (mkF m pc ls st) := by
  subst hp
  exact K.to fun _ r => XS.dconst0 X.here hx rfl hd hv r
theorem go_dconst1 (X : Stand p l e R s m args below meth c T locs cells slots) (hx : p.tables.exec = Jvm.exec) {v : UInt64} (hd : decode c.code pc = .ok (.dconst 1, 1)) (hp : pc + 1 = q) (hv : FP.dconst1 = v) (K : Go p e below s Q ce sl T (mkF m q ls (.double v :: st))) : Go p e below s Q ce sl T (mkF m pc ls st) := by
  subst hp
  exact K.to fun _ r => XS.dconst1 X.here hx rfl hd hv r
theorem go_iadd (X : Stand p l e R s m args below meth c T locs cells slots) (hx : p.tables.exec = Jvm.exec) {x y v : Int32} (hd : decode c.code pc = .ok (.iadd, 1)) (hp : pc + 1 = q) (hv : x + y = v) (K : Go p e below s Q ce sl T (mkF m q ls (.int v :: st))) : Go p e below s Q ce sl T (mkF m pc ls (.int y :: .int x :: st)) := by
  subst hp
  exact K.to fun _ r => XS.iadd X.here hx rfl hd rfl (hv ▸ r)
theorem go_isub (X : Stand p l e R s m args below meth c T locs cells slots) (hx : p.tables.exec = Jvm.exec) {x y v : Int32} (hd : decode c.code pc = .ok (.isub, 1)) (hp : pc + 1 = q) (hv : x - y = v) (K : Go p e below s Q ce sl T (mkF m q ls (.int v :: st))) : Go p e below s Q ce sl T (mkF m pc ls (.int y :: .int x :: st)) := by
  subst hp
  exact K.to fun _ r => XS.isub X.here hx rfl hd rfl (hv ▸ r)
theorem go_imul (X : Stand p l e R s m args below meth c T locs cells slots) (hx : p.tables.exec = Jvm.exec) {x y v : Int32} (hd : decode c.code pc = .ok (.imul, 1)) (hp : pc + 1 = q) (hv : x * y = v) (K : Go p e below s Q ce sl T (mkF m q ls (.int v :: st))) : Go p e below s Q ce sl T (mkF m pc ls (.int y :: .int x :: st)) := by
  subst hp
  exact K.to fun _ r => XS.imul X.here hx rfl hd rfl (hv ▸ r)
theorem go_iand (X : Stand p l e R s m args below meth c T locs cells slots) (hx : p.tables.exec = Jvm.exec) {x y v : Int32} (hd : decode c.code pc = .ok (.iand, 1)) (hp : pc + 1 = q) (hv : x &&& y = v) (K : Go p e below s Q ce sl T (mkF m q ls (.int v :: st))) : Go p e below s Q ce sl T (mkF m pc ls (.int y :: .int x :: st)) := by
  subst hp
  exact K.to fun _ r => XS.iand X.here hx rfl hd rfl (hv ▸ r)
theorem go_ior (X : Stand p l e R s m args below meth c T locs cells slots) (hx : p.tables.exec = Jvm.exec) {x y v : Int32} (hd : decode c.code pc = .ok (.ior, 1)) (hp : pc + 1 = q) (hv : x ||| y = v) (K : Go p e below s Q ce sl T (mkF m q ls (.int v :: st))) : Go p e below s Q ce sl T (mkF m pc ls (.int y :: .int x :: st)) := by
  subst hp
  exact K.to fun _ r => XS.ior X.here hx rfl hd rfl (hv ▸ r)
theorem go_ixor (X : Stand p l e R s m args below meth c T locs cells slots) (hx : p.tables.exec = Jvm.exec) {x y v : Int32} (hd : decode c.code pc = .ok (.ixor, 1)) (hp : pc + 1 = q) (hv : x ^^^ y = v) (K : Go p e below s Q ce sl T (mkF m q ls (.int v :: st))) : Go p e below s Q ce sl T (mkF m pc ls (.int y :: .int x :: st)) := by
  subst hp
  exact K.to fun _ r => XS.ixor X.here hx rfl hd rfl (hv ▸ r)
theorem go_ineg (X : Stand p l e R s m args below meth c T locs cells slots) (hx : p.tables.exec = Jvm.exec) {x v : Int32} (hd : decode c.code pc = .ok (.ineg, 1)) (hp : pc + 1 = q) (hv : -x = v) (K : Go p e below s Q ce sl T (mkF m q ls (.int v :: st))) : Go p e below s Q ce sl T (mkF m pc ls (.int x :: st)) := by
  subst hp
  exact K.to fun _ r => XS.ineg X.here hx rfl hd rfl (hv ▸ r)
theorem go_idiv (X : Stand p l e R s m args below meth c T locs cells slots) (hx : p.tables.exec = Jvm.exec) {x y v : Int32} (hd : decode c.code pc = .ok (.idiv, 1)) (hp : pc + 1 = q) (hy : y ≠ 0) (hv : x / y = v) (K : Go p e below s Q ce sl T (mkF m q ls (.int v :: st))) : Go p e below s Q ce sl T (mkF m pc ls (.int y :: .int x :: st)) := by
  subst hp
  exact K.to fun _ r => XS.idiv X.here hx rfl hd rfl hy (hv ▸ r)
theorem go_ladd (X : Stand p l e R s m args below meth c T locs cells slots) (hx : p.tables.exec = Jvm.exec) {x y v : Int64} (hd : decode c.code pc = .ok (.ladd, 1)) (hp : pc + 1 = q) (hv : x + y = v) (K : Go p e below s Q ce sl T (mkF m q ls (.long v :: st))) : Go p e below s Q ce sl T (mkF m pc ls (.long y :: .long x :: st)) := by
  subst hp
  exact K.to fun _ r => XS.ladd X.here hx rfl hd rfl (hv ▸ r)
theorem go_lsub (X : Stand p l e R s m args below meth c T locs cells slots) (hx : p.tables.exec = Jvm.exec) {x y v : Int64} (hd : decode c.code pc = .ok (.lsub, 1)) (hp : pc + 1 = q) (hv : x - y = v) (K : Go p e below s Q ce sl T (mkF m q ls (.long v :: st))) : Go p e below s Q ce sl T (mkF m pc ls (.long y :: .long x :: st)) := by
  subst hp
  exact K.to fun _ r => XS.lsub X.here hx rfl hd rfl (hv ▸ r)
theorem go_lmul (X : Stand p l e R s m args below meth c T locs cells slots) (hx : p.tables.exec = Jvm.exec) {x y v : Int64} (hd : decode c.code pc = .ok (.lmul, 1)) (hp : pc + 1 = q) (hv : x * y = v) (K : Go p e below s Q ce sl T (mkF m q ls (.long v :: st))) : Go p e below s Q ce sl T (mkF m pc ls (.long y :: .long x :: st)) := by
  subst hp
  exact K.to fun _ r => XS.lmul X.here hx rfl hd rfl (hv ▸ r)
theorem go_land (X : Stand p l e R s m args below meth c T locs cells slots) (hx : p.tables.exec = Jvm.exec) {x y v : Int64} (hd : decode c.code pc = .ok (.land, 1)) (hp : pc + 1 = q) (hv : x &&& y = v) (K : Go p e below s Q ce sl T (mkF m q ls (.long v :: st))) : Go p e below s Q ce sl T (mkF m pc ls (.long y :: .long x :: st)) := by
  subst hp
  exact K.to fun _ r => XS.land X.here hx rfl hd rfl (hv ▸ r)
theorem go_lor (X : Stand p l e R s m args below meth c T locs cells slots) (hx : p.tables.exec = Jvm.exec) {x y v : Int64} (hd : decode c.code pc = .ok (.lor, 1)) (hp : pc + 1 = q) (hv : x ||| y = v) (K : Go p e below s Q ce sl T (mkF m q ls (.long v :: st))) : Go p e below s Q ce sl T (mkF m pc ls (.long y :: .long x :: st)) := by
  subst hp
  exact K.to fun _ r => XS.lor X.here hx rfl hd rfl (hv ▸ r)
theorem go_lxor (X : Stand p l e R s m args below meth c T locs cells slots) (hx : p.tables.exec = Jvm.exec) {x y v : Int64} (hd : decode c.code pc = .ok (.lxor, 1)) (hp : pc + 1 = q) (hv : x ^^^ y = v) (K : Go p e below s Q ce sl T (mkF m q ls (.long v :: st))) : Go p e below s Q ce sl T (mkF m pc ls (.long y :: .long x :: st)) := by
  subst hp
  exact K.to fun _ r => XS.lxor X.here hx rfl hd rfl (hv ▸ r)
theorem go_lneg (X : Stand p l e R s m args below meth c T locs cells slots) (hx : p.tables.exec = Jvm.exec) {x v : Int64} (hd : decode c.code pc = .ok (.lneg, 1)) (hp : pc + 1 = q) (hv : -x = v) (K : Go p e below s Q ce sl T (mkF m q ls (.long v :: st))) : Go p e below s Q ce sl T (mkF m pc ls (.long x :: st)) := by
  subst hp
  exact K.to fun _ r => XS.lneg X.here hx rfl hd rfl (hv ▸ r)
theorem go_ldiv (X : Stand p l e R s m args below meth c T locs cells slots) (hx : p.tables.exec = Jvm.exec) {x y v : Int64} (hd : decode c.code pc = .ok (.ldiv, 1)) (hp : pc + 1 = q) (hy : y ≠ 0) (hv : x / y = v) (K : Go p e below s Q ce sl T (mkF m q ls (.long v :: st))) : Go p e below s Q ce sl T (mkF m pc ls (.long y :: .long x :: st)) := by
  subst hp
  exact K.to fun _ r => XS.ldiv X.here hx rfl hd rfl hy (hv ▸ r)
theorem go_irem (X : Stand p l e R s m args below meth c T locs cells slots) (hx : p.tables.exec = Jvm.exec) {x y v : Int32} (hd : decode c.code pc = .ok (.irem, 1)) (hp : pc + 1 = q) (hy : y ≠ 0) (hv : x % y = v) (K : Go p e below s Q ce sl T (mkF m q ls (.int v :: st))) : Go p e below s Q ce sl T (mkF m pc ls (.int y :: .int x :: st)) := by
  subst hp
  exact K.to fun _ r => iremM X hx rfl hd rfl hy (hv ▸ r)
theorem go_lrem (X : Stand p l e R s m args below meth c T locs cells slots) (hx : p.tables.exec = Jvm.exec) {x y v : Int64} (hd : decode c.code pc = .ok (.lrem, 1)) (hp : pc + 1 = q) (hy : y ≠ 0) (hv : x % y = v) (K : Go p e below s Q ce sl T (mkF m q ls (.long v :: st))) : Go p e below s Q ce sl T (mkF m pc ls (.long y :: .long x :: st)) := by
  subst hp
  exact K.to fun _ r => XS.lrem X.here hx rfl hd rfl hy ((lrem_mod x y).symm ▸ hv ▸ r)
theorem go_ishl (X : Stand p l e R s m args below meth c T locs cells slots) (hx : p.tables.exec = Jvm.exec) {x v : Int32} {y : Int32} (hd : decode c.code pc = .ok (.ishl, 1)) (hp : pc + 1 = q) (hv : (x <<< (y &&& 31)) = v) (K : Go p e below s Q ce sl T (mkF m q ls (.int v :: st))) : Go p e below s Q ce sl T (mkF m pc ls (.int y :: .int x :: st)) := by
  subst hp
  exact K.to fun _ r => XS.ishl X.here hx rfl hd rfl (hv ▸ r)
theorem go_ishr (X : Stand p l e R s m args below meth c T locs cells slots) (hx : p.tables.exec = Jvm.exec) {x v : Int32} {y : Int32} (hd : decode c.code pc = .ok (.ishr, 1)) (hp : pc + 1 = q) (hv : (x >>> (y &&& 31)) = v) (K : Go p e below s Q ce sl T (mkF m q ls (.int v :: st))) : Go p e below s Q ce sl T (mkF m pc ls (.int y :: .int x :: st)) := by
  subst hp
  exact K.to fun _ r => XS.ishr X.here hx rfl hd rfl (hv ▸ r)
theorem go_iushr (X : Stand p l e R s m args below meth c T locs cells slots) (hx : p.tables.exec = Jvm.exec) {x v : Int32} {y : Int32} (hd : decode c.code pc = .ok (.iushr, 1)) (hp : pc + 1 = q) (hv : ((x.toUInt32 >>> (y &&& 31).toUInt32).toInt32) = v) (K : Go p e below s Q ce sl T (mkF m q ls (.int v :: st))) : Go p e below s Q ce sl T (mkF m pc ls (.int y :: .int x :: st)) := by
  subst hp
  exact K.to fun _ r => XS.iushr X.here hx rfl hd rfl (hv ▸ r)
theorem go_lshl (X : Stand p l e R s m args below meth c T locs cells slots) (hx : p.tables.exec = Jvm.exec) {x v : Int64} {y : Int32} (hd : decode c.code pc = .ok (.lshl, 1)) (hp : pc + 1 = q) (hv : (x <<< (y &&& 0x3f).toInt64) = v) (K : Go p e below s Q ce sl T (mkF m q ls (.long v :: st))) : Go p e below s Q ce sl T (mkF m pc ls (.int y :: .long x :: st)) := by
  subst hp
  exact K.to fun _ r => XS.lshl X.here hx rfl hd rfl (hv ▸ r)
theorem go_lshr (X : Stand p l e R s m args below meth c T locs cells slots) (hx : p.tables.exec = Jvm.exec) {x v : Int64} {y : Int32} (hd : decode c.code pc = .ok (.lshr, 1)) (hp : pc + 1 = q) (hv : (x >>> (y &&& 0x3f).toInt64) = v) (K : Go p e below s Q ce sl T (mkF m q ls (.long v :: st))) : Go p e below s Q ce sl T (mkF m pc ls (.int y :: .long x :: st)) := by
  subst hp
  exact K.to fun _ r => XS.lshr X.here hx rfl hd rfl (hv ▸ r)
theorem go_lushr (X : Stand p l e R s m args below meth c T locs cells slots) (hx : p.tables.exec = Jvm.exec) {x v : Int64} {y : Int32} (hd : decode c.code pc = .ok (.lushr, 1)) (hp : pc + 1 = q) (hv : ((x.toUInt64 >>> (y &&& 0x3f).toInt64.toUInt64).toInt64) = v) (K : Go p e below s Q ce sl T (mkF m q ls (.long v :: st))) : Go p e below s Q ce sl T (mkF m pc ls (.int y :: .long x :: st)) := by
  subst hp
  exact K.to fun _ r => XS.lushr X.here hx rfl hd rfl (hv ▸ r)
theorem go_i2l (X : Stand p l e R s m args below meth c T locs cells slots) (hx : p.tables.exec = Jvm.exec) {x : Int32} {v : Int64} (hd : decode c.code pc = .ok (.i2l, 1)) (hp : pc + 1 = q) (hv : x.toInt64 = v) (K : Go p e below s Q ce sl T (mkF m q ls (.long v :: st))) : Go p e below s Q ce sl T (mkF m pc ls (.int x :: st)) := by
  subst hp
  exact K.to fun _ r => XS.i2l X.here hx rfl hd rfl (hv ▸ r)
theorem go_l2i (X : Stand p l e R s m args below meth c T locs cells slots) (hx : p.tables.exec = Jvm.exec) {x : Int64} {v : Int32} (hd : decode c.code pc = .ok (.l2i, 1)) (hp : pc + 1 = q) (hv : x.toInt32 = v) (K : Go p e below s Q ce sl T (mkF m q ls (.int v :: st))) : Go p e below s Q ce sl T (mkF m pc ls (.long x :: st)) := by
  subst hp
  exact K.to fun _ r => XS.l2i X.here hx rfl hd rfl (hv ▸ r)
theorem go_i2b (X : Stand p l e R s m args below meth c T locs cells slots) (hx : p.tables.exec = Jvm.exec) {x : Int32} {v : Int32} (hd : decode c.code pc = .ok (.i2b, 1)) (hp : pc + 1 = q) (hv : x.toInt8.toInt32 = v) (K : Go p e below s Q ce sl T (mkF m q ls (.int v :: st))) : Go p e below s Q ce sl T (mkF m pc ls (.int x :: st)) := by
  subst hp
  exact K.to fun _ r => XS.i2b X.here hx rfl hd rfl (hv ▸ r)
theorem go_i2s (X : Stand p l e R s m args below meth c T locs cells slots) (hx : p.tables.exec = Jvm.exec) {x : Int32} {v : Int32} (hd : decode c.code pc = .ok (.i2s, 1)) (hp : pc + 1 = q) (hv : x.toInt16.toInt32 = v) (K : Go p e below s Q ce sl T (mkF m q ls (.int v :: st))) : Go p e below s Q ce sl T (mkF m pc ls (.int x :: st)) := by
  subst hp
  exact K.to fun _ r => XS.i2s X.here hx rfl hd rfl (hv ▸ r)
theorem go_i2c (X : Stand p l e R s m args below meth c T locs cells slots) (hx : p.tables.exec = Jvm.exec) {x : Int32} {v : Int32} (hd : decode c.code pc = .ok (.i2c, 1)) (hp : pc + 1 = q) (hv : x.toUInt32.toUInt16.toUInt32.toInt32 = v) (K : Go p e below s Q ce sl T (mkF m q ls (.int v :: st))) : Go p e below s Q ce sl T (mkF m pc ls (.int x :: st)) := by
  subst hp
  exact K.to fun _ r => XS.i2c X.here hx rfl hd rfl (hv ▸ r)
theorem go_lcmp (X : Stand p l e R s m args below meth c T locs cells slots) (hx : p.tables.exec = Jvm.exec) {x y : Int64} (hd : decode c.code pc = .ok (.lcmp, 1)) (hp : pc + 1 = q)  (K : Go p e below s Q ce sl T (mkF m q ls (.int (lcmpW x y) :: st))) : Go p e below s Q ce sl T (mkF m pc ls (.long y :: .long x :: st)) := by
  subst hp
  exact K.to fun _ r => XS.lcmp X.here hx rfl hd rfl r
theorem go_i2d (X : Stand p l e R s m args below meth c T locs cells slots) (hx : p.tables.exec = Jvm.exec) {x : Int32} {v : UInt64} (hd : decode c.code pc = .ok (.i2d, 1)) (hp : pc + 1 = q) (hv : FP.i2d x = v) (K : Go p e below s Q ce sl T (mkF m q ls (.double v :: st))) : Go p e below s Q ce sl T (mkF m pc ls (.int x :: st)) := by
  subst hp
  exact K.to fun _ r => XS.i2dS X.here hx rfl hd rfl hv r
theorem go_l2d (X : Stand p l e R s m args below meth c T locs cells slots) (hx : p.tables.exec = Jvm.exec) {x : Int64} {v : UInt64} (hd : decode c.code pc = .ok (.l2d, 1)) (hp : pc + 1 = q) (hv : FP.l2d x = v) (K : Go p e below s Q ce sl T (mkF m q ls (.double v :: st))) : Go p e below s Q ce sl T (mkF m pc ls (.long x :: st)) := by
  subst hp
  exact K.to fun _ r => XS.l2dS X.here hx rfl hd rfl hv r
theorem go_d2l (X : Stand p l e R s m args below meth c T locs cells slots) (hx : p.tables.exec = Jvm.exec) {x : UInt64} {v : Int64} (hd : decode c.code pc = .ok (.d2l, 1)) (hp : pc + 1 = q) (hv : FP.d2l x = v) (K : Go p e below s Q ce sl T (mkF m q ls (.long v :: st))) : Go p e below s Q ce sl T (mkF m pc ls (.double x :: st)) := by
  subst hp
  exact K.to fun _ r => XS.d2lS X.here hx rfl hd rfl hv r
theorem go_i2f (X : Stand p l e R s m args below meth c T locs cells slots) (hx : p.tables.exec = Jvm.exec) {x : Int32} {v : UInt32} (hd : decode c.code pc = .ok (.i2f, 1)) (hp : pc + 1 = q) (hv : FP.i2f x = v) (K : Go p e below s Q ce sl T (mkF m q ls (.float v :: st))) : Go p e below s Q ce sl T (mkF m pc ls (.int x :: st)) := by
  subst hp
  exact K.to fun _ r => XS.i2fS X.here hx rfl hd rfl hv r
theorem go_f2d (X : Stand p l e R s m args below meth c T locs cells slots) (hx : p.tables.exec = Jvm.exec) {x : UInt32} {v : UInt64} (hd : decode c.code pc = .ok (.f2d, 1)) (hp : pc + 1 = q) (hn : Jvm.Free.Fl.NoNaN64 (FP.f2d x)) (hv : FP.f2d x = v) (K : Go p e below s Q ce sl T (mkF m q ls (.double v :: st))) : Go p e below s Q ce sl T (mkF m pc ls (.float x :: st)) := by
  subst hp
  exact K.to fun _ r => XS.f2dS X.here hx rfl hd rfl hn hv r
theorem go_dcmp (X : Stand p l e R s m args below meth c T locs cells slots) (hx : p.tables.exec = Jvm.exec) {o : CmpOp} {x y : UInt64} {v : Int32} (hd : decode c.code pc = .ok (.dcmp o, 1)) (hp : pc + 1 = q) (hv : cmpValue (FP.dcmp x y) o = v) (K : Go p e below s Q ce sl T (mkF m q ls (.int v :: st))) : Go p e below s Q ce sl T (mkF m pc ls (.double y :: .double x :: st)) := by
  subst hp
  exact K.to fun _ r => XS.dcmpS X.here hx rfl hd rfl hv r
theorem go_dadd (X : Stand p l e R s m args below meth c T locs cells slots) (hx : p.tables.exec = Jvm.exec) {x y v : UInt64} (hd : decode c.code pc = .ok (.dadd, 1)) (hp : pc + 1 = q) (hn : Jvm.Free.Fl.NoNaN64 (FP.dadd x y)) (hv : FP.dadd x y = v) (K : Go p e below s Q ce sl T (mkF m q ls (.double v :: st))) : Go p e below s Q ce sl T (mkF m pc ls (.double y :: .double x :: st)) := by
  subst hp
  exact K.to fun _ r => XS.daddS X.here hx rfl hd rfl hn hv r
theorem go_dsub (X : Stand p l e R s m args below meth c T locs cells slots) (hx : p.tables.exec = Jvm.exec) {x y v : UInt64} (hd : decode c.code pc = .ok (.dsub, 1)) (hp : pc + 1 = q) (hn : Jvm.Free.Fl.NoNaN64 (FP.dsub x y)) (hv : FP.dsub x y = v) (K : Go p e below s Q ce sl T (mkF m q ls (.double v :: st))) : Go p e below s Q ce sl T (mkF m pc ls (.double y :: .double x :: st)) := by
  subst hp
  exact K.to fun _ r => XS.dsubS X.here hx rfl hd rfl hn hv r
theorem go_dmul (X : Stand p l e R s m args below meth c T locs cells slots) (hx : p.tables.exec = Jvm.exec) {x y v : UInt64} (hd : decode c.code pc = .ok (.dmul, 1)) (hp : pc + 1 = q) (hn : Jvm.Free.Fl.NoNaN64 (FP.dmul x y)) (hv : FP.dmul x y = v) (K : Go p e below s Q ce sl T (mkF m q ls (.double v :: st))) : Go p e below s Q ce sl T (mkF m pc ls (.double y :: .double x :: st)) := by
  subst hp
  exact K.to fun _ r => XS.dmulS X.here hx rfl hd rfl hn hv r
theorem go_ddiv (X : Stand p l e R s m args below meth c T locs cells slots) (hx : p.tables.exec = Jvm.exec) {x y v : UInt64} (hd : decode c.code pc = .ok (.ddiv, 1)) (hp : pc + 1 = q) (hn : Jvm.Free.Fl.NoNaN64 (FP.ddiv x y)) (hv : FP.ddiv x y = v) (K : Go p e below s Q ce sl T (mkF m q ls (.double v :: st))) : Go p e below s Q ce sl T (mkF m pc ls (.double y :: .double x :: st)) := by
  subst hp
  exact K.to fun _ r => XS.ddivS X.here hx rfl hd rfl hn hv r
theorem go_dup (X : Stand p l e R s m args below meth c T locs cells slots) (hx : p.tables.exec = Jvm.exec) {v : Value} (hd : decode c.code pc = .ok (.dup, 1)) (hp : pc + 1 = q) (hv : v.category = 1) (K : Go p e below s Q ce sl T (mkF m q ls (v :: v :: st))) : Go p e below s Q ce sl T (mkF m pc ls (v :: st)) := by
  subst hp
  exact K.to fun _ r => XS.dup X.here hx rfl hd rfl hv r
theorem go_pop (X : Stand p l e R s m args below meth c T locs cells slots) (hx : p.tables.exec = Jvm.exec) {v : Value} (hd : decode c.code pc = .ok (.pop, 1)) (hp : pc + 1 = q) (hv : v.category = 1) (K : Go p e below s Q ce sl T (mkF m q ls st)) : Go p e below s Q ce sl T (mkF m pc ls (v :: st)) := by
  subst hp
  exact K.to fun _ r => XS.pop X.here hx rfl hd rfl hv r
theorem go_iinc (X : Stand p l e R s m args below meth c T locs cells slots) (hx : p.tables.exec = Jvm.exec) {k : Nat} {i : Int} {v : Int32} {l' : Array Slot} (hd : decode c.code pc = .ok (.iinc k i, 3)) (hp : pc + 3 = q) (hl : ls[k]? = some (.val (.int v))) (hs : storeLocals ls k (.int (v + Int32.ofInt i)) = some l') (K : Go p e below s Q ce sl T (mkF m q l' st)) : Go p e below s Q ce sl T (mkF m pc ls st) := by
  subst hp
  exact K.to fun _ r => XS.iinc X.here hx rfl hd hl hs r
theorem go_goto (X : Stand p l e R s m args below meth c T locs cells slots) (hx : p.tables.exec = Jvm.exec) {o : Int} (hd : decode c.code pc = .ok (.goto o, 3)) (ho : 0 ≤ (pc : Int) + o) (hq : ((pc : Int) + o).toNat = q) (K : Go p e below s Q ce sl T (mkF m q ls st)) : Go p e below s Q ce sl T (mkF m pc ls st) :=
  K.to fun _ r => XS.goto X.here hx rfl (pc0 := pc) rfl hd ho hq r
theorem go_icmp_lt (X : Stand p l e R s m args below meth c T locs cells slots) (hx : p.tables.exec = Jvm.exec) {x y : Int32} {o : Int} (hd : decode c.code pc = .ok (.if_icmp .lt o, 3)) (hp : pc + 3 = q) (ho : 0 ≤ (pc : Int) + o) (hq : ((pc : Int) + o).toNat = q') (KY : x < y → Go p e below s Q ce sl T (mkF m q' ls st)) (KN : ¬ x < y → Go p e below s Q ce sl T (mkF m q ls st)) : Go p e below s Q ce sl T (mkF m pc ls (.int y :: .int x :: st)) := by
  subst hp
  by_cases hc : x < y
  · exact (KY hc).to fun _ r => XS.icmpYes X.here hx rfl (pc0 := pc) rfl hd rfl (tlt hc).1 ho hq r
  · exact (KN hc).to fun _ r => XS.icmpNo X.here hx rfl hd rfl (flt hc).1 r
theorem go_if_lt (X : Stand p l e R s m args below meth c T locs cells slots) (hx : p.tables.exec = Jvm.exec) {x : Int32} {o : Int} (hd : decode c.code pc = .ok (.ifCond .lt o, 3)) (hp : pc + 3 = q) (ho : 0 ≤ (pc : Int) + o) (hq : ((pc : Int) + o).toNat = q') (KY : x < (0 : Int32) → Go p e below s Q ce sl T (mkF m q' ls st)) (KN : ¬ x < (0 : Int32) → Go p e below s Q ce sl T (mkF m q ls st)) : Go p e below s Q ce sl T (mkF m pc ls (.int x :: st)) := by
  subst hp
  by_cases hc : x < (0 : Int32)
  · exact (KY hc).to fun _ r => XS.ifYes X.here hx rfl (pc0 := pc) rfl hd rfl ((if0 _ _).trans (tlt hc).1) ho hq r
  · exact (KN hc).to fun _ r => XS.ifNo X.here hx rfl hd rfl ((if0 _ _).trans (flt hc).1) r
theorem go_lif_lt (X : Stand p l e R s m args below meth c T locs cells slots) (hx : p.tables.exec = Jvm.exec) {a b : Int64} {o : Int} (hd : decode c.code pc = .ok (.ifCond .lt o, 3)) (hp : pc + 3 = q) (ho : 0 ≤ (pc : Int) + o) (hq : ((pc : Int) + o).toNat = q') (KY : a < b → Go p e below s Q ce sl T (mkF m q' ls st)) (KN : ¬ a < b → Go p e below s Q ce sl T (mkF m q ls st)) : Go p e below s Q ce sl T (mkF m pc ls (.int (lcmpW a b) :: st)) :=
  go_if_lt X hx hd hp ho hq (fun w => KY ((lw_lt _ _).mp w)) (fun w => KN (fun z => w ((lw_lt _ _).mpr z)))
theorem go_icmp_ge (X : Stand p l e R s m args below meth c T locs cells slots) (hx : p.tables.exec = Jvm.exec) {x y : Int32} {o : Int} (hd : decode c.code pc = .ok (.if_icmp .ge o, 3)) (hp : pc + 3 = q) (ho : 0 ≤ (pc : Int) + o) (hq : ((pc : Int) + o).toNat = q') (KY : ¬ x < y → Go p e below s Q ce sl T (mkF m q' ls st)) (KN : x < y → Go p e below s Q ce sl T (mkF m q ls st)) : Go p e below s Q ce sl T (mkF m pc ls (.int y :: .int x :: st)) := by
  subst hp
  by_cases hc : x < y
  · exact (KN hc).to fun _ r => XS.icmpNo X.here hx rfl hd rfl (tlt hc).2.1 r
  · exact (KY hc).to fun _ r => XS.icmpYes X.here hx rfl (pc0 := pc) rfl hd rfl (flt hc).2.1 ho hq r
theorem go_if_ge (X : Stand p l e R s m args below meth c T locs cells slots) (hx : p.tables.exec = Jvm.exec) {x : Int32} {o : Int} (hd : decode c.code pc = .ok (.ifCond .ge o, 3)) (hp : pc + 3 = q) (ho : 0 ≤ (pc : Int) + o) (hq : ((pc : Int) + o).toNat = q') (KY : ¬ x < (0 : Int32) → Go p e below s Q ce sl T (mkF m q' ls st)) (KN : x < (0 : Int32) → Go p e below s Q ce sl T (mkF m q ls st)) : Go p e below s Q ce sl T (mkF m pc ls (.int x :: st)) := by
  subst hp
  by_cases hc : x < (0 : Int32)
  · exact (KN hc).to fun _ r => XS.ifNo X.here hx rfl hd rfl ((if0 _ _).trans (tlt hc).2.1) r
  · exact (KY hc).to fun _ r => XS.ifYes X.here hx rfl (pc0 := pc) rfl hd rfl ((if0 _ _).trans (flt hc).2.1) ho hq r
theorem go_lif_ge (X : Stand p l e R s m args below meth c T locs cells slots) (hx : p.tables.exec = Jvm.exec) {a b : Int64} {o : Int} (hd : decode c.code pc = .ok (.ifCond .ge o, 3)) (hp : pc + 3 = q) (ho : 0 ≤ (pc : Int) + o) (hq : ((pc : Int) + o).toNat = q') (KY : ¬ a < b → Go p e below s Q ce sl T (mkF m q' ls st)) (KN : a < b → Go p e below s Q ce sl T (mkF m q ls st)) : Go p e below s Q ce sl T (mkF m pc ls (.int (lcmpW a b) :: st)) :=
  go_if_ge X hx hd hp ho hq (fun w => KY (fun z => w ((lw_lt _ _).mpr z))) (fun w => KN ((lw_lt _ _).mp w))
theorem go_icmp_gt (X : Stand p l e R s m args below meth c T locs cells slots) (hx : p.tables.exec = Jvm.exec) {x y : Int32} {o : Int} (hd : decode c.code pc = .ok (.if_icmp .gt o, 3)) (hp : pc + 3 = q) (ho : 0 ≤ (pc : Int) + o) (hq : ((pc : Int) + o).toNat = q') (KY : y < x → Go p e below s Q ce sl T (mkF m q' ls st)) (KN : ¬ y < x → Go p e below s Q ce sl T (mkF m q ls st)) : Go p e below s Q ce sl T (mkF m pc ls (.int y :: .int x :: st)) := by
  subst hp
  by_cases hc : y < x
  · exact (KY hc).to fun _ r => XS.icmpYes X.here hx rfl (pc0 := pc) rfl hd rfl (tlt hc).2.2.1 ho hq r
  · exact (KN hc).to fun _ r => XS.icmpNo X.here hx rfl hd rfl (flt hc).2.2.1 r
theorem go_if_gt (X : Stand p l e R s m args below meth c T locs cells slots) (hx : p.tables.exec = Jvm.exec) {x : Int32} {o : Int} (hd : decode c.code pc = .ok (.ifCond .gt o, 3)) (hp : pc + 3 = q) (ho : 0 ≤ (pc : Int) + o) (hq : ((pc : Int) + o).toNat = q') (KY : (0 : Int32) < x → Go p e below s Q ce sl T (mkF m q' ls st)) (KN : ¬ (0 : Int32) < x → Go p e below s Q ce sl T (mkF m q ls st)) : Go p e below s Q ce sl T (mkF m pc ls (.int x :: st)) := by
  subst hp
  by_cases hc : (0 : Int32) < x
  · exact (KY hc).to fun _ r => XS.ifYes X.here hx rfl (pc0 := pc) rfl hd rfl ((if0 _ _).trans (tlt hc).2.2.1) ho hq r
  · exact (KN hc).to fun _ r => XS.ifNo X.here hx rfl hd rfl ((if0 _ _).trans (flt hc).2.2.1) r
theorem go_lif_gt (X : Stand p l e R s m args below meth c T locs cells slots) (hx : p.tables.exec = Jvm.exec) {a b : Int64} {o : Int} (hd : decode c.code pc = .ok (.ifCond .gt o, 3)) (hp : pc + 3 = q) (ho : 0 ≤ (pc : Int) + o) (hq : ((pc : Int) + o).toNat = q') (KY : b < a → Go p e below s Q ce sl T (mkF m q' ls st)) (KN : ¬ b < a → Go p e below s Q ce sl T (mkF m q ls st)) : Go p e below s Q ce sl T (mkF m pc ls (.int (lcmpW a b) :: st)) :=
  go_if_gt X hx hd hp ho hq (fun w => KY ((lw_gt _ _).mp w)) (fun w => KN (fun z => w ((lw_gt _ _).mpr z)))
theorem go_icmp_le (X : Stand p l e R s m args below meth c T locs cells slots) (hx : p.tables.exec = Jvm.exec) {x y : Int32} {o : Int} (hd : decode c.code pc = .ok (.if_icmp .le o, 3)) (hp : pc + 3 = q) (ho : 0 ≤ (pc : Int) + o) (hq : ((pc : Int) + o).toNat = q') (KY : ¬ y < x → Go p e below s Q ce sl T (mkF m q' ls st)) (KN : y < x → Go p e below s Q ce sl T (mkF m q ls st)) : Go p e below s Q ce sl T (mkF m pc ls (.int y :: .int x :: st)) := by
  subst hp
  by_cases hc : y < x
  · exact (KN hc).to fun _ r => XS.icmpNo X.here hx rfl hd rfl (tlt hc).2.2.2 r
  · exact (KY hc).to fun _ r => XS.icmpYes X.here hx rfl (pc0 := pc) rfl hd rfl (flt hc).2.2.2 ho hq r
theorem go_if_le (X : Stand p l e R s m args below meth c T locs cells slots) (hx : p.tables.exec = Jvm.exec) {x : Int32} {o : Int} (hd : decode c.code pc = .ok (.ifCond .le o, 3)) (hp : pc + 3 = q) (ho : 0 ≤ (pc : Int) + o) (hq : ((pc : Int) + o).toNat = q') (KY : ¬ (0 : Int32) < x → Go p e below s Q ce sl T (mkF m q' ls st)) (KN : (0 : Int32) < x → Go p e below s Q ce sl T (mkF m q ls st)) : Go p e below s Q ce sl T (mkF m pc ls (.int x :: st)) := by
  subst hp
  by_cases hc : (0 : Int32) < x
  · exact (KN hc).to fun _ r => XS.ifNo X.here hx rfl hd rfl ((if0 _ _).trans (tlt hc).2.2.2) r
  · exact (KY hc).to fun _ r => XS.ifYes X.here hx rfl (pc0 := pc) rfl hd rfl ((if0 _ _).trans (flt hc).2.2.2) ho hq r
theorem go_lif_le (X : Stand p l e R s m args below meth c T locs cells slots) (hx : p.tables.exec = Jvm.exec) {a b : Int64} {o : Int} (hd : decode c.code pc = .ok (.ifCond .le o, 3)) (hp : pc + 3 = q) (ho : 0 ≤ (pc : Int) + o) (hq : ((pc : Int) + o).toNat = q') (KY : ¬ b < a → Go p e below s Q ce sl T (mkF m q' ls st)) (KN : b < a → Go p e below s Q ce sl T (mkF m q ls st)) : Go p e below s Q ce sl T (mkF m pc ls (.int (lcmpW a b) :: st)) :=
  go_if_le X hx hd hp ho hq (fun w => KY (fun z => w ((lw_gt _ _).mpr z))) (fun w => KN ((lw_gt _ _).mp w))
theorem go_icmp_eq (X : Stand p l e R s m args below meth c T locs cells slots) (hx : p.tables.exec = Jvm.exec) {x y : Int32} {o : Int} (hd : decode c.code pc = .ok (.if_icmp .eq o, 3)) (hp : pc + 3 = q) (ho : 0 ≤ (pc : Int) + o) (hq : ((pc : Int) + o).toNat = q') (KY : x = y → Go p e below s Q ce sl T (mkF m q' ls st)) (KN : ¬ x = y → Go p e below s Q ce sl T (mkF m q ls st)) : Go p e below s Q ce sl T (mkF m pc ls (.int y :: .int x :: st)) := by
  subst hp
  by_cases hc : x = y
  · exact (KY hc).to fun _ r => XS.icmpYes X.here hx rfl (pc0 := pc) rfl hd rfl (teq hc).1 ho hq r
  · exact (KN hc).to fun _ r => XS.icmpNo X.here hx rfl hd rfl (feq hc).1 r
theorem go_if_eq (X : Stand p l e R s m args below meth c T locs cells slots) (hx : p.tables.exec = Jvm.exec) {x : Int32} {o : Int} (hd : decode c.code pc = .ok (.ifCond .eq o, 3)) (hp : pc + 3 = q) (ho : 0 ≤ (pc : Int) + o) (hq : ((pc : Int) + o).toNat = q') (KY : x = (0 : Int32) → Go p e below s Q ce sl T (mkF m q' ls st)) (KN : ¬ x = (0 : Int32) → Go p e below s Q ce sl T (mkF m q ls st)) : Go p e below s Q ce sl T (mkF m pc ls (.int x :: st)) := by
  subst hp
  by_cases hc : x = (0 : Int32)
  · exact (KY hc).to fun _ r => XS.ifYes X.here hx rfl (pc0 := pc) rfl hd rfl ((if0 _ _).trans (teq hc).1) ho hq r
  · exact (KN hc).to fun _ r => XS.ifNo X.here hx rfl hd rfl ((if0 _ _).trans (feq hc).1) r
theorem go_lif_eq (X : Stand p l e R s m args below meth c T locs cells slots) (hx : p.tables.exec = Jvm.exec) {a b : Int64} {o : Int} (hd : decode c.code pc = .ok (.ifCond .eq o, 3)) (hp : pc + 3 = q) (ho : 0 ≤ (pc : Int) + o) (hq : ((pc : Int) + o).toNat = q') (KY : a = b → Go p e below s Q ce sl T (mkF m q' ls st)) (KN : ¬ a = b → Go p e below s Q ce sl T (mkF m q ls st)) : Go p e below s Q ce sl T (mkF m pc ls (.int (lcmpW a b) :: st)) :=
  go_if_eq X hx hd hp ho hq (fun w => KY ((lw_eq _ _).mp w)) (fun w => KN (fun z => w ((lw_eq _ _).mpr z)))
theorem go_icmp_ne (X : Stand p l e R s m args below meth c T locs cells slots) (hx : p.tables.exec = Jvm.exec) {x y : Int32} {o : Int} (hd : decode c.code pc = .ok (.if_icmp .ne o, 3)) (hp : pc + 3 = q) (ho : 0 ≤ (pc : Int) + o) (hq : ((pc : Int) + o).toNat = q') (KY : ¬ x = y → Go p e below s Q ce sl T (mkF m q' ls st)) (KN : x = y → Go p e below s Q ce sl T (mkF m q ls st)) : Go p e below s Q ce sl T (mkF m pc ls (.int y :: .int x :: st)) := by
  subst hp
  by_cases hc : x = y
  · exact (KN hc).to fun _ r => XS.icmpNo X.here hx rfl hd rfl (teq hc).2 r
  · exact (KY hc).to fun _ r => XS.icmpYes X.here hx rfl (pc0 := pc) rfl hd rfl (feq hc).2 ho hq r
theorem go_if_ne (X : Stand p l e R s m args below meth c T locs cells slots) (hx : p.tables.exec = Jvm.exec) {x : Int32} {o : Int} (hd : decode c.code pc = .ok (.ifCond .ne o, 3)) (hp : pc + 3 = q) (ho : 0 ≤ (pc : Int) + o) (hq : ((pc : Int) + o).toNat = q') (KY : ¬ x = (0 : Int32) → Go p e below s Q ce sl T (mkF m q' ls st)) (KN : x = (0 : Int32) → Go p e below s Q ce sl T (mkF m q ls st)) : Go p e below s Q ce sl T (mkF m pc ls (.int x :: st)) := by
  subst hp
  by_cases hc : x = (0 : Int32)
  · exact (KN hc).to fun _ r => XS.ifNo X.here hx rfl hd rfl ((if0 _ _).trans (teq hc).2) r
  · exact (KY hc).to fun _ r => XS.ifYes X.here hx rfl (pc0 := pc) rfl hd rfl ((if0 _ _).trans (feq hc).2) ho hq r
theorem go_lif_ne (X : Stand p l e R s m args below meth c T locs cells slots) (hx : p.tables.exec = Jvm.exec) {a b : Int64} {o : Int} (hd : decode c.code pc = .ok (.ifCond .ne o, 3)) (hp : pc + 3 = q) (ho : 0 ≤ (pc : Int) + o) (hq : ((pc : Int) + o).toNat = q') (KY : ¬ a = b → Go p e below s Q ce sl T (mkF m q' ls st)) (KN : a = b → Go p e below s Q ce sl T (mkF m q ls st)) : Go p e below s Q ce sl T (mkF m pc ls (.int (lcmpW a b) :: st)) :=
  go_if_ne X hx hd hp ho hq (fun w => KY (fun z => w ((lw_eq _ _).mpr z))) (fun w => KN ((lw_eq _ _).mp w))
theorem go_ret (X : Stand p l e R s m args below meth c T locs cells slots) (hx : p.tables.exec = Jvm.exec) {w : Value} {t : FieldType} {i : Instr} (hret : meth.sig.returnType = some t) (hlk : meth.locks = false) (hn : narrow t w = w)
    (hi : (i = .ireturn ∧ (t = .int ∨ t = .boolean ∨ t = .byte ∨ t = .char ∨ t = .short) ∧ ∃ z, w = .int z) ∨ (i = .lreturn ∧ t = .long ∧ ∃ z, w = .long z) ∨ (i = .dreturn ∧ t = .double ∧ ∃ z, w = .double z) ∨ (i = .freturn ∧ t = .float ∧ ∃ z, w = .float z) ∨ (i = .areturn ∧ t.isReference = true ∧ w.isRef = true))
    (hd : decode c.code pc = .ok (i, 1)) (hc : cells ≤ ce) (hs : slots ≤ sl) (hQ : Q (some w) T.heap locs) : Go p e below s Q ce sl T (mkF m pc ls (w :: st)) := by
  obtain ⟨fs, hr, hrun, hended, hW, hsame⟩ := X.leave (v := some w) (fun h => by rw [hret] at h; cases h) hlk
  exact ⟨_, _, retOut X hx hret hn hi hd hr, hrun, hended, _, _, rfl, hQ, ⟨_, rfl⟩, hW, hsame.mono hc hs⟩
theorem go_retD (X : Stand p l e R s m args below meth c T locs cells slots) (hx : p.tables.exec = Jvm.exec) {v : UInt64} (hret : meth.sig.returnType = some .double) (hlk : meth.locks = false) (hd : decode c.code pc = .ok (.dreturn, 1)) (hc : cells ≤ ce) (hs : slots ≤ sl) (hQ : Q (some (.double v)) T.heap locs) : Go p e below s Q ce sl T (mkF m pc ls (.double v :: st)) :=
  go_ret X hx hret hlk rfl (Or.inr (Or.inr (Or.inl ⟨rfl, rfl, v, rfl⟩))) hd hc hs hQ
theorem go_retJ (X : Stand p l e R s m args below meth c T locs cells slots) (hx : p.tables.exec = Jvm.exec) {v : Int64} (hret : meth.sig.returnType = some .long) (hlk : meth.locks = false) (hd : decode c.code pc = .ok (.lreturn, 1)) (hc : cells ≤ ce) (hs : slots ≤ sl) (hQ : Q (some (.long v)) T.heap locs) : Go p e below s Q ce sl T (mkF m pc ls (.long v :: st)) :=
  go_ret X hx hret hlk rfl (Or.inr (Or.inl ⟨rfl, rfl, v, rfl⟩)) hd hc hs hQ
theorem go_retI (X : Stand p l e R s m args below meth c T locs cells slots) (hx : p.tables.exec = Jvm.exec) {v : Int32} (hret : meth.sig.returnType = some .int) (hlk : meth.locks = false) (hd : decode c.code pc = .ok (.ireturn, 1)) (hc : cells ≤ ce) (hs : slots ≤ sl) (hQ : Q (some (.int v)) T.heap locs) : Go p e below s Q ce sl T (mkF m pc ls (.int v :: st)) :=
  go_ret X hx hret hlk rfl (Or.inl ⟨rfl, Or.inl rfl, v, rfl⟩) hd hc hs hQ
theorem go_retA (X : Stand p l e R s m args below meth c T locs cells slots) (hx : p.tables.exec = Jvm.exec) {v : Value} {t : FieldType} (hret : meth.sig.returnType = some t) (hlk : meth.locks = false) (ht : t.isReference = true) (hv : v.isRef = true) (hn : narrow t v = v) (hd : decode c.code pc = .ok (.areturn, 1)) (hc : cells ≤ ce) (hs : slots ≤ sl) (hQ : Q (some v) T.heap locs) : Go p e below s Q ce sl T (mkF m pc ls (v :: st)) :=
  go_ret X hx hret hlk hn (Or.inr (Or.inr (Or.inr (Or.inr ⟨rfl, ht, hv⟩)))) hd hc hs hQ
theorem go_retN (X : Stand p l e R s m args below meth c T locs cells slots) (hx : p.tables.exec = Jvm.exec) {z : Int32} {t : FieldType} (ht : t = .boolean ∨ t = .byte ∨ t = .char ∨ t = .short) (hret : meth.sig.returnType = some t) (hlk : meth.locks = false) (hd : decode c.code pc = .ok (.ireturn, 1)) (hc : cells ≤ ce) (hs : slots ≤ sl) (hQ : Q (some (.int (nar t z))) T.heap locs) : Go p e below s Q ce sl T (mkF m pc ls (.int z :: st)) := by
  obtain ⟨fs, hr, hrun, hended, hW, hsame⟩ := X.leave (v := some (.int (nar t z))) (fun h => by rw [hret] at h; cases h) hlk
  exact ⟨_, _, retN X hx hret ht hd hr, hrun, hended, _, _, rfl, hQ, ⟨_, rfl⟩, hW, hsame.mono hc hs⟩
theorem go_retV (X : Stand p l e R s m args below meth c T locs cells slots) (hx : p.tables.exec = Jvm.exec) (hret : meth.sig.returnType = none) (hlk : meth.locks = false) (hd : decode c.code pc = .ok (.return_, 1)) (hc : cells ≤ ce) (hs : slots ≤ sl) (hQ : Q none T.heap locs) : Go p e below s Q ce sl T (mkF m pc ls []) := by
  obtain ⟨fs, hr, hrun, hended, hW, hsame⟩ := X.leave (v := none) (fun _ => rfl) hlk
  exact ⟨_, _, X.returnOut hx hret hd hr, hrun, hended, _, _, rfl, hQ, ⟨_, rfl⟩, hW, hsame.mono hc hs⟩
theorem go_ldcI (X : Stand p l e R s m args below meth c T locs cells slots) (hx : p.tables.exec = Jvm.exec) (hZ : Z.Warmed39 s.vm) {own : String} {index : Nat} {v : Int32} (hown : s.vm.findClass own = some m.cls) (w : (Jvm.Cond.constant own index v).before a0 Z = true) (hd : decode c.code pc = .ok (.ldc index, 2)) (hp : pc + 2 = q) (K : Go p e below s Q ce sl T (mkF m q ls (.int v :: st))) : Go p e below s Q ce sl T (mkF m pc ls st) := by
  subst hp
  exact K.to fun t r => X.ldcInt hx hown (mvT hZ w) (g := mkF m pc ls st) rfl hd t r
theorem go_ldc2J (X : Stand p l e R s m args below meth c T locs cells slots) (hx : p.tables.exec = Jvm.exec) (hZ : Z.Warmed39 s.vm) {own : String} {index : Nat} {v : Int64} (hown : s.vm.findClass own = some m.cls) (w : (Jvm.Cond.constantLong own index v).before a0 Z = true) (hd : decode c.code pc = .ok (.ldc2_w index, 3)) (hp : pc + 3 = q) (K : Go p e below s Q ce sl T (mkF m q ls (.long v :: st))) : Go p e below s Q ce sl T (mkF m pc ls st) := by
  subst hp
  exact K.to fun t r => X.ldc2Long hx hown (mvT hZ w) (g := mkF m pc ls st) rfl hd t r
theorem go_ldc2D (X : Stand p l e R s m args below meth c T locs cells slots) (hx : p.tables.exec = Jvm.exec) (hZ : Z.Warmed39 s.vm) {own : String} {index : Nat} {v : UInt64} (hown : s.vm.findClass own = some m.cls) (w : (Jvm.Cond.constantDouble own index v).before a0 Z = true) (hd : decode c.code pc = .ok (.ldc2_w index, 3)) (hp : pc + 3 = q) (K : Go p e below s Q ce sl T (mkF m q ls (.double v :: st))) : Go p e below s Q ce sl T (mkF m pc ls st) := by
  subst hp
  exact K.to fun t r => X.ldc2DoubleC hx hown (mvT hZ w) (g := mkF m pc ls st) rfl hd t r
theorem go_callS (X : Stand p l e R s m args below meth c T locs cells slots) (hx : p.tables.exec = Jvm.exec) (hZ : Z.Warmed39 s.vm) {own : String} {index : Nat} {y : MethodName} {bytes : ByteArray} {maxL : Nat} {ret : Option FieldType} {rm : Room} {W : Nat} {Qc : Option Value → Heap → List Loc → Prop} (hown : s.vm.findClass own = some m.cls) (eT : T.heap = h)
    (w1 : (Jvm.Cond.methodLink own index y).before a0 Z = true) (w2 : (Jvm.Cond.static y).before a0 Z = true) (w3 : (Jvm.Cond.initialized y.cls).before a0 Z = true) (w4 : (Jvm.Cond.code y bytes maxL ret).before a0 Z = true) (hy : y.cls ≠ "java/lang/invoke/MethodHandle" ∧ y.cls ≠ "java/lang/invoke/VarHandle")
    (argsL rest : List Value) (hM : Con l y bytes maxL ret [] rm Z argsL.toArray h Qc) (hsz : ls.size = c.maxLocals) (hst : st = argsL.reverse ++ rest) (hlen : ∀ sig, parseMethodDescriptor y.desc = some sig → argsL.length = sig.parameters.length) (hW : (rest.map fun v => v.category).sum ≤ W)
    (hf : rm.frames + 1 ≤ R.frames) (hl : W + (maxL + 11) + rm.locals ≤ R.locals) (hd : decode c.code pc = .ok (.invokestatic index, 3)) (hp : pc + 3 = q) (hc : cells + rm.cells ≤ R.cells) (hs : slots + rm.slots ≤ R.slots)
    (K : ∀ (T' : State) (L : List Loc) (v : Option Value), Stand p l e R s m args below meth c T' (locs ++ L) (cells + rm.cells) (slots + rm.slots) → Qc v T'.heap L → Go p e below s Q ce sl T' (mkF m q ls (v.toList ++ rest))) : Go p e below s Q ce sl T (mkF m pc ls st) := by
  subst hp
  obtain ⟨v, _, ⟨T', L', k', n'⟩, -, X', ⟨Lc, hQ, l1, y1, z1⟩, stp⟩ := Jvm.LawKit.callS X hx (y := y) hown (mvT hZ w1) (mvT hZ w2) (mvT hZ w3) (mvT hZ w4) hy (backOf (W := W) hM hZ w4 w3 hf hl) (g := mkF m pc ls st) rfl hsz (argsL := argsL) (rest := rest) hlen hst (by show 2 * 0 + _ ≤ _; omega) hd (fun _ _ => ⟨rfl, eT, hc, hs⟩)
  dsimp only [Pt.U, Pt.locs, Pt.cells, Pt.slots] at X' l1 y1 z1 stp hQ
  subst l1 y1 z1
  exact (K T' Lc v X' hQ).to fun t r => stp t r
theorem go_callI (X : Stand p l e R s m args below meth c T locs cells slots) (hx : p.tables.exec = Jvm.exec) (hZ : Z.Warmed39 s.vm) {own : String} {index : Nat} {y : MethodName} {bytes : ByteArray} {maxL : Nat} {rm : Room} {W : Nat} {Qc : Option Value → Heap → List Loc → Prop} (hown : s.vm.findClass own = some m.cls) (eT : T.heap = h) (hy1 : y.name = "<init>")
    (w1 : (Jvm.Cond.methodLink own index y).before a0 Z = true) (w2 : (Jvm.Cond.instanceMethod y).before a0 Z = true) (w3 : (Jvm.Cond.initialized y.cls).before a0 Z = true) (w4 : (Jvm.Cond.code y bytes maxL none).before a0 Z = true) (hy : y.cls ≠ "java/lang/invoke/MethodHandle" ∧ y.cls ≠ "java/lang/invoke/VarHandle")
    (a : Addr) (argsL rest : List Value) (hM : Con l y bytes maxL none [] rm Z (.ref a :: argsL).toArray h Qc) (hsz : ls.size = c.maxLocals) (hst : st = argsL.reverse ++ .ref a :: rest) (hlen : ∀ sig, parseMethodDescriptor y.desc = some sig → argsL.length = sig.parameters.length) (hW : (rest.map fun v => v.category).sum ≤ W)
    (hf : rm.frames + 1 ≤ R.frames) (hl : W + (maxL + 11) + rm.locals ≤ R.locals) (hd : decode c.code pc = .ok (.invokespecial index, 3)) (hp : pc + 3 = q) (hc : cells + rm.cells ≤ R.cells) (hs : slots + rm.slots ≤ R.slots)
    (K : ∀ (T' : State) (L : List Loc) (v : Option Value), Stand p l e R s m args below meth c T' (locs ++ L) (cells + rm.cells) (slots + rm.slots) → Qc v T'.heap L → Go p e below s Q ce sl T' (mkF m q ls (v.toList ++ rest))) : Go p e below s Q ce sl T (mkF m pc ls st) := by
  subst hp
  obtain ⟨v, _, ⟨T', L', k', n'⟩, -, X', ⟨Lc, hQ, l1, y1, z1⟩, stp⟩ := X.specialBack hx (y := y) hy1 hown (mvT hZ w1) (mvT hZ w2) (mvT hZ w4) hy (backOf (W := W) hM hZ w4 w3 hf hl) (g := mkF m pc ls st) rfl hsz (Steps.refl _) (a := a) (argsL := argsL) (rest := rest) hlen hst (by show 2 * 0 + _ ≤ _; omega) hd (fun _ _ => ⟨rfl, eT, hc, hs⟩)
  dsimp only [Pt.U, Pt.locs, Pt.cells, Pt.slots] at X' l1 y1 z1 stp hQ
  subst l1 y1 z1
  exact (K T' Lc v X' hQ).to fun t r => stp.trans r
theorem go_callV (X : Stand p l e R s m args below meth c T locs cells slots) (hx : p.tables.exec = Jvm.exec) (hZ : Z.Warmed39 s.vm) {own C : String} {index : Nat} {y : MethodName} {bytes : ByteArray} {maxL : Nat} {ret : Option FieldType} {rm : Room} {W : Nat} {Qc : Option Value → Heap → List Loc → Prop} {z : MethodName} (hown : s.vm.findClass own = some m.cls) (eT : T.heap = h)
    (w1 : (Jvm.Cond.methodLink own index y).before a0 Z = true) (w2 : (Jvm.Cond.declares y).before a0 Z = true) (hnf : NotFace s y) (w3 : (Jvm.Cond.selects C y z).before a0 Z = true) (w5 : (Jvm.Cond.instanceMethod z).before a0 Z = true) (w6 : (Jvm.Cond.initialized z.cls).before a0 Z = true) (w4 : (Jvm.Cond.code z bytes maxL ret).before a0 Z = true) (hy : y.cls ≠ "java/lang/invoke/MethodHandle" ∧ y.cls ≠ "java/lang/invoke/VarHandle")
    (a : Addr) (argsL rest : List Value) (E : Exa Z h a C) (hM : Con l z bytes maxL ret [] rm Z (.ref a :: argsL).toArray h Qc) (hsz : ls.size = c.maxLocals) (hst : st = argsL.reverse ++ .ref a :: rest) (hlen : ∀ sig, parseMethodDescriptor y.desc = some sig → argsL.length = sig.parameters.length) (hW : (rest.map fun v => v.category).sum ≤ W)
    (hf : rm.frames + 1 ≤ R.frames) (hl : W + (maxL + 11) + rm.locals ≤ R.locals) (hd : decode c.code pc = .ok (.invokevirtual index, 3)) (hp : pc + 3 = q) (hc : cells + rm.cells ≤ R.cells) (hs : slots + rm.slots ≤ R.slots)
    (K : ∀ (T' : State) (L : List Loc) (v : Option Value), Stand p l e R s m args below meth c T' (locs ++ L) (cells + rm.cells) (slots + rm.slots) → Qc v T'.heap L → Go p e below s Q ce sl T' (mkF m q ls (v.toList ++ rest))) : Go p e below s Q ce sl T (mkF m pc ls st) := by
  subst hp
  obtain ⟨cq, kq, qa, qb, qc⟩ := isOf hZ eT E
  obtain ⟨v, _, ⟨T', L', k', n'⟩, -, X', ⟨Lc, hQ, l1, y1, z1⟩, stp⟩ := X.virtualBack hx (y := y) (z := z) hown (mvT hZ w1) (mvT hZ w2) hnf (mvT hZ w3) (mvT hZ w5) hy (backOf (W := W) hM hZ w4 w6 hf hl) qa qc (g := mkF m pc ls st) rfl hsz (Steps.refl _) (argsL := argsL) (rest := rest) hlen hst (by show 2 * 0 + _ ≤ _; omega) hd (fun _ _ => ⟨rfl, eT, hc, hs⟩)
  dsimp only [Pt.U, Pt.locs, Pt.cells, Pt.slots] at X' l1 y1 z1 stp hQ
  subst l1 y1 z1
  exact (K T' Lc v X' hQ).to fun t r => stp.trans r
end OwnWalk

section OwnHeap
variable {p : Program} {l : Launch} {e : Env} {R : Room} {s : State} {m : MethodId} {args : Array Value} {below : List Frame} {meth : Method} {c : Code} {T : State} {locs : List Loc} {cells slots : Nat} {Z : State} {h : Heap} {Q : Option Value → Heap → List Loc → Prop} {ce sl : Nat} {pc q q' : Nat} {ls : Array Slot} {st : List Value} {a0 : Array Value} {n0 : Nat} {a : Addr}
theorem go_getS (X : Stand p l e R s m args below meth c T locs cells slots) (hx : p.tables.exec = Jvm.exec) (hZ : Z.Warmed39 s.vm) {own R0 O n d host : String} {index : Nat} (hown : s.vm.findClass own = some m.cls) (w : (Jvm.Cond.fieldLink own index R0 n d).before a0 Z = true ∨ (Jvm.Cond.fieldLinkNest own index R0 n d host).before a0 Z = true) (via : Via Z R0 O n d) (eT : T.heap = h) {v : Value} (F : Sta Z h O n d v) (hd : decode c.code pc = .ok (.getstatic index, 3)) (hp : pc + 3 = q) (K : ∀ T', Stand p l e R s m args below meth c T' locs cells slots → T'.heap = h → Go p e below s Q ce sl T' (mkF m q ls (v :: st))) : Go p e below s Q ce sl T (mkF m pc ls st) := by
  subst hp
  obtain ⟨T', X', e', st'⟩ := getS2 X hx hZ hown w via eT F (g := mkF m pc ls st) rfl hd
  exact (K T' X' e').to fun t r => st' t r
theorem go_getF (X : Stand p l e R s m args below meth c T locs cells slots) (hx : p.tables.exec = Jvm.exec) (hZ : Z.Warmed39 s.vm) {own R0 O n d host : String} {index : Nat} (hown : s.vm.findClass own = some m.cls) (w : (Jvm.Cond.fieldLink own index R0 n d).before a0 Z = true ∨ (Jvm.Cond.fieldLinkNest own index R0 n d host).before a0 Z = true) (via : Via Z R0 O n d) (eT : T.heap = h) {v : Value} (F : Fld Z h a O n d v) (hd : decode c.code pc = .ok (.getfield index, 3)) (hp : pc + 3 = q) (K : ∀ T', Stand p l e R s m args below meth c T' locs cells slots → T'.heap = h → Go p e below s Q ce sl T' (mkF m q ls (v :: st))) : Go p e below s Q ce sl T (mkF m pc ls (.ref a :: st)) := by
  subst hp
  obtain ⟨T', X', e', st'⟩ := getF X hx hZ hown w via eT F (g := mkF m pc ls (.ref a :: st)) rfl rfl hd
  exact (K T' X' e').to fun t r => st' t r
theorem go_putF (X : Stand p l e R s m args below meth c T locs cells slots) (hx : p.tables.exec = Jvm.exec) (hZ : Z.Warmed39 s.vm) {own R0 O n d host : String} {index : Nat} (hown : s.vm.findClass own = some m.cls) (w : (Jvm.Cond.fieldLink own index R0 n d).before a0 Z = true ∨ (Jvm.Cond.fieldLinkNest own index R0 n d host).before a0 Z = true) (via : Via Z R0 O n d) (eT : T.heap = h) {C : String} {kk : Nat} {ty : FieldType} {v old : Value} (F : Fld Z h a O n d old) (E : Exa Z h a C) (L : (Jvm.Cond.lays C O n d).before a0 Z = true ∨ ((Jvm.Cond.laysFinal C O n d).before a0 Z = true ∧ own = O ∧ meth.name = "<init>")) (wi : (Jvm.Cond.instantiable C kk).before a0 Z = true) (hty : parseFieldDescriptor d = some ty) (hn : narrow ty v = v) (hf : fits ty v = true) (N : Fr n0 locs) (ha : n0 ≤ a) (hd : decode c.code pc = .ok (.putfield index, 3)) (hp : pc + 3 = q)
    (K : ∀ T' h' locs', Stand p l e R s m args below meth c T' locs' cells slots → Fr n0 locs' → T'.heap = h' → Wr h h' a (Jvm.RoadKit.slotOf Z O n d) v → Go p e below s Q ce sl T' (mkF m q ls st)) : Go p e below s Q ce sl T (mkF m pc ls (v :: .ref a :: st)) := by
  subst hp
  obtain ⟨T', h', X', e', W', st'⟩ := putF X hx hZ hown w via eT F E L wi hty hn hf (g := mkF m pc ls (v :: .ref a :: st)) rfl rfl hd
  exact (K T' h' _ X' (Fr.snoc X' N ha) e' W').to fun t r => st' t r
theorem go_newO (X : Stand p l e R s m args below meth c T locs cells slots) (hx : p.tables.exec = Jvm.exec) (hZ : Z.Warmed39 s.vm) {own C : String} {index n : Nat} (hown : s.vm.findClass own = some m.cls) (w : (Jvm.Cond.classLink own index C).before a0 Z = true) (wi : (Jvm.Cond.instantiable C n).before a0 Z = true) (wz : (Jvm.Cond.initialized C).before a0 Z = true) (eT : T.heap = h) (hd : decode c.code pc = .ok (.new index, 3)) (hp : pc + 3 = q) (hc : cells + 1 ≤ R.cells) (hl : slots + n ≤ R.slots)
    (K : ∀ T' h' b, b = h.size → Stand p l e R s m args below meth c T' locs (cells + 1) (slots + n) → T'.heap = h' → Ext h h' → Exa Z h' b C → (∀ {O nm d : String} {ty : FieldType}, Laid Z a0 C O nm d → parseFieldDescriptor d = some ty → Fld Z h' b O nm d (defaultValue ty)) → Go p e below s Q ce sl T' (mkF m q ls (.ref b :: st))) : Go p e below s Q ce sl T (mkF m pc ls st) := by
  subst hp
  obtain ⟨T', h', X', e', E', A', D', -, st'⟩ := newO X hx hZ hown w wi wz eT (g := mkF m pc ls st) rfl hd hc hl
  exact (K T' h' _ rfl X' e' E' A' D').to fun t r => st' t r
theorem go_newP (X : Stand p l e R s m args below meth c T locs cells slots) (hx : p.tables.exec = Jvm.exec) (hZ : Z.Warmed39 s.vm) {aty : ArrayType} (w : (Jvm.Cond.arrayClass (newarray.typeOf aty)).before a0 Z = true) (eT : T.heap = h) (hd : decode c.code pc = .ok (.newarray aty, 2)) (hp : pc + 2 = q) {n : Int32} (hn : ¬ n < 0) (cap : Nat) (hcap : n.toNatClampNeg ≤ cap) (hb : cap * 8 ≤ 536870912) (hc : cells + 1 ≤ R.cells) (hl : slots + cap ≤ R.slots)
    (K : ∀ T' h' kc b, b = h.size → Stand p l e R s m args below meth c T' locs (cells + 1) (slots + cap) → T'.heap = h' → Ext h h' → Arv Z h' b kc (newarray.typeOf aty) n [] (defaultValue (newarray.typeOf aty)) → Go p e below s Q ce sl T' (mkF m q ls (.ref b :: st))) : Go p e below s Q ce sl T (mkF m pc ls (.int n :: st)) := by
  subst hp
  obtain ⟨T', h', kc, X', e', E', A', st'⟩ := newP X hx hZ w eT (g := mkF m pc ls (.int n :: st)) rfl hd rfl hn (cap := cap) hcap hb hc hl
  exact (K T' h' kc _ rfl X' e' E' (Arv.new A' hn)).to fun t r => st' t r
theorem go_initO (X : Stand p l e R s m args below meth c T locs cells slots) (hx : p.tables.exec = Jvm.exec) (hZ : Z.Warmed39 s.vm) {own : String} {index W : Nat} (hown : s.vm.findClass own = some m.cls) (w1 : (Jvm.Cond.methodLink own index Lib.objectInit).before a0 Z = true) (w2 : (Jvm.Cond.instanceMethod Lib.objectInit).before a0 Z = true) (w3 : (Jvm.Cond.code Lib.objectInit ⟨#[0xb1]⟩ 1 none).before a0 Z = true) (eT : T.heap = h) (hsz : ls.size = c.maxLocals) (hd : decode c.code pc = .ok (.invokespecial index, 3)) (hp : pc + 3 = q) (hf : 1 ≤ R.frames) (hW : (st.map fun v => v.category).sum ≤ W) (hl : W + 12 ≤ R.locals) (K : ∀ T', Stand p l e R s m args below meth c T' locs cells slots → T'.heap = h → Go p e below s Q ce sl T' (mkF m q ls st)) : Go p e below s Q ce sl T (mkF m pc ls (.ref a :: st)) := by
  subst hp
  obtain ⟨T', X', e', st'⟩ := initO X hx hZ hown w1 w2 w3 eT (g := mkF m pc ls (.ref a :: st)) rfl hsz rfl hd hf (W := W) (by show 2 * 0 + _ ≤ _; omega) hl
  exact (K T' X' e').to fun t r => st' t r
theorem go_iaload (X : Stand p l e R s m args below meth c T locs cells slots) (hx : p.tables.exec = Jvm.exec) (hZ : Z.Warmed39 s.vm) (eT : T.heap = h) {k : ClassId} {z j : Int32} {vs : List Value} {dv : Value} {v : Value} (F : Arv Z h a k .int z vs dv) (hj : ¬ j < 0 ∧ j < z) (hv : vs.getD j.toNatClampNeg dv = v) (hd : decode c.code pc = .ok (.iaload, 1)) (hp : pc + 1 = q) (K : Go p e below s Q ce sl T (mkF m q ls (v :: st))) : Go p e below s Q ce sl T (mkF m pc ls (.int j :: .ref a :: st)) := by
  subst hp
  obtain ⟨cl, A, -, S, -, H, -⟩ := F
  exact K.to fun t r => X.iaload hx (by rw [eT]; exact A.1) (State.isArrayOf_alike hZ.alike A.2.1) A.2.2 (inb_of S hj) (H.at (inb_of S hj) hv) (g := mkF m pc ls (.int j :: .ref a :: st)) rfl rfl hd t r
theorem go_daload (X : Stand p l e R s m args below meth c T locs cells slots) (hx : p.tables.exec = Jvm.exec) (hZ : Z.Warmed39 s.vm) (eT : T.heap = h) {k : ClassId} {z j : Int32} {vs : List Value} {dv : Value} {v : Value} (F : Arv Z h a k .double z vs dv) (hj : ¬ j < 0 ∧ j < z) (hv : vs.getD j.toNatClampNeg dv = v) (hd : decode c.code pc = .ok (.daload, 1)) (hp : pc + 1 = q) (K : Go p e below s Q ce sl T (mkF m q ls (v :: st))) : Go p e below s Q ce sl T (mkF m pc ls (.int j :: .ref a :: st)) := by
  subst hp
  obtain ⟨cl, A, -, S, -, H, -⟩ := F
  exact K.to fun t r => X.daload hx (by rw [eT]; exact A.1) (State.isArrayOf_alike hZ.alike A.2.1) A.2.2 (inb_of S hj) (H.at (inb_of S hj) hv) (g := mkF m pc ls (.int j :: .ref a :: st)) rfl rfl hd t r
theorem go_faload (X : Stand p l e R s m args below meth c T locs cells slots) (hx : p.tables.exec = Jvm.exec) (hZ : Z.Warmed39 s.vm) (eT : T.heap = h) {k : ClassId} {z j : Int32} {vs : List Value} {dv : Value} {v : Value} (F : Arv Z h a k .float z vs dv) (hj : ¬ j < 0 ∧ j < z) (hv : vs.getD j.toNatClampNeg dv = v) (hd : decode c.code pc = .ok (.faload, 1)) (hp : pc + 1 = q) (K : Go p e below s Q ce sl T (mkF m q ls (v :: st))) : Go p e below s Q ce sl T (mkF m pc ls (.int j :: .ref a :: st)) := by
  subst hp
  obtain ⟨cl, A, -, S, -, H, -⟩ := F
  exact K.to fun t r => X.faload hx (by rw [eT]; exact A.1) (State.isArrayOf_alike hZ.alike A.2.1) A.2.2 (inb_of S hj) (H.at (inb_of S hj) hv) (g := mkF m pc ls (.int j :: .ref a :: st)) rfl rfl hd t r
theorem go_baload (X : Stand p l e R s m args below meth c T locs cells slots) (hx : p.tables.exec = Jvm.exec) (hZ : Z.Warmed39 s.vm) (eT : T.heap = h) {k : ClassId} {z j : Int32} {vs : List Value} {dv : Value} {v : Value} (F : Arv Z h a k .boolean z vs dv) (hj : ¬ j < 0 ∧ j < z) (hv : vs.getD j.toNatClampNeg dv = v) (hd : decode c.code pc = .ok (.baload, 1)) (hp : pc + 1 = q) (K : Go p e below s Q ce sl T (mkF m q ls (v :: st))) : Go p e below s Q ce sl T (mkF m pc ls (.int j :: .ref a :: st)) := by
  subst hp
  obtain ⟨cl, A, -, S, -, H, -⟩ := F
  exact K.to fun t r => X.baloadBooleans hx (by rw [eT]; exact A.1) (State.isArrayOf_alike hZ.alike A.2.1) A.2.2 (inb_of S hj) (H.at (inb_of S hj) hv) (g := mkF m pc ls (.int j :: .ref a :: st)) rfl rfl hd t r
theorem go_baloadB (X : Stand p l e R s m args below meth c T locs cells slots) (hx : p.tables.exec = Jvm.exec) (hZ : Z.Warmed39 s.vm) (eT : T.heap = h) {k : ClassId} {z j : Int32} {vs : List Value} {dv : Value} {v : Value} (F : Arv Z h a k .byte z vs dv) (hj : ¬ j < 0 ∧ j < z) (hv : vs.getD j.toNatClampNeg dv = v) (hd : decode c.code pc = .ok (.baload, 1)) (hp : pc + 1 = q) (K : Go p e below s Q ce sl T (mkF m q ls (v :: st))) : Go p e below s Q ce sl T (mkF m pc ls (.int j :: .ref a :: st)) := by
  subst hp
  obtain ⟨cl, A, -, S, -, H, -⟩ := F
  exact K.to fun t r => X.baloadBytes hx (by rw [eT]; exact A.1) (State.isArrayOf_alike hZ.alike A.2.1) A.2.2 (inb_of S hj) (H.at (inb_of S hj) hv) (g := mkF m pc ls (.int j :: .ref a :: st)) rfl rfl hd t r
theorem go_caload (X : Stand p l e R s m args below meth c T locs cells slots) (hx : p.tables.exec = Jvm.exec) (hZ : Z.Warmed39 s.vm) (eT : T.heap = h) {k : ClassId} {z j : Int32} {vs : List Value} {dv : Value} {v : Value} (F : Arv Z h a k .char z vs dv) (hj : ¬ j < 0 ∧ j < z) (hv : vs.getD j.toNatClampNeg dv = v) (hd : decode c.code pc = .ok (.caload, 1)) (hp : pc + 1 = q) (K : Go p e below s Q ce sl T (mkF m q ls (v :: st))) : Go p e below s Q ce sl T (mkF m pc ls (.int j :: .ref a :: st)) := by
  subst hp
  obtain ⟨cl, A, -, S, -, H, -⟩ := F
  exact K.to fun t r => X.caload hx (by rw [eT]; exact A.1) (State.isArrayOf_alike hZ.alike A.2.1) A.2.2 (inb_of S hj) (H.at (inb_of S hj) hv) (g := mkF m pc ls (.int j :: .ref a :: st)) rfl rfl hd t r
theorem go_alen (X : Stand p l e R s m args below meth c T locs cells slots) (hx : p.tables.exec = Jvm.exec) (hZ : Z.Warmed39 s.vm) (eT : T.heap = h) {k : ClassId} {z : Int32} {vs : List Value} {dv : Value} {ty : FieldType} (F : Arv Z h a k ty z vs dv) (hd : decode c.code pc = .ok (.arraylength, 1)) (hp : pc + 1 = q) (K : Go p e below s Q ce sl T (mkF m q ls (.int z :: st))) : Go p e below s Q ce sl T (mkF m pc ls (.ref a :: st)) := by
  subst hp
  obtain ⟨cl, A, -, S, N, -, -⟩ := F
  exact K.to fun t r => X.arraylength hx (by rw [eT]; exact A.1) (State.isArrayOf_alike hZ.alike A.2.1) (g := mkF m pc ls (.ref a :: st)) rfl rfl hd t (by rw [len_of S N]; exact r)
theorem go_iastore (X : Stand p l e R s m args below meth c T locs cells slots) (hx : p.tables.exec = Jvm.exec) (hZ : Z.Warmed39 s.vm) (eT : T.heap = h) {k : ClassId} {z j : Int32} {vs : List Value} {dv : Value} {x : Int32} (F : Arv Z h a k .int z vs dv) (hj : ¬ j < 0 ∧ j < z) (i : Nat) (hi : j.toNatClampNeg = i) (hl : i < vs.length) (N : Fr n0 locs) (ha : n0 ≤ a) (hd : decode c.code pc = .ok (.iastore, 1)) (hp : pc + 1 = q)
    (K : ∀ T' h' locs', Stand p l e R s m args below meth c T' locs' cells slots → Fr n0 locs' → T'.heap = h' → Wr h h' a j.toNatClampNeg (.int x) → Arv Z h' a k .int z (vs.set i (.int x)) dv → Go p e below s Q ce sl T' (mkF m q ls st)) : Go p e below s Q ce sl T (mkF m pc ls ((.int x) :: .int j :: .ref a :: st)) := by
  subst hp
  obtain ⟨cl, A, q1, S, q3, H, G⟩ := F
  obtain ⟨T', h', X', e', W', st'⟩ := stI X hx hZ eT A (inb_of S hj) (g := mkF m pc ls ((.int x) :: .int j :: .ref a :: st)) rfl rfl hd
  exact (K T' h' _ X' (Fr.snoc X' N ha) e' W' (Arv.set A q1 S q3 H G rfl W' i hi hl)).to fun t r => st' t r
theorem go_dastore (X : Stand p l e R s m args below meth c T locs cells slots) (hx : p.tables.exec = Jvm.exec) (hZ : Z.Warmed39 s.vm) (eT : T.heap = h) {k : ClassId} {z j : Int32} {vs : List Value} {dv : Value} {x : UInt64} (F : Arv Z h a k .double z vs dv) (hj : ¬ j < 0 ∧ j < z) (i : Nat) (hi : j.toNatClampNeg = i) (hl : i < vs.length) (N : Fr n0 locs) (ha : n0 ≤ a) (hd : decode c.code pc = .ok (.dastore, 1)) (hp : pc + 1 = q)
    (K : ∀ T' h' locs', Stand p l e R s m args below meth c T' locs' cells slots → Fr n0 locs' → T'.heap = h' → Wr h h' a j.toNatClampNeg (.double x) → Arv Z h' a k .double z (vs.set i (.double x)) dv → Go p e below s Q ce sl T' (mkF m q ls st)) : Go p e below s Q ce sl T (mkF m pc ls ((.double x) :: .int j :: .ref a :: st)) := by
  subst hp
  obtain ⟨cl, A, q1, S, q3, H, G⟩ := F
  obtain ⟨T', h', X', e', W', st'⟩ := stD X hx hZ eT A (inb_of S hj) (g := mkF m pc ls ((.double x) :: .int j :: .ref a :: st)) rfl rfl hd
  exact (K T' h' _ X' (Fr.snoc X' N ha) e' W' (Arv.set A q1 S q3 H G rfl W' i hi hl)).to fun t r => st' t r
theorem go_fastore (X : Stand p l e R s m args below meth c T locs cells slots) (hx : p.tables.exec = Jvm.exec) (hZ : Z.Warmed39 s.vm) (eT : T.heap = h) {k : ClassId} {z j : Int32} {vs : List Value} {dv : Value} {x : UInt32} (F : Arv Z h a k .float z vs dv) (hj : ¬ j < 0 ∧ j < z) (i : Nat) (hi : j.toNatClampNeg = i) (hl : i < vs.length) (N : Fr n0 locs) (ha : n0 ≤ a) (hd : decode c.code pc = .ok (.fastore, 1)) (hp : pc + 1 = q)
    (K : ∀ T' h' locs', Stand p l e R s m args below meth c T' locs' cells slots → Fr n0 locs' → T'.heap = h' → Wr h h' a j.toNatClampNeg (.float x) → Arv Z h' a k .float z (vs.set i (.float x)) dv → Go p e below s Q ce sl T' (mkF m q ls st)) : Go p e below s Q ce sl T (mkF m pc ls ((.float x) :: .int j :: .ref a :: st)) := by
  subst hp
  obtain ⟨cl, A, q1, S, q3, H, G⟩ := F
  obtain ⟨T', h', X', e', W', st'⟩ := stF X hx hZ eT A (inb_of S hj) (g := mkF m pc ls ((.float x) :: .int j :: .ref a :: st)) rfl rfl hd
  exact (K T' h' _ X' (Fr.snoc X' N ha) e' W' (Arv.set A q1 S q3 H G rfl W' i hi hl)).to fun t r => st' t r
theorem go_bastore (X : Stand p l e R s m args below meth c T locs cells slots) (hx : p.tables.exec = Jvm.exec) (hZ : Z.Warmed39 s.vm) (eT : T.heap = h) {k : ClassId} {z j : Int32} {vs : List Value} {dv : Value} {x : Int32} (F : Arv Z h a k .boolean z vs dv) (hj : ¬ j < 0 ∧ j < z) (i : Nat) (hi : j.toNatClampNeg = i) (hl : i < vs.length) (N : Fr n0 locs) (ha : n0 ≤ a) (hd : decode c.code pc = .ok (.bastore, 1)) (hp : pc + 1 = q)
    (K : ∀ T' h' locs', Stand p l e R s m args below meth c T' locs' cells slots → Fr n0 locs' → T'.heap = h' → Wr h h' a j.toNatClampNeg (.int (nar .boolean x)) → Arv Z h' a k .boolean z (vs.set i (.int (nar .boolean x))) dv → Go p e below s Q ce sl T' (mkF m q ls st)) : Go p e below s Q ce sl T (mkF m pc ls ((.int x) :: .int j :: .ref a :: st)) := by
  subst hp
  obtain ⟨cl, A, q1, S, q3, H, G⟩ := F
  obtain ⟨T', h', X', e', W', st'⟩ := stZ X hx hZ eT A (inb_of S hj) (g := mkF m pc ls ((.int x) :: .int j :: .ref a :: st)) rfl rfl hd
  exact (K T' h' _ X' (Fr.snoc X' N ha) e' W' (Arv.set A q1 S q3 H G (fits_nar_bool _) W' i hi hl)).to fun t r => st' t r
theorem go_castore (X : Stand p l e R s m args below meth c T locs cells slots) (hx : p.tables.exec = Jvm.exec) (hZ : Z.Warmed39 s.vm) (eT : T.heap = h) {k : ClassId} {z j : Int32} {vs : List Value} {dv : Value} {x : Int32} (F : Arv Z h a k .char z vs dv) (hj : ¬ j < 0 ∧ j < z) (i : Nat) (hi : j.toNatClampNeg = i) (hl : i < vs.length) (N : Fr n0 locs) (ha : n0 ≤ a) (hd : decode c.code pc = .ok (.castore, 1)) (hp : pc + 1 = q)
    (K : ∀ T' h' locs', Stand p l e R s m args below meth c T' locs' cells slots → Fr n0 locs' → T'.heap = h' → Wr h h' a j.toNatClampNeg (.int (nar .char x)) → Arv Z h' a k .char z (vs.set i (.int (nar .char x))) dv → Go p e below s Q ce sl T' (mkF m q ls st)) : Go p e below s Q ce sl T (mkF m pc ls ((.int x) :: .int j :: .ref a :: st)) := by
  subst hp
  obtain ⟨cl, A, q1, S, q3, H, G⟩ := F
  obtain ⟨T', h', X', e', W', st'⟩ := stC X hx hZ eT A (inb_of S hj) (g := mkF m pc ls ((.int x) :: .int j :: .ref a :: st)) rfl rfl hd
  exact (K T' h' _ X' (Fr.snoc X' N ha) e' W' (Arv.set A q1 S q3 H G (fits_nar_char _) W' i hi hl)).to fun t r => st' t r
theorem go_bastoreB (X : Stand p l e R s m args below meth c T locs cells slots) (hx : p.tables.exec = Jvm.exec) (hZ : Z.Warmed39 s.vm) (eT : T.heap = h) {k : ClassId} {z j : Int32} {vs : List Value} {dv : Value} {x : Int32} (F : Arv Z h a k .byte z vs dv) (hj : ¬ j < 0 ∧ j < z) (i : Nat) (hi : j.toNatClampNeg = i) (hl : i < vs.length) (N : Fr n0 locs) (ha : n0 ≤ a) (hd : decode c.code pc = .ok (.bastore, 1)) (hp : pc + 1 = q)
    (K : ∀ T' h' locs', Stand p l e R s m args below meth c T' locs' cells slots → Fr n0 locs' → T'.heap = h' → Wr h h' a j.toNatClampNeg (.int (nar .byte x)) → Arv Z h' a k .byte z (vs.set i (.int (nar .byte x))) dv → Go p e below s Q ce sl T' (mkF m q ls st)) : Go p e below s Q ce sl T (mkF m pc ls ((.int x) :: .int j :: .ref a :: st)) := by
  subst hp
  obtain ⟨cl, A, q1, S, q3, H, G⟩ := F
  obtain ⟨T', h', X', e', W', st'⟩ := stB X hx hZ eT A (inb_of S hj) (g := mkF m pc ls ((.int x) :: .int j :: .ref a :: st)) rfl rfl hd
  exact (K T' h' _ X' (Fr.snoc X' N ha) e' W' (Arv.set A q1 S q3 H G (fits_nar_byte _) W' i hi hl)).to fun t r => st' t r
theorem go_acmp_eq (X : Stand p l e R s m args below meth c T locs cells slots) (hx : p.tables.exec = Jvm.exec) {x y : Value} (h1 : x.isRef = true) (h2 : y.isRef = true) {o : Int} (hd : decode c.code pc = .ok (.if_acmp .eq o, 3)) (hp : pc + 3 = q) (ho : 0 ≤ (pc : Int) + o) (hq : ((pc : Int) + o).toNat = q') (KY : x = y → Go p e below s Q ce sl T (mkF m q' ls st)) (KN : ¬ x = y → Go p e below s Q ce sl T (mkF m q ls st)) : Go p e below s Q ce sl T (mkF m pc ls (y :: x :: st)) := by
  subst hp hq
  by_cases w : x = y
  · exact (KY w).to fun t r => Jvm.RoadKit.acmp (g := mkF m pc ls (y :: x :: st)) X hx rfl h1 h2 (pc0 := pc) (same := true) rfl hd rfl (decide_eq_true w) ho rfl r
  · exact (KN w).to fun t r => Jvm.RoadKit.acmp (g := mkF m pc ls (y :: x :: st)) X hx rfl h1 h2 (pc0 := pc) (same := false) rfl hd rfl (decide_eq_false w) ho rfl r
theorem go_acmp_ne (X : Stand p l e R s m args below meth c T locs cells slots) (hx : p.tables.exec = Jvm.exec) {x y : Value} (h1 : x.isRef = true) (h2 : y.isRef = true) {o : Int} (hd : decode c.code pc = .ok (.if_acmp .ne o, 3)) (hp : pc + 3 = q) (ho : 0 ≤ (pc : Int) + o) (hq : ((pc : Int) + o).toNat = q') (KY : ¬ x = y → Go p e below s Q ce sl T (mkF m q' ls st)) (KN : x = y → Go p e below s Q ce sl T (mkF m q ls st)) : Go p e below s Q ce sl T (mkF m pc ls (y :: x :: st)) := by
  subst hp hq
  by_cases w : x = y
  · exact (KN w).to fun t r => Jvm.RoadKit.acmp (g := mkF m pc ls (y :: x :: st)) X hx rfl h1 h2 (pc0 := pc) (same := true) rfl hd rfl (decide_eq_true w) ho rfl r
  · exact (KY w).to fun t r => Jvm.RoadKit.acmp (g := mkF m pc ls (y :: x :: st)) X hx rfl h1 h2 (pc0 := pc) (same := false) rfl hd rfl (decide_eq_false w) ho rfl r
theorem go_ifnullR (X : Stand p l e R s m args below meth c T locs cells slots) (hx : p.tables.exec = Jvm.exec) {b : Addr} {o : Int} (hd : decode c.code pc = .ok (.ifnull o, 3)) (hp : pc + 3 = q) (K : Go p e below s Q ce sl T (mkF m q ls st)) : Go p e below s Q ce sl T (mkF m pc ls (.ref b :: st)) := by
  subst hp
  exact K.to fun t r => XS.ifnullNo X.here hx rfl hd rfl r
theorem go_ifnonnullR (X : Stand p l e R s m args below meth c T locs cells slots) (hx : p.tables.exec = Jvm.exec) {b : Addr} {o : Int} (hd : decode c.code pc = .ok (.ifnonnull o, 3)) (ho : 0 ≤ (pc : Int) + o) (hq : ((pc : Int) + o).toNat = q') (K : Go p e below s Q ce sl T (mkF m q' ls st)) : Go p e below s Q ce sl T (mkF m pc ls (.ref b :: st)) :=
  K.to fun t r => XS.ifnonnullYes X.here hx rfl (pc0 := pc) rfl hd rfl ho hq r
theorem go_tsw (X : Stand p l e R s m args below meth c T locs cells slots) (hx : p.tables.exec = Jvm.exec) {dflt low high off : Int} {offs : Array Int} {len : Nat} {i : Int32} (hd : decode c.code pc = .ok (.tableswitch dflt low high offs, len)) (hin : ¬ (i.toInt < low ∨ i.toInt > high)) (hoff : offs[(i.toInt - low).toNat]? = some off) (ho : 0 ≤ (pc : Int) + off) (hq : ((pc : Int) + off).toNat = q) (K : Go p e below s Q ce sl T (mkF m q ls st)) : Go p e below s Q ce sl T (mkF m pc ls (.int i :: st)) :=
  K.to fun t r => XS.tswIn X.here hx rfl (pc0 := pc) rfl hd rfl hin hoff ho hq r
theorem go_callVU (X : Stand p l e R s m args below meth c T locs cells slots) (hx : p.tables.exec = Jvm.exec) (hZ : Z.Warmed39 s.vm) {own C owner : String} {index : Nat} {y : MethodName} {bytes : ByteArray} {maxL : Nat} {ret : Option FieldType} {rm : Room} {W : Nat} {Qc : Option Value → Heap → List Loc → Prop} {z : MethodName} (hown : s.vm.findClass own = some m.cls) (eT : T.heap = h)
    (w1 : (Jvm.Cond.methodLink own index y).before a0 Z = true) (w2 : (Jvm.Cond.sameMethod y.cls owner y.name y.desc).before a0 Z = true) (w7 : (Jvm.Cond.declares ⟨owner, y.name, y.desc⟩).before a0 Z = true) (hy : owner ≠ "java/lang/invoke/MethodHandle" ∧ owner ≠ "java/lang/invoke/VarHandle") (w3 : (Jvm.Cond.selects C y z).before a0 Z = true) (w5 : (Jvm.Cond.instanceMethod z).before a0 Z = true) (w6 : (Jvm.Cond.initialized z.cls).before a0 Z = true) (w4 : (Jvm.Cond.code z bytes maxL ret).before a0 Z = true)
    (a : Addr) (argsL rest : List Value) (E : Exa Z h a C) (hM : Con l z bytes maxL ret [] rm Z (.ref a :: argsL).toArray h Qc) (hsz : ls.size = c.maxLocals) (hst : st = argsL.reverse ++ .ref a :: rest) (hlen : ∀ sig, parseMethodDescriptor y.desc = some sig → argsL.length = sig.parameters.length) (hW : (rest.map fun v => v.category).sum ≤ W)
    (hf : rm.frames + 1 ≤ R.frames) (hl : W + (maxL + 11) + rm.locals ≤ R.locals) (hd : decode c.code pc = .ok (.invokevirtual index, 3)) (hp : pc + 3 = q) (hc : cells + rm.cells ≤ R.cells) (hs : slots + rm.slots ≤ R.slots)
    (K : ∀ (T' : State) (L : List Loc) (v : Option Value), Stand p l e R s m args below meth c T' (locs ++ L) (cells + rm.cells) (slots + rm.slots) → Qc v T'.heap L → Go p e below s Q ce sl T' (mkF m q ls (v.toList ++ rest))) : Go p e below s Q ce sl T (mkF m pc ls st) := by
  subst hp
  obtain ⟨cq, kq, qa, qb, qc⟩ := isOf hZ eT E
  obtain ⟨v, _, ⟨T', L', k', n'⟩, -, X', ⟨Lc, hQ, l1, y1, z1⟩, stp⟩ := X.virtualBackUp hx (x := y) (y := z) hown (mvT hZ w1) (mvT hZ w2) (mvT hZ w7) hy (mvT hZ w3) (mvT hZ w5) (backOf (W := W) hM hZ w4 w6 hf hl) qa qc (g := mkF m pc ls st) rfl hsz (Steps.refl _) (argsL := argsL) (rest := rest) hlen hst (by show 2 * 0 + _ ≤ _; omega) hd (fun _ _ => ⟨rfl, eT, hc, hs⟩)
  dsimp only [Pt.U, Pt.locs, Pt.cells, Pt.slots] at X' l1 y1 z1 stp hQ
  subst l1 y1 z1
  exact (K T' Lc v X' hQ).to fun t r => stp.trans r
end OwnHeap

section OwnFloat
open Jvm.FP Jvm.FP.Core
/-- the datum with its exponent moved down by k -/
def sh (k : Int) : Datum → Datum
  | .fin s c q => .fin s c (q - k)
  | d => d
/-- the datum's value is i * 2^k -/
def Dy (k i : Int) (d : Datum) : Prop := Whole i (sh k d)
theorem dy_zero_iff {i : Int} {d : Datum} : Dy 0 i d ↔ Whole i d := by
  cases d <;> simp [Dy, sh]
theorem sh_sum (k : Int) (x y : Datum) : exactSum (sh k x) (sh k y) = sh k (exactSum x y) := by
  cases x <;> cases y <;> try rfl
  · rename_i a b; by_cases q : a = b <;> simp [sh, exactSum, q]
  · rename_i s c q t d r
    have e1 : min (q - k) (r - k) = min q r - k := by omega
    have e2 : q - k - (min q r - k) = q - min q r := by omega
    have e3 : r - k - (min q r - k) = r - min q r := by omega
    simp [sh, exactSum, sumUnits, inUnits, e1, e2, e3]
theorem sh_product (k l : Int) {x y : Datum} {s t : Bool} {c d : Nat} {q r : Int} (hx : x = .fin s c q) (hy : y = .fin t d r) : exactProduct (sh k x) (sh l y) = sh (k + l) (exactProduct x y) := by
  subst hx hy
  have e1 : q - k + (r - l) = q + r - (k + l) := by omega
  simp [sh, exactProduct, e1]
theorem sh_negate (k : Int) (x : Datum) : negate (sh k x) = sh k (negate x) := by cases x <;> rfl
theorem sh_order (k : Int) (x y : Datum) : order (sh k x) (sh k y) = order x y := by
  cases x <;> cases y <;> try rfl
  rename_i s c q t d r
  have e1 : min (q - k) (r - k) = min q r - k := by omega
  have e2 : q - k - (min q r - k) = q - min q r := by omega
  have e3 : r - k - (min q r - k) = r - min q r := by omega
  simp [sh, order, inUnits, e1, e2, e3]
theorem dy_fin {k i : Int} {d : Datum} (h : Dy k i d) : ∃ s c q, d = .fin s c q := by
  cases d with
  | nan => exact h.elim
  | inf s => exact h.elim
  | fin s c q => exact ⟨s, c, q, rfl⟩
theorem dy_sum {k i j : Int} {x y : Datum} (hx : Dy k i x) (hy : Dy k j y) : Dy k (i + j) (exactSum x y) := by
  unfold Dy; rw [← sh_sum]; exact whole_sum hx hy
theorem dy_negate {k i : Int} {x : Datum} (hx : Dy k i x) : Dy k (-i) (negate x) := by
  unfold Dy; rw [← sh_negate]; exact whole_negate hx
theorem dy_product {k l i j : Int} {x y : Datum} (hx : Dy k i x) (hy : Dy l j y) : Dy (k + l) (i * j) (exactProduct x y) := by
  obtain ⟨s, c, q, ex⟩ := dy_fin hx
  obtain ⟨t, d, r, ey⟩ := dy_fin hy
  unfold Dy; rw [← sh_product k l ex ey]; exact whole_product hx hy
theorem dy_order {k i j : Int} {x y : Datum} (hx : Dy k i x) (hy : Dy k j y) : order x y = some (compare i j) := by
  rw [← sh_order k]; exact order_whole hx hy
/-- c * 2^q and A * 2^k are alike: by differences, or with both exponents raised -/
theorem p2 {c A : Nat} {q k : Int} (N : Nat) (h1 : 0 ≤ q + N) (h2 : 0 ≤ k + N) : c * 2 ^ (q - k).toNat = A * 2 ^ (k - q).toNat ↔ c * 2 ^ (q + N).toNat = A * 2 ^ (k + N).toNat := by
  rcases Int.le_total q k with hqk | hqk
  · have e1 : (q - k).toNat = 0 := by omega
    have e2 : (k + N).toNat = (k - q).toNat + (q + N).toNat := by omega
    rw [e1, e2, Nat.pow_zero, Nat.mul_one, Nat.pow_add, ← Nat.mul_assoc]
    exact ⟨fun h => by rw [h], fun h => Nat.eq_of_mul_eq_mul_right (Nat.two_pow_pos _) h⟩
  · have e1 : (k - q).toNat = 0 := by omega
    have e2 : (q + N).toNat = (q - k).toNat + (k + N).toNat := by omega
    rw [e1, e2, Nat.pow_zero, Nat.mul_one, Nat.pow_add, ← Nat.mul_assoc]
    exact ⟨fun h => by rw [h], fun h => Nat.eq_of_mul_eq_mul_right (Nat.two_pow_pos _) h⟩
theorem dy_abs {k i : Int} {s : Bool} {c : Nat} {q : Int} (h : Dy k i (.fin s c q)) : c * 2 ^ (q - k).toNat = i.natAbs * 2 ^ (k - q).toNat := by
  have h' : signed s (c * 2 ^ (q - k).toNat) = i * ((2 ^ (-(q - k)).toNat : Nat) : Int) := h
  have e := congrArg Int.natAbs h'
  rw [natAbs_signed, Int.natAbs_mul, Int.natAbs_natCast, show -(q - k) = k - q by omega] at e
  exact e
theorem dy_sgn {k i : Int} {s : Bool} {c : Nat} {q : Int} (h : Dy k i (.fin s c q)) : signed s i.natAbs = i := by
  have h' : signed s (c * 2 ^ (q - k).toNat) = i * ((2 ^ (-(q - k)).toNat : Nat) : Int) := h
  rw [dy_abs h, signed_mul, show -(q - k) = k - q by omega] at h'
  exact Int.eq_of_mul_eq_mul_right (by have := Nat.two_pow_pos (k - q).toNat; omega) h'
theorem dy_mk {k i : Int} {s : Bool} {c : Nat} {q : Int} (h1 : c * 2 ^ (q - k).toNat = i.natAbs * 2 ^ (k - q).toNat) (h2 : signed s i.natAbs = i) : Dy k i (.fin s c q) := by
  show signed s (c * 2 ^ (q - k).toNat) = i * ((2 ^ (-(q - k)).toNat : Nat) : Int)
  rw [h1, signed_mul, h2, show -(q - k) = k - q by omega]
theorem dy_of_units {k i : Int} {s : Bool} {c' : Nat} {q' : Int} (hq : -1074 ≤ q') (hk : -1074 ≤ k) (e2 : inUnits c' q' (-1074) = inUnits i.natAbs k (-1074)) (h2 : signed s i.natAbs = i) : Dy k i (.fin s c' q') := by
  refine dy_mk ?_ h2
  rw [p2 1074 (by omega) (by omega)]
  unfold inUnits at e2
  rw [show q' - -1074 = q' + (1074 : Nat) by omega, show k - -1074 = k + (1074 : Nat) by omega] at e2
  exact e2
theorem dy_roundRatio {k m : Int} {S : Bool} {c d : Nat} {e : Int} (hd : 0 < d) (h : c * 2 ^ (e - k).toNat = m.natAbs * d * 2 ^ (k - e).toNat) (hm : m.natAbs < 2 ^ 53) (k1 : -1074 ≤ k) (k2 : k ≤ 971) (h2 : signed S m.natAbs = m) : Dy k m (roundRatio b64 S c d e) := by
  have hr : roundRatio b64 S c d e = round b64 (.fin S m.natAbs k) := roundRatio_congr (A := c) (B := d) (A' := m.natAbs) (B' := 1) (e := e) (e' := k) hd (by decide) (by rw [Nat.mul_one]; exact h)
  obtain ⟨c', q', e1, e2⟩ := round_exact good_b64 S (c := m.natAbs) (q := k) hm (by rw [qmin_b64]; exact k1) (by show k ≤ 971; exact k2)
  have hf : Core.fits b64 (.fin S c' q') := by rw [← e1]; exact round_fits good_b64 _
  have hq : -1074 ≤ q' := by have := hf.2.1; rw [qmin_b64] at this; exact this
  rw [hr, e1]
  rw [qmin_b64] at e2
  exact dy_of_units hq k1 e2 h2
theorem dy_round {k i : Int} {d : Datum} (h : Dy k i d) (hi : i.natAbs < 2 ^ 53) (k1 : -1074 ≤ k) (k2 : k ≤ 971) : Dy k i (round b64 d) := by
  obtain ⟨s, c, q, rfl⟩ := dy_fin h
  exact dy_roundRatio (d := 1) (by decide) (by rw [Nat.mul_one]; exact dy_abs h) hi k1 k2 (dy_sgn h)
theorem signed_xor1 (s t : Bool) (a b : Nat) : signed (s != t) (a * b) = signed s a * signed t b := signed_xor s t a b
theorem dy_quotient {k l i j m : Int} {x y : Datum} (hx : Dy k i x) (hy : Dy l j y) (hj : j ≠ 0) (hm : i = m * j) (hb : m.natAbs < 2 ^ 53) (k1 : -1074 ≤ k - l) (k2 : k - l ≤ 971) : Dy (k - l) m (quotient b64 x y) := by
  obtain ⟨s, c, q, rfl⟩ := dy_fin hx
  obtain ⟨t, d, r, rfl⟩ := dy_fin hy
  have a1 := dy_abs hx
  have a2 := dy_abs hy
  have jpos : 0 < j.natAbs := by omega
  have dpos : 0 < d := by
    rcases Nat.eq_zero_or_pos d with rfl | h
    · rw [Nat.zero_mul] at a2
      have := Nat.mul_pos jpos (Nat.two_pow_pos (l - r).toNat)
      omega
    · exact h
  have ea : i.natAbs = m.natAbs * j.natAbs := by rw [hm, Int.natAbs_mul]
  show Dy (k - l) m (if d = 0 then (if c = 0 then .nan else .inf (s != t)) else roundRatio b64 (s != t) c d (q - r))
  rw [if_neg (by omega)]
  refine dy_roundRatio dpos ?_ hb k1 k2 ?_
  · have N : Nat := 0
    obtain ⟨M, hM⟩ : ∃ M : Nat, 0 ≤ q + M ∧ 0 ≤ k + M ∧ 0 ≤ r + M ∧ 0 ≤ l + M := ⟨q.natAbs + k.natAbs + r.natAbs + l.natAbs, by omega, by omega, by omega, by omega⟩
    rw [p2 M hM.1 hM.2.1] at a1
    rw [p2 M hM.2.2.1 hM.2.2.2] at a2
    have e1 : q - r - (k - l) = (q + l) - (k + r) := by omega
    have e2 : k - l - (q - r) = (k + r) - (q + l) := by omega
    rw [e1, e2, p2 (2 * M) (by omega) (by omega)]
    have f1 : (q + l + ((2 * M : Nat) : Int)).toNat = (q + M).toNat + (l + M).toNat := by omega
    have f2 : (k + r + ((2 * M : Nat) : Int)).toNat = (k + M).toNat + (r + M).toNat := by omega
    rw [f1, f2, Nat.pow_add, Nat.pow_add]
    refine Nat.eq_of_mul_eq_mul_right jpos ?_
    calc c * (2 ^ (q + M).toNat * 2 ^ (l + M).toNat) * j.natAbs
        = (c * 2 ^ (q + M).toNat) * (j.natAbs * 2 ^ (l + M).toNat) := by ac_rfl
      _ = (i.natAbs * 2 ^ (k + M).toNat) * (d * 2 ^ (r + M).toNat) := by rw [a1, a2]
      _ = m.natAbs * d * (2 ^ (k + M).toNat * 2 ^ (r + M).toNat) * j.natAbs := by rw [ea]; ac_rfl
  · have s1 := dy_sgn hx
    have s2 := dy_sgn hy
    have s3 : signed (s != t) (i.natAbs * j.natAbs) = i * j := by rw [signed_xor, s1, s2]
    have e3 : i.natAbs * j.natAbs = m.natAbs * (j.natAbs * j.natAbs) := by rw [ea, Nat.mul_assoc]
    rw [e3, signed_mul, Int.natAbs_mul_self, hm, Int.mul_assoc] at s3
    exact Int.eq_of_mul_eq_mul_right (Int.mul_ne_zero hj hj) s3
theorem dy_scale {k i : Int} {d : Datum} (h : Dy k i d) (n : Nat) : Dy (k - n) (i * 2 ^ n) d := by
  obtain ⟨s, c, q, rfl⟩ := dy_fin h
  have a1 := dy_abs h
  have s1 := dy_sgn h
  have e0 : (i * 2 ^ n).natAbs = i.natAbs * 2 ^ n := by rw [Int.natAbs_mul, Int.natAbs_pow]; rfl
  refine dy_mk ?_ ?_
  · obtain ⟨M, h1, h2⟩ : ∃ M : Nat, 0 ≤ q + M ∧ 0 ≤ k - n + M := ⟨q.natAbs + k.natAbs + n, by omega, by omega⟩
    rw [p2 M h1 (by omega)] at a1
    rw [p2 M h1 h2, a1, e0]
    have : (k + (M : Int)).toNat = n + (k - n + M).toNat := by omega
    rw [this, Nat.pow_add, Nat.mul_assoc]
  · rw [e0, signed_mul, s1]; congr 1
/-- the double x is worth i * 2^k, and |i| is at most A -/
def DB (k : Int) (A : Nat) (i : Int) (x : UInt64) : Prop := Dy k i (val64 x) ∧ i.natAbs ≤ A
theorem DB.fin {k i : Int} {A : Nat} {x : UInt64} (h : DB k A i x) : DFin x := dy_fin h.1
theorem DB.nn {k i : Int} {A : Nat} {x : UInt64} (h : DB k A i x) : Jvm.Free.Fl.NoNaN64 x := Jvm.Free.Fl.noNaN64_no.mpr h.fin.notNaN
theorem DB.le {k i : Int} {A B : Nat} {x : UInt64} (h : DB k A i x) (hb : i.natAbs ≤ B) : DB k B i x := ⟨h.1, hb⟩
theorem DB.eqv {k i j : Int} {A : Nat} {x : UInt64} (h : DB k A i x) (e : i = j) : DB k A j x := e ▸ h
theorem db_add {k i j : Int} {A B : Nat} {x y : UInt64} (hx : DB k A i x) (hy : DB k B j y) (hA : A + B < 9007199254740992) (k1 : -1074 ≤ k) (k2 : k ≤ 971) : DB k (A + B) (i + j) (FP.dadd x y) := by
  have h1 := hx.2; have h2 := hy.2
  have hb : (i + j).natAbs ≤ A + B := by omega
  refine ⟨?_, hb⟩
  show Dy k (i + j) (val64 (Core.dadd x y))
  rw [val64_dadd]; exact dy_round (dy_sum hx.1 hy.1) (by omega) k1 k2
theorem db_sub {k i j : Int} {A B : Nat} {x y : UInt64} (hx : DB k A i x) (hy : DB k B j y) (hA : A + B < 9007199254740992) (k1 : -1074 ≤ k) (k2 : k ≤ 971) : DB k (A + B) (i - j) (FP.dsub x y) := by
  have h1 := hx.2; have h2 := hy.2
  have hb : (i - j).natAbs ≤ A + B := by omega
  refine ⟨?_, hb⟩
  show Dy k (i - j) (val64 (Core.dsub x y))
  rw [val64_dsub]; exact dy_round (by rw [Int.sub_eq_add_neg]; exact dy_sum hx.1 (dy_negate hy.1)) (by omega) k1 k2
theorem db_mul {k l i j : Int} {A B : Nat} {x y : UInt64} (hx : DB k A i x) (hy : DB l B j y) (hA : A * B < 9007199254740992) (k1 : -1074 ≤ k + l) (k2 : k + l ≤ 971) : DB (k + l) (A * B) (i * j) (FP.dmul x y) := by
  have hb : (i * j).natAbs ≤ A * B := by rw [Int.natAbs_mul]; exact Nat.mul_le_mul hx.2 hy.2
  refine ⟨?_, hb⟩
  show Dy (k + l) (i * j) (val64 (Core.dmul x y))
  rw [val64_dmul]; exact dy_round (dy_product hx.1 hy.1) (by omega) k1 k2
theorem db_div {k l i j : Int} {A B : Nat} {x y : UInt64} (m : Int) (hx : DB k A i x) (hy : DB l B j y) (hj : j ≠ 0) (hm : i = m * j) (hA : A < 9007199254740992) (k1 : -1074 ≤ k - l) (k2 : k - l ≤ 971) : DB (k - l) A m (FP.ddiv x y) := by
  have h1 : m.natAbs ≤ i.natAbs := by rw [hm, Int.natAbs_mul]; exact Nat.le_mul_of_pos_right _ (by omega)
  have h2 := hx.2
  refine ⟨?_, by omega⟩
  show Dy (k - l) m (val64 (Core.ddiv x y))
  rw [val64_ddiv]; exact dy_quotient hx.1 hy.1 hj hm (by omega) k1 k2
theorem DB.scale {k i : Int} {A : Nat} {x : UInt64} (h : DB k A i x) (n : Nat) : DB (k - n) (A * 2 ^ n) (i * 2 ^ n) x :=
  ⟨dy_scale h.1 n, by rw [Int.natAbs_mul, Int.natAbs_pow]; exact Nat.mul_le_mul_right _ h.2⟩
theorem db_i2d (v : Int32) : DB 0 2147483648 v.toInt (FP.i2d v) := ⟨dy_zero_iff.mpr (i2d_int v), by have := Int32.toInt_lt v; have := Int32.le_toInt v; omega⟩
theorem db_i2d' {v : Int32} {A : Nat} (h : v.toInt.natAbs ≤ A) : DB 0 A v.toInt (FP.i2d v) := (db_i2d v).le h
theorem db_l2d {v : Int64} {A : Nat} (h : v.toInt.natAbs ≤ A) (hA : A ≤ 9007199254740992) : DB 0 A v.toInt (FP.l2d v) := ⟨dy_zero_iff.mpr (l2d_int (by omega)), h⟩
theorem db_dcmp {k i j : Int} {A B : Nat} {x y : UInt64} (hx : DB k A i x) (hy : DB k B j y) : FP.dcmp x y = some (compare i j) := dy_order hx.1 hy.1
theorem db_cv {k i j : Int} {A B : Nat} {x y : UInt64} (hx : DB k A i x) (hy : DB k B j y) (o : CmpOp) : cmpValue (FP.dcmp x y) o = if i < j then -1 else if i = j then 0 else 1 := by
  rw [db_dcmp hx hy, compare_ite]
  by_cases h1 : i < j
  · simp [h1]; rfl
  · by_cases h2 : i = j
    · simp [h2]; rfl
    · simp [h1, h2]; rfl
theorem db_lt {k i j : Int} {A B : Nat} {x y : UInt64} (hx : DB k A i x) (hy : DB k B j y) (o : CmpOp) : cmpValue (FP.dcmp x y) o < 0 ↔ i < j := by
  rw [db_cv hx hy]
  by_cases h1 : i < j
  · simp [h1]
  · by_cases h2 : i = j
    · simp [h2]
    · simp [h1, h2]
theorem db_gt {k i j : Int} {A B : Nat} {x y : UInt64} (hx : DB k A i x) (hy : DB k B j y) (o : CmpOp) : 0 < cmpValue (FP.dcmp x y) o ↔ j < i := by
  rw [db_cv hx hy]
  by_cases h1 : i < j
  · simp [h1, show ¬ j < i by omega]
  · by_cases h2 : i = j
    · simp [h2]
    · simp [h1, h2, show j < i by omega]
theorem db_eq {k i j : Int} {A B : Nat} {x y : UInt64} (hx : DB k A i x) (hy : DB k B j y) (o : CmpOp) : cmpValue (FP.dcmp x y) o = 0 ↔ i = j := by
  rw [db_cv hx hy]
  by_cases h1 : i < j
  · simp [h1, show ¬ i = j by omega]
  · by_cases h2 : i = j
    · simp [h2]
    · simp [h1, h2]
theorem db_c0 : DB 0 0 0 0 := ⟨by rw [show val64 0 = .fin false 0 (-1074) by decide +kernel]; exact dy_mk (by simp) rfl, by decide⟩
theorem db_c1 : DB 0 1 1 4607182418800017408 := ⟨by rw [show val64 4607182418800017408 = .fin false (2 ^ 52) (-52) by decide +kernel]; exact dy_mk (by decide +kernel) rfl, by decide⟩
theorem db_c2 : DB 0 2 2 4611686018427387904 := ⟨by rw [show val64 4611686018427387904 = .fin false (2 ^ 52) (-51) by decide +kernel]; exact dy_mk (by decide +kernel) rfl, by decide⟩
end OwnFloat

section OwnFloatGo
variable {p : Program} {l : Launch} {e : Env} {R : Room} {s : State} {m : MethodId} {args : Array Value} {below : List Frame} {meth : Method} {c : Code} {T : State} {locs : List Loc} {cells slots : Nat} {Z : State} {h : Heap} {Q : Option Value → Heap → List Loc → Prop} {ce sl : Nat} {pc q q' : Nat} {ls : Array Slot} {st : List Value} {a0 : Array Value}
theorem go_i2dB (X : Stand p l e R s m args below meth c T locs cells slots) (hx : p.tables.exec = Jvm.exec) {x : Int32} {A : Nat} {i : Int} (hd : decode c.code pc = .ok (.i2d, 1)) (hp : pc + 1 = q) (hA : DB 0 A i (FP.i2d x)) (K : ∀ z, DB 0 A i z → Go p e below s Q ce sl T (mkF m q ls (.double z :: st))) : Go p e below s Q ce sl T (mkF m pc ls (.int x :: st)) :=
  go_i2d X hx hd hp rfl (K _ hA)
theorem go_l2dB (X : Stand p l e R s m args below meth c T locs cells slots) (hx : p.tables.exec = Jvm.exec) {x : Int64} {A : Nat} {i : Int} (hd : decode c.code pc = .ok (.l2d, 1)) (hp : pc + 1 = q) (hA : DB 0 A i (FP.l2d x)) (K : ∀ z, DB 0 A i z → Go p e below s Q ce sl T (mkF m q ls (.double z :: st))) : Go p e below s Q ce sl T (mkF m pc ls (.long x :: st)) :=
  go_l2d X hx hd hp rfl (K _ hA)
theorem go_f2dB (X : Stand p l e R s m args below meth c T locs cells slots) (hx : p.tables.exec = Jvm.exec) {x : UInt32} {A : Nat} {i : Int} (hd : decode c.code pc = .ok (.f2d, 1)) (hp : pc + 1 = q) (hA : DB 0 A i (FP.f2d x)) (K : ∀ z, DB 0 A i z → Go p e below s Q ce sl T (mkF m q ls (.double z :: st))) : Go p e below s Q ce sl T (mkF m pc ls (.float x :: st)) :=
  go_f2d X hx hd hp hA.nn rfl (K _ hA)
theorem go_daddB (X : Stand p l e R s m args below meth c T locs cells slots) (hx : p.tables.exec = Jvm.exec) {x y : UInt64} {k i j : Int} {A B C : Nat} (hd : decode c.code pc = .ok (.dadd, 1)) (hp : pc + 1 = q) (hA : DB k A i x) (hB : DB k B j y) (b1 : A + B < 9007199254740992) (k1 : -1074 ≤ k) (k2 : k ≤ 971) (hC : A + B = C) (K : ∀ z, DB k C (i + j) z → Go p e below s Q ce sl T (mkF m q ls (.double z :: st))) : Go p e below s Q ce sl T (mkF m pc ls (.double y :: .double x :: st)) :=
  go_dadd X hx hd hp (db_add hA hB b1 k1 k2).nn rfl (K _ (hC ▸ db_add hA hB b1 k1 k2))
theorem go_dsubB (X : Stand p l e R s m args below meth c T locs cells slots) (hx : p.tables.exec = Jvm.exec) {x y : UInt64} {k i j : Int} {A B C : Nat} (hd : decode c.code pc = .ok (.dsub, 1)) (hp : pc + 1 = q) (hA : DB k A i x) (hB : DB k B j y) (b1 : A + B < 9007199254740992) (k1 : -1074 ≤ k) (k2 : k ≤ 971) (hC : A + B = C) (K : ∀ z, DB k C (i - j) z → Go p e below s Q ce sl T (mkF m q ls (.double z :: st))) : Go p e below s Q ce sl T (mkF m pc ls (.double y :: .double x :: st)) :=
  go_dsub X hx hd hp (db_sub hA hB b1 k1 k2).nn rfl (K _ (hC ▸ db_sub hA hB b1 k1 k2))
theorem go_dmulB (X : Stand p l e R s m args below meth c T locs cells slots) (hx : p.tables.exec = Jvm.exec) {x y : UInt64} {k k' kk i j : Int} {A B C : Nat} (hd : decode c.code pc = .ok (.dmul, 1)) (hp : pc + 1 = q) (hA : DB k A i x) (hB : DB k' B j y) (b1 : A * B < 9007199254740992) (k1 : -1074 ≤ k + k') (k2 : k + k' ≤ 971) (hk : k + k' = kk) (hC : A * B = C) (K : ∀ z, DB kk C (i * j) z → Go p e below s Q ce sl T (mkF m q ls (.double z :: st))) : Go p e below s Q ce sl T (mkF m pc ls (.double y :: .double x :: st)) :=
  go_dmul X hx hd hp (db_mul hA hB b1 k1 k2).nn rfl (K _ (hC ▸ hk ▸ db_mul hA hB b1 k1 k2))
theorem go_ddivB (X : Stand p l e R s m args below meth c T locs cells slots) (hx : p.tables.exec = Jvm.exec) {x y : UInt64} {k k' kk i j w0 : Int} {A B : Nat} (hd : decode c.code pc = .ok (.ddiv, 1)) (hp : pc + 1 = q) (hA : DB k A i x) (hB : DB k' B j y) (hj : j ≠ 0) (hm : i = w0 * j) (b1 : A < 9007199254740992) (k1 : -1074 ≤ k - k') (k2 : k - k' ≤ 971) (hk : k - k' = kk) (K : ∀ z, DB kk A w0 z → Go p e below s Q ce sl T (mkF m q ls (.double z :: st))) : Go p e below s Q ce sl T (mkF m pc ls (.double y :: .double x :: st)) :=
  go_ddiv X hx hd hp (db_div w0 hA hB hj hm b1 k1 k2).nn rfl (K _ (hk ▸ db_div w0 hA hB hj hm b1 k1 k2))
theorem go_dif_lt (X : Stand p l e R s m args below meth c T locs cells slots) (hx : p.tables.exec = Jvm.exec) {x y : UInt64} {k i j : Int} {A B : Nat} {cm : CmpOp} {o : Int} (hd : decode c.code pc = .ok (.ifCond .lt o, 3)) (hp : pc + 3 = q) (ho : 0 ≤ (pc : Int) + o) (hq : ((pc : Int) + o).toNat = q') (hA : DB k A i x) (hB : DB k B j y) (KY : i < j → Go p e below s Q ce sl T (mkF m q' ls st)) (KN : ¬ i < j → Go p e below s Q ce sl T (mkF m q ls st)) : Go p e below s Q ce sl T (mkF m pc ls (.int (cmpValue (FP.dcmp x y) cm) :: st)) :=
  go_if_lt X hx hd hp ho hq (fun w => KY ((db_lt hA hB _).mp w)) (fun w => KN (fun z => w ((db_lt hA hB _).mpr z)))
theorem go_dif_ge (X : Stand p l e R s m args below meth c T locs cells slots) (hx : p.tables.exec = Jvm.exec) {x y : UInt64} {k i j : Int} {A B : Nat} {cm : CmpOp} {o : Int} (hd : decode c.code pc = .ok (.ifCond .ge o, 3)) (hp : pc + 3 = q) (ho : 0 ≤ (pc : Int) + o) (hq : ((pc : Int) + o).toNat = q') (hA : DB k A i x) (hB : DB k B j y) (KY : ¬ i < j → Go p e below s Q ce sl T (mkF m q' ls st)) (KN : i < j → Go p e below s Q ce sl T (mkF m q ls st)) : Go p e below s Q ce sl T (mkF m pc ls (.int (cmpValue (FP.dcmp x y) cm) :: st)) :=
  go_if_ge X hx hd hp ho hq (fun w => KY (fun z => w ((db_lt hA hB _).mpr z))) (fun w => KN ((db_lt hA hB _).mp w))
theorem go_dif_gt (X : Stand p l e R s m args below meth c T locs cells slots) (hx : p.tables.exec = Jvm.exec) {x y : UInt64} {k i j : Int} {A B : Nat} {cm : CmpOp} {o : Int} (hd : decode c.code pc = .ok (.ifCond .gt o, 3)) (hp : pc + 3 = q) (ho : 0 ≤ (pc : Int) + o) (hq : ((pc : Int) + o).toNat = q') (hA : DB k A i x) (hB : DB k B j y) (KY : j < i → Go p e below s Q ce sl T (mkF m q' ls st)) (KN : ¬ j < i → Go p e below s Q ce sl T (mkF m q ls st)) : Go p e below s Q ce sl T (mkF m pc ls (.int (cmpValue (FP.dcmp x y) cm) :: st)) :=
  go_if_gt X hx hd hp ho hq (fun w => KY ((db_gt hA hB _).mp w)) (fun w => KN (fun z => w ((db_gt hA hB _).mpr z)))
theorem go_dif_le (X : Stand p l e R s m args below meth c T locs cells slots) (hx : p.tables.exec = Jvm.exec) {x y : UInt64} {k i j : Int} {A B : Nat} {cm : CmpOp} {o : Int} (hd : decode c.code pc = .ok (.ifCond .le o, 3)) (hp : pc + 3 = q) (ho : 0 ≤ (pc : Int) + o) (hq : ((pc : Int) + o).toNat = q') (hA : DB k A i x) (hB : DB k B j y) (KY : ¬ j < i → Go p e below s Q ce sl T (mkF m q' ls st)) (KN : j < i → Go p e below s Q ce sl T (mkF m q ls st)) : Go p e below s Q ce sl T (mkF m pc ls (.int (cmpValue (FP.dcmp x y) cm) :: st)) :=
  go_if_le X hx hd hp ho hq (fun w => KY (fun z => w ((db_gt hA hB _).mpr z))) (fun w => KN ((db_gt hA hB _).mp w))
theorem go_dif_eq (X : Stand p l e R s m args below meth c T locs cells slots) (hx : p.tables.exec = Jvm.exec) {x y : UInt64} {k i j : Int} {A B : Nat} {cm : CmpOp} {o : Int} (hd : decode c.code pc = .ok (.ifCond .eq o, 3)) (hp : pc + 3 = q) (ho : 0 ≤ (pc : Int) + o) (hq : ((pc : Int) + o).toNat = q') (hA : DB k A i x) (hB : DB k B j y) (KY : i = j → Go p e below s Q ce sl T (mkF m q' ls st)) (KN : ¬ i = j → Go p e below s Q ce sl T (mkF m q ls st)) : Go p e below s Q ce sl T (mkF m pc ls (.int (cmpValue (FP.dcmp x y) cm) :: st)) :=
  go_if_eq X hx hd hp ho hq (fun w => KY ((db_eq hA hB _).mp w)) (fun w => KN (fun z => w ((db_eq hA hB _).mpr z)))
theorem go_dif_ne (X : Stand p l e R s m args below meth c T locs cells slots) (hx : p.tables.exec = Jvm.exec) {x y : UInt64} {k i j : Int} {A B : Nat} {cm : CmpOp} {o : Int} (hd : decode c.code pc = .ok (.ifCond .ne o, 3)) (hp : pc + 3 = q) (ho : 0 ≤ (pc : Int) + o) (hq : ((pc : Int) + o).toNat = q') (hA : DB k A i x) (hB : DB k B j y) (KY : ¬ i = j → Go p e below s Q ce sl T (mkF m q' ls st)) (KN : i = j → Go p e below s Q ce sl T (mkF m q ls st)) : Go p e below s Q ce sl T (mkF m pc ls (.int (cmpValue (FP.dcmp x y) cm) :: st)) :=
  go_if_ne X hx hd hp ho hq (fun w => KY (fun z => w ((db_eq hA hB _).mpr z))) (fun w => KN ((db_eq hA hB _).mp w))
end OwnFloatGo

def sel4 {α : Type} (a b c d : α) (j : Int32) : α := if j = 0 then a else if j = 1 then b else if j = 2 then c else d
theorem own_four {j : Int32} (h : ¬ j < 0 ∧ j < 4) : j = 0 ∨ j = 1 ∨ j = 2 ∨ j = 3 := by
  obtain ⟨h1, h2⟩ := h
  rw [Int32.lt_iff_toInt_lt] at h1 h2
  have e0 : (0 : Int32).toInt = 0 := rfl
  have e4 : (4 : Int32).toInt = 4 := rfl
  simp only [← Int32.toInt_inj]
  show j.toInt = 0 ∨ j.toInt = 1 ∨ j.toInt = 2 ∨ j.toInt = 3
  omega
theorem own_selI {a b c d : Int32} {j : Int32} {dv : Value} (h : ¬ j < 0 ∧ j < 4) : ([.int a, .int b, .int c, .int d] : List Value).getD j.toNatClampNeg dv = .int (sel4 a b c d j) := by
  rcases own_four h with rfl | rfl | rfl | rfl <;> rfl
theorem own_selF {a b c d : Int32} {j : Int32} {dv : Value} (h : ¬ j < 0 ∧ j < 4) : ([.float (FP.i2f a), .float (FP.i2f b), .float (FP.i2f c), .float (FP.i2f d)] : List Value).getD j.toNatClampNeg dv = .float (FP.i2f (sel4 a b c d j)) := by
  rcases own_four h with rfl | rfl | rfl | rfl <;> rfl
theorem own_selB {a b c d : Int32} (ha : a.toInt.natAbs ≤ 8388608) (hb : b.toInt.natAbs ≤ 8388608) (hc : c.toInt.natAbs ≤ 8388608) (hd : d.toInt.natAbs ≤ 8388608) (j : Int32) : (sel4 a b c d j).toInt.natAbs ≤ 8388608 := by
  unfold sel4; split
  · exact ha
  · split
    · exact hb
    · split
      · exact hc
      · exact hd
theorem own_sh40 (y : Int64) : ((y >>> ((40 : Int32) &&& 0x3f).toInt64).toInt32).toInt.natAbs ≤ 8388608 := by
  have h1 := c_lshr y 40 40 (by decide); have h2 := c_l2i (y >>> ((40 : Int32) &&& 0x3f).toInt64); have h3 := rng64 y; have h4 := rng32 (y >>> ((40 : Int32) &&& 0x3f).toInt64).toInt32
  rw [show ((2 ^ 40 : Nat) : Int) = 1099511627776 from rfl] at h1
  omega
theorem own_f2d {w : Int32} (h : w.toInt.natAbs ≤ 8388608) : DB 0 8388608 w.toInt (FP.f2d (FP.i2f w)) := by
  refine ⟨?_, h⟩
  have hn : FP.fIsNaN (FP.i2f w) = false := (FP.Core.i2f_fin w).notNaN
  rw [FP.f2d_core hn, dy_zero_iff, FP.Core.val64_f2d]
  exact FP.Core.whole_round FP.Core.good_b64 FP.Core.wide_b64 (by have : 2 ^ FP.Core.b64.p = 9007199254740992 := rfl; omega) (FP.Core.i2f_int (by omega))
theorem own_len (y : Int32) : (y &&& (7 : Int32)) % (5 : Int32) = 0 ∨ (y &&& (7 : Int32)) % (5 : Int32) = 1 ∨ (y &&& (7 : Int32)) % (5 : Int32) = 2 ∨ (y &&& (7 : Int32)) % (5 : Int32) = 3 ∨ (y &&& (7 : Int32)) % (5 : Int32) = 4 := by
  have h1 := c_and y 7 (by decide); have h2 := (c_irem (y &&& 7) 5 5 rfl).1 h1.1
  simp only [← Int32.toInt_inj]
  show ((y &&& 7) % 5).toInt = 0 ∨ ((y &&& 7) % 5).toInt = 1 ∨ ((y &&& 7) % 5).toInt = 2 ∨ ((y &&& 7) % 5).toInt = 3 ∨ ((y &&& 7) % 5).toInt = 4
  omega
theorem own_idx0 (y : Int32) : 0 ≤ ((y &&& (7 : Int32)) % (5 : Int32)).toInt ∧ ((y &&& (7 : Int32)) % (5 : Int32)).toInt ≤ 4 := by
  have h1 := c_and y 7 (by decide); have h2 := (c_irem (y &&& 7) 5 5 rfl).1 h1.1
  omega
theorem own_idx1 (y : Int32) : 0 ≤ ((y &&& (7 : Int32)) % (4 : Int32)).toInt ∧ ((y &&& (7 : Int32)) % (4 : Int32)).toInt ≤ 3 := by
  have h1 := c_and y 7 (by decide); have h2 := (c_irem (y &&& 7) 4 4 rfl).1 h1.1
  omega
theorem own_idx2 (y : Int32) : 0 ≤ ((y &&& (7 : Int32)) % (3 : Int32)).toInt ∧ ((y &&& (7 : Int32)) % (3 : Int32)).toInt ≤ 2 := by
  have h1 := c_and y 7 (by decide); have h2 := (c_irem (y &&& 7) 3 3 rfl).1 h1.1
  omega
theorem own_idx3 (y : Int32) : 0 ≤ ((y &&& (7 : Int32)) % (2 : Int32)).toInt ∧ ((y &&& (7 : Int32)) % (2 : Int32)).toInt ≤ 1 := by
  have h1 := c_and y 7 (by decide); have h2 := (c_irem (y &&& 7) 2 2 rfl).1 h1.1
  omega
theorem own_idx4 (y : Int32) : 0 ≤ ((y &&& (7 : Int32)) % (1 : Int32)).toInt ∧ ((y &&& (7 : Int32)) % (1 : Int32)).toInt ≤ 0 := by
  have h1 := c_and y 7 (by decide); have h2 := (c_irem (y &&& 7) 1 1 rfl).1 h1.1
  omega
theorem own_in {f : Int32} {n : Int} {i : Int32} (h : 0 ≤ f.toInt ∧ f.toInt ≤ n) (h1 : 0 ≤ i.toInt) (h2 : n + i.toInt ≤ 3) : ¬ f + i < 0 ∧ f + i < 4 := by
  rw [Int32.lt_iff_toInt_lt, Int32.lt_iff_toInt_lt]
  have h3 := c_iadd f i; have h4 := rng32 (f + i)
  have e0 : (0 : Int32).toInt = 0 := rfl
  have e4 : (4 : Int32).toInt = 4 := rfl
  omega
theorem own_prod {a b : Int32} (ha : a.toInt.natAbs ≤ 8388608) (hb : b.toInt.natAbs ≤ 8388608) : (a.toInt64 * b.toInt64).toInt = a.toInt * b.toInt ∧ (a.toInt * b.toInt).natAbs ≤ 70368744177664 := by
  have m1 : (a.toInt * b.toInt).natAbs ≤ 8388608 * 8388608 := by rw [Int.natAbs_mul]; exact Nat.mul_le_mul ha hb
  have e1 := c_lmul a.toInt64 b.toInt64; have r1 := rng64 (a.toInt64 * b.toInt64)
  rw [c_i2l, c_i2l] at e1
  omega
theorem own_sum4 {a b c d : Int64} {A B C D : Int} (ha : a.toInt = A ∧ A.natAbs ≤ 70368744177664) (hb : b.toInt = B ∧ B.natAbs ≤ 70368744177664) (hc : c.toInt = C ∧ C.natAbs ≤ 70368744177664) (hd : d.toInt = D ∧ D.natAbs ≤ 70368744177664) : (a + b + c + d).toInt = A + B + C + D ∧ (a + b + c + d).toInt.natAbs ≤ 281474976710656 := by
  have e1 := c_ladd a b; have r1 := rng64 (a + b); have e2 := c_ladd (a + b) c; have r2 := rng64 (a + b + c); have e3 := c_ladd (a + b + c) d; have r3 := rng64 (a + b + c + d)
  omega

theorem pd_0 : parseMethodDescriptor "(J)I" = some ⟨[.long], some .int⟩ := by decide +kernel
theorem pd_1 : parseMethodDescriptor "([II[IIII)J" = some ⟨[(.array .int), .int, (.array .int), .int, .int, .int], some .long⟩ := by decide +kernel
theorem pd_2 : parseMethodDescriptor "([FI[FII)D" = some ⟨[(.array .float), .int, (.array .float), .int, .int], some .double⟩ := by decide +kernel
theorem d1_0 : decode method_2_code 0 = .ok (.lload_n 0, 1) := by decide +kernel
theorem d1_1 : decode method_2_code 1 = .ok (.bipush 40, 2) := by decide +kernel
theorem d1_3 : decode method_2_code 3 = .ok (.lshl, 1) := by decide +kernel
theorem d1_4 : decode method_2_code 4 = .ok (.bipush 40, 2) := by decide +kernel
theorem d1_6 : decode method_2_code 6 = .ok (.lshr, 1) := by decide +kernel
theorem d1_7 : decode method_2_code 7 = .ok (.l2i, 1) := by decide +kernel
theorem d1_8 : decode method_2_code 8 = .ok (.ireturn, 1) := by decide +kernel
theorem pn_1 : plainName "nearfield/vectors/FloatProductsDotProductPinLaw" = true := by first | (simp [plainName, overriddenIn]; done) | decide +kernel
theorem ef_1 (m : MethodId) (x0 : Int64) : entryFrame m #[(.long x0)] 2 = mkF m 0 #[.val (.long x0), .second] [] := by first | (simp [entryFrame, mkF, argsToLocals, Value.category]; done) | rfl
set_option maxRecDepth 65536 in
set_option maxHeartbeats 40000000 in
theorem rm1 (l : Launch) (Z : State) (a0 : Array Value) (hw : ∀ d ∈ tables_1, d.before a0 Z = true) (ws : List Jvm.Cond) (v_ : Int64)  (h0 : Heap)  :
    Con l (⟨"nearfield/vectors/FloatProductsDotProductPinLaw", "low", "(J)I"⟩ : MethodName) method_2_code 2 (some .int) ws ({ frames := 0, cells := 0, slots := 0, locals := 0 } : Room) Z #[(.long v_)] h0 (fun v h L => (∀ n, Fr n L) ∧ (∃ r : Int32, v = some (.int r) ∧ r.toInt.natAbs ≤ 8388608) ∧ h = h0) := by
  refine con_of (plainFor_of_name pn_1) ?_
  intro p e s m below meth c s₁ X0 hx hby hml hret hlk hown hnm hZ e0
  refine Go.cast (ef_1 m v_) ?_
  refine go_lloadN (q := 1) X0 hx (hb hby d1_0) rfl rfl ?_
  refine go_bipush (q := 3) (v := (40 : Int32)) X0 hx (hb hby d1_1) rfl rfl ?_
  refine go_lshl (q := 4) (v := (v_ <<< ((40 : Int32) &&& 0x3f).toInt64)) X0 hx (hb hby d1_3) rfl rfl ?_
  refine go_bipush (q := 6) (v := (40 : Int32)) X0 hx (hb hby d1_4) rfl rfl ?_
  refine go_lshr (q := 7) (v := ((v_ <<< ((40 : Int32) &&& 0x3f).toInt64) >>> ((40 : Int32) &&& 0x3f).toInt64)) X0 hx (hb hby d1_6) rfl rfl ?_
  refine go_l2i (q := 8) (v := (((v_ <<< ((40 : Int32) &&& 0x3f).toInt64) >>> ((40 : Int32) &&& 0x3f).toInt64).toInt32)) X0 hx (hb hby d1_7) rfl rfl ?_
  exact go_retI X0 hx hret hlk (hb hby d1_8) (by decide) (by decide) ⟨fun _ => Fr.nil _, ⟨_, rfl, own_sh40 _⟩, e0⟩
theorem d2_0 : decode method_3_code 0 = .ok (.lload_n 0, 1) := by decide +kernel
theorem d2_1 : decode method_3_code 1 = .ok (.bipush 16, 2) := by decide +kernel
theorem d2_3 : decode method_3_code 3 = .ok (.lshl, 1) := by decide +kernel
theorem d2_4 : decode method_3_code 4 = .ok (.bipush 40, 2) := by decide +kernel
theorem d2_6 : decode method_3_code 6 = .ok (.lshr, 1) := by decide +kernel
theorem d2_7 : decode method_3_code 7 = .ok (.l2i, 1) := by decide +kernel
theorem d2_8 : decode method_3_code 8 = .ok (.ireturn, 1) := by decide +kernel
theorem pn_2 : plainName "nearfield/vectors/FloatProductsDotProductPinLaw" = true := by first | (simp [plainName, overriddenIn]; done) | decide +kernel
theorem ef_2 (m : MethodId) (x0 : Int64) : entryFrame m #[(.long x0)] 2 = mkF m 0 #[.val (.long x0), .second] [] := by first | (simp [entryFrame, mkF, argsToLocals, Value.category]; done) | rfl
set_option maxRecDepth 65536 in
set_option maxHeartbeats 40000000 in
theorem rm2 (l : Launch) (Z : State) (a0 : Array Value) (hw : ∀ d ∈ tables_1, d.before a0 Z = true) (ws : List Jvm.Cond) (v_ : Int64)  (h0 : Heap)  :
    Con l (⟨"nearfield/vectors/FloatProductsDotProductPinLaw", "high", "(J)I"⟩ : MethodName) method_3_code 2 (some .int) ws ({ frames := 0, cells := 0, slots := 0, locals := 0 } : Room) Z #[(.long v_)] h0 (fun v h L => (∀ n, Fr n L) ∧ (∃ r : Int32, v = some (.int r) ∧ r.toInt.natAbs ≤ 8388608) ∧ h = h0) := by
  refine con_of (plainFor_of_name pn_2) ?_
  intro p e s m below meth c s₁ X0 hx hby hml hret hlk hown hnm hZ e0
  refine Go.cast (ef_2 m v_) ?_
  refine go_lloadN (q := 1) X0 hx (hb hby d2_0) rfl rfl ?_
  refine go_bipush (q := 3) (v := (16 : Int32)) X0 hx (hb hby d2_1) rfl rfl ?_
  refine go_lshl (q := 4) (v := (v_ <<< ((16 : Int32) &&& 0x3f).toInt64)) X0 hx (hb hby d2_3) rfl rfl ?_
  refine go_bipush (q := 6) (v := (40 : Int32)) X0 hx (hb hby d2_4) rfl rfl ?_
  refine go_lshr (q := 7) (v := ((v_ <<< ((16 : Int32) &&& 0x3f).toInt64) >>> ((40 : Int32) &&& 0x3f).toInt64)) X0 hx (hb hby d2_6) rfl rfl ?_
  refine go_l2i (q := 8) (v := (((v_ <<< ((16 : Int32) &&& 0x3f).toInt64) >>> ((40 : Int32) &&& 0x3f).toInt64).toInt32)) X0 hx (hb hby d2_7) rfl rfl ?_
  exact go_retI X0 hx hret hlk (hb hby d2_8) (by decide) (by decide) ⟨fun _ => Fr.nil _, ⟨_, rfl, own_sh40 _⟩, e0⟩
theorem d3_0 : decode method_4_code 0 = .ok (.iload 4, 2) := by decide +kernel
theorem d3_2 : decode method_4_code 2 = .ok (.iload 5, 2) := by decide +kernel
theorem d3_4 : decode method_4_code 4 = .ok (.if_icmp .ge 19, 3) := by decide +kernel
theorem d3_7 : decode method_4_code 7 = .ok (.aload_n 0, 1) := by decide +kernel
theorem d3_8 : decode method_4_code 8 = .ok (.iload_n 1, 1) := by decide +kernel
theorem d3_9 : decode method_4_code 9 = .ok (.iload 4, 2) := by decide +kernel
theorem d3_11 : decode method_4_code 11 = .ok (.iadd, 1) := by decide +kernel
theorem d3_12 : decode method_4_code 12 = .ok (.iaload, 1) := by decide +kernel
theorem d3_13 : decode method_4_code 13 = .ok (.i2l, 1) := by decide +kernel
theorem d3_14 : decode method_4_code 14 = .ok (.aload_n 2, 1) := by decide +kernel
theorem d3_15 : decode method_4_code 15 = .ok (.iload_n 3, 1) := by decide +kernel
theorem d3_16 : decode method_4_code 16 = .ok (.iload 4, 2) := by decide +kernel
theorem d3_18 : decode method_4_code 18 = .ok (.iadd, 1) := by decide +kernel
theorem d3_19 : decode method_4_code 19 = .ok (.iaload, 1) := by decide +kernel
theorem d3_20 : decode method_4_code 20 = .ok (.i2l, 1) := by decide +kernel
theorem d3_21 : decode method_4_code 21 = .ok (.lmul, 1) := by decide +kernel
theorem d3_22 : decode method_4_code 22 = .ok (.lreturn, 1) := by decide +kernel
theorem d3_23 : decode method_4_code 23 = .ok (.lconst 0, 1) := by decide +kernel
theorem d3_24 : decode method_4_code 24 = .ok (.lreturn, 1) := by decide +kernel
theorem pn_3 : plainName "nearfield/vectors/FloatProductsDotProductPinLaw" = true := by first | (simp [plainName, overriddenIn]; done) | decide +kernel
theorem ef_3 (m : MethodId) (x0 : Addr) (x1 : Int32) (x2 : Addr) (x3 : Int32) (x4 : Int32) (x5 : Int32) : entryFrame m #[(.ref x0), (.int x1), (.ref x2), (.int x3), (.int x4), (.int x5)] 6 = mkF m 0 #[.val (.ref x0), .val (.int x1), .val (.ref x2), .val (.int x3), .val (.int x4), .val (.int x5)] [] := by first | (simp [entryFrame, mkF, argsToLocals, Value.category]; done) | rfl
set_option maxRecDepth 65536 in
set_option maxHeartbeats 40000000 in
theorem rm3 (l : Launch) (Z : State) (a0 : Array Value) (hw : ∀ d ∈ tables_1, d.before a0 Z = true) (ws : List Jvm.Cond) (ax : Addr) (fx : Int32) (ay : Addr) (fy : Int32) (i_ : Int32) (ln : Int32) (kx ky : ClassId) (dx dy : Value) (x0 x1 x2 x3 y0 y1 y2 y3 : Int32) (h0 : Heap) (V_ax : Arv Z h0 ax kx .int (4 : Int32) [.int x0, .int x1, .int x2, .int x3] dx) (V_ay : Arv Z h0 ay ky .int (4 : Int32) [.int y0, .int y1, .int y2, .int y3] dy) (hr : i_ < ln → (¬ fx + i_ < 0 ∧ fx + i_ < 4) ∧ (¬ fy + i_ < 0 ∧ fy + i_ < 4)) :
    Con l (⟨"nearfield/vectors/FloatProductsDotProductPinLaw", "term", "([II[IIII)J"⟩ : MethodName) method_4_code 6 (some .long) ws ({ frames := 0, cells := 0, slots := 0, locals := 0 } : Room) Z #[(.ref ax), (.int fx), (.ref ay), (.int fy), (.int i_), (.int ln)] h0 (fun v h L => (∀ n, Fr n L) ∧ v = some (.long (if i_ < ln then (sel4 x0 x1 x2 x3 (fx + i_)).toInt64 * (sel4 y0 y1 y2 y3 (fy + i_)).toInt64 else 0)) ∧ h = h0) := by
  refine con_of (plainFor_of_name pn_3) ?_
  intro p e s m below meth c s₁ X0 hx hby hml hret hlk hown hnm hZ e0
  refine Go.cast (ef_3 m ax fx ay fy i_ ln) ?_
  refine go_iload (q := 2) X0 hx (hb hby d3_0) rfl rfl ?_
  refine go_iload (q := 4) X0 hx (hb hby d3_2) rfl rfl ?_
  refine go_icmp_ge (q := 7) (q' := 23) X0 hx (hb hby d3_4) rfl (by decide) rfl (fun hc4 => ?_) (fun hc4 => ?_)
  · refine go_lconst (q := 24) (v := (0 : Int64)) X0 hx (hb hby d3_23) rfl rfl ?_
    exact go_retJ X0 hx hret hlk (hb hby d3_24) (by decide) (by decide) ⟨fun _ => Fr.nil _, by rw [if_neg hc4], e0⟩
  · have hr' := hr hc4
    refine go_aloadN (q := 8) X0 hx (hb hby d3_7) rfl rfl rfl ?_
    refine go_iloadN (q := 9) X0 hx (hb hby d3_8) rfl rfl ?_
    refine go_iload (q := 11) X0 hx (hb hby d3_9) rfl rfl ?_
    refine go_iadd (q := 12) (v := (fx + i_)) X0 hx (hb hby d3_11) rfl rfl ?_
    refine go_iaload (q := 13) (v := (.int (sel4 x0 x1 x2 x3 (fx + i_)))) X0 hx hZ e0 V_ax hr'.1 (own_selI hr'.1) (hb hby d3_12) rfl ?_
    refine go_i2l (q := 14) (v := ((sel4 x0 x1 x2 x3 (fx + i_)).toInt64)) X0 hx (hb hby d3_13) rfl rfl ?_
    refine go_aloadN (q := 15) X0 hx (hb hby d3_14) rfl rfl rfl ?_
    refine go_iloadN (q := 16) X0 hx (hb hby d3_15) rfl rfl ?_
    refine go_iload (q := 18) X0 hx (hb hby d3_16) rfl rfl ?_
    refine go_iadd (q := 19) (v := (fy + i_)) X0 hx (hb hby d3_18) rfl rfl ?_
    refine go_iaload (q := 20) (v := (.int (sel4 y0 y1 y2 y3 (fy + i_)))) X0 hx hZ e0 V_ay hr'.2 (own_selI hr'.2) (hb hby d3_19) rfl ?_
    refine go_i2l (q := 21) (v := ((sel4 y0 y1 y2 y3 (fy + i_)).toInt64)) X0 hx (hb hby d3_20) rfl rfl ?_
    refine go_lmul (q := 22) (v := (((sel4 x0 x1 x2 x3 (fx + i_)).toInt64) * ((sel4 y0 y1 y2 y3 (fy + i_)).toInt64))) X0 hx (hb hby d3_21) rfl rfl ?_
    exact go_retJ X0 hx hret hlk (hb hby d3_22) (by decide) (by decide) ⟨fun _ => Fr.nil _, by rw [if_pos hc4], e0⟩
theorem d4_0 : decode prog_164_method_2_code 0 = .ok (.dconst 0, 1) := by decide +kernel
theorem d4_1 : decode prog_164_method_2_code 1 = .ok (.dstore 5, 2) := by decide +kernel
theorem d4_3 : decode prog_164_method_2_code 3 = .ok (.iconst 0, 1) := by decide +kernel
theorem d4_4 : decode prog_164_method_2_code 4 = .ok (.istore 7, 2) := by decide +kernel
theorem d4_6 : decode prog_164_method_2_code 6 = .ok (.iload 7, 2) := by decide +kernel
theorem d4_8 : decode prog_164_method_2_code 8 = .ok (.iload 4, 2) := by decide +kernel
theorem d4_10 : decode prog_164_method_2_code 10 = .ok (.if_icmp .ge 29, 3) := by decide +kernel
theorem d4_39 : decode prog_164_method_2_code 39 = .ok (.dload 5, 2) := by decide +kernel
theorem d4_41 : decode prog_164_method_2_code 41 = .ok (.dreturn, 1) := by decide +kernel
theorem pn_4 : plainName "nearfield/vectors/FloatProducts" = true := by first | (simp [plainName, overriddenIn]; done) | decide +kernel
theorem ef_4 (m : MethodId) (x0 : Addr) (x1 : Int32) (x2 : Addr) (x3 : Int32) (x4 : Int32) : entryFrame m #[(.ref x0), (.int x1), (.ref x2), (.int x3), (.int x4)] 8 = mkF m 0 #[.val (.ref x0), .val (.int x1), .val (.ref x2), .val (.int x3), .val (.int x4), .unset, .unset, .unset] [] := by first | (simp [entryFrame, mkF, argsToLocals, Value.category]; done) | rfl
set_option maxRecDepth 65536 in
set_option maxHeartbeats 40000000 in
theorem rm4_0 (l : Launch) (Z : State) (a0 : Array Value) (hw : ∀ d ∈ tables_1, d.before a0 Z = true) (ws : List Jvm.Cond) (ax : Addr) (fx : Int32) (ay : Addr) (fy : Int32) (kx ky : ClassId) (dx dy : Value) (x0 x1 x2 x3 y0 y1 y2 y3 : Int32) (h0 : Heap) (V_ax : Arv Z h0 ax kx .float (4 : Int32) [.float (FP.i2f x0), .float (FP.i2f x1), .float (FP.i2f x2), .float (FP.i2f x3)] dx) (V_ay : Arv Z h0 ay ky .float (4 : Int32) [.float (FP.i2f y0), .float (FP.i2f y1), .float (FP.i2f y2), .float (FP.i2f y3)] dy) (bx : ∀ j, (sel4 x0 x1 x2 x3 j).toInt.natAbs ≤ 8388608) (by_ : ∀ j, (sel4 y0 y1 y2 y3 j).toInt.natAbs ≤ 8388608) :
    Con l (⟨"nearfield/vectors/FloatProducts", "dotProduct", "([FI[FII)D"⟩ : MethodName) prog_164_method_2_code 8 (some .double) ws ({ frames := 0, cells := 0, slots := 0, locals := 0 } : Room) Z #[(.ref ax), (.int fx), (.ref ay), (.int fy), (.int (0 : Int32))] h0 (fun v h L => (∀ n, Fr n L) ∧ (∃ r : UInt64, v = some (.double r) ∧ DB 0 0 0 r) ∧ h = h0) := by
  refine con_of (plainFor_of_name pn_4) ?_
  intro p e s m below meth c s₁ X0 hx hby hml hret hlk hown hnm hZ e0
  refine Go.cast (ef_4 m ax fx ay fy (0 : Int32)) ?_
  refine go_dconst0 (q := 1) (v := (0 : UInt64)) X0 hx (hb hby d4_0) rfl rfl ?_
  refine go_dstore (q := 3) (l' := #[.val (.ref ax), .val (.int fx), .val (.ref ay), .val (.int fy), .val (.int (0 : Int32)), .val (.double (0 : UInt64)), .second, .unset]) X0 hx (hb hby d4_1) rfl rfl ?_
  refine go_iconst (q := 4) (v := (0 : Int32)) X0 hx (hb hby d4_3) rfl rfl ?_
  refine go_istore (q := 6) (l' := #[.val (.ref ax), .val (.int fx), .val (.ref ay), .val (.int fy), .val (.int (0 : Int32)), .val (.double (0 : UInt64)), .second, .val (.int (0 : Int32))]) X0 hx (hb hby d4_4) rfl rfl ?_
  refine go_iload (q := 8) X0 hx (hb hby d4_6) rfl rfl ?_
  refine go_iload (q := 10) X0 hx (hb hby d4_8) rfl rfl ?_
  refine go_icmp_ge (q := 13) (q' := 39) X0 hx (hb hby d4_10) rfl (by decide) rfl (fun hc10 => ?_) (fun hc10 => ?_)
  · refine go_dload (q := 41) X0 hx (hb hby d4_39) rfl rfl ?_
    exact go_retD X0 hx hret hlk (hb hby d4_41) (by decide) (by decide) ⟨fun _ => Fr.nil _, ⟨_, rfl, db_c0⟩, e0⟩
  · exact absurd hc10 (by decide)
theorem d4_13 : decode prog_164_method_2_code 13 = .ok (.dload 5, 2) := by decide +kernel
theorem d4_15 : decode prog_164_method_2_code 15 = .ok (.aload_n 0, 1) := by decide +kernel
theorem d4_16 : decode prog_164_method_2_code 16 = .ok (.iload_n 1, 1) := by decide +kernel
theorem d4_17 : decode prog_164_method_2_code 17 = .ok (.iload 7, 2) := by decide +kernel
theorem d4_19 : decode prog_164_method_2_code 19 = .ok (.iadd, 1) := by decide +kernel
theorem d4_20 : decode prog_164_method_2_code 20 = .ok (.faload, 1) := by decide +kernel
theorem d4_21 : decode prog_164_method_2_code 21 = .ok (.f2d, 1) := by decide +kernel
theorem d4_22 : decode prog_164_method_2_code 22 = .ok (.aload_n 2, 1) := by decide +kernel
theorem d4_23 : decode prog_164_method_2_code 23 = .ok (.iload_n 3, 1) := by decide +kernel
theorem d4_24 : decode prog_164_method_2_code 24 = .ok (.iload 7, 2) := by decide +kernel
theorem d4_26 : decode prog_164_method_2_code 26 = .ok (.iadd, 1) := by decide +kernel
theorem d4_27 : decode prog_164_method_2_code 27 = .ok (.faload, 1) := by decide +kernel
theorem d4_28 : decode prog_164_method_2_code 28 = .ok (.f2d, 1) := by decide +kernel
theorem d4_29 : decode prog_164_method_2_code 29 = .ok (.dmul, 1) := by decide +kernel
theorem d4_30 : decode prog_164_method_2_code 30 = .ok (.dadd, 1) := by decide +kernel
theorem d4_31 : decode prog_164_method_2_code 31 = .ok (.dstore 5, 2) := by decide +kernel
theorem d4_33 : decode prog_164_method_2_code 33 = .ok (.iinc 7 1, 3) := by decide +kernel
theorem d4_36 : decode prog_164_method_2_code 36 = .ok (.goto (-30), 3) := by decide +kernel
set_option maxRecDepth 65536 in
set_option maxHeartbeats 40000000 in
theorem rm4_1 (l : Launch) (Z : State) (a0 : Array Value) (hw : ∀ d ∈ tables_1, d.before a0 Z = true) (ws : List Jvm.Cond) (ax : Addr) (fx : Int32) (ay : Addr) (fy : Int32) (kx ky : ClassId) (dx dy : Value) (x0 x1 x2 x3 y0 y1 y2 y3 : Int32) (h0 : Heap) (V_ax : Arv Z h0 ax kx .float (4 : Int32) [.float (FP.i2f x0), .float (FP.i2f x1), .float (FP.i2f x2), .float (FP.i2f x3)] dx) (V_ay : Arv Z h0 ay ky .float (4 : Int32) [.float (FP.i2f y0), .float (FP.i2f y1), .float (FP.i2f y2), .float (FP.i2f y3)] dy) (bx : ∀ j, (sel4 x0 x1 x2 x3 j).toInt.natAbs ≤ 8388608) (by_ : ∀ j, (sel4 y0 y1 y2 y3 j).toInt.natAbs ≤ 8388608) (rx0 : ¬ fx + (0 : Int32) < 0 ∧ fx + (0 : Int32) < 4) (ry0 : ¬ fy + (0 : Int32) < 0 ∧ fy + (0 : Int32) < 4) :
    Con l (⟨"nearfield/vectors/FloatProducts", "dotProduct", "([FI[FII)D"⟩ : MethodName) prog_164_method_2_code 8 (some .double) ws ({ frames := 0, cells := 0, slots := 0, locals := 0 } : Room) Z #[(.ref ax), (.int fx), (.ref ay), (.int fy), (.int (1 : Int32))] h0 (fun v h L => (∀ n, Fr n L) ∧ (∃ r : UInt64, v = some (.double r) ∧ DB 0 70368744177664 (0 + (sel4 x0 x1 x2 x3 (fx + (0 : Int32))).toInt * (sel4 y0 y1 y2 y3 (fy + (0 : Int32))).toInt) r) ∧ h = h0) := by
  refine con_of (plainFor_of_name pn_4) ?_
  intro p e s m below meth c s₁ X0 hx hby hml hret hlk hown hnm hZ e0
  refine Go.cast (ef_4 m ax fx ay fy (1 : Int32)) ?_
  refine go_dconst0 (q := 1) (v := (0 : UInt64)) X0 hx (hb hby d4_0) rfl rfl ?_
  refine go_dstore (q := 3) (l' := #[.val (.ref ax), .val (.int fx), .val (.ref ay), .val (.int fy), .val (.int (1 : Int32)), .val (.double (0 : UInt64)), .second, .unset]) X0 hx (hb hby d4_1) rfl rfl ?_
  refine go_iconst (q := 4) (v := (0 : Int32)) X0 hx (hb hby d4_3) rfl rfl ?_
  refine go_istore (q := 6) (l' := #[.val (.ref ax), .val (.int fx), .val (.ref ay), .val (.int fy), .val (.int (1 : Int32)), .val (.double (0 : UInt64)), .second, .val (.int (0 : Int32))]) X0 hx (hb hby d4_4) rfl rfl ?_
  refine go_iload (q := 8) X0 hx (hb hby d4_6) rfl rfl ?_
  refine go_iload (q := 10) X0 hx (hb hby d4_8) rfl rfl ?_
  refine go_icmp_ge (q := 13) (q' := 39) X0 hx (hb hby d4_10) rfl (by decide) rfl (fun hc10 => ?_) (fun hc10 => ?_)
  · exact absurd (by decide) hc10
  · refine go_dload (q := 15) X0 hx (hb hby d4_13) rfl rfl ?_
    refine go_aloadN (q := 16) X0 hx (hb hby d4_15) rfl rfl rfl ?_
    refine go_iloadN (q := 17) X0 hx (hb hby d4_16) rfl rfl ?_
    refine go_iload (q := 19) X0 hx (hb hby d4_17) rfl rfl ?_
    refine go_iadd (q := 20) (v := (fx + (0 : Int32))) X0 hx (hb hby d4_19) rfl rfl ?_
    refine go_faload (q := 21) (v := (.float (FP.i2f (sel4 x0 x1 x2 x3 (fx + (0 : Int32)))))) X0 hx hZ e0 V_ax rx0 (own_selF rx0) (hb hby d4_20) rfl ?_
    refine go_f2dB (q := 22) X0 hx (hb hby d4_21) rfl (own_f2d (bx _)) (fun z1 hz1 => ?_)
    refine go_aloadN (q := 23) X0 hx (hb hby d4_22) rfl rfl rfl ?_
    refine go_iloadN (q := 24) X0 hx (hb hby d4_23) rfl rfl ?_
    refine go_iload (q := 26) X0 hx (hb hby d4_24) rfl rfl ?_
    refine go_iadd (q := 27) (v := (fy + (0 : Int32))) X0 hx (hb hby d4_26) rfl rfl ?_
    refine go_faload (q := 28) (v := (.float (FP.i2f (sel4 y0 y1 y2 y3 (fy + (0 : Int32)))))) X0 hx hZ e0 V_ay ry0 (own_selF ry0) (hb hby d4_27) rfl ?_
    refine go_f2dB (q := 29) X0 hx (hb hby d4_28) rfl (own_f2d (by_ _)) (fun z2 hz2 => ?_)
    refine go_dmulB (q := 30) (kk := 0) (C := 70368744177664) X0 hx (hb hby d4_29) rfl hz1 hz2 (by decide) (by decide) (by decide) rfl rfl (fun z3 hz3 => ?_)
    refine go_daddB (q := 31) (C := 70368744177664) X0 hx (hb hby d4_30) rfl db_c0 hz3 (by decide) (by decide) (by decide) rfl (fun z4 hz4 => ?_)
    refine go_dstore (q := 33) (l' := #[.val (.ref ax), .val (.int fx), .val (.ref ay), .val (.int fy), .val (.int (1 : Int32)), .val (.double z4), .second, .val (.int (0 : Int32))]) X0 hx (hb hby d4_31) rfl rfl ?_
    refine go_iinc (q := 36) (l' := #[.val (.ref ax), .val (.int fx), .val (.ref ay), .val (.int fy), .val (.int (1 : Int32)), .val (.double z4), .second, .val (.int (1 : Int32))]) X0 hx (hb hby d4_33) rfl rfl rfl ?_
    refine go_goto (q := 6) X0 hx (hb hby d4_36) (by decide) rfl ?_
    refine go_iload (q := 8) X0 hx (hb hby d4_6) rfl rfl ?_
    refine go_iload (q := 10) X0 hx (hb hby d4_8) rfl rfl ?_
    refine go_icmp_ge (q := 13) (q' := 39) X0 hx (hb hby d4_10) rfl (by decide) rfl (fun hc10 => ?_) (fun hc10 => ?_)
    · refine go_dload (q := 41) X0 hx (hb hby d4_39) rfl rfl ?_
      exact go_retD X0 hx hret hlk (hb hby d4_41) (by decide) (by decide) ⟨fun _ => Fr.nil _, ⟨_, rfl, hz4⟩, e0⟩
    · exact absurd hc10 (by decide)
set_option maxRecDepth 65536 in
set_option maxHeartbeats 40000000 in
theorem rm4_2 (l : Launch) (Z : State) (a0 : Array Value) (hw : ∀ d ∈ tables_1, d.before a0 Z = true) (ws : List Jvm.Cond) (ax : Addr) (fx : Int32) (ay : Addr) (fy : Int32) (kx ky : ClassId) (dx dy : Value) (x0 x1 x2 x3 y0 y1 y2 y3 : Int32) (h0 : Heap) (V_ax : Arv Z h0 ax kx .float (4 : Int32) [.float (FP.i2f x0), .float (FP.i2f x1), .float (FP.i2f x2), .float (FP.i2f x3)] dx) (V_ay : Arv Z h0 ay ky .float (4 : Int32) [.float (FP.i2f y0), .float (FP.i2f y1), .float (FP.i2f y2), .float (FP.i2f y3)] dy) (bx : ∀ j, (sel4 x0 x1 x2 x3 j).toInt.natAbs ≤ 8388608) (by_ : ∀ j, (sel4 y0 y1 y2 y3 j).toInt.natAbs ≤ 8388608) (rx0 : ¬ fx + (0 : Int32) < 0 ∧ fx + (0 : Int32) < 4) (ry0 : ¬ fy + (0 : Int32) < 0 ∧ fy + (0 : Int32) < 4) (rx1 : ¬ fx + (1 : Int32) < 0 ∧ fx + (1 : Int32) < 4) (ry1 : ¬ fy + (1 : Int32) < 0 ∧ fy + (1 : Int32) < 4) :
    Con l (⟨"nearfield/vectors/FloatProducts", "dotProduct", "([FI[FII)D"⟩ : MethodName) prog_164_method_2_code 8 (some .double) ws ({ frames := 0, cells := 0, slots := 0, locals := 0 } : Room) Z #[(.ref ax), (.int fx), (.ref ay), (.int fy), (.int (2 : Int32))] h0 (fun v h L => (∀ n, Fr n L) ∧ (∃ r : UInt64, v = some (.double r) ∧ DB 0 140737488355328 ((0 + (sel4 x0 x1 x2 x3 (fx + (0 : Int32))).toInt * (sel4 y0 y1 y2 y3 (fy + (0 : Int32))).toInt) + (sel4 x0 x1 x2 x3 (fx + (1 : Int32))).toInt * (sel4 y0 y1 y2 y3 (fy + (1 : Int32))).toInt) r) ∧ h = h0) := by
  refine con_of (plainFor_of_name pn_4) ?_
  intro p e s m below meth c s₁ X0 hx hby hml hret hlk hown hnm hZ e0
  refine Go.cast (ef_4 m ax fx ay fy (2 : Int32)) ?_
  refine go_dconst0 (q := 1) (v := (0 : UInt64)) X0 hx (hb hby d4_0) rfl rfl ?_
  refine go_dstore (q := 3) (l' := #[.val (.ref ax), .val (.int fx), .val (.ref ay), .val (.int fy), .val (.int (2 : Int32)), .val (.double (0 : UInt64)), .second, .unset]) X0 hx (hb hby d4_1) rfl rfl ?_
  refine go_iconst (q := 4) (v := (0 : Int32)) X0 hx (hb hby d4_3) rfl rfl ?_
  refine go_istore (q := 6) (l' := #[.val (.ref ax), .val (.int fx), .val (.ref ay), .val (.int fy), .val (.int (2 : Int32)), .val (.double (0 : UInt64)), .second, .val (.int (0 : Int32))]) X0 hx (hb hby d4_4) rfl rfl ?_
  refine go_iload (q := 8) X0 hx (hb hby d4_6) rfl rfl ?_
  refine go_iload (q := 10) X0 hx (hb hby d4_8) rfl rfl ?_
  refine go_icmp_ge (q := 13) (q' := 39) X0 hx (hb hby d4_10) rfl (by decide) rfl (fun hc10 => ?_) (fun hc10 => ?_)
  · exact absurd (by decide) hc10
  · refine go_dload (q := 15) X0 hx (hb hby d4_13) rfl rfl ?_
    refine go_aloadN (q := 16) X0 hx (hb hby d4_15) rfl rfl rfl ?_
    refine go_iloadN (q := 17) X0 hx (hb hby d4_16) rfl rfl ?_
    refine go_iload (q := 19) X0 hx (hb hby d4_17) rfl rfl ?_
    refine go_iadd (q := 20) (v := (fx + (0 : Int32))) X0 hx (hb hby d4_19) rfl rfl ?_
    refine go_faload (q := 21) (v := (.float (FP.i2f (sel4 x0 x1 x2 x3 (fx + (0 : Int32)))))) X0 hx hZ e0 V_ax rx0 (own_selF rx0) (hb hby d4_20) rfl ?_
    refine go_f2dB (q := 22) X0 hx (hb hby d4_21) rfl (own_f2d (bx _)) (fun z1 hz1 => ?_)
    refine go_aloadN (q := 23) X0 hx (hb hby d4_22) rfl rfl rfl ?_
    refine go_iloadN (q := 24) X0 hx (hb hby d4_23) rfl rfl ?_
    refine go_iload (q := 26) X0 hx (hb hby d4_24) rfl rfl ?_
    refine go_iadd (q := 27) (v := (fy + (0 : Int32))) X0 hx (hb hby d4_26) rfl rfl ?_
    refine go_faload (q := 28) (v := (.float (FP.i2f (sel4 y0 y1 y2 y3 (fy + (0 : Int32)))))) X0 hx hZ e0 V_ay ry0 (own_selF ry0) (hb hby d4_27) rfl ?_
    refine go_f2dB (q := 29) X0 hx (hb hby d4_28) rfl (own_f2d (by_ _)) (fun z2 hz2 => ?_)
    refine go_dmulB (q := 30) (kk := 0) (C := 70368744177664) X0 hx (hb hby d4_29) rfl hz1 hz2 (by decide) (by decide) (by decide) rfl rfl (fun z3 hz3 => ?_)
    refine go_daddB (q := 31) (C := 70368744177664) X0 hx (hb hby d4_30) rfl db_c0 hz3 (by decide) (by decide) (by decide) rfl (fun z4 hz4 => ?_)
    refine go_dstore (q := 33) (l' := #[.val (.ref ax), .val (.int fx), .val (.ref ay), .val (.int fy), .val (.int (2 : Int32)), .val (.double z4), .second, .val (.int (0 : Int32))]) X0 hx (hb hby d4_31) rfl rfl ?_
    refine go_iinc (q := 36) (l' := #[.val (.ref ax), .val (.int fx), .val (.ref ay), .val (.int fy), .val (.int (2 : Int32)), .val (.double z4), .second, .val (.int (1 : Int32))]) X0 hx (hb hby d4_33) rfl rfl rfl ?_
    refine go_goto (q := 6) X0 hx (hb hby d4_36) (by decide) rfl ?_
    refine go_iload (q := 8) X0 hx (hb hby d4_6) rfl rfl ?_
    refine go_iload (q := 10) X0 hx (hb hby d4_8) rfl rfl ?_
    refine go_icmp_ge (q := 13) (q' := 39) X0 hx (hb hby d4_10) rfl (by decide) rfl (fun hc10 => ?_) (fun hc10 => ?_)
    · exact absurd (by decide) hc10
    · refine go_dload (q := 15) X0 hx (hb hby d4_13) rfl rfl ?_
      refine go_aloadN (q := 16) X0 hx (hb hby d4_15) rfl rfl rfl ?_
      refine go_iloadN (q := 17) X0 hx (hb hby d4_16) rfl rfl ?_
      refine go_iload (q := 19) X0 hx (hb hby d4_17) rfl rfl ?_
      refine go_iadd (q := 20) (v := (fx + (1 : Int32))) X0 hx (hb hby d4_19) rfl rfl ?_
      refine go_faload (q := 21) (v := (.float (FP.i2f (sel4 x0 x1 x2 x3 (fx + (1 : Int32)))))) X0 hx hZ e0 V_ax rx1 (own_selF rx1) (hb hby d4_20) rfl ?_
      refine go_f2dB (q := 22) X0 hx (hb hby d4_21) rfl (own_f2d (bx _)) (fun z5 hz5 => ?_)
      refine go_aloadN (q := 23) X0 hx (hb hby d4_22) rfl rfl rfl ?_
      refine go_iloadN (q := 24) X0 hx (hb hby d4_23) rfl rfl ?_
      refine go_iload (q := 26) X0 hx (hb hby d4_24) rfl rfl ?_
      refine go_iadd (q := 27) (v := (fy + (1 : Int32))) X0 hx (hb hby d4_26) rfl rfl ?_
      refine go_faload (q := 28) (v := (.float (FP.i2f (sel4 y0 y1 y2 y3 (fy + (1 : Int32)))))) X0 hx hZ e0 V_ay ry1 (own_selF ry1) (hb hby d4_27) rfl ?_
      refine go_f2dB (q := 29) X0 hx (hb hby d4_28) rfl (own_f2d (by_ _)) (fun z6 hz6 => ?_)
      refine go_dmulB (q := 30) (kk := 0) (C := 70368744177664) X0 hx (hb hby d4_29) rfl hz5 hz6 (by decide) (by decide) (by decide) rfl rfl (fun z7 hz7 => ?_)
      refine go_daddB (q := 31) (C := 140737488355328) X0 hx (hb hby d4_30) rfl hz4 hz7 (by decide) (by decide) (by decide) rfl (fun z8 hz8 => ?_)
      refine go_dstore (q := 33) (l' := #[.val (.ref ax), .val (.int fx), .val (.ref ay), .val (.int fy), .val (.int (2 : Int32)), .val (.double z8), .second, .val (.int (1 : Int32))]) X0 hx (hb hby d4_31) rfl rfl ?_
      refine go_iinc (q := 36) (l' := #[.val (.ref ax), .val (.int fx), .val (.ref ay), .val (.int fy), .val (.int (2 : Int32)), .val (.double z8), .second, .val (.int (2 : Int32))]) X0 hx (hb hby d4_33) rfl rfl rfl ?_
      refine go_goto (q := 6) X0 hx (hb hby d4_36) (by decide) rfl ?_
      refine go_iload (q := 8) X0 hx (hb hby d4_6) rfl rfl ?_
      refine go_iload (q := 10) X0 hx (hb hby d4_8) rfl rfl ?_
      refine go_icmp_ge (q := 13) (q' := 39) X0 hx (hb hby d4_10) rfl (by decide) rfl (fun hc10 => ?_) (fun hc10 => ?_)
      · refine go_dload (q := 41) X0 hx (hb hby d4_39) rfl rfl ?_
        exact go_retD X0 hx hret hlk (hb hby d4_41) (by decide) (by decide) ⟨fun _ => Fr.nil _, ⟨_, rfl, hz8⟩, e0⟩
      · exact absurd hc10 (by decide)
set_option maxRecDepth 65536 in
set_option maxHeartbeats 40000000 in
theorem rm4_3 (l : Launch) (Z : State) (a0 : Array Value) (hw : ∀ d ∈ tables_1, d.before a0 Z = true) (ws : List Jvm.Cond) (ax : Addr) (fx : Int32) (ay : Addr) (fy : Int32) (kx ky : ClassId) (dx dy : Value) (x0 x1 x2 x3 y0 y1 y2 y3 : Int32) (h0 : Heap) (V_ax : Arv Z h0 ax kx .float (4 : Int32) [.float (FP.i2f x0), .float (FP.i2f x1), .float (FP.i2f x2), .float (FP.i2f x3)] dx) (V_ay : Arv Z h0 ay ky .float (4 : Int32) [.float (FP.i2f y0), .float (FP.i2f y1), .float (FP.i2f y2), .float (FP.i2f y3)] dy) (bx : ∀ j, (sel4 x0 x1 x2 x3 j).toInt.natAbs ≤ 8388608) (by_ : ∀ j, (sel4 y0 y1 y2 y3 j).toInt.natAbs ≤ 8388608) (rx0 : ¬ fx + (0 : Int32) < 0 ∧ fx + (0 : Int32) < 4) (ry0 : ¬ fy + (0 : Int32) < 0 ∧ fy + (0 : Int32) < 4) (rx1 : ¬ fx + (1 : Int32) < 0 ∧ fx + (1 : Int32) < 4) (ry1 : ¬ fy + (1 : Int32) < 0 ∧ fy + (1 : Int32) < 4) (rx2 : ¬ fx + (2 : Int32) < 0 ∧ fx + (2 : Int32) < 4) (ry2 : ¬ fy + (2 : Int32) < 0 ∧ fy + (2 : Int32) < 4) :
    Con l (⟨"nearfield/vectors/FloatProducts", "dotProduct", "([FI[FII)D"⟩ : MethodName) prog_164_method_2_code 8 (some .double) ws ({ frames := 0, cells := 0, slots := 0, locals := 0 } : Room) Z #[(.ref ax), (.int fx), (.ref ay), (.int fy), (.int (3 : Int32))] h0 (fun v h L => (∀ n, Fr n L) ∧ (∃ r : UInt64, v = some (.double r) ∧ DB 0 211106232532992 (((0 + (sel4 x0 x1 x2 x3 (fx + (0 : Int32))).toInt * (sel4 y0 y1 y2 y3 (fy + (0 : Int32))).toInt) + (sel4 x0 x1 x2 x3 (fx + (1 : Int32))).toInt * (sel4 y0 y1 y2 y3 (fy + (1 : Int32))).toInt) + (sel4 x0 x1 x2 x3 (fx + (2 : Int32))).toInt * (sel4 y0 y1 y2 y3 (fy + (2 : Int32))).toInt) r) ∧ h = h0) := by
  refine con_of (plainFor_of_name pn_4) ?_
  intro p e s m below meth c s₁ X0 hx hby hml hret hlk hown hnm hZ e0
  refine Go.cast (ef_4 m ax fx ay fy (3 : Int32)) ?_
  refine go_dconst0 (q := 1) (v := (0 : UInt64)) X0 hx (hb hby d4_0) rfl rfl ?_
  refine go_dstore (q := 3) (l' := #[.val (.ref ax), .val (.int fx), .val (.ref ay), .val (.int fy), .val (.int (3 : Int32)), .val (.double (0 : UInt64)), .second, .unset]) X0 hx (hb hby d4_1) rfl rfl ?_
  refine go_iconst (q := 4) (v := (0 : Int32)) X0 hx (hb hby d4_3) rfl rfl ?_
  refine go_istore (q := 6) (l' := #[.val (.ref ax), .val (.int fx), .val (.ref ay), .val (.int fy), .val (.int (3 : Int32)), .val (.double (0 : UInt64)), .second, .val (.int (0 : Int32))]) X0 hx (hb hby d4_4) rfl rfl ?_
  refine go_iload (q := 8) X0 hx (hb hby d4_6) rfl rfl ?_
  refine go_iload (q := 10) X0 hx (hb hby d4_8) rfl rfl ?_
  refine go_icmp_ge (q := 13) (q' := 39) X0 hx (hb hby d4_10) rfl (by decide) rfl (fun hc10 => ?_) (fun hc10 => ?_)
  · exact absurd (by decide) hc10
  · refine go_dload (q := 15) X0 hx (hb hby d4_13) rfl rfl ?_
    refine go_aloadN (q := 16) X0 hx (hb hby d4_15) rfl rfl rfl ?_
    refine go_iloadN (q := 17) X0 hx (hb hby d4_16) rfl rfl ?_
    refine go_iload (q := 19) X0 hx (hb hby d4_17) rfl rfl ?_
    refine go_iadd (q := 20) (v := (fx + (0 : Int32))) X0 hx (hb hby d4_19) rfl rfl ?_
    refine go_faload (q := 21) (v := (.float (FP.i2f (sel4 x0 x1 x2 x3 (fx + (0 : Int32)))))) X0 hx hZ e0 V_ax rx0 (own_selF rx0) (hb hby d4_20) rfl ?_
    refine go_f2dB (q := 22) X0 hx (hb hby d4_21) rfl (own_f2d (bx _)) (fun z1 hz1 => ?_)
    refine go_aloadN (q := 23) X0 hx (hb hby d4_22) rfl rfl rfl ?_
    refine go_iloadN (q := 24) X0 hx (hb hby d4_23) rfl rfl ?_
    refine go_iload (q := 26) X0 hx (hb hby d4_24) rfl rfl ?_
    refine go_iadd (q := 27) (v := (fy + (0 : Int32))) X0 hx (hb hby d4_26) rfl rfl ?_
    refine go_faload (q := 28) (v := (.float (FP.i2f (sel4 y0 y1 y2 y3 (fy + (0 : Int32)))))) X0 hx hZ e0 V_ay ry0 (own_selF ry0) (hb hby d4_27) rfl ?_
    refine go_f2dB (q := 29) X0 hx (hb hby d4_28) rfl (own_f2d (by_ _)) (fun z2 hz2 => ?_)
    refine go_dmulB (q := 30) (kk := 0) (C := 70368744177664) X0 hx (hb hby d4_29) rfl hz1 hz2 (by decide) (by decide) (by decide) rfl rfl (fun z3 hz3 => ?_)
    refine go_daddB (q := 31) (C := 70368744177664) X0 hx (hb hby d4_30) rfl db_c0 hz3 (by decide) (by decide) (by decide) rfl (fun z4 hz4 => ?_)
    refine go_dstore (q := 33) (l' := #[.val (.ref ax), .val (.int fx), .val (.ref ay), .val (.int fy), .val (.int (3 : Int32)), .val (.double z4), .second, .val (.int (0 : Int32))]) X0 hx (hb hby d4_31) rfl rfl ?_
    refine go_iinc (q := 36) (l' := #[.val (.ref ax), .val (.int fx), .val (.ref ay), .val (.int fy), .val (.int (3 : Int32)), .val (.double z4), .second, .val (.int (1 : Int32))]) X0 hx (hb hby d4_33) rfl rfl rfl ?_
    refine go_goto (q := 6) X0 hx (hb hby d4_36) (by decide) rfl ?_
    refine go_iload (q := 8) X0 hx (hb hby d4_6) rfl rfl ?_
    refine go_iload (q := 10) X0 hx (hb hby d4_8) rfl rfl ?_
    refine go_icmp_ge (q := 13) (q' := 39) X0 hx (hb hby d4_10) rfl (by decide) rfl (fun hc10 => ?_) (fun hc10 => ?_)
    · exact absurd (by decide) hc10
    · refine go_dload (q := 15) X0 hx (hb hby d4_13) rfl rfl ?_
      refine go_aloadN (q := 16) X0 hx (hb hby d4_15) rfl rfl rfl ?_
      refine go_iloadN (q := 17) X0 hx (hb hby d4_16) rfl rfl ?_
      refine go_iload (q := 19) X0 hx (hb hby d4_17) rfl rfl ?_
      refine go_iadd (q := 20) (v := (fx + (1 : Int32))) X0 hx (hb hby d4_19) rfl rfl ?_
      refine go_faload (q := 21) (v := (.float (FP.i2f (sel4 x0 x1 x2 x3 (fx + (1 : Int32)))))) X0 hx hZ e0 V_ax rx1 (own_selF rx1) (hb hby d4_20) rfl ?_
      refine go_f2dB (q := 22) X0 hx (hb hby d4_21) rfl (own_f2d (bx _)) (fun z5 hz5 => ?_)
      refine go_aloadN (q := 23) X0 hx (hb hby d4_22) rfl rfl rfl ?_
      refine go_iloadN (q := 24) X0 hx (hb hby d4_23) rfl rfl ?_
      refine go_iload (q := 26) X0 hx (hb hby d4_24) rfl rfl ?_
      refine go_iadd (q := 27) (v := (fy + (1 : Int32))) X0 hx (hb hby d4_26) rfl rfl ?_
      refine go_faload (q := 28) (v := (.float (FP.i2f (sel4 y0 y1 y2 y3 (fy + (1 : Int32)))))) X0 hx hZ e0 V_ay ry1 (own_selF ry1) (hb hby d4_27) rfl ?_
      refine go_f2dB (q := 29) X0 hx (hb hby d4_28) rfl (own_f2d (by_ _)) (fun z6 hz6 => ?_)
      refine go_dmulB (q := 30) (kk := 0) (C := 70368744177664) X0 hx (hb hby d4_29) rfl hz5 hz6 (by decide) (by decide) (by decide) rfl rfl (fun z7 hz7 => ?_)
      refine go_daddB (q := 31) (C := 140737488355328) X0 hx (hb hby d4_30) rfl hz4 hz7 (by decide) (by decide) (by decide) rfl (fun z8 hz8 => ?_)
      refine go_dstore (q := 33) (l' := #[.val (.ref ax), .val (.int fx), .val (.ref ay), .val (.int fy), .val (.int (3 : Int32)), .val (.double z8), .second, .val (.int (1 : Int32))]) X0 hx (hb hby d4_31) rfl rfl ?_
      refine go_iinc (q := 36) (l' := #[.val (.ref ax), .val (.int fx), .val (.ref ay), .val (.int fy), .val (.int (3 : Int32)), .val (.double z8), .second, .val (.int (2 : Int32))]) X0 hx (hb hby d4_33) rfl rfl rfl ?_
      refine go_goto (q := 6) X0 hx (hb hby d4_36) (by decide) rfl ?_
      refine go_iload (q := 8) X0 hx (hb hby d4_6) rfl rfl ?_
      refine go_iload (q := 10) X0 hx (hb hby d4_8) rfl rfl ?_
      refine go_icmp_ge (q := 13) (q' := 39) X0 hx (hb hby d4_10) rfl (by decide) rfl (fun hc10 => ?_) (fun hc10 => ?_)
      · exact absurd (by decide) hc10
      · refine go_dload (q := 15) X0 hx (hb hby d4_13) rfl rfl ?_
        refine go_aloadN (q := 16) X0 hx (hb hby d4_15) rfl rfl rfl ?_
        refine go_iloadN (q := 17) X0 hx (hb hby d4_16) rfl rfl ?_
        refine go_iload (q := 19) X0 hx (hb hby d4_17) rfl rfl ?_
        refine go_iadd (q := 20) (v := (fx + (2 : Int32))) X0 hx (hb hby d4_19) rfl rfl ?_
        refine go_faload (q := 21) (v := (.float (FP.i2f (sel4 x0 x1 x2 x3 (fx + (2 : Int32)))))) X0 hx hZ e0 V_ax rx2 (own_selF rx2) (hb hby d4_20) rfl ?_
        refine go_f2dB (q := 22) X0 hx (hb hby d4_21) rfl (own_f2d (bx _)) (fun z9 hz9 => ?_)
        refine go_aloadN (q := 23) X0 hx (hb hby d4_22) rfl rfl rfl ?_
        refine go_iloadN (q := 24) X0 hx (hb hby d4_23) rfl rfl ?_
        refine go_iload (q := 26) X0 hx (hb hby d4_24) rfl rfl ?_
        refine go_iadd (q := 27) (v := (fy + (2 : Int32))) X0 hx (hb hby d4_26) rfl rfl ?_
        refine go_faload (q := 28) (v := (.float (FP.i2f (sel4 y0 y1 y2 y3 (fy + (2 : Int32)))))) X0 hx hZ e0 V_ay ry2 (own_selF ry2) (hb hby d4_27) rfl ?_
        refine go_f2dB (q := 29) X0 hx (hb hby d4_28) rfl (own_f2d (by_ _)) (fun z10 hz10 => ?_)
        refine go_dmulB (q := 30) (kk := 0) (C := 70368744177664) X0 hx (hb hby d4_29) rfl hz9 hz10 (by decide) (by decide) (by decide) rfl rfl (fun z11 hz11 => ?_)
        refine go_daddB (q := 31) (C := 211106232532992) X0 hx (hb hby d4_30) rfl hz8 hz11 (by decide) (by decide) (by decide) rfl (fun z12 hz12 => ?_)
        refine go_dstore (q := 33) (l' := #[.val (.ref ax), .val (.int fx), .val (.ref ay), .val (.int fy), .val (.int (3 : Int32)), .val (.double z12), .second, .val (.int (2 : Int32))]) X0 hx (hb hby d4_31) rfl rfl ?_
        refine go_iinc (q := 36) (l' := #[.val (.ref ax), .val (.int fx), .val (.ref ay), .val (.int fy), .val (.int (3 : Int32)), .val (.double z12), .second, .val (.int (3 : Int32))]) X0 hx (hb hby d4_33) rfl rfl rfl ?_
        refine go_goto (q := 6) X0 hx (hb hby d4_36) (by decide) rfl ?_
        refine go_iload (q := 8) X0 hx (hb hby d4_6) rfl rfl ?_
        refine go_iload (q := 10) X0 hx (hb hby d4_8) rfl rfl ?_
        refine go_icmp_ge (q := 13) (q' := 39) X0 hx (hb hby d4_10) rfl (by decide) rfl (fun hc10 => ?_) (fun hc10 => ?_)
        · refine go_dload (q := 41) X0 hx (hb hby d4_39) rfl rfl ?_
          exact go_retD X0 hx hret hlk (hb hby d4_41) (by decide) (by decide) ⟨fun _ => Fr.nil _, ⟨_, rfl, hz12⟩, e0⟩
        · exact absurd hc10 (by decide)
set_option maxRecDepth 65536 in
set_option maxHeartbeats 40000000 in
theorem rm4_4 (l : Launch) (Z : State) (a0 : Array Value) (hw : ∀ d ∈ tables_1, d.before a0 Z = true) (ws : List Jvm.Cond) (ax : Addr) (fx : Int32) (ay : Addr) (fy : Int32) (kx ky : ClassId) (dx dy : Value) (x0 x1 x2 x3 y0 y1 y2 y3 : Int32) (h0 : Heap) (V_ax : Arv Z h0 ax kx .float (4 : Int32) [.float (FP.i2f x0), .float (FP.i2f x1), .float (FP.i2f x2), .float (FP.i2f x3)] dx) (V_ay : Arv Z h0 ay ky .float (4 : Int32) [.float (FP.i2f y0), .float (FP.i2f y1), .float (FP.i2f y2), .float (FP.i2f y3)] dy) (bx : ∀ j, (sel4 x0 x1 x2 x3 j).toInt.natAbs ≤ 8388608) (by_ : ∀ j, (sel4 y0 y1 y2 y3 j).toInt.natAbs ≤ 8388608) (rx0 : ¬ fx + (0 : Int32) < 0 ∧ fx + (0 : Int32) < 4) (ry0 : ¬ fy + (0 : Int32) < 0 ∧ fy + (0 : Int32) < 4) (rx1 : ¬ fx + (1 : Int32) < 0 ∧ fx + (1 : Int32) < 4) (ry1 : ¬ fy + (1 : Int32) < 0 ∧ fy + (1 : Int32) < 4) (rx2 : ¬ fx + (2 : Int32) < 0 ∧ fx + (2 : Int32) < 4) (ry2 : ¬ fy + (2 : Int32) < 0 ∧ fy + (2 : Int32) < 4) (rx3 : ¬ fx + (3 : Int32) < 0 ∧ fx + (3 : Int32) < 4) (ry3 : ¬ fy + (3 : Int32) < 0 ∧ fy + (3 : Int32) < 4) :
    Con l (⟨"nearfield/vectors/FloatProducts", "dotProduct", "([FI[FII)D"⟩ : MethodName) prog_164_method_2_code 8 (some .double) ws ({ frames := 0, cells := 0, slots := 0, locals := 0 } : Room) Z #[(.ref ax), (.int fx), (.ref ay), (.int fy), (.int (4 : Int32))] h0 (fun v h L => (∀ n, Fr n L) ∧ (∃ r : UInt64, v = some (.double r) ∧ DB 0 281474976710656 ((((0 + (sel4 x0 x1 x2 x3 (fx + (0 : Int32))).toInt * (sel4 y0 y1 y2 y3 (fy + (0 : Int32))).toInt) + (sel4 x0 x1 x2 x3 (fx + (1 : Int32))).toInt * (sel4 y0 y1 y2 y3 (fy + (1 : Int32))).toInt) + (sel4 x0 x1 x2 x3 (fx + (2 : Int32))).toInt * (sel4 y0 y1 y2 y3 (fy + (2 : Int32))).toInt) + (sel4 x0 x1 x2 x3 (fx + (3 : Int32))).toInt * (sel4 y0 y1 y2 y3 (fy + (3 : Int32))).toInt) r) ∧ h = h0) := by
  refine con_of (plainFor_of_name pn_4) ?_
  intro p e s m below meth c s₁ X0 hx hby hml hret hlk hown hnm hZ e0
  refine Go.cast (ef_4 m ax fx ay fy (4 : Int32)) ?_
  refine go_dconst0 (q := 1) (v := (0 : UInt64)) X0 hx (hb hby d4_0) rfl rfl ?_
  refine go_dstore (q := 3) (l' := #[.val (.ref ax), .val (.int fx), .val (.ref ay), .val (.int fy), .val (.int (4 : Int32)), .val (.double (0 : UInt64)), .second, .unset]) X0 hx (hb hby d4_1) rfl rfl ?_
  refine go_iconst (q := 4) (v := (0 : Int32)) X0 hx (hb hby d4_3) rfl rfl ?_
  refine go_istore (q := 6) (l' := #[.val (.ref ax), .val (.int fx), .val (.ref ay), .val (.int fy), .val (.int (4 : Int32)), .val (.double (0 : UInt64)), .second, .val (.int (0 : Int32))]) X0 hx (hb hby d4_4) rfl rfl ?_
  refine go_iload (q := 8) X0 hx (hb hby d4_6) rfl rfl ?_
  refine go_iload (q := 10) X0 hx (hb hby d4_8) rfl rfl ?_
  refine go_icmp_ge (q := 13) (q' := 39) X0 hx (hb hby d4_10) rfl (by decide) rfl (fun hc10 => ?_) (fun hc10 => ?_)
  · exact absurd (by decide) hc10
  · refine go_dload (q := 15) X0 hx (hb hby d4_13) rfl rfl ?_
    refine go_aloadN (q := 16) X0 hx (hb hby d4_15) rfl rfl rfl ?_
    refine go_iloadN (q := 17) X0 hx (hb hby d4_16) rfl rfl ?_
    refine go_iload (q := 19) X0 hx (hb hby d4_17) rfl rfl ?_
    refine go_iadd (q := 20) (v := (fx + (0 : Int32))) X0 hx (hb hby d4_19) rfl rfl ?_
    refine go_faload (q := 21) (v := (.float (FP.i2f (sel4 x0 x1 x2 x3 (fx + (0 : Int32)))))) X0 hx hZ e0 V_ax rx0 (own_selF rx0) (hb hby d4_20) rfl ?_
    refine go_f2dB (q := 22) X0 hx (hb hby d4_21) rfl (own_f2d (bx _)) (fun z1 hz1 => ?_)
    refine go_aloadN (q := 23) X0 hx (hb hby d4_22) rfl rfl rfl ?_
    refine go_iloadN (q := 24) X0 hx (hb hby d4_23) rfl rfl ?_
    refine go_iload (q := 26) X0 hx (hb hby d4_24) rfl rfl ?_
    refine go_iadd (q := 27) (v := (fy + (0 : Int32))) X0 hx (hb hby d4_26) rfl rfl ?_
    refine go_faload (q := 28) (v := (.float (FP.i2f (sel4 y0 y1 y2 y3 (fy + (0 : Int32)))))) X0 hx hZ e0 V_ay ry0 (own_selF ry0) (hb hby d4_27) rfl ?_
    refine go_f2dB (q := 29) X0 hx (hb hby d4_28) rfl (own_f2d (by_ _)) (fun z2 hz2 => ?_)
    refine go_dmulB (q := 30) (kk := 0) (C := 70368744177664) X0 hx (hb hby d4_29) rfl hz1 hz2 (by decide) (by decide) (by decide) rfl rfl (fun z3 hz3 => ?_)
    refine go_daddB (q := 31) (C := 70368744177664) X0 hx (hb hby d4_30) rfl db_c0 hz3 (by decide) (by decide) (by decide) rfl (fun z4 hz4 => ?_)
    refine go_dstore (q := 33) (l' := #[.val (.ref ax), .val (.int fx), .val (.ref ay), .val (.int fy), .val (.int (4 : Int32)), .val (.double z4), .second, .val (.int (0 : Int32))]) X0 hx (hb hby d4_31) rfl rfl ?_
    refine go_iinc (q := 36) (l' := #[.val (.ref ax), .val (.int fx), .val (.ref ay), .val (.int fy), .val (.int (4 : Int32)), .val (.double z4), .second, .val (.int (1 : Int32))]) X0 hx (hb hby d4_33) rfl rfl rfl ?_
    refine go_goto (q := 6) X0 hx (hb hby d4_36) (by decide) rfl ?_
    refine go_iload (q := 8) X0 hx (hb hby d4_6) rfl rfl ?_
    refine go_iload (q := 10) X0 hx (hb hby d4_8) rfl rfl ?_
    refine go_icmp_ge (q := 13) (q' := 39) X0 hx (hb hby d4_10) rfl (by decide) rfl (fun hc10 => ?_) (fun hc10 => ?_)
    · exact absurd (by decide) hc10
    · refine go_dload (q := 15) X0 hx (hb hby d4_13) rfl rfl ?_
      refine go_aloadN (q := 16) X0 hx (hb hby d4_15) rfl rfl rfl ?_
      refine go_iloadN (q := 17) X0 hx (hb hby d4_16) rfl rfl ?_
      refine go_iload (q := 19) X0 hx (hb hby d4_17) rfl rfl ?_
      refine go_iadd (q := 20) (v := (fx + (1 : Int32))) X0 hx (hb hby d4_19) rfl rfl ?_
      refine go_faload (q := 21) (v := (.float (FP.i2f (sel4 x0 x1 x2 x3 (fx + (1 : Int32)))))) X0 hx hZ e0 V_ax rx1 (own_selF rx1) (hb hby d4_20) rfl ?_
      refine go_f2dB (q := 22) X0 hx (hb hby d4_21) rfl (own_f2d (bx _)) (fun z5 hz5 => ?_)
      refine go_aloadN (q := 23) X0 hx (hb hby d4_22) rfl rfl rfl ?_
      refine go_iloadN (q := 24) X0 hx (hb hby d4_23) rfl rfl ?_
      refine go_iload (q := 26) X0 hx (hb hby d4_24) rfl rfl ?_
      refine go_iadd (q := 27) (v := (fy + (1 : Int32))) X0 hx (hb hby d4_26) rfl rfl ?_
      refine go_faload (q := 28) (v := (.float (FP.i2f (sel4 y0 y1 y2 y3 (fy + (1 : Int32)))))) X0 hx hZ e0 V_ay ry1 (own_selF ry1) (hb hby d4_27) rfl ?_
      refine go_f2dB (q := 29) X0 hx (hb hby d4_28) rfl (own_f2d (by_ _)) (fun z6 hz6 => ?_)
      refine go_dmulB (q := 30) (kk := 0) (C := 70368744177664) X0 hx (hb hby d4_29) rfl hz5 hz6 (by decide) (by decide) (by decide) rfl rfl (fun z7 hz7 => ?_)
      refine go_daddB (q := 31) (C := 140737488355328) X0 hx (hb hby d4_30) rfl hz4 hz7 (by decide) (by decide) (by decide) rfl (fun z8 hz8 => ?_)
      refine go_dstore (q := 33) (l' := #[.val (.ref ax), .val (.int fx), .val (.ref ay), .val (.int fy), .val (.int (4 : Int32)), .val (.double z8), .second, .val (.int (1 : Int32))]) X0 hx (hb hby d4_31) rfl rfl ?_
      refine go_iinc (q := 36) (l' := #[.val (.ref ax), .val (.int fx), .val (.ref ay), .val (.int fy), .val (.int (4 : Int32)), .val (.double z8), .second, .val (.int (2 : Int32))]) X0 hx (hb hby d4_33) rfl rfl rfl ?_
      refine go_goto (q := 6) X0 hx (hb hby d4_36) (by decide) rfl ?_
      refine go_iload (q := 8) X0 hx (hb hby d4_6) rfl rfl ?_
      refine go_iload (q := 10) X0 hx (hb hby d4_8) rfl rfl ?_
      refine go_icmp_ge (q := 13) (q' := 39) X0 hx (hb hby d4_10) rfl (by decide) rfl (fun hc10 => ?_) (fun hc10 => ?_)
      · exact absurd (by decide) hc10
      · refine go_dload (q := 15) X0 hx (hb hby d4_13) rfl rfl ?_
        refine go_aloadN (q := 16) X0 hx (hb hby d4_15) rfl rfl rfl ?_
        refine go_iloadN (q := 17) X0 hx (hb hby d4_16) rfl rfl ?_
        refine go_iload (q := 19) X0 hx (hb hby d4_17) rfl rfl ?_
        refine go_iadd (q := 20) (v := (fx + (2 : Int32))) X0 hx (hb hby d4_19) rfl rfl ?_
        refine go_faload (q := 21) (v := (.float (FP.i2f (sel4 x0 x1 x2 x3 (fx + (2 : Int32)))))) X0 hx hZ e0 V_ax rx2 (own_selF rx2) (hb hby d4_20) rfl ?_
        refine go_f2dB (q := 22) X0 hx (hb hby d4_21) rfl (own_f2d (bx _)) (fun z9 hz9 => ?_)
        refine go_aloadN (q := 23) X0 hx (hb hby d4_22) rfl rfl rfl ?_
        refine go_iloadN (q := 24) X0 hx (hb hby d4_23) rfl rfl ?_
        refine go_iload (q := 26) X0 hx (hb hby d4_24) rfl rfl ?_
        refine go_iadd (q := 27) (v := (fy + (2 : Int32))) X0 hx (hb hby d4_26) rfl rfl ?_
        refine go_faload (q := 28) (v := (.float (FP.i2f (sel4 y0 y1 y2 y3 (fy + (2 : Int32)))))) X0 hx hZ e0 V_ay ry2 (own_selF ry2) (hb hby d4_27) rfl ?_
        refine go_f2dB (q := 29) X0 hx (hb hby d4_28) rfl (own_f2d (by_ _)) (fun z10 hz10 => ?_)
        refine go_dmulB (q := 30) (kk := 0) (C := 70368744177664) X0 hx (hb hby d4_29) rfl hz9 hz10 (by decide) (by decide) (by decide) rfl rfl (fun z11 hz11 => ?_)
        refine go_daddB (q := 31) (C := 211106232532992) X0 hx (hb hby d4_30) rfl hz8 hz11 (by decide) (by decide) (by decide) rfl (fun z12 hz12 => ?_)
        refine go_dstore (q := 33) (l' := #[.val (.ref ax), .val (.int fx), .val (.ref ay), .val (.int fy), .val (.int (4 : Int32)), .val (.double z12), .second, .val (.int (2 : Int32))]) X0 hx (hb hby d4_31) rfl rfl ?_
        refine go_iinc (q := 36) (l' := #[.val (.ref ax), .val (.int fx), .val (.ref ay), .val (.int fy), .val (.int (4 : Int32)), .val (.double z12), .second, .val (.int (3 : Int32))]) X0 hx (hb hby d4_33) rfl rfl rfl ?_
        refine go_goto (q := 6) X0 hx (hb hby d4_36) (by decide) rfl ?_
        refine go_iload (q := 8) X0 hx (hb hby d4_6) rfl rfl ?_
        refine go_iload (q := 10) X0 hx (hb hby d4_8) rfl rfl ?_
        refine go_icmp_ge (q := 13) (q' := 39) X0 hx (hb hby d4_10) rfl (by decide) rfl (fun hc10 => ?_) (fun hc10 => ?_)
        · exact absurd (by decide) hc10
        · refine go_dload (q := 15) X0 hx (hb hby d4_13) rfl rfl ?_
          refine go_aloadN (q := 16) X0 hx (hb hby d4_15) rfl rfl rfl ?_
          refine go_iloadN (q := 17) X0 hx (hb hby d4_16) rfl rfl ?_
          refine go_iload (q := 19) X0 hx (hb hby d4_17) rfl rfl ?_
          refine go_iadd (q := 20) (v := (fx + (3 : Int32))) X0 hx (hb hby d4_19) rfl rfl ?_
          refine go_faload (q := 21) (v := (.float (FP.i2f (sel4 x0 x1 x2 x3 (fx + (3 : Int32)))))) X0 hx hZ e0 V_ax rx3 (own_selF rx3) (hb hby d4_20) rfl ?_
          refine go_f2dB (q := 22) X0 hx (hb hby d4_21) rfl (own_f2d (bx _)) (fun z13 hz13 => ?_)
          refine go_aloadN (q := 23) X0 hx (hb hby d4_22) rfl rfl rfl ?_
          refine go_iloadN (q := 24) X0 hx (hb hby d4_23) rfl rfl ?_
          refine go_iload (q := 26) X0 hx (hb hby d4_24) rfl rfl ?_
          refine go_iadd (q := 27) (v := (fy + (3 : Int32))) X0 hx (hb hby d4_26) rfl rfl ?_
          refine go_faload (q := 28) (v := (.float (FP.i2f (sel4 y0 y1 y2 y3 (fy + (3 : Int32)))))) X0 hx hZ e0 V_ay ry3 (own_selF ry3) (hb hby d4_27) rfl ?_
          refine go_f2dB (q := 29) X0 hx (hb hby d4_28) rfl (own_f2d (by_ _)) (fun z14 hz14 => ?_)
          refine go_dmulB (q := 30) (kk := 0) (C := 70368744177664) X0 hx (hb hby d4_29) rfl hz13 hz14 (by decide) (by decide) (by decide) rfl rfl (fun z15 hz15 => ?_)
          refine go_daddB (q := 31) (C := 281474976710656) X0 hx (hb hby d4_30) rfl hz12 hz15 (by decide) (by decide) (by decide) rfl (fun z16 hz16 => ?_)
          refine go_dstore (q := 33) (l' := #[.val (.ref ax), .val (.int fx), .val (.ref ay), .val (.int fy), .val (.int (4 : Int32)), .val (.double z16), .second, .val (.int (3 : Int32))]) X0 hx (hb hby d4_31) rfl rfl ?_
          refine go_iinc (q := 36) (l' := #[.val (.ref ax), .val (.int fx), .val (.ref ay), .val (.int fy), .val (.int (4 : Int32)), .val (.double z16), .second, .val (.int (4 : Int32))]) X0 hx (hb hby d4_33) rfl rfl rfl ?_
          refine go_goto (q := 6) X0 hx (hb hby d4_36) (by decide) rfl ?_
          refine go_iload (q := 8) X0 hx (hb hby d4_6) rfl rfl ?_
          refine go_iload (q := 10) X0 hx (hb hby d4_8) rfl rfl ?_
          refine go_icmp_ge (q := 13) (q' := 39) X0 hx (hb hby d4_10) rfl (by decide) rfl (fun hc10 => ?_) (fun hc10 => ?_)
          · refine go_dload (q := 41) X0 hx (hb hby d4_39) rfl rfl ?_
            exact go_retD X0 hx hret hlk (hb hby d4_41) (by decide) (by decide) ⟨fun _ => Fr.nil _, ⟨_, rfl, hz16⟩, e0⟩
          · exact absurd hc10 (by decide)
theorem pn_0 : plainName "nearfield/vectors/FloatProductsDotProductPinLaw" = true := by first | (simp [plainName, overriddenIn]; done) | decide +kernel
theorem ef_0 (m : MethodId) (x0 : Int64) (x1 : Int64) (x2 : Int64) (x3 : Int64) (x4 : Int32) : entryFrame m #[(.long x0), (.long x1), (.long x2), (.long x3), (.int x4)] maxLocals = mkF m 0 #[.val (.long x0), .second, .val (.long x1), .second, .val (.long x2), .second, .val (.long x3), .second, .val (.int x4), .unset, .unset, .unset, .unset, .unset, .unset, .unset, .unset, .unset, .unset, .unset, .unset] [] := by first | (simp [entryFrame, mkF, argsToLocals, Value.category, maxLocals]; done) | rfl
set_option maxRecDepth 65536 in
set_option maxHeartbeats 40000000 in
theorem rm0 (l : Launch) (Z : State) (a0 : Array Value) (hw : ∀ d ∈ tables_1, d.before a0 Z = true) (ws : List Jvm.Cond) (xa : Int64) (xb : Int64) (ya : Int64) (yb : Int64) (shape : Int32)  (h0 : Heap)  :
    Con l x code maxLocals ret ws room_1 Z #[(.long xa), (.long xb), (.long ya), (.long yb), (.int shape)] h0 (fun v h L => v = some (.int (1 : Int32)) ∧ Fr h0.size L) := by
  refine con_of (plainFor_of_name pn_0) ?_
  intro p e s m below meth c s₁ X0 hx hby hml hret hlk hown hnm hZ e0
  refine Go.cast (ef_0 m xa xb ya yb shape) ?_
  have N0 := Fr.nil h0.size
  have hsz : h0.size ≤ h0.size := (Nat.le_refl _)
  refine go_iconst (q := 1) (v := (4 : Int32)) X0 hx (hb hby at_0) rfl rfl ?_
  refine go_newP (q := 3) X0 hx hZ (hw _ (List.mem_of_getElem? (i := 0) rfl)) e0 (hb hby at_1) rfl (by decide) 4 (by decide) (by decide) (by decide) (by decide) (fun T1 h1 k_bx bx eb1 X1 e1 E1 V_bx => ?_)
  have g_bx : h0.size ≤ bx := Nat.le_trans hsz (Nat.le_of_eq eb1.symm)
  replace hsz := Nat.le_trans hsz E1.1
  replace V_bx : Arv Z h1 bx k_bx .int (4 : Int32) [(.int (0 : Int32)), (.int (0 : Int32)), (.int (0 : Int32)), (.int (0 : Int32))] (.int (0 : Int32)) := V_bx.pad (pad_rep [] (.int (0 : Int32)) 4)
  refine go_astore (q := 5) (l' := #[.val (.long xa), .second, .val (.long xb), .second, .val (.long ya), .second, .val (.long yb), .second, .val (.int shape), .val (.ref bx), .unset, .unset, .unset, .unset, .unset, .unset, .unset, .unset, .unset, .unset, .unset]) X1 hx (hb hby at_3) rfl rfl rfl ?_
  refine go_aload (q := 7) X1 hx (hb hby at_5) rfl rfl rfl ?_
  refine go_iconst (q := 8) (v := (0 : Int32)) X1 hx (hb hby at_7) rfl rfl ?_
  refine go_lloadN (q := 9) X1 hx (hb hby at_8) rfl rfl ?_
  refine go_callS (q := 12) (W := 2) X1 hx hZ hown e1 (hw _ (List.mem_of_getElem? (i := 1) rfl)) (hw _ (List.mem_of_getElem? (i := 2) rfl)) (hw _ (List.mem_of_getElem? (i := 3) rfl)) (hw _ (List.mem_of_getElem? (i := 4) rfl)) (by decide) [(.long xa)] [(.int (0 : Int32)), (.ref bx)] (rm1 l Z a0 hw [] xa h1) (by rw [hml]; rfl) rfl (lenOf pd_0 rfl) (Nat.le_of_eq rfl) (by decide) (by decide) (hb hby at_9) rfl (by decide) (by decide) ?_
  rintro T2 L2 v2 X2 ⟨Np2, ⟨x0, rfl, hx0⟩, e2⟩
  have N2 := Fr.app N0 (Np2 _)
  show Go p e below s (fun v h L => v = some (.int (1 : Int32)) ∧ Fr h0.size L) room_1.cells room_1.slots T2 (mkF m 12 #[.val (.long xa), .second, .val (.long xb), .second, .val (.long ya), .second, .val (.long yb), .second, .val (.int shape), .val (.ref bx), .unset, .unset, .unset, .unset, .unset, .unset, .unset, .unset, .unset, .unset, .unset] [(.int x0), (.int (0 : Int32)), (.ref bx)])
  refine go_iastore (q := 13) X2 hx hZ e2 V_bx ⟨by decide, by decide⟩ 0 rfl (Nat.le_of_ble_eq_true rfl) N2 g_bx (hb hby at_12) rfl (fun T3 h3 l3 X3 N3 e3 W3 V3 => ?_)
  replace hsz := Nat.le_trans hsz (Nat.le_of_eq W3.size.symm)
  replace V_bx : Arv Z h3 bx k_bx .int (4 : Int32) [(.int x0), (.int (0 : Int32)), (.int (0 : Int32)), (.int (0 : Int32))] (.int (0 : Int32)) := V3
  refine go_aload (q := 15) X3 hx (hb hby at_13) rfl rfl rfl ?_
  refine go_iconst (q := 16) (v := (1 : Int32)) X3 hx (hb hby at_15) rfl rfl ?_
  refine go_lloadN (q := 17) X3 hx (hb hby at_16) rfl rfl ?_
  refine go_callS (q := 20) (W := 2) X3 hx hZ hown e3 (hw _ (List.mem_of_getElem? (i := 5) rfl)) (hw _ (List.mem_of_getElem? (i := 6) rfl)) (hw _ (List.mem_of_getElem? (i := 3) rfl)) (hw _ (List.mem_of_getElem? (i := 7) rfl)) (by decide) [(.long xa)] [(.int (1 : Int32)), (.ref bx)] (rm2 l Z a0 hw [] xa h3) (by rw [hml]; rfl) rfl (lenOf pd_0 rfl) (Nat.le_of_eq rfl) (by decide) (by decide) (hb hby at_17) rfl (by decide) (by decide) ?_
  rintro T4 L4 v4 X4 ⟨Np4, ⟨x1, rfl, hx1⟩, e4⟩
  have N4 := Fr.app N3 (Np4 _)
  show Go p e below s (fun v h L => v = some (.int (1 : Int32)) ∧ Fr h0.size L) room_1.cells room_1.slots T4 (mkF m 20 #[.val (.long xa), .second, .val (.long xb), .second, .val (.long ya), .second, .val (.long yb), .second, .val (.int shape), .val (.ref bx), .unset, .unset, .unset, .unset, .unset, .unset, .unset, .unset, .unset, .unset, .unset] [(.int x1), (.int (1 : Int32)), (.ref bx)])
  refine go_iastore (q := 21) X4 hx hZ e4 V_bx ⟨by decide, by decide⟩ 1 rfl (Nat.le_of_ble_eq_true rfl) N4 g_bx (hb hby at_20) rfl (fun T5 h5 l5 X5 N5 e5 W5 V5 => ?_)
  replace hsz := Nat.le_trans hsz (Nat.le_of_eq W5.size.symm)
  replace V_bx : Arv Z h5 bx k_bx .int (4 : Int32) [(.int x0), (.int x1), (.int (0 : Int32)), (.int (0 : Int32))] (.int (0 : Int32)) := V5
  refine go_aload (q := 23) X5 hx (hb hby at_21) rfl rfl rfl ?_
  refine go_iconst (q := 24) (v := (2 : Int32)) X5 hx (hb hby at_23) rfl rfl ?_
  refine go_lloadN (q := 25) X5 hx (hb hby at_24) rfl rfl ?_
  refine go_callS (q := 28) (W := 2) X5 hx hZ hown e5 (hw _ (List.mem_of_getElem? (i := 1) rfl)) (hw _ (List.mem_of_getElem? (i := 2) rfl)) (hw _ (List.mem_of_getElem? (i := 3) rfl)) (hw _ (List.mem_of_getElem? (i := 4) rfl)) (by decide) [(.long xb)] [(.int (2 : Int32)), (.ref bx)] (rm1 l Z a0 hw [] xb h5) (by rw [hml]; rfl) rfl (lenOf pd_0 rfl) (Nat.le_of_eq rfl) (by decide) (by decide) (hb hby at_25) rfl (by decide) (by decide) ?_
  rintro T6 L6 v6 X6 ⟨Np6, ⟨x2, rfl, hx2⟩, e6⟩
  have N6 := Fr.app N5 (Np6 _)
  show Go p e below s (fun v h L => v = some (.int (1 : Int32)) ∧ Fr h0.size L) room_1.cells room_1.slots T6 (mkF m 28 #[.val (.long xa), .second, .val (.long xb), .second, .val (.long ya), .second, .val (.long yb), .second, .val (.int shape), .val (.ref bx), .unset, .unset, .unset, .unset, .unset, .unset, .unset, .unset, .unset, .unset, .unset] [(.int x2), (.int (2 : Int32)), (.ref bx)])
  refine go_iastore (q := 29) X6 hx hZ e6 V_bx ⟨by decide, by decide⟩ 2 rfl (Nat.le_of_ble_eq_true rfl) N6 g_bx (hb hby at_28) rfl (fun T7 h7 l7 X7 N7 e7 W7 V7 => ?_)
  replace hsz := Nat.le_trans hsz (Nat.le_of_eq W7.size.symm)
  replace V_bx : Arv Z h7 bx k_bx .int (4 : Int32) [(.int x0), (.int x1), (.int x2), (.int (0 : Int32))] (.int (0 : Int32)) := V7
  refine go_aload (q := 31) X7 hx (hb hby at_29) rfl rfl rfl ?_
  refine go_iconst (q := 32) (v := (3 : Int32)) X7 hx (hb hby at_31) rfl rfl ?_
  refine go_lloadN (q := 33) X7 hx (hb hby at_32) rfl rfl ?_
  refine go_callS (q := 36) (W := 2) X7 hx hZ hown e7 (hw _ (List.mem_of_getElem? (i := 5) rfl)) (hw _ (List.mem_of_getElem? (i := 6) rfl)) (hw _ (List.mem_of_getElem? (i := 3) rfl)) (hw _ (List.mem_of_getElem? (i := 7) rfl)) (by decide) [(.long xb)] [(.int (3 : Int32)), (.ref bx)] (rm2 l Z a0 hw [] xb h7) (by rw [hml]; rfl) rfl (lenOf pd_0 rfl) (Nat.le_of_eq rfl) (by decide) (by decide) (hb hby at_33) rfl (by decide) (by decide) ?_
  rintro T8 L8 v8 X8 ⟨Np8, ⟨x3, rfl, hx3⟩, e8⟩
  have N8 := Fr.app N7 (Np8 _)
  show Go p e below s (fun v h L => v = some (.int (1 : Int32)) ∧ Fr h0.size L) room_1.cells room_1.slots T8 (mkF m 36 #[.val (.long xa), .second, .val (.long xb), .second, .val (.long ya), .second, .val (.long yb), .second, .val (.int shape), .val (.ref bx), .unset, .unset, .unset, .unset, .unset, .unset, .unset, .unset, .unset, .unset, .unset] [(.int x3), (.int (3 : Int32)), (.ref bx)])
  refine go_iastore (q := 37) X8 hx hZ e8 V_bx ⟨by decide, by decide⟩ 3 rfl (Nat.le_of_ble_eq_true rfl) N8 g_bx (hb hby at_36) rfl (fun T9 h9 l9 X9 N9 e9 W9 V9 => ?_)
  replace hsz := Nat.le_trans hsz (Nat.le_of_eq W9.size.symm)
  replace V_bx : Arv Z h9 bx k_bx .int (4 : Int32) [(.int x0), (.int x1), (.int x2), (.int x3)] (.int (0 : Int32)) := V9
  refine go_iload (q := 39) X9 hx (hb hby at_37) rfl rfl ?_
  refine go_bipush (q := 41) (v := (9 : Int32)) X9 hx (hb hby at_39) rfl rfl ?_
  refine go_iushr (q := 42) (v := ((shape.toUInt32 >>> ((9 : Int32) &&& 31).toUInt32).toInt32)) X9 hx (hb hby at_41) rfl rfl ?_
  refine go_iconst (q := 43) (v := (1 : Int32)) X9 hx (hb hby at_42) rfl rfl ?_
  refine go_iand (q := 44) (v := (((shape.toUInt32 >>> ((9 : Int32) &&& 31).toUInt32).toInt32) &&& (1 : Int32))) X9 hx (hb hby at_43) rfl rfl ?_
  suffices J : ∀ sm : Int32, sm = 0 ∨ sm = 1 → Go p e below s (fun v h L => v = some (.int (1 : Int32)) ∧ Fr h0.size L) room_1.cells room_1.slots T9 (mkF m 54 #[.val (.long xa), .second, .val (.long xb), .second, .val (.long ya), .second, .val (.long yb), .second, .val (.int shape), .val (.ref bx), .val (.int sm), .unset, .unset, .unset, .unset, .unset, .unset, .unset, .unset, .unset, .unset] []) by
    refine go_if_eq (q := 47) (q' := 51) X9 hx (hb hby at_44) rfl (by decide) rfl (fun hc44 => ?_) (fun hc44 => ?_)
    · refine go_iconst (q := 52) (v := (0 : Int32)) X9 hx (hb hby at_51) rfl rfl ?_
      refine go_istore (q := 54) (l' := #[.val (.long xa), .second, .val (.long xb), .second, .val (.long ya), .second, .val (.long yb), .second, .val (.int shape), .val (.ref bx), .val (.int (0 : Int32)), .unset, .unset, .unset, .unset, .unset, .unset, .unset, .unset, .unset, .unset]) X9 hx (hb hby at_52) rfl rfl ?_
      exact J _ (Or.inl rfl)
    · refine go_iconst (q := 48) (v := (1 : Int32)) X9 hx (hb hby at_47) rfl rfl ?_
      refine go_goto (q := 52) X9 hx (hb hby at_48) (by decide) rfl ?_
      refine go_istore (q := 54) (l' := #[.val (.long xa), .second, .val (.long xb), .second, .val (.long ya), .second, .val (.long yb), .second, .val (.int shape), .val (.ref bx), .val (.int (1 : Int32)), .unset, .unset, .unset, .unset, .unset, .unset, .unset, .unset, .unset, .unset]) X9 hx (hb hby at_52) rfl rfl ?_
      exact J _ (Or.inr rfl)
  intro sm hsm
  refine go_iconst (q := 55) (v := (4 : Int32)) X9 hx (hb hby at_54) rfl rfl ?_
  refine go_newP (q := 57) X9 hx hZ (hw _ (List.mem_of_getElem? (i := 0) rfl)) e9 (hb hby at_55) rfl (by decide) 4 (by decide) (by decide) (by decide) (by decide) (fun T10 h10 k_bw bw eb10 X10 e10 E10 V_bw => ?_)
  have g_bw : h0.size ≤ bw := Nat.le_trans hsz (Nat.le_of_eq eb10.symm)
  have ne_bx_bw : bx ≠ bw := Nat.ne_of_lt (Nat.lt_of_lt_of_eq V_bx.lt eb10.symm)
  replace V_bx := V_bx.ext E10
  replace hsz := Nat.le_trans hsz E10.1
  replace V_bw : Arv Z h10 bw k_bw .int (4 : Int32) [(.int (0 : Int32)), (.int (0 : Int32)), (.int (0 : Int32)), (.int (0 : Int32))] (.int (0 : Int32)) := V_bw.pad (pad_rep [] (.int (0 : Int32)) 4)
  refine go_astore (q := 59) (l' := #[.val (.long xa), .second, .val (.long xb), .second, .val (.long ya), .second, .val (.long yb), .second, .val (.int shape), .val (.ref bx), .val (.int sm), .val (.ref bw), .unset, .unset, .unset, .unset, .unset, .unset, .unset, .unset, .unset]) X10 hx (hb hby at_57) rfl rfl rfl ?_
  refine go_aload (q := 61) X10 hx (hb hby at_59) rfl rfl rfl ?_
  refine go_iconst (q := 62) (v := (0 : Int32)) X10 hx (hb hby at_61) rfl rfl ?_
  refine go_lload (q := 64) X10 hx (hb hby at_62) rfl rfl ?_
  refine go_callS (q := 67) (W := 2) X10 hx hZ hown e10 (hw _ (List.mem_of_getElem? (i := 1) rfl)) (hw _ (List.mem_of_getElem? (i := 2) rfl)) (hw _ (List.mem_of_getElem? (i := 3) rfl)) (hw _ (List.mem_of_getElem? (i := 4) rfl)) (by decide) [(.long ya)] [(.int (0 : Int32)), (.ref bw)] (rm1 l Z a0 hw [] ya h10) (by rw [hml]; rfl) rfl (lenOf pd_0 rfl) (Nat.le_of_eq rfl) (by decide) (by decide) (hb hby at_64) rfl (by decide) (by decide) ?_
  rintro T11 L11 v11 X11 ⟨Np11, ⟨y0, rfl, hy0⟩, e11⟩
  have N11 := Fr.app N9 (Np11 _)
  show Go p e below s (fun v h L => v = some (.int (1 : Int32)) ∧ Fr h0.size L) room_1.cells room_1.slots T11 (mkF m 67 #[.val (.long xa), .second, .val (.long xb), .second, .val (.long ya), .second, .val (.long yb), .second, .val (.int shape), .val (.ref bx), .val (.int sm), .val (.ref bw), .unset, .unset, .unset, .unset, .unset, .unset, .unset, .unset, .unset] [(.int y0), (.int (0 : Int32)), (.ref bw)])
  refine go_iastore (q := 68) X11 hx hZ e11 V_bw ⟨by decide, by decide⟩ 0 rfl (Nat.le_of_ble_eq_true rfl) N11 g_bw (hb hby at_67) rfl (fun T12 h12 l12 X12 N12 e12 W12 V12 => ?_)
  replace V_bx := V_bx.other W12 ne_bx_bw
  replace hsz := Nat.le_trans hsz (Nat.le_of_eq W12.size.symm)
  replace V_bw : Arv Z h12 bw k_bw .int (4 : Int32) [(.int y0), (.int (0 : Int32)), (.int (0 : Int32)), (.int (0 : Int32))] (.int (0 : Int32)) := V12
  refine go_aload (q := 70) X12 hx (hb hby at_68) rfl rfl rfl ?_
  refine go_iconst (q := 71) (v := (1 : Int32)) X12 hx (hb hby at_70) rfl rfl ?_
  refine go_lload (q := 73) X12 hx (hb hby at_71) rfl rfl ?_
  refine go_callS (q := 76) (W := 2) X12 hx hZ hown e12 (hw _ (List.mem_of_getElem? (i := 5) rfl)) (hw _ (List.mem_of_getElem? (i := 6) rfl)) (hw _ (List.mem_of_getElem? (i := 3) rfl)) (hw _ (List.mem_of_getElem? (i := 7) rfl)) (by decide) [(.long ya)] [(.int (1 : Int32)), (.ref bw)] (rm2 l Z a0 hw [] ya h12) (by rw [hml]; rfl) rfl (lenOf pd_0 rfl) (Nat.le_of_eq rfl) (by decide) (by decide) (hb hby at_73) rfl (by decide) (by decide) ?_
  rintro T13 L13 v13 X13 ⟨Np13, ⟨y1, rfl, hy1⟩, e13⟩
  have N13 := Fr.app N12 (Np13 _)
  show Go p e below s (fun v h L => v = some (.int (1 : Int32)) ∧ Fr h0.size L) room_1.cells room_1.slots T13 (mkF m 76 #[.val (.long xa), .second, .val (.long xb), .second, .val (.long ya), .second, .val (.long yb), .second, .val (.int shape), .val (.ref bx), .val (.int sm), .val (.ref bw), .unset, .unset, .unset, .unset, .unset, .unset, .unset, .unset, .unset] [(.int y1), (.int (1 : Int32)), (.ref bw)])
  refine go_iastore (q := 77) X13 hx hZ e13 V_bw ⟨by decide, by decide⟩ 1 rfl (Nat.le_of_ble_eq_true rfl) N13 g_bw (hb hby at_76) rfl (fun T14 h14 l14 X14 N14 e14 W14 V14 => ?_)
  replace V_bx := V_bx.other W14 ne_bx_bw
  replace hsz := Nat.le_trans hsz (Nat.le_of_eq W14.size.symm)
  replace V_bw : Arv Z h14 bw k_bw .int (4 : Int32) [(.int y0), (.int y1), (.int (0 : Int32)), (.int (0 : Int32))] (.int (0 : Int32)) := V14
  refine go_aload (q := 79) X14 hx (hb hby at_77) rfl rfl rfl ?_
  refine go_iconst (q := 80) (v := (2 : Int32)) X14 hx (hb hby at_79) rfl rfl ?_
  refine go_lload (q := 82) X14 hx (hb hby at_80) rfl rfl ?_
  refine go_callS (q := 85) (W := 2) X14 hx hZ hown e14 (hw _ (List.mem_of_getElem? (i := 1) rfl)) (hw _ (List.mem_of_getElem? (i := 2) rfl)) (hw _ (List.mem_of_getElem? (i := 3) rfl)) (hw _ (List.mem_of_getElem? (i := 4) rfl)) (by decide) [(.long yb)] [(.int (2 : Int32)), (.ref bw)] (rm1 l Z a0 hw [] yb h14) (by rw [hml]; rfl) rfl (lenOf pd_0 rfl) (Nat.le_of_eq rfl) (by decide) (by decide) (hb hby at_82) rfl (by decide) (by decide) ?_
  rintro T15 L15 v15 X15 ⟨Np15, ⟨y2, rfl, hy2⟩, e15⟩
  have N15 := Fr.app N14 (Np15 _)
  show Go p e below s (fun v h L => v = some (.int (1 : Int32)) ∧ Fr h0.size L) room_1.cells room_1.slots T15 (mkF m 85 #[.val (.long xa), .second, .val (.long xb), .second, .val (.long ya), .second, .val (.long yb), .second, .val (.int shape), .val (.ref bx), .val (.int sm), .val (.ref bw), .unset, .unset, .unset, .unset, .unset, .unset, .unset, .unset, .unset] [(.int y2), (.int (2 : Int32)), (.ref bw)])
  refine go_iastore (q := 86) X15 hx hZ e15 V_bw ⟨by decide, by decide⟩ 2 rfl (Nat.le_of_ble_eq_true rfl) N15 g_bw (hb hby at_85) rfl (fun T16 h16 l16 X16 N16 e16 W16 V16 => ?_)
  replace V_bx := V_bx.other W16 ne_bx_bw
  replace hsz := Nat.le_trans hsz (Nat.le_of_eq W16.size.symm)
  replace V_bw : Arv Z h16 bw k_bw .int (4 : Int32) [(.int y0), (.int y1), (.int y2), (.int (0 : Int32))] (.int (0 : Int32)) := V16
  refine go_aload (q := 88) X16 hx (hb hby at_86) rfl rfl rfl ?_
  refine go_iconst (q := 89) (v := (3 : Int32)) X16 hx (hb hby at_88) rfl rfl ?_
  refine go_lload (q := 91) X16 hx (hb hby at_89) rfl rfl ?_
  refine go_callS (q := 94) (W := 2) X16 hx hZ hown e16 (hw _ (List.mem_of_getElem? (i := 5) rfl)) (hw _ (List.mem_of_getElem? (i := 6) rfl)) (hw _ (List.mem_of_getElem? (i := 3) rfl)) (hw _ (List.mem_of_getElem? (i := 7) rfl)) (by decide) [(.long yb)] [(.int (3 : Int32)), (.ref bw)] (rm2 l Z a0 hw [] yb h16) (by rw [hml]; rfl) rfl (lenOf pd_0 rfl) (Nat.le_of_eq rfl) (by decide) (by decide) (hb hby at_91) rfl (by decide) (by decide) ?_
  rintro T17 L17 v17 X17 ⟨Np17, ⟨y3, rfl, hy3⟩, e17⟩
  have N17 := Fr.app N16 (Np17 _)
  show Go p e below s (fun v h L => v = some (.int (1 : Int32)) ∧ Fr h0.size L) room_1.cells room_1.slots T17 (mkF m 94 #[.val (.long xa), .second, .val (.long xb), .second, .val (.long ya), .second, .val (.long yb), .second, .val (.int shape), .val (.ref bx), .val (.int sm), .val (.ref bw), .unset, .unset, .unset, .unset, .unset, .unset, .unset, .unset, .unset] [(.int y3), (.int (3 : Int32)), (.ref bw)])
  refine go_iastore (q := 95) X17 hx hZ e17 V_bw ⟨by decide, by decide⟩ 3 rfl (Nat.le_of_ble_eq_true rfl) N17 g_bw (hb hby at_94) rfl (fun T18 h18 l18 X18 N18 e18 W18 V18 => ?_)
  replace V_bx := V_bx.other W18 ne_bx_bw
  replace hsz := Nat.le_trans hsz (Nat.le_of_eq W18.size.symm)
  replace V_bw : Arv Z h18 bw k_bw .int (4 : Int32) [(.int y0), (.int y1), (.int y2), (.int y3)] (.int (0 : Int32)) := V18
  refine go_iload (q := 97) X18 hx (hb hby at_95) rfl rfl ?_
  have bx_ : ∀ j, (sel4 x0 x1 x2 x3 j).toInt.natAbs ≤ 8388608 := own_selB hx0 hx1 hx2 hx3
  have by_ : ∀ j, (sel4 y0 y1 y2 y3 j).toInt.natAbs ≤ 8388608 := own_selB hy0 hy1 hy2 hy3
  rcases hsm with rfl | rfl
  · refine go_if_eq (q := 100) (q' := 104) X18 hx (hb hby at_97) rfl (by decide) rfl (fun hc97 => ?_) (fun hc97 => ?_)
    · refine go_iconst (q := 105) (v := (4 : Int32)) X18 hx (hb hby at_104) rfl rfl ?_
      refine go_newP (q := 107) X18 hx hZ (hw _ (List.mem_of_getElem? (i := 8) rfl)) e18 (hb hby at_105) rfl (by decide) 4 (by decide) (by decide) (by decide) (by decide) (fun T19 h19 k_fX fX eb19 X19 e19 E19 V_fX => ?_)
      have g_fX : h0.size ≤ fX := Nat.le_trans hsz (Nat.le_of_eq eb19.symm)
      have ne_bx_fX : bx ≠ fX := Nat.ne_of_lt (Nat.lt_of_lt_of_eq V_bx.lt eb19.symm)
      have ne_bw_fX : bw ≠ fX := Nat.ne_of_lt (Nat.lt_of_lt_of_eq V_bw.lt eb19.symm)
      replace V_bx := V_bx.ext E19
      replace V_bw := V_bw.ext E19
      replace hsz := Nat.le_trans hsz E19.1
      replace V_fX : Arv Z h19 fX k_fX .float (4 : Int32) [(.float (0 : UInt32)), (.float (0 : UInt32)), (.float (0 : UInt32)), (.float (0 : UInt32))] (.float (0 : UInt32)) := V_fX.pad (pad_rep [] (.float (0 : UInt32)) 4)
      refine go_astore (q := 109) (l' := #[.val (.long xa), .second, .val (.long xb), .second, .val (.long ya), .second, .val (.long yb), .second, .val (.int shape), .val (.ref bx), .val (.int (0 : Int32)), .val (.ref bw), .val (.ref fX), .unset, .unset, .unset, .unset, .unset, .unset, .unset, .unset]) X19 hx (hb hby at_107) rfl rfl rfl ?_
      refine go_aload (q := 111) X19 hx (hb hby at_109) rfl rfl rfl ?_
      refine go_iconst (q := 112) (v := (0 : Int32)) X19 hx (hb hby at_111) rfl rfl ?_
      refine go_aload (q := 114) X19 hx (hb hby at_112) rfl rfl rfl ?_
      refine go_iconst (q := 115) (v := (0 : Int32)) X19 hx (hb hby at_114) rfl rfl ?_
      refine go_iaload (q := 116) (v := (.int x0)) X19 hx hZ e19 V_bx ⟨by decide, by decide⟩ rfl (hb hby at_115) rfl ?_
      refine go_i2f (q := 117) X19 hx (hb hby at_116) rfl rfl ?_
      refine go_fastore (q := 118) X19 hx hZ e19 V_fX ⟨by decide, by decide⟩ 0 rfl (Nat.le_of_ble_eq_true rfl) N18 g_fX (hb hby at_117) rfl (fun T20 h20 l20 X20 N20 e20 W20 V20 => ?_)
      replace V_bx := V_bx.other W20 ne_bx_fX
      replace V_bw := V_bw.other W20 ne_bw_fX
      replace hsz := Nat.le_trans hsz (Nat.le_of_eq W20.size.symm)
      replace V_fX : Arv Z h20 fX k_fX .float (4 : Int32) [(.float (FP.i2f x0)), (.float (0 : UInt32)), (.float (0 : UInt32)), (.float (0 : UInt32))] (.float (0 : UInt32)) := V20
      refine go_aload (q := 120) X20 hx (hb hby at_118) rfl rfl rfl ?_
      refine go_iconst (q := 121) (v := (1 : Int32)) X20 hx (hb hby at_120) rfl rfl ?_
      refine go_aload (q := 123) X20 hx (hb hby at_121) rfl rfl rfl ?_
      refine go_iconst (q := 124) (v := (1 : Int32)) X20 hx (hb hby at_123) rfl rfl ?_
      refine go_iaload (q := 125) (v := (.int x1)) X20 hx hZ e20 V_bx ⟨by decide, by decide⟩ rfl (hb hby at_124) rfl ?_
      refine go_i2f (q := 126) X20 hx (hb hby at_125) rfl rfl ?_
      refine go_fastore (q := 127) X20 hx hZ e20 V_fX ⟨by decide, by decide⟩ 1 rfl (Nat.le_of_ble_eq_true rfl) N20 g_fX (hb hby at_126) rfl (fun T21 h21 l21 X21 N21 e21 W21 V21 => ?_)
      replace V_bx := V_bx.other W21 ne_bx_fX
      replace V_bw := V_bw.other W21 ne_bw_fX
      replace hsz := Nat.le_trans hsz (Nat.le_of_eq W21.size.symm)
      replace V_fX : Arv Z h21 fX k_fX .float (4 : Int32) [(.float (FP.i2f x0)), (.float (FP.i2f x1)), (.float (0 : UInt32)), (.float (0 : UInt32))] (.float (0 : UInt32)) := V21
      refine go_aload (q := 129) X21 hx (hb hby at_127) rfl rfl rfl ?_
      refine go_iconst (q := 130) (v := (2 : Int32)) X21 hx (hb hby at_129) rfl rfl ?_
      refine go_aload (q := 132) X21 hx (hb hby at_130) rfl rfl rfl ?_
      refine go_iconst (q := 133) (v := (2 : Int32)) X21 hx (hb hby at_132) rfl rfl ?_
      refine go_iaload (q := 134) (v := (.int x2)) X21 hx hZ e21 V_bx ⟨by decide, by decide⟩ rfl (hb hby at_133) rfl ?_
      refine go_i2f (q := 135) X21 hx (hb hby at_134) rfl rfl ?_
      refine go_fastore (q := 136) X21 hx hZ e21 V_fX ⟨by decide, by decide⟩ 2 rfl (Nat.le_of_ble_eq_true rfl) N21 g_fX (hb hby at_135) rfl (fun T22 h22 l22 X22 N22 e22 W22 V22 => ?_)
      replace V_bx := V_bx.other W22 ne_bx_fX
      replace V_bw := V_bw.other W22 ne_bw_fX
      replace hsz := Nat.le_trans hsz (Nat.le_of_eq W22.size.symm)
      replace V_fX : Arv Z h22 fX k_fX .float (4 : Int32) [(.float (FP.i2f x0)), (.float (FP.i2f x1)), (.float (FP.i2f x2)), (.float (0 : UInt32))] (.float (0 : UInt32)) := V22
      refine go_aload (q := 138) X22 hx (hb hby at_136) rfl rfl rfl ?_
      refine go_iconst (q := 139) (v := (3 : Int32)) X22 hx (hb hby at_138) rfl rfl ?_
      refine go_aload (q := 141) X22 hx (hb hby at_139) rfl rfl rfl ?_
      refine go_iconst (q := 142) (v := (3 : Int32)) X22 hx (hb hby at_141) rfl rfl ?_
      refine go_iaload (q := 143) (v := (.int x3)) X22 hx hZ e22 V_bx ⟨by decide, by decide⟩ rfl (hb hby at_142) rfl ?_
      refine go_i2f (q := 144) X22 hx (hb hby at_143) rfl rfl ?_
      refine go_fastore (q := 145) X22 hx hZ e22 V_fX ⟨by decide, by decide⟩ 3 rfl (Nat.le_of_ble_eq_true rfl) N22 g_fX (hb hby at_144) rfl (fun T23 h23 l23 X23 N23 e23 W23 V23 => ?_)
      replace V_bx := V_bx.other W23 ne_bx_fX
      replace V_bw := V_bw.other W23 ne_bw_fX
      replace hsz := Nat.le_trans hsz (Nat.le_of_eq W23.size.symm)
      replace V_fX : Arv Z h23 fX k_fX .float (4 : Int32) [(.float (FP.i2f x0)), (.float (FP.i2f x1)), (.float (FP.i2f x2)), (.float (FP.i2f x3))] (.float (0 : UInt32)) := V23
      refine go_iconst (q := 146) (v := (4 : Int32)) X23 hx (hb hby at_145) rfl rfl ?_
      refine go_newP (q := 148) X23 hx hZ (hw _ (List.mem_of_getElem? (i := 8) rfl)) e23 (hb hby at_146) rfl (by decide) 4 (by decide) (by decide) (by decide) (by decide) (fun T24 h24 k_fY fY eb24 X24 e24 E24 V_fY => ?_)
      have g_fY : h0.size ≤ fY := Nat.le_trans hsz (Nat.le_of_eq eb24.symm)
      have ne_bx_fY : bx ≠ fY := Nat.ne_of_lt (Nat.lt_of_lt_of_eq V_bx.lt eb24.symm)
      have ne_bw_fY : bw ≠ fY := Nat.ne_of_lt (Nat.lt_of_lt_of_eq V_bw.lt eb24.symm)
      have ne_fX_fY : fX ≠ fY := Nat.ne_of_lt (Nat.lt_of_lt_of_eq V_fX.lt eb24.symm)
      replace V_bx := V_bx.ext E24
      replace V_bw := V_bw.ext E24
      replace V_fX := V_fX.ext E24
      replace hsz := Nat.le_trans hsz E24.1
      replace V_fY : Arv Z h24 fY k_fY .float (4 : Int32) [(.float (0 : UInt32)), (.float (0 : UInt32)), (.float (0 : UInt32)), (.float (0 : UInt32))] (.float (0 : UInt32)) := V_fY.pad (pad_rep [] (.float (0 : UInt32)) 4)
      refine go_astore (q := 150) (l' := #[.val (.long xa), .second, .val (.long xb), .second, .val (.long ya), .second, .val (.long yb), .second, .val (.int shape), .val (.ref bx), .val (.int (0 : Int32)), .val (.ref bw), .val (.ref fX), .val (.ref fY), .unset, .unset, .unset, .unset, .unset, .unset, .unset]) X24 hx (hb hby at_148) rfl rfl rfl ?_
      refine go_aload (q := 152) X24 hx (hb hby at_150) rfl rfl rfl ?_
      refine go_iconst (q := 153) (v := (0 : Int32)) X24 hx (hb hby at_152) rfl rfl ?_
      refine go_aload (q := 155) X24 hx (hb hby at_153) rfl rfl rfl ?_
      refine go_iconst (q := 156) (v := (0 : Int32)) X24 hx (hb hby at_155) rfl rfl ?_
      refine go_iaload (q := 157) (v := (.int y0)) X24 hx hZ e24 V_bw ⟨by decide, by decide⟩ rfl (hb hby at_156) rfl ?_
      refine go_i2f (q := 158) X24 hx (hb hby at_157) rfl rfl ?_
      refine go_fastore (q := 159) X24 hx hZ e24 V_fY ⟨by decide, by decide⟩ 0 rfl (Nat.le_of_ble_eq_true rfl) N23 g_fY (hb hby at_158) rfl (fun T25 h25 l25 X25 N25 e25 W25 V25 => ?_)
      replace V_bx := V_bx.other W25 ne_bx_fY
      replace V_bw := V_bw.other W25 ne_bw_fY
      replace V_fX := V_fX.other W25 ne_fX_fY
      replace hsz := Nat.le_trans hsz (Nat.le_of_eq W25.size.symm)
      replace V_fY : Arv Z h25 fY k_fY .float (4 : Int32) [(.float (FP.i2f y0)), (.float (0 : UInt32)), (.float (0 : UInt32)), (.float (0 : UInt32))] (.float (0 : UInt32)) := V25
      refine go_aload (q := 161) X25 hx (hb hby at_159) rfl rfl rfl ?_
      refine go_iconst (q := 162) (v := (1 : Int32)) X25 hx (hb hby at_161) rfl rfl ?_
      refine go_aload (q := 164) X25 hx (hb hby at_162) rfl rfl rfl ?_
      refine go_iconst (q := 165) (v := (1 : Int32)) X25 hx (hb hby at_164) rfl rfl ?_
      refine go_iaload (q := 166) (v := (.int y1)) X25 hx hZ e25 V_bw ⟨by decide, by decide⟩ rfl (hb hby at_165) rfl ?_
      refine go_i2f (q := 167) X25 hx (hb hby at_166) rfl rfl ?_
      refine go_fastore (q := 168) X25 hx hZ e25 V_fY ⟨by decide, by decide⟩ 1 rfl (Nat.le_of_ble_eq_true rfl) N25 g_fY (hb hby at_167) rfl (fun T26 h26 l26 X26 N26 e26 W26 V26 => ?_)
      replace V_bx := V_bx.other W26 ne_bx_fY
      replace V_bw := V_bw.other W26 ne_bw_fY
      replace V_fX := V_fX.other W26 ne_fX_fY
      replace hsz := Nat.le_trans hsz (Nat.le_of_eq W26.size.symm)
      replace V_fY : Arv Z h26 fY k_fY .float (4 : Int32) [(.float (FP.i2f y0)), (.float (FP.i2f y1)), (.float (0 : UInt32)), (.float (0 : UInt32))] (.float (0 : UInt32)) := V26
      refine go_aload (q := 170) X26 hx (hb hby at_168) rfl rfl rfl ?_
      refine go_iconst (q := 171) (v := (2 : Int32)) X26 hx (hb hby at_170) rfl rfl ?_
      refine go_aload (q := 173) X26 hx (hb hby at_171) rfl rfl rfl ?_
      refine go_iconst (q := 174) (v := (2 : Int32)) X26 hx (hb hby at_173) rfl rfl ?_
      refine go_iaload (q := 175) (v := (.int y2)) X26 hx hZ e26 V_bw ⟨by decide, by decide⟩ rfl (hb hby at_174) rfl ?_
      refine go_i2f (q := 176) X26 hx (hb hby at_175) rfl rfl ?_
      refine go_fastore (q := 177) X26 hx hZ e26 V_fY ⟨by decide, by decide⟩ 2 rfl (Nat.le_of_ble_eq_true rfl) N26 g_fY (hb hby at_176) rfl (fun T27 h27 l27 X27 N27 e27 W27 V27 => ?_)
      replace V_bx := V_bx.other W27 ne_bx_fY
      replace V_bw := V_bw.other W27 ne_bw_fY
      replace V_fX := V_fX.other W27 ne_fX_fY
      replace hsz := Nat.le_trans hsz (Nat.le_of_eq W27.size.symm)
      replace V_fY : Arv Z h27 fY k_fY .float (4 : Int32) [(.float (FP.i2f y0)), (.float (FP.i2f y1)), (.float (FP.i2f y2)), (.float (0 : UInt32))] (.float (0 : UInt32)) := V27
      refine go_aload (q := 179) X27 hx (hb hby at_177) rfl rfl rfl ?_
      refine go_iconst (q := 180) (v := (3 : Int32)) X27 hx (hb hby at_179) rfl rfl ?_
      refine go_aload (q := 182) X27 hx (hb hby at_180) rfl rfl rfl ?_
      refine go_iconst (q := 183) (v := (3 : Int32)) X27 hx (hb hby at_182) rfl rfl ?_
      refine go_iaload (q := 184) (v := (.int y3)) X27 hx hZ e27 V_bw ⟨by decide, by decide⟩ rfl (hb hby at_183) rfl ?_
      refine go_i2f (q := 185) X27 hx (hb hby at_184) rfl rfl ?_
      refine go_fastore (q := 186) X27 hx hZ e27 V_fY ⟨by decide, by decide⟩ 3 rfl (Nat.le_of_ble_eq_true rfl) N27 g_fY (hb hby at_185) rfl (fun T28 h28 l28 X28 N28 e28 W28 V28 => ?_)
      replace V_bx := V_bx.other W28 ne_bx_fY
      replace V_bw := V_bw.other W28 ne_bw_fY
      replace V_fX := V_fX.other W28 ne_fX_fY
      replace hsz := Nat.le_trans hsz (Nat.le_of_eq W28.size.symm)
      replace V_fY : Arv Z h28 fY k_fY .float (4 : Int32) [(.float (FP.i2f y0)), (.float (FP.i2f y1)), (.float (FP.i2f y2)), (.float (FP.i2f y3))] (.float (0 : UInt32)) := V28
      refine go_iload (q := 188) X28 hx (hb hby at_186) rfl rfl ?_
      refine go_if_eq (q := 191) (q' := 195) X28 hx (hb hby at_188) rfl (by decide) rfl (fun hc188 => ?_) (fun hc188 => ?_)
      · refine go_iload (q := 197) X28 hx (hb hby at_195) rfl rfl ?_
        refine go_bipush (q := 199) (v := (7 : Int32)) X28 hx (hb hby at_197) rfl rfl ?_
        refine go_iand (q := 200) (v := (shape &&& (7 : Int32))) X28 hx (hb hby at_199) rfl rfl ?_
        refine go_iconst (q := 201) (v := (5 : Int32)) X28 hx (hb hby at_200) rfl rfl ?_
        refine go_irem (q := 202) (v := ((shape &&& (7 : Int32)) % (5 : Int32))) X28 hx (hb hby at_201) rfl (by decide) rfl ?_
        refine go_istore (q := 204) (l' := #[.val (.long xa), .second, .val (.long xb), .second, .val (.long ya), .second, .val (.long yb), .second, .val (.int shape), .val (.ref bx), .val (.int (0 : Int32)), .val (.ref bw), .val (.ref fX), .val (.ref fY), .val (.int ((shape &&& (7 : Int32)) % (5 : Int32))), .unset, .unset, .unset, .unset, .unset, .unset]) X28 hx (hb hby at_202) rfl rfl ?_
        suffices Hln : ∀ ln : Int32, ln = ((shape &&& (7 : Int32)) % (5 : Int32)) → Go p e below s (fun v h L => v = some (.int (1 : Int32)) ∧ Fr h0.size L) room_1.cells room_1.slots T28 (mkF m 204 #[.val (.long xa), .second, .val (.long xb), .second, .val (.long ya), .second, .val (.long yb), .second, .val (.int shape), .val (.ref bx), .val (.int (0 : Int32)), .val (.ref bw), .val (.ref fX), .val (.ref fY), .val (.int ln), .unset, .unset, .unset, .unset, .unset, .unset] []) from Hln _ rfl
        intro ln eln
        have hln : ln = 0 ∨ ln = 1 ∨ ln = 2 ∨ ln = 3 ∨ ln = 4 := by rw [eln]; exact own_len _
        rcases hln with rfl | rfl | rfl | rfl | rfl
        · refine go_iload (q := 206) X28 hx (hb hby at_204) rfl rfl ?_
          refine go_iconst (q := 207) (v := (3 : Int32)) X28 hx (hb hby at_206) rfl rfl ?_
          refine go_iushr (q := 208) (v := ((shape.toUInt32 >>> ((3 : Int32) &&& 31).toUInt32).toInt32)) X28 hx (hb hby at_207) rfl rfl ?_
          refine go_bipush (q := 210) (v := (7 : Int32)) X28 hx (hb hby at_208) rfl rfl ?_
          refine go_iand (q := 211) (v := (((shape.toUInt32 >>> ((3 : Int32) &&& 31).toUInt32).toInt32) &&& (7 : Int32))) X28 hx (hb hby at_210) rfl rfl ?_
          refine go_iconst (q := 212) (v := (5 : Int32)) X28 hx (hb hby at_211) rfl rfl ?_
          refine go_iload (q := 214) X28 hx (hb hby at_212) rfl rfl ?_
          refine go_isub (q := 215) (v := (5 : Int32)) X28 hx (hb hby at_214) rfl rfl ?_
          refine go_irem (q := 216) (v := ((((shape.toUInt32 >>> ((3 : Int32) &&& 31).toUInt32).toInt32) &&& (7 : Int32)) % (5 : Int32))) X28 hx (hb hby at_215) rfl (by decide) rfl ?_
          refine go_istore (q := 218) (l' := #[.val (.long xa), .second, .val (.long xb), .second, .val (.long ya), .second, .val (.long yb), .second, .val (.int shape), .val (.ref bx), .val (.int (0 : Int32)), .val (.ref bw), .val (.ref fX), .val (.ref fY), .val (.int (0 : Int32)), .val (.int ((((shape.toUInt32 >>> ((3 : Int32) &&& 31).toUInt32).toInt32) &&& (7 : Int32)) % (5 : Int32))), .unset, .unset, .unset, .unset, .unset]) X28 hx (hb hby at_216) rfl rfl ?_
          suffices Hfx : ∀ fx : Int32, fx = ((((shape.toUInt32 >>> ((3 : Int32) &&& 31).toUInt32).toInt32) &&& (7 : Int32)) % (5 : Int32)) → Go p e below s (fun v h L => v = some (.int (1 : Int32)) ∧ Fr h0.size L) room_1.cells room_1.slots T28 (mkF m 218 #[.val (.long xa), .second, .val (.long xb), .second, .val (.long ya), .second, .val (.long yb), .second, .val (.int shape), .val (.ref bx), .val (.int (0 : Int32)), .val (.ref bw), .val (.ref fX), .val (.ref fY), .val (.int (0 : Int32)), .val (.int fx), .unset, .unset, .unset, .unset, .unset] []) from Hfx _ rfl
          intro fx efx
          refine go_iload (q := 220) X28 hx (hb hby at_218) rfl rfl ?_
          refine go_bipush (q := 222) (v := (6 : Int32)) X28 hx (hb hby at_220) rfl rfl ?_
          refine go_iushr (q := 223) (v := ((shape.toUInt32 >>> ((6 : Int32) &&& 31).toUInt32).toInt32)) X28 hx (hb hby at_222) rfl rfl ?_
          refine go_bipush (q := 225) (v := (7 : Int32)) X28 hx (hb hby at_223) rfl rfl ?_
          refine go_iand (q := 226) (v := (((shape.toUInt32 >>> ((6 : Int32) &&& 31).toUInt32).toInt32) &&& (7 : Int32))) X28 hx (hb hby at_225) rfl rfl ?_
          refine go_iconst (q := 227) (v := (5 : Int32)) X28 hx (hb hby at_226) rfl rfl ?_
          refine go_iload (q := 229) X28 hx (hb hby at_227) rfl rfl ?_
          refine go_isub (q := 230) (v := (5 : Int32)) X28 hx (hb hby at_229) rfl rfl ?_
          refine go_irem (q := 231) (v := ((((shape.toUInt32 >>> ((6 : Int32) &&& 31).toUInt32).toInt32) &&& (7 : Int32)) % (5 : Int32))) X28 hx (hb hby at_230) rfl (by decide) rfl ?_
          refine go_istore (q := 233) (l' := #[.val (.long xa), .second, .val (.long xb), .second, .val (.long ya), .second, .val (.long yb), .second, .val (.int shape), .val (.ref bx), .val (.int (0 : Int32)), .val (.ref bw), .val (.ref fX), .val (.ref fY), .val (.int (0 : Int32)), .val (.int fx), .val (.int ((((shape.toUInt32 >>> ((6 : Int32) &&& 31).toUInt32).toInt32) &&& (7 : Int32)) % (5 : Int32))), .unset, .unset, .unset, .unset]) X28 hx (hb hby at_231) rfl rfl ?_
          suffices Hfy : ∀ fy : Int32, fy = ((((shape.toUInt32 >>> ((6 : Int32) &&& 31).toUInt32).toInt32) &&& (7 : Int32)) % (5 : Int32)) → Go p e below s (fun v h L => v = some (.int (1 : Int32)) ∧ Fr h0.size L) room_1.cells room_1.slots T28 (mkF m 233 #[.val (.long xa), .second, .val (.long xb), .second, .val (.long ya), .second, .val (.long yb), .second, .val (.int shape), .val (.ref bx), .val (.int (0 : Int32)), .val (.ref bw), .val (.ref fX), .val (.ref fY), .val (.int (0 : Int32)), .val (.int fx), .val (.int fy), .unset, .unset, .unset, .unset] []) from Hfy _ rfl
          intro fy efy
          have rx : 0 ≤ fx.toInt ∧ fx.toInt ≤ 4 := by rw [efx]; exact own_idx0 _
          have ry : 0 ≤ fy.toInt ∧ fy.toInt ≤ 4 := by rw [efy]; exact own_idx0 _
          refine go_aload (q := 235) X28 hx (hb hby at_233) rfl rfl rfl ?_
          refine go_iload (q := 237) X28 hx (hb hby at_235) rfl rfl ?_
          refine go_aload (q := 239) X28 hx (hb hby at_237) rfl rfl rfl ?_
          refine go_iload (q := 241) X28 hx (hb hby at_239) rfl rfl ?_
          refine go_iconst (q := 242) (v := (0 : Int32)) X28 hx (hb hby at_241) rfl rfl ?_
          refine go_iload (q := 244) X28 hx (hb hby at_242) rfl rfl ?_
          refine go_callS (q := 247) (W := 0) X28 hx hZ hown e28 (hw _ (List.mem_of_getElem? (i := 9) rfl)) (hw _ (List.mem_of_getElem? (i := 10) rfl)) (hw _ (List.mem_of_getElem? (i := 3) rfl)) (hw _ (List.mem_of_getElem? (i := 11) rfl)) (by decide) [(.ref bx), (.int fx), (.ref bw), (.int fy), (.int (0 : Int32)), (.int (0 : Int32))] [] (rm3 l Z a0 hw [] bx fx bw fy (0 : Int32) (0 : Int32) k_bx k_bw _ _ x0 x1 x2 x3 y0 y1 y2 y3 h28 V_bx V_bw (fun q => absurd q (by decide))) (by rw [hml]; rfl) rfl (lenOf pd_1 rfl) (Nat.le_of_eq rfl) (by decide) (by decide) (hb hby at_244) rfl (by decide) (by decide) ?_
          rintro T29 L29 v29 X29 ⟨Np29, rfl, e29⟩
          have N29 := Fr.app N28 (Np29 _)
          show Go p e below s (fun v h L => v = some (.int (1 : Int32)) ∧ Fr h0.size L) room_1.cells room_1.slots T29 (mkF m 247 #[.val (.long xa), .second, .val (.long xb), .second, .val (.long ya), .second, .val (.long yb), .second, .val (.int shape), .val (.ref bx), .val (.int (0 : Int32)), .val (.ref bw), .val (.ref fX), .val (.ref fY), .val (.int (0 : Int32)), .val (.int fx), .val (.int fy), .unset, .unset, .unset, .unset] [(.long (if (0 : Int32) < (0 : Int32) then (sel4 x0 x1 x2 x3 (fx + (0 : Int32))).toInt64 * (sel4 y0 y1 y2 y3 (fy + (0 : Int32))).toInt64 else 0))])
          suffices Ht0 : ∀ t0 : Int64, t0 = (if (0 : Int32) < (0 : Int32) then (sel4 x0 x1 x2 x3 (fx + (0 : Int32))).toInt64 * (sel4 y0 y1 y2 y3 (fy + (0 : Int32))).toInt64 else 0) → Go p e below s (fun v h L => v = some (.int (1 : Int32)) ∧ Fr h0.size L) room_1.cells room_1.slots T29 (mkF m 247 #[.val (.long xa), .second, .val (.long xb), .second, .val (.long ya), .second, .val (.long yb), .second, .val (.int shape), .val (.ref bx), .val (.int (0 : Int32)), .val (.ref bw), .val (.ref fX), .val (.ref fY), .val (.int (0 : Int32)), .val (.int fx), .val (.int fy), .unset, .unset, .unset, .unset] [(.long t0)]) from Ht0 _ rfl
          intro t0 et0
          rw [if_neg (by decide)] at et0
          have ht0 : t0.toInt = 0 ∧ (0 : Int).natAbs ≤ 70368744177664 := ⟨by rw [et0]; rfl, by decide⟩
          refine go_aload (q := 249) X29 hx (hb hby at_247) rfl rfl rfl ?_
          refine go_iload (q := 251) X29 hx (hb hby at_249) rfl rfl ?_
          refine go_aload (q := 253) X29 hx (hb hby at_251) rfl rfl rfl ?_
          refine go_iload (q := 255) X29 hx (hb hby at_253) rfl rfl ?_
          refine go_iconst (q := 256) (v := (1 : Int32)) X29 hx (hb hby at_255) rfl rfl ?_
          refine go_iload (q := 258) X29 hx (hb hby at_256) rfl rfl ?_
          refine go_callS (q := 261) (W := 2) X29 hx hZ hown e29 (hw _ (List.mem_of_getElem? (i := 9) rfl)) (hw _ (List.mem_of_getElem? (i := 10) rfl)) (hw _ (List.mem_of_getElem? (i := 3) rfl)) (hw _ (List.mem_of_getElem? (i := 11) rfl)) (by decide) [(.ref bx), (.int fx), (.ref bw), (.int fy), (.int (1 : Int32)), (.int (0 : Int32))] [(.long t0)] (rm3 l Z a0 hw [] bx fx bw fy (1 : Int32) (0 : Int32) k_bx k_bw _ _ x0 x1 x2 x3 y0 y1 y2 y3 h28 V_bx V_bw (fun q => absurd q (by decide))) (by rw [hml]; rfl) rfl (lenOf pd_1 rfl) (Nat.le_of_eq rfl) (by decide) (by decide) (hb hby at_258) rfl (by decide) (by decide) ?_
          rintro T30 L30 v30 X30 ⟨Np30, rfl, e30⟩
          have N30 := Fr.app N29 (Np30 _)
          show Go p e below s (fun v h L => v = some (.int (1 : Int32)) ∧ Fr h0.size L) room_1.cells room_1.slots T30 (mkF m 261 #[.val (.long xa), .second, .val (.long xb), .second, .val (.long ya), .second, .val (.long yb), .second, .val (.int shape), .val (.ref bx), .val (.int (0 : Int32)), .val (.ref bw), .val (.ref fX), .val (.ref fY), .val (.int (0 : Int32)), .val (.int fx), .val (.int fy), .unset, .unset, .unset, .unset] [(.long (if (1 : Int32) < (0 : Int32) then (sel4 x0 x1 x2 x3 (fx + (1 : Int32))).toInt64 * (sel4 y0 y1 y2 y3 (fy + (1 : Int32))).toInt64 else 0)), (.long t0)])
          suffices Ht1 : ∀ t1 : Int64, t1 = (if (1 : Int32) < (0 : Int32) then (sel4 x0 x1 x2 x3 (fx + (1 : Int32))).toInt64 * (sel4 y0 y1 y2 y3 (fy + (1 : Int32))).toInt64 else 0) → Go p e below s (fun v h L => v = some (.int (1 : Int32)) ∧ Fr h0.size L) room_1.cells room_1.slots T30 (mkF m 261 #[.val (.long xa), .second, .val (.long xb), .second, .val (.long ya), .second, .val (.long yb), .second, .val (.int shape), .val (.ref bx), .val (.int (0 : Int32)), .val (.ref bw), .val (.ref fX), .val (.ref fY), .val (.int (0 : Int32)), .val (.int fx), .val (.int fy), .unset, .unset, .unset, .unset] [(.long t1), (.long t0)]) from Ht1 _ rfl
          intro t1 et1
          rw [if_neg (by decide)] at et1
          have ht1 : t1.toInt = 0 ∧ (0 : Int).natAbs ≤ 70368744177664 := ⟨by rw [et1]; rfl, by decide⟩
          refine go_ladd (q := 262) (v := (t0 + t1)) X30 hx (hb hby at_261) rfl rfl ?_
          refine go_aload (q := 264) X30 hx (hb hby at_262) rfl rfl rfl ?_
          refine go_iload (q := 266) X30 hx (hb hby at_264) rfl rfl ?_
          refine go_aload (q := 268) X30 hx (hb hby at_266) rfl rfl rfl ?_
          refine go_iload (q := 270) X30 hx (hb hby at_268) rfl rfl ?_
          refine go_iconst (q := 271) (v := (2 : Int32)) X30 hx (hb hby at_270) rfl rfl ?_
          refine go_iload (q := 273) X30 hx (hb hby at_271) rfl rfl ?_
          refine go_callS (q := 276) (W := 2) X30 hx hZ hown e30 (hw _ (List.mem_of_getElem? (i := 9) rfl)) (hw _ (List.mem_of_getElem? (i := 10) rfl)) (hw _ (List.mem_of_getElem? (i := 3) rfl)) (hw _ (List.mem_of_getElem? (i := 11) rfl)) (by decide) [(.ref bx), (.int fx), (.ref bw), (.int fy), (.int (2 : Int32)), (.int (0 : Int32))] [(.long (t0 + t1))] (rm3 l Z a0 hw [] bx fx bw fy (2 : Int32) (0 : Int32) k_bx k_bw _ _ x0 x1 x2 x3 y0 y1 y2 y3 h28 V_bx V_bw (fun q => absurd q (by decide))) (by rw [hml]; rfl) rfl (lenOf pd_1 rfl) (Nat.le_of_eq rfl) (by decide) (by decide) (hb hby at_273) rfl (by decide) (by decide) ?_
          rintro T31 L31 v31 X31 ⟨Np31, rfl, e31⟩
          have N31 := Fr.app N30 (Np31 _)
          show Go p e below s (fun v h L => v = some (.int (1 : Int32)) ∧ Fr h0.size L) room_1.cells room_1.slots T31 (mkF m 276 #[.val (.long xa), .second, .val (.long xb), .second, .val (.long ya), .second, .val (.long yb), .second, .val (.int shape), .val (.ref bx), .val (.int (0 : Int32)), .val (.ref bw), .val (.ref fX), .val (.ref fY), .val (.int (0 : Int32)), .val (.int fx), .val (.int fy), .unset, .unset, .unset, .unset] [(.long (if (2 : Int32) < (0 : Int32) then (sel4 x0 x1 x2 x3 (fx + (2 : Int32))).toInt64 * (sel4 y0 y1 y2 y3 (fy + (2 : Int32))).toInt64 else 0)), (.long (t0 + t1))])
          suffices Ht2 : ∀ t2 : Int64, t2 = (if (2 : Int32) < (0 : Int32) then (sel4 x0 x1 x2 x3 (fx + (2 : Int32))).toInt64 * (sel4 y0 y1 y2 y3 (fy + (2 : Int32))).toInt64 else 0) → Go p e below s (fun v h L => v = some (.int (1 : Int32)) ∧ Fr h0.size L) room_1.cells room_1.slots T31 (mkF m 276 #[.val (.long xa), .second, .val (.long xb), .second, .val (.long ya), .second, .val (.long yb), .second, .val (.int shape), .val (.ref bx), .val (.int (0 : Int32)), .val (.ref bw), .val (.ref fX), .val (.ref fY), .val (.int (0 : Int32)), .val (.int fx), .val (.int fy), .unset, .unset, .unset, .unset] [(.long t2), (.long (t0 + t1))]) from Ht2 _ rfl
          intro t2 et2
          rw [if_neg (by decide)] at et2
          have ht2 : t2.toInt = 0 ∧ (0 : Int).natAbs ≤ 70368744177664 := ⟨by rw [et2]; rfl, by decide⟩
          refine go_ladd (q := 277) (v := ((t0 + t1) + t2)) X31 hx (hb hby at_276) rfl rfl ?_
          refine go_aload (q := 279) X31 hx (hb hby at_277) rfl rfl rfl ?_
          refine go_iload (q := 281) X31 hx (hb hby at_279) rfl rfl ?_
          refine go_aload (q := 283) X31 hx (hb hby at_281) rfl rfl rfl ?_
          refine go_iload (q := 285) X31 hx (hb hby at_283) rfl rfl ?_
          refine go_iconst (q := 286) (v := (3 : Int32)) X31 hx (hb hby at_285) rfl rfl ?_
          refine go_iload (q := 288) X31 hx (hb hby at_286) rfl rfl ?_
          refine go_callS (q := 291) (W := 2) X31 hx hZ hown e31 (hw _ (List.mem_of_getElem? (i := 9) rfl)) (hw _ (List.mem_of_getElem? (i := 10) rfl)) (hw _ (List.mem_of_getElem? (i := 3) rfl)) (hw _ (List.mem_of_getElem? (i := 11) rfl)) (by decide) [(.ref bx), (.int fx), (.ref bw), (.int fy), (.int (3 : Int32)), (.int (0 : Int32))] [(.long ((t0 + t1) + t2))] (rm3 l Z a0 hw [] bx fx bw fy (3 : Int32) (0 : Int32) k_bx k_bw _ _ x0 x1 x2 x3 y0 y1 y2 y3 h28 V_bx V_bw (fun q => absurd q (by decide))) (by rw [hml]; rfl) rfl (lenOf pd_1 rfl) (Nat.le_of_eq rfl) (by decide) (by decide) (hb hby at_288) rfl (by decide) (by decide) ?_
          rintro T32 L32 v32 X32 ⟨Np32, rfl, e32⟩
          have N32 := Fr.app N31 (Np32 _)
          show Go p e below s (fun v h L => v = some (.int (1 : Int32)) ∧ Fr h0.size L) room_1.cells room_1.slots T32 (mkF m 291 #[.val (.long xa), .second, .val (.long xb), .second, .val (.long ya), .second, .val (.long yb), .second, .val (.int shape), .val (.ref bx), .val (.int (0 : Int32)), .val (.ref bw), .val (.ref fX), .val (.ref fY), .val (.int (0 : Int32)), .val (.int fx), .val (.int fy), .unset, .unset, .unset, .unset] [(.long (if (3 : Int32) < (0 : Int32) then (sel4 x0 x1 x2 x3 (fx + (3 : Int32))).toInt64 * (sel4 y0 y1 y2 y3 (fy + (3 : Int32))).toInt64 else 0)), (.long ((t0 + t1) + t2))])
          suffices Ht3 : ∀ t3 : Int64, t3 = (if (3 : Int32) < (0 : Int32) then (sel4 x0 x1 x2 x3 (fx + (3 : Int32))).toInt64 * (sel4 y0 y1 y2 y3 (fy + (3 : Int32))).toInt64 else 0) → Go p e below s (fun v h L => v = some (.int (1 : Int32)) ∧ Fr h0.size L) room_1.cells room_1.slots T32 (mkF m 291 #[.val (.long xa), .second, .val (.long xb), .second, .val (.long ya), .second, .val (.long yb), .second, .val (.int shape), .val (.ref bx), .val (.int (0 : Int32)), .val (.ref bw), .val (.ref fX), .val (.ref fY), .val (.int (0 : Int32)), .val (.int fx), .val (.int fy), .unset, .unset, .unset, .unset] [(.long t3), (.long ((t0 + t1) + t2))]) from Ht3 _ rfl
          intro t3 et3
          rw [if_neg (by decide)] at et3
          have ht3 : t3.toInt = 0 ∧ (0 : Int).natAbs ≤ 70368744177664 := ⟨by rw [et3]; rfl, by decide⟩
          refine go_ladd (q := 292) (v := (((t0 + t1) + t2) + t3)) X32 hx (hb hby at_291) rfl rfl ?_
          refine go_lstore (q := 294) (l' := #[.val (.long xa), .second, .val (.long xb), .second, .val (.long ya), .second, .val (.long yb), .second, .val (.int shape), .val (.ref bx), .val (.int (0 : Int32)), .val (.ref bw), .val (.ref fX), .val (.ref fY), .val (.int (0 : Int32)), .val (.int fx), .val (.int fy), .val (.long (((t0 + t1) + t2) + t3)), .second, .unset, .unset]) X32 hx (hb hby at_292) rfl rfl ?_
          suffices Hex : ∀ ex : Int64, ex = (((t0 + t1) + t2) + t3) → Go p e below s (fun v h L => v = some (.int (1 : Int32)) ∧ Fr h0.size L) room_1.cells room_1.slots T32 (mkF m 294 #[.val (.long xa), .second, .val (.long xb), .second, .val (.long ya), .second, .val (.long yb), .second, .val (.int shape), .val (.ref bx), .val (.int (0 : Int32)), .val (.ref bw), .val (.ref fX), .val (.ref fY), .val (.int (0 : Int32)), .val (.int fx), .val (.int fy), .val (.long ex), .second, .unset, .unset] []) from Hex _ rfl
          intro ex eex
          have hex := own_sum4 ht0 ht1 ht2 ht3
          rw [← eex] at hex
          refine go_aload (q := 296) X32 hx (hb hby at_294) rfl rfl rfl ?_
          refine go_iload (q := 298) X32 hx (hb hby at_296) rfl rfl ?_
          refine go_aload (q := 300) X32 hx (hb hby at_298) rfl rfl rfl ?_
          refine go_iload (q := 302) X32 hx (hb hby at_300) rfl rfl ?_
          refine go_iload (q := 304) X32 hx (hb hby at_302) rfl rfl ?_
          refine go_callS (q := 307) (W := 0) X32 hx hZ hown e32 (hw _ (List.mem_of_getElem? (i := 12) rfl)) (hw _ (List.mem_of_getElem? (i := 13) rfl)) (hw _ (List.mem_of_getElem? (i := 14) rfl)) (hw _ (List.mem_of_getElem? (i := 15) rfl)) (by decide) [(.ref fX), (.int fx), (.ref fY), (.int fy), (.int (0 : Int32))] [] (rm4_0 l Z a0 hw [] fX fx fY fy k_fX k_fY _ _ x0 x1 x2 x3 y0 y1 y2 y3 h28 V_fX V_fY bx_ by_) (by rw [hml]; rfl) rfl (lenOf pd_2 rfl) (Nat.le_of_eq rfl) (by decide) (by decide) (hb hby at_304) rfl (by decide) (by decide) ?_
          rintro T33 L33 v33 X33 ⟨Np33, ⟨r_, rfl, hr_⟩, e33⟩
          have N33 := Fr.app N32 (Np33 _)
          show Go p e below s (fun v h L => v = some (.int (1 : Int32)) ∧ Fr h0.size L) room_1.cells room_1.slots T33 (mkF m 307 #[.val (.long xa), .second, .val (.long xb), .second, .val (.long ya), .second, .val (.long yb), .second, .val (.int shape), .val (.ref bx), .val (.int (0 : Int32)), .val (.ref bw), .val (.ref fX), .val (.ref fY), .val (.int (0 : Int32)), .val (.int fx), .val (.int fy), .val (.long ex), .second, .unset, .unset] [(.double r_)])
          refine go_dstore (q := 309) (l' := #[.val (.long xa), .second, .val (.long xb), .second, .val (.long ya), .second, .val (.long yb), .second, .val (.int shape), .val (.ref bx), .val (.int (0 : Int32)), .val (.ref bw), .val (.ref fX), .val (.ref fY), .val (.int (0 : Int32)), .val (.int fx), .val (.int fy), .val (.long ex), .second, .val (.double r_), .second]) X33 hx (hb hby at_307) rfl rfl ?_
          refine go_dload (q := 311) X33 hx (hb hby at_309) rfl rfl ?_
          refine go_lload (q := 313) X33 hx (hb hby at_311) rfl rfl ?_
          refine go_l2dB (q := 314) X33 hx (hb hby at_313) rfl (db_l2d (A := 281474976710656) hex.2 (by decide)) (fun z34 hz34 => ?_)
          refine go_dcmp (q := 315) X33 hx (hb hby at_314) rfl rfl ?_
          refine go_dif_ne (q := 318) (q' := 322) X33 hx (hb hby at_315) rfl (by decide) rfl hr_ hz34 (fun hc315 => ?_) (fun hc315 => ?_)
          · exact absurd (by rw [hex.1]; omega) hc315
          · refine go_iconst (q := 319) (v := (1 : Int32)) X33 hx (hb hby at_318) rfl rfl ?_
            refine go_goto (q := 323) X33 hx (hb hby at_319) (by decide) rfl ?_
            exact go_retN X33 hx (by simp) hret hlk (hb hby at_323) (by decide) (by decide) ⟨rfl, N33⟩
        · refine go_iload (q := 206) X28 hx (hb hby at_204) rfl rfl ?_
          refine go_iconst (q := 207) (v := (3 : Int32)) X28 hx (hb hby at_206) rfl rfl ?_
          refine go_iushr (q := 208) (v := ((shape.toUInt32 >>> ((3 : Int32) &&& 31).toUInt32).toInt32)) X28 hx (hb hby at_207) rfl rfl ?_
          refine go_bipush (q := 210) (v := (7 : Int32)) X28 hx (hb hby at_208) rfl rfl ?_
          refine go_iand (q := 211) (v := (((shape.toUInt32 >>> ((3 : Int32) &&& 31).toUInt32).toInt32) &&& (7 : Int32))) X28 hx (hb hby at_210) rfl rfl ?_
          refine go_iconst (q := 212) (v := (5 : Int32)) X28 hx (hb hby at_211) rfl rfl ?_
          refine go_iload (q := 214) X28 hx (hb hby at_212) rfl rfl ?_
          refine go_isub (q := 215) (v := (4 : Int32)) X28 hx (hb hby at_214) rfl rfl ?_
          refine go_irem (q := 216) (v := ((((shape.toUInt32 >>> ((3 : Int32) &&& 31).toUInt32).toInt32) &&& (7 : Int32)) % (4 : Int32))) X28 hx (hb hby at_215) rfl (by decide) rfl ?_
          refine go_istore (q := 218) (l' := #[.val (.long xa), .second, .val (.long xb), .second, .val (.long ya), .second, .val (.long yb), .second, .val (.int shape), .val (.ref bx), .val (.int (0 : Int32)), .val (.ref bw), .val (.ref fX), .val (.ref fY), .val (.int (1 : Int32)), .val (.int ((((shape.toUInt32 >>> ((3 : Int32) &&& 31).toUInt32).toInt32) &&& (7 : Int32)) % (4 : Int32))), .unset, .unset, .unset, .unset, .unset]) X28 hx (hb hby at_216) rfl rfl ?_
          suffices Hfx : ∀ fx : Int32, fx = ((((shape.toUInt32 >>> ((3 : Int32) &&& 31).toUInt32).toInt32) &&& (7 : Int32)) % (4 : Int32)) → Go p e below s (fun v h L => v = some (.int (1 : Int32)) ∧ Fr h0.size L) room_1.cells room_1.slots T28 (mkF m 218 #[.val (.long xa), .second, .val (.long xb), .second, .val (.long ya), .second, .val (.long yb), .second, .val (.int shape), .val (.ref bx), .val (.int (0 : Int32)), .val (.ref bw), .val (.ref fX), .val (.ref fY), .val (.int (1 : Int32)), .val (.int fx), .unset, .unset, .unset, .unset, .unset] []) from Hfx _ rfl
          intro fx efx
          refine go_iload (q := 220) X28 hx (hb hby at_218) rfl rfl ?_
          refine go_bipush (q := 222) (v := (6 : Int32)) X28 hx (hb hby at_220) rfl rfl ?_
          refine go_iushr (q := 223) (v := ((shape.toUInt32 >>> ((6 : Int32) &&& 31).toUInt32).toInt32)) X28 hx (hb hby at_222) rfl rfl ?_
          refine go_bipush (q := 225) (v := (7 : Int32)) X28 hx (hb hby at_223) rfl rfl ?_
          refine go_iand (q := 226) (v := (((shape.toUInt32 >>> ((6 : Int32) &&& 31).toUInt32).toInt32) &&& (7 : Int32))) X28 hx (hb hby at_225) rfl rfl ?_
          refine go_iconst (q := 227) (v := (5 : Int32)) X28 hx (hb hby at_226) rfl rfl ?_
          refine go_iload (q := 229) X28 hx (hb hby at_227) rfl rfl ?_
          refine go_isub (q := 230) (v := (4 : Int32)) X28 hx (hb hby at_229) rfl rfl ?_
          refine go_irem (q := 231) (v := ((((shape.toUInt32 >>> ((6 : Int32) &&& 31).toUInt32).toInt32) &&& (7 : Int32)) % (4 : Int32))) X28 hx (hb hby at_230) rfl (by decide) rfl ?_
          refine go_istore (q := 233) (l' := #[.val (.long xa), .second, .val (.long xb), .second, .val (.long ya), .second, .val (.long yb), .second, .val (.int shape), .val (.ref bx), .val (.int (0 : Int32)), .val (.ref bw), .val (.ref fX), .val (.ref fY), .val (.int (1 : Int32)), .val (.int fx), .val (.int ((((shape.toUInt32 >>> ((6 : Int32) &&& 31).toUInt32).toInt32) &&& (7 : Int32)) % (4 : Int32))), .unset, .unset, .unset, .unset]) X28 hx (hb hby at_231) rfl rfl ?_
          suffices Hfy : ∀ fy : Int32, fy = ((((shape.toUInt32 >>> ((6 : Int32) &&& 31).toUInt32).toInt32) &&& (7 : Int32)) % (4 : Int32)) → Go p e below s (fun v h L => v = some (.int (1 : Int32)) ∧ Fr h0.size L) room_1.cells room_1.slots T28 (mkF m 233 #[.val (.long xa), .second, .val (.long xb), .second, .val (.long ya), .second, .val (.long yb), .second, .val (.int shape), .val (.ref bx), .val (.int (0 : Int32)), .val (.ref bw), .val (.ref fX), .val (.ref fY), .val (.int (1 : Int32)), .val (.int fx), .val (.int fy), .unset, .unset, .unset, .unset] []) from Hfy _ rfl
          intro fy efy
          have rx : 0 ≤ fx.toInt ∧ fx.toInt ≤ 3 := by rw [efx]; exact own_idx1 _
          have ry : 0 ≤ fy.toInt ∧ fy.toInt ≤ 3 := by rw [efy]; exact own_idx1 _
          have rx0 := own_in (i := 0) (n := 3) rx (by decide) (by decide)
          have ry0 := own_in (i := 0) (n := 3) ry (by decide) (by decide)
          refine go_aload (q := 235) X28 hx (hb hby at_233) rfl rfl rfl ?_
          refine go_iload (q := 237) X28 hx (hb hby at_235) rfl rfl ?_
          refine go_aload (q := 239) X28 hx (hb hby at_237) rfl rfl rfl ?_
          refine go_iload (q := 241) X28 hx (hb hby at_239) rfl rfl ?_
          refine go_iconst (q := 242) (v := (0 : Int32)) X28 hx (hb hby at_241) rfl rfl ?_
          refine go_iload (q := 244) X28 hx (hb hby at_242) rfl rfl ?_
          refine go_callS (q := 247) (W := 0) X28 hx hZ hown e28 (hw _ (List.mem_of_getElem? (i := 9) rfl)) (hw _ (List.mem_of_getElem? (i := 10) rfl)) (hw _ (List.mem_of_getElem? (i := 3) rfl)) (hw _ (List.mem_of_getElem? (i := 11) rfl)) (by decide) [(.ref bx), (.int fx), (.ref bw), (.int fy), (.int (0 : Int32)), (.int (1 : Int32))] [] (rm3 l Z a0 hw [] bx fx bw fy (0 : Int32) (1 : Int32) k_bx k_bw _ _ x0 x1 x2 x3 y0 y1 y2 y3 h28 V_bx V_bw (fun _ => ⟨rx0, ry0⟩)) (by rw [hml]; rfl) rfl (lenOf pd_1 rfl) (Nat.le_of_eq rfl) (by decide) (by decide) (hb hby at_244) rfl (by decide) (by decide) ?_
          rintro T35 L35 v35 X35 ⟨Np35, rfl, e35⟩
          have N35 := Fr.app N28 (Np35 _)
          show Go p e below s (fun v h L => v = some (.int (1 : Int32)) ∧ Fr h0.size L) room_1.cells room_1.slots T35 (mkF m 247 #[.val (.long xa), .second, .val (.long xb), .second, .val (.long ya), .second, .val (.long yb), .second, .val (.int shape), .val (.ref bx), .val (.int (0 : Int32)), .val (.ref bw), .val (.ref fX), .val (.ref fY), .val (.int (1 : Int32)), .val (.int fx), .val (.int fy), .unset, .unset, .unset, .unset] [(.long (if (0 : Int32) < (1 : Int32) then (sel4 x0 x1 x2 x3 (fx + (0 : Int32))).toInt64 * (sel4 y0 y1 y2 y3 (fy + (0 : Int32))).toInt64 else 0))])
          suffices Ht0 : ∀ t0 : Int64, t0 = (if (0 : Int32) < (1 : Int32) then (sel4 x0 x1 x2 x3 (fx + (0 : Int32))).toInt64 * (sel4 y0 y1 y2 y3 (fy + (0 : Int32))).toInt64 else 0) → Go p e below s (fun v h L => v = some (.int (1 : Int32)) ∧ Fr h0.size L) room_1.cells room_1.slots T35 (mkF m 247 #[.val (.long xa), .second, .val (.long xb), .second, .val (.long ya), .second, .val (.long yb), .second, .val (.int shape), .val (.ref bx), .val (.int (0 : Int32)), .val (.ref bw), .val (.ref fX), .val (.ref fY), .val (.int (1 : Int32)), .val (.int fx), .val (.int fy), .unset, .unset, .unset, .unset] [(.long t0)]) from Ht0 _ rfl
          intro t0 et0
          rw [if_pos (by decide)] at et0
          have ht0 := own_prod (bx_ (fx + (0 : Int32))) (by_ (fy + (0 : Int32)))
          rw [← et0] at ht0
          refine go_aload (q := 249) X35 hx (hb hby at_247) rfl rfl rfl ?_
          refine go_iload (q := 251) X35 hx (hb hby at_249) rfl rfl ?_
          refine go_aload (q := 253) X35 hx (hb hby at_251) rfl rfl rfl ?_
          refine go_iload (q := 255) X35 hx (hb hby at_253) rfl rfl ?_
          refine go_iconst (q := 256) (v := (1 : Int32)) X35 hx (hb hby at_255) rfl rfl ?_
          refine go_iload (q := 258) X35 hx (hb hby at_256) rfl rfl ?_
          refine go_callS (q := 261) (W := 2) X35 hx hZ hown e35 (hw _ (List.mem_of_getElem? (i := 9) rfl)) (hw _ (List.mem_of_getElem? (i := 10) rfl)) (hw _ (List.mem_of_getElem? (i := 3) rfl)) (hw _ (List.mem_of_getElem? (i := 11) rfl)) (by decide) [(.ref bx), (.int fx), (.ref bw), (.int fy), (.int (1 : Int32)), (.int (1 : Int32))] [(.long t0)] (rm3 l Z a0 hw [] bx fx bw fy (1 : Int32) (1 : Int32) k_bx k_bw _ _ x0 x1 x2 x3 y0 y1 y2 y3 h28 V_bx V_bw (fun q => absurd q (by decide))) (by rw [hml]; rfl) rfl (lenOf pd_1 rfl) (Nat.le_of_eq rfl) (by decide) (by decide) (hb hby at_258) rfl (by decide) (by decide) ?_
          rintro T36 L36 v36 X36 ⟨Np36, rfl, e36⟩
          have N36 := Fr.app N35 (Np36 _)
          show Go p e below s (fun v h L => v = some (.int (1 : Int32)) ∧ Fr h0.size L) room_1.cells room_1.slots T36 (mkF m 261 #[.val (.long xa), .second, .val (.long xb), .second, .val (.long ya), .second, .val (.long yb), .second, .val (.int shape), .val (.ref bx), .val (.int (0 : Int32)), .val (.ref bw), .val (.ref fX), .val (.ref fY), .val (.int (1 : Int32)), .val (.int fx), .val (.int fy), .unset, .unset, .unset, .unset] [(.long (if (1 : Int32) < (1 : Int32) then (sel4 x0 x1 x2 x3 (fx + (1 : Int32))).toInt64 * (sel4 y0 y1 y2 y3 (fy + (1 : Int32))).toInt64 else 0)), (.long t0)])
          suffices Ht1 : ∀ t1 : Int64, t1 = (if (1 : Int32) < (1 : Int32) then (sel4 x0 x1 x2 x3 (fx + (1 : Int32))).toInt64 * (sel4 y0 y1 y2 y3 (fy + (1 : Int32))).toInt64 else 0) → Go p e below s (fun v h L => v = some (.int (1 : Int32)) ∧ Fr h0.size L) room_1.cells room_1.slots T36 (mkF m 261 #[.val (.long xa), .second, .val (.long xb), .second, .val (.long ya), .second, .val (.long yb), .second, .val (.int shape), .val (.ref bx), .val (.int (0 : Int32)), .val (.ref bw), .val (.ref fX), .val (.ref fY), .val (.int (1 : Int32)), .val (.int fx), .val (.int fy), .unset, .unset, .unset, .unset] [(.long t1), (.long t0)]) from Ht1 _ rfl
          intro t1 et1
          rw [if_neg (by decide)] at et1
          have ht1 : t1.toInt = 0 ∧ (0 : Int).natAbs ≤ 70368744177664 := ⟨by rw [et1]; rfl, by decide⟩
          refine go_ladd (q := 262) (v := (t0 + t1)) X36 hx (hb hby at_261) rfl rfl ?_
          refine go_aload (q := 264) X36 hx (hb hby at_262) rfl rfl rfl ?_
          refine go_iload (q := 266) X36 hx (hb hby at_264) rfl rfl ?_
          refine go_aload (q := 268) X36 hx (hb hby at_266) rfl rfl rfl ?_
          refine go_iload (q := 270) X36 hx (hb hby at_268) rfl rfl ?_
          refine go_iconst (q := 271) (v := (2 : Int32)) X36 hx (hb hby at_270) rfl rfl ?_
          refine go_iload (q := 273) X36 hx (hb hby at_271) rfl rfl ?_
          refine go_callS (q := 276) (W := 2) X36 hx hZ hown e36 (hw _ (List.mem_of_getElem? (i := 9) rfl)) (hw _ (List.mem_of_getElem? (i := 10) rfl)) (hw _ (List.mem_of_getElem? (i := 3) rfl)) (hw _ (List.mem_of_getElem? (i := 11) rfl)) (by decide) [(.ref bx), (.int fx), (.ref bw), (.int fy), (.int (2 : Int32)), (.int (1 : Int32))] [(.long (t0 + t1))] (rm3 l Z a0 hw [] bx fx bw fy (2 : Int32) (1 : Int32) k_bx k_bw _ _ x0 x1 x2 x3 y0 y1 y2 y3 h28 V_bx V_bw (fun q => absurd q (by decide))) (by rw [hml]; rfl) rfl (lenOf pd_1 rfl) (Nat.le_of_eq rfl) (by decide) (by decide) (hb hby at_273) rfl (by decide) (by decide) ?_
          rintro T37 L37 v37 X37 ⟨Np37, rfl, e37⟩
          have N37 := Fr.app N36 (Np37 _)
          show Go p e below s (fun v h L => v = some (.int (1 : Int32)) ∧ Fr h0.size L) room_1.cells room_1.slots T37 (mkF m 276 #[.val (.long xa), .second, .val (.long xb), .second, .val (.long ya), .second, .val (.long yb), .second, .val (.int shape), .val (.ref bx), .val (.int (0 : Int32)), .val (.ref bw), .val (.ref fX), .val (.ref fY), .val (.int (1 : Int32)), .val (.int fx), .val (.int fy), .unset, .unset, .unset, .unset] [(.long (if (2 : Int32) < (1 : Int32) then (sel4 x0 x1 x2 x3 (fx + (2 : Int32))).toInt64 * (sel4 y0 y1 y2 y3 (fy + (2 : Int32))).toInt64 else 0)), (.long (t0 + t1))])
          suffices Ht2 : ∀ t2 : Int64, t2 = (if (2 : Int32) < (1 : Int32) then (sel4 x0 x1 x2 x3 (fx + (2 : Int32))).toInt64 * (sel4 y0 y1 y2 y3 (fy + (2 : Int32))).toInt64 else 0) → Go p e below s (fun v h L => v = some (.int (1 : Int32)) ∧ Fr h0.size L) room_1.cells room_1.slots T37 (mkF m 276 #[.val (.long xa), .second, .val (.long xb), .second, .val (.long ya), .second, .val (.long yb), .second, .val (.int shape), .val (.ref bx), .val (.int (0 : Int32)), .val (.ref bw), .val (.ref fX), .val (.ref fY), .val (.int (1 : Int32)), .val (.int fx), .val (.int fy), .unset, .unset, .unset, .unset] [(.long t2), (.long (t0 + t1))]) from Ht2 _ rfl
          intro t2 et2
          rw [if_neg (by decide)] at et2
          have ht2 : t2.toInt = 0 ∧ (0 : Int).natAbs ≤ 70368744177664 := ⟨by rw [et2]; rfl, by decide⟩
          refine go_ladd (q := 277) (v := ((t0 + t1) + t2)) X37 hx (hb hby at_276) rfl rfl ?_
          refine go_aload (q := 279) X37 hx (hb hby at_277) rfl rfl rfl ?_
          refine go_iload (q := 281) X37 hx (hb hby at_279) rfl rfl ?_
          refine go_aload (q := 283) X37 hx (hb hby at_281) rfl rfl rfl ?_
          refine go_iload (q := 285) X37 hx (hb hby at_283) rfl rfl ?_
          refine go_iconst (q := 286) (v := (3 : Int32)) X37 hx (hb hby at_285) rfl rfl ?_
          refine go_iload (q := 288) X37 hx (hb hby at_286) rfl rfl ?_
          refine go_callS (q := 291) (W := 2) X37 hx hZ hown e37 (hw _ (List.mem_of_getElem? (i := 9) rfl)) (hw _ (List.mem_of_getElem? (i := 10) rfl)) (hw _ (List.mem_of_getElem? (i := 3) rfl)) (hw _ (List.mem_of_getElem? (i := 11) rfl)) (by decide) [(.ref bx), (.int fx), (.ref bw), (.int fy), (.int (3 : Int32)), (.int (1 : Int32))] [(.long ((t0 + t1) + t2))] (rm3 l Z a0 hw [] bx fx bw fy (3 : Int32) (1 : Int32) k_bx k_bw _ _ x0 x1 x2 x3 y0 y1 y2 y3 h28 V_bx V_bw (fun q => absurd q (by decide))) (by rw [hml]; rfl) rfl (lenOf pd_1 rfl) (Nat.le_of_eq rfl) (by decide) (by decide) (hb hby at_288) rfl (by decide) (by decide) ?_
          rintro T38 L38 v38 X38 ⟨Np38, rfl, e38⟩
          have N38 := Fr.app N37 (Np38 _)
          show Go p e below s (fun v h L => v = some (.int (1 : Int32)) ∧ Fr h0.size L) room_1.cells room_1.slots T38 (mkF m 291 #[.val (.long xa), .second, .val (.long xb), .second, .val (.long ya), .second, .val (.long yb), .second, .val (.int shape), .val (.ref bx), .val (.int (0 : Int32)), .val (.ref bw), .val (.ref fX), .val (.ref fY), .val (.int (1 : Int32)), .val (.int fx), .val (.int fy), .unset, .unset, .unset, .unset] [(.long (if (3 : Int32) < (1 : Int32) then (sel4 x0 x1 x2 x3 (fx + (3 : Int32))).toInt64 * (sel4 y0 y1 y2 y3 (fy + (3 : Int32))).toInt64 else 0)), (.long ((t0 + t1) + t2))])
          suffices Ht3 : ∀ t3 : Int64, t3 = (if (3 : Int32) < (1 : Int32) then (sel4 x0 x1 x2 x3 (fx + (3 : Int32))).toInt64 * (sel4 y0 y1 y2 y3 (fy + (3 : Int32))).toInt64 else 0) → Go p e below s (fun v h L => v = some (.int (1 : Int32)) ∧ Fr h0.size L) room_1.cells room_1.slots T38 (mkF m 291 #[.val (.long xa), .second, .val (.long xb), .second, .val (.long ya), .second, .val (.long yb), .second, .val (.int shape), .val (.ref bx), .val (.int (0 : Int32)), .val (.ref bw), .val (.ref fX), .val (.ref fY), .val (.int (1 : Int32)), .val (.int fx), .val (.int fy), .unset, .unset, .unset, .unset] [(.long t3), (.long ((t0 + t1) + t2))]) from Ht3 _ rfl
          intro t3 et3
          rw [if_neg (by decide)] at et3
          have ht3 : t3.toInt = 0 ∧ (0 : Int).natAbs ≤ 70368744177664 := ⟨by rw [et3]; rfl, by decide⟩
          refine go_ladd (q := 292) (v := (((t0 + t1) + t2) + t3)) X38 hx (hb hby at_291) rfl rfl ?_
          refine go_lstore (q := 294) (l' := #[.val (.long xa), .second, .val (.long xb), .second, .val (.long ya), .second, .val (.long yb), .second, .val (.int shape), .val (.ref bx), .val (.int (0 : Int32)), .val (.ref bw), .val (.ref fX), .val (.ref fY), .val (.int (1 : Int32)), .val (.int fx), .val (.int fy), .val (.long (((t0 + t1) + t2) + t3)), .second, .unset, .unset]) X38 hx (hb hby at_292) rfl rfl ?_
          suffices Hex : ∀ ex : Int64, ex = (((t0 + t1) + t2) + t3) → Go p e below s (fun v h L => v = some (.int (1 : Int32)) ∧ Fr h0.size L) room_1.cells room_1.slots T38 (mkF m 294 #[.val (.long xa), .second, .val (.long xb), .second, .val (.long ya), .second, .val (.long yb), .second, .val (.int shape), .val (.ref bx), .val (.int (0 : Int32)), .val (.ref bw), .val (.ref fX), .val (.ref fY), .val (.int (1 : Int32)), .val (.int fx), .val (.int fy), .val (.long ex), .second, .unset, .unset] []) from Hex _ rfl
          intro ex eex
          have hex := own_sum4 ht0 ht1 ht2 ht3
          rw [← eex] at hex
          refine go_aload (q := 296) X38 hx (hb hby at_294) rfl rfl rfl ?_
          refine go_iload (q := 298) X38 hx (hb hby at_296) rfl rfl ?_
          refine go_aload (q := 300) X38 hx (hb hby at_298) rfl rfl rfl ?_
          refine go_iload (q := 302) X38 hx (hb hby at_300) rfl rfl ?_
          refine go_iload (q := 304) X38 hx (hb hby at_302) rfl rfl ?_
          refine go_callS (q := 307) (W := 0) X38 hx hZ hown e38 (hw _ (List.mem_of_getElem? (i := 12) rfl)) (hw _ (List.mem_of_getElem? (i := 13) rfl)) (hw _ (List.mem_of_getElem? (i := 14) rfl)) (hw _ (List.mem_of_getElem? (i := 15) rfl)) (by decide) [(.ref fX), (.int fx), (.ref fY), (.int fy), (.int (1 : Int32))] [] (rm4_1 l Z a0 hw [] fX fx fY fy k_fX k_fY _ _ x0 x1 x2 x3 y0 y1 y2 y3 h28 V_fX V_fY bx_ by_ rx0 ry0) (by rw [hml]; rfl) rfl (lenOf pd_2 rfl) (Nat.le_of_eq rfl) (by decide) (by decide) (hb hby at_304) rfl (by decide) (by decide) ?_
          rintro T39 L39 v39 X39 ⟨Np39, ⟨r_, rfl, hr_⟩, e39⟩
          have N39 := Fr.app N38 (Np39 _)
          show Go p e below s (fun v h L => v = some (.int (1 : Int32)) ∧ Fr h0.size L) room_1.cells room_1.slots T39 (mkF m 307 #[.val (.long xa), .second, .val (.long xb), .second, .val (.long ya), .second, .val (.long yb), .second, .val (.int shape), .val (.ref bx), .val (.int (0 : Int32)), .val (.ref bw), .val (.ref fX), .val (.ref fY), .val (.int (1 : Int32)), .val (.int fx), .val (.int fy), .val (.long ex), .second, .unset, .unset] [(.double r_)])
          refine go_dstore (q := 309) (l' := #[.val (.long xa), .second, .val (.long xb), .second, .val (.long ya), .second, .val (.long yb), .second, .val (.int shape), .val (.ref bx), .val (.int (0 : Int32)), .val (.ref bw), .val (.ref fX), .val (.ref fY), .val (.int (1 : Int32)), .val (.int fx), .val (.int fy), .val (.long ex), .second, .val (.double r_), .second]) X39 hx (hb hby at_307) rfl rfl ?_
          refine go_dload (q := 311) X39 hx (hb hby at_309) rfl rfl ?_
          refine go_lload (q := 313) X39 hx (hb hby at_311) rfl rfl ?_
          refine go_l2dB (q := 314) X39 hx (hb hby at_313) rfl (db_l2d (A := 281474976710656) hex.2 (by decide)) (fun z40 hz40 => ?_)
          refine go_dcmp (q := 315) X39 hx (hb hby at_314) rfl rfl ?_
          refine go_dif_ne (q := 318) (q' := 322) X39 hx (hb hby at_315) rfl (by decide) rfl hr_ hz40 (fun hc315 => ?_) (fun hc315 => ?_)
          · exact absurd (by rw [hex.1]; omega) hc315
          · refine go_iconst (q := 319) (v := (1 : Int32)) X39 hx (hb hby at_318) rfl rfl ?_
            refine go_goto (q := 323) X39 hx (hb hby at_319) (by decide) rfl ?_
            exact go_retN X39 hx (by simp) hret hlk (hb hby at_323) (by decide) (by decide) ⟨rfl, N39⟩
        · refine go_iload (q := 206) X28 hx (hb hby at_204) rfl rfl ?_
          refine go_iconst (q := 207) (v := (3 : Int32)) X28 hx (hb hby at_206) rfl rfl ?_
          refine go_iushr (q := 208) (v := ((shape.toUInt32 >>> ((3 : Int32) &&& 31).toUInt32).toInt32)) X28 hx (hb hby at_207) rfl rfl ?_
          refine go_bipush (q := 210) (v := (7 : Int32)) X28 hx (hb hby at_208) rfl rfl ?_
          refine go_iand (q := 211) (v := (((shape.toUInt32 >>> ((3 : Int32) &&& 31).toUInt32).toInt32) &&& (7 : Int32))) X28 hx (hb hby at_210) rfl rfl ?_
          refine go_iconst (q := 212) (v := (5 : Int32)) X28 hx (hb hby at_211) rfl rfl ?_
          refine go_iload (q := 214) X28 hx (hb hby at_212) rfl rfl ?_
          refine go_isub (q := 215) (v := (3 : Int32)) X28 hx (hb hby at_214) rfl rfl ?_
          refine go_irem (q := 216) (v := ((((shape.toUInt32 >>> ((3 : Int32) &&& 31).toUInt32).toInt32) &&& (7 : Int32)) % (3 : Int32))) X28 hx (hb hby at_215) rfl (by decide) rfl ?_
          refine go_istore (q := 218) (l' := #[.val (.long xa), .second, .val (.long xb), .second, .val (.long ya), .second, .val (.long yb), .second, .val (.int shape), .val (.ref bx), .val (.int (0 : Int32)), .val (.ref bw), .val (.ref fX), .val (.ref fY), .val (.int (2 : Int32)), .val (.int ((((shape.toUInt32 >>> ((3 : Int32) &&& 31).toUInt32).toInt32) &&& (7 : Int32)) % (3 : Int32))), .unset, .unset, .unset, .unset, .unset]) X28 hx (hb hby at_216) rfl rfl ?_
          suffices Hfx : ∀ fx : Int32, fx = ((((shape.toUInt32 >>> ((3 : Int32) &&& 31).toUInt32).toInt32) &&& (7 : Int32)) % (3 : Int32)) → Go p e below s (fun v h L => v = some (.int (1 : Int32)) ∧ Fr h0.size L) room_1.cells room_1.slots T28 (mkF m 218 #[.val (.long xa), .second, .val (.long xb), .second, .val (.long ya), .second, .val (.long yb), .second, .val (.int shape), .val (.ref bx), .val (.int (0 : Int32)), .val (.ref bw), .val (.ref fX), .val (.ref fY), .val (.int (2 : Int32)), .val (.int fx), .unset, .unset, .unset, .unset, .unset] []) from Hfx _ rfl
          intro fx efx
          refine go_iload (q := 220) X28 hx (hb hby at_218) rfl rfl ?_
          refine go_bipush (q := 222) (v := (6 : Int32)) X28 hx (hb hby at_220) rfl rfl ?_
          refine go_iushr (q := 223) (v := ((shape.toUInt32 >>> ((6 : Int32) &&& 31).toUInt32).toInt32)) X28 hx (hb hby at_222) rfl rfl ?_
          refine go_bipush (q := 225) (v := (7 : Int32)) X28 hx (hb hby at_223) rfl rfl ?_
          refine go_iand (q := 226) (v := (((shape.toUInt32 >>> ((6 : Int32) &&& 31).toUInt32).toInt32) &&& (7 : Int32))) X28 hx (hb hby at_225) rfl rfl ?_
          refine go_iconst (q := 227) (v := (5 : Int32)) X28 hx (hb hby at_226) rfl rfl ?_
          refine go_iload (q := 229) X28 hx (hb hby at_227) rfl rfl ?_
          refine go_isub (q := 230) (v := (3 : Int32)) X28 hx (hb hby at_229) rfl rfl ?_
          refine go_irem (q := 231) (v := ((((shape.toUInt32 >>> ((6 : Int32) &&& 31).toUInt32).toInt32) &&& (7 : Int32)) % (3 : Int32))) X28 hx (hb hby at_230) rfl (by decide) rfl ?_
          refine go_istore (q := 233) (l' := #[.val (.long xa), .second, .val (.long xb), .second, .val (.long ya), .second, .val (.long yb), .second, .val (.int shape), .val (.ref bx), .val (.int (0 : Int32)), .val (.ref bw), .val (.ref fX), .val (.ref fY), .val (.int (2 : Int32)), .val (.int fx), .val (.int ((((shape.toUInt32 >>> ((6 : Int32) &&& 31).toUInt32).toInt32) &&& (7 : Int32)) % (3 : Int32))), .unset, .unset, .unset, .unset]) X28 hx (hb hby at_231) rfl rfl ?_
          suffices Hfy : ∀ fy : Int32, fy = ((((shape.toUInt32 >>> ((6 : Int32) &&& 31).toUInt32).toInt32) &&& (7 : Int32)) % (3 : Int32)) → Go p e below s (fun v h L => v = some (.int (1 : Int32)) ∧ Fr h0.size L) room_1.cells room_1.slots T28 (mkF m 233 #[.val (.long xa), .second, .val (.long xb), .second, .val (.long ya), .second, .val (.long yb), .second, .val (.int shape), .val (.ref bx), .val (.int (0 : Int32)), .val (.ref bw), .val (.ref fX), .val (.ref fY), .val (.int (2 : Int32)), .val (.int fx), .val (.int fy), .unset, .unset, .unset, .unset] []) from Hfy _ rfl
          intro fy efy
          have rx : 0 ≤ fx.toInt ∧ fx.toInt ≤ 2 := by rw [efx]; exact own_idx2 _
          have ry : 0 ≤ fy.toInt ∧ fy.toInt ≤ 2 := by rw [efy]; exact own_idx2 _
          have rx0 := own_in (i := 0) (n := 2) rx (by decide) (by decide)
          have ry0 := own_in (i := 0) (n := 2) ry (by decide) (by decide)
          have rx1 := own_in (i := 1) (n := 2) rx (by decide) (by decide)
          have ry1 := own_in (i := 1) (n := 2) ry (by decide) (by decide)
          refine go_aload (q := 235) X28 hx (hb hby at_233) rfl rfl rfl ?_
          refine go_iload (q := 237) X28 hx (hb hby at_235) rfl rfl ?_
          refine go_aload (q := 239) X28 hx (hb hby at_237) rfl rfl rfl ?_
          refine go_iload (q := 241) X28 hx (hb hby at_239) rfl rfl ?_
          refine go_iconst (q := 242) (v := (0 : Int32)) X28 hx (hb hby at_241) rfl rfl ?_
          refine go_iload (q := 244) X28 hx (hb hby at_242) rfl rfl ?_
          refine go_callS (q := 247) (W := 0) X28 hx hZ hown e28 (hw _ (List.mem_of_getElem? (i := 9) rfl)) (hw _ (List.mem_of_getElem? (i := 10) rfl)) (hw _ (List.mem_of_getElem? (i := 3) rfl)) (hw _ (List.mem_of_getElem? (i := 11) rfl)) (by decide) [(.ref bx), (.int fx), (.ref bw), (.int fy), (.int (0 : Int32)), (.int (2 : Int32))] [] (rm3 l Z a0 hw [] bx fx bw fy (0 : Int32) (2 : Int32) k_bx k_bw _ _ x0 x1 x2 x3 y0 y1 y2 y3 h28 V_bx V_bw (fun _ => ⟨rx0, ry0⟩)) (by rw [hml]; rfl) rfl (lenOf pd_1 rfl) (Nat.le_of_eq rfl) (by decide) (by decide) (hb hby at_244) rfl (by decide) (by decide) ?_
          rintro T41 L41 v41 X41 ⟨Np41, rfl, e41⟩
          have N41 := Fr.app N28 (Np41 _)
          show Go p e below s (fun v h L => v = some (.int (1 : Int32)) ∧ Fr h0.size L) room_1.cells room_1.slots T41 (mkF m 247 #[.val (.long xa), .second, .val (.long xb), .second, .val (.long ya), .second, .val (.long yb), .second, .val (.int shape), .val (.ref bx), .val (.int (0 : Int32)), .val (.ref bw), .val (.ref fX), .val (.ref fY), .val (.int (2 : Int32)), .val (.int fx), .val (.int fy), .unset, .unset, .unset, .unset] [(.long (if (0 : Int32) < (2 : Int32) then (sel4 x0 x1 x2 x3 (fx + (0 : Int32))).toInt64 * (sel4 y0 y1 y2 y3 (fy + (0 : Int32))).toInt64 else 0))])
          suffices Ht0 : ∀ t0 : Int64, t0 = (if (0 : Int32) < (2 : Int32) then (sel4 x0 x1 x2 x3 (fx + (0 : Int32))).toInt64 * (sel4 y0 y1 y2 y3 (fy + (0 : Int32))).toInt64 else 0) → Go p e below s (fun v h L => v = some (.int (1 : Int32)) ∧ Fr h0.size L) room_1.cells room_1.slots T41 (mkF m 247 #[.val (.long xa), .second, .val (.long xb), .second, .val (.long ya), .second, .val (.long yb), .second, .val (.int shape), .val (.ref bx), .val (.int (0 : Int32)), .val (.ref bw), .val (.ref fX), .val (.ref fY), .val (.int (2 : Int32)), .val (.int fx), .val (.int fy), .unset, .unset, .unset, .unset] [(.long t0)]) from Ht0 _ rfl
          intro t0 et0
          rw [if_pos (by decide)] at et0
          have ht0 := own_prod (bx_ (fx + (0 : Int32))) (by_ (fy + (0 : Int32)))
          rw [← et0] at ht0
          refine go_aload (q := 249) X41 hx (hb hby at_247) rfl rfl rfl ?_
          refine go_iload (q := 251) X41 hx (hb hby at_249) rfl rfl ?_
          refine go_aload (q := 253) X41 hx (hb hby at_251) rfl rfl rfl ?_
          refine go_iload (q := 255) X41 hx (hb hby at_253) rfl rfl ?_
          refine go_iconst (q := 256) (v := (1 : Int32)) X41 hx (hb hby at_255) rfl rfl ?_
          refine go_iload (q := 258) X41 hx (hb hby at_256) rfl rfl ?_
          refine go_callS (q := 261) (W := 2) X41 hx hZ hown e41 (hw _ (List.mem_of_getElem? (i := 9) rfl)) (hw _ (List.mem_of_getElem? (i := 10) rfl)) (hw _ (List.mem_of_getElem? (i := 3) rfl)) (hw _ (List.mem_of_getElem? (i := 11) rfl)) (by decide) [(.ref bx), (.int fx), (.ref bw), (.int fy), (.int (1 : Int32)), (.int (2 : Int32))] [(.long t0)] (rm3 l Z a0 hw [] bx fx bw fy (1 : Int32) (2 : Int32) k_bx k_bw _ _ x0 x1 x2 x3 y0 y1 y2 y3 h28 V_bx V_bw (fun _ => ⟨rx1, ry1⟩)) (by rw [hml]; rfl) rfl (lenOf pd_1 rfl) (Nat.le_of_eq rfl) (by decide) (by decide) (hb hby at_258) rfl (by decide) (by decide) ?_
          rintro T42 L42 v42 X42 ⟨Np42, rfl, e42⟩
          have N42 := Fr.app N41 (Np42 _)
          show Go p e below s (fun v h L => v = some (.int (1 : Int32)) ∧ Fr h0.size L) room_1.cells room_1.slots T42 (mkF m 261 #[.val (.long xa), .second, .val (.long xb), .second, .val (.long ya), .second, .val (.long yb), .second, .val (.int shape), .val (.ref bx), .val (.int (0 : Int32)), .val (.ref bw), .val (.ref fX), .val (.ref fY), .val (.int (2 : Int32)), .val (.int fx), .val (.int fy), .unset, .unset, .unset, .unset] [(.long (if (1 : Int32) < (2 : Int32) then (sel4 x0 x1 x2 x3 (fx + (1 : Int32))).toInt64 * (sel4 y0 y1 y2 y3 (fy + (1 : Int32))).toInt64 else 0)), (.long t0)])
          suffices Ht1 : ∀ t1 : Int64, t1 = (if (1 : Int32) < (2 : Int32) then (sel4 x0 x1 x2 x3 (fx + (1 : Int32))).toInt64 * (sel4 y0 y1 y2 y3 (fy + (1 : Int32))).toInt64 else 0) → Go p e below s (fun v h L => v = some (.int (1 : Int32)) ∧ Fr h0.size L) room_1.cells room_1.slots T42 (mkF m 261 #[.val (.long xa), .second, .val (.long xb), .second, .val (.long ya), .second, .val (.long yb), .second, .val (.int shape), .val (.ref bx), .val (.int (0 : Int32)), .val (.ref bw), .val (.ref fX), .val (.ref fY), .val (.int (2 : Int32)), .val (.int fx), .val (.int fy), .unset, .unset, .unset, .unset] [(.long t1), (.long t0)]) from Ht1 _ rfl
          intro t1 et1
          rw [if_pos (by decide)] at et1
          have ht1 := own_prod (bx_ (fx + (1 : Int32))) (by_ (fy + (1 : Int32)))
          rw [← et1] at ht1
          refine go_ladd (q := 262) (v := (t0 + t1)) X42 hx (hb hby at_261) rfl rfl ?_
          refine go_aload (q := 264) X42 hx (hb hby at_262) rfl rfl rfl ?_
          refine go_iload (q := 266) X42 hx (hb hby at_264) rfl rfl ?_
          refine go_aload (q := 268) X42 hx (hb hby at_266) rfl rfl rfl ?_
          refine go_iload (q := 270) X42 hx (hb hby at_268) rfl rfl ?_
          refine go_iconst (q := 271) (v := (2 : Int32)) X42 hx (hb hby at_270) rfl rfl ?_
          refine go_iload (q := 273) X42 hx (hb hby at_271) rfl rfl ?_
          refine go_callS (q := 276) (W := 2) X42 hx hZ hown e42 (hw _ (List.mem_of_getElem? (i := 9) rfl)) (hw _ (List.mem_of_getElem? (i := 10) rfl)) (hw _ (List.mem_of_getElem? (i := 3) rfl)) (hw _ (List.mem_of_getElem? (i := 11) rfl)) (by decide) [(.ref bx), (.int fx), (.ref bw), (.int fy), (.int (2 : Int32)), (.int (2 : Int32))] [(.long (t0 + t1))] (rm3 l Z a0 hw [] bx fx bw fy (2 : Int32) (2 : Int32) k_bx k_bw _ _ x0 x1 x2 x3 y0 y1 y2 y3 h28 V_bx V_bw (fun q => absurd q (by decide))) (by rw [hml]; rfl) rfl (lenOf pd_1 rfl) (Nat.le_of_eq rfl) (by decide) (by decide) (hb hby at_273) rfl (by decide) (by decide) ?_
          rintro T43 L43 v43 X43 ⟨Np43, rfl, e43⟩
          have N43 := Fr.app N42 (Np43 _)
          show Go p e below s (fun v h L => v = some (.int (1 : Int32)) ∧ Fr h0.size L) room_1.cells room_1.slots T43 (mkF m 276 #[.val (.long xa), .second, .val (.long xb), .second, .val (.long ya), .second, .val (.long yb), .second, .val (.int shape), .val (.ref bx), .val (.int (0 : Int32)), .val (.ref bw), .val (.ref fX), .val (.ref fY), .val (.int (2 : Int32)), .val (.int fx), .val (.int fy), .unset, .unset, .unset, .unset] [(.long (if (2 : Int32) < (2 : Int32) then (sel4 x0 x1 x2 x3 (fx + (2 : Int32))).toInt64 * (sel4 y0 y1 y2 y3 (fy + (2 : Int32))).toInt64 else 0)), (.long (t0 + t1))])
          suffices Ht2 : ∀ t2 : Int64, t2 = (if (2 : Int32) < (2 : Int32) then (sel4 x0 x1 x2 x3 (fx + (2 : Int32))).toInt64 * (sel4 y0 y1 y2 y3 (fy + (2 : Int32))).toInt64 else 0) → Go p e below s (fun v h L => v = some (.int (1 : Int32)) ∧ Fr h0.size L) room_1.cells room_1.slots T43 (mkF m 276 #[.val (.long xa), .second, .val (.long xb), .second, .val (.long ya), .second, .val (.long yb), .second, .val (.int shape), .val (.ref bx), .val (.int (0 : Int32)), .val (.ref bw), .val (.ref fX), .val (.ref fY), .val (.int (2 : Int32)), .val (.int fx), .val (.int fy), .unset, .unset, .unset, .unset] [(.long t2), (.long (t0 + t1))]) from Ht2 _ rfl
          intro t2 et2
          rw [if_neg (by decide)] at et2
          have ht2 : t2.toInt = 0 ∧ (0 : Int).natAbs ≤ 70368744177664 := ⟨by rw [et2]; rfl, by decide⟩
          refine go_ladd (q := 277) (v := ((t0 + t1) + t2)) X43 hx (hb hby at_276) rfl rfl ?_
          refine go_aload (q := 279) X43 hx (hb hby at_277) rfl rfl rfl ?_
          refine go_iload (q := 281) X43 hx (hb hby at_279) rfl rfl ?_
          refine go_aload (q := 283) X43 hx (hb hby at_281) rfl rfl rfl ?_
          refine go_iload (q := 285) X43 hx (hb hby at_283) rfl rfl ?_
          refine go_iconst (q := 286) (v := (3 : Int32)) X43 hx (hb hby at_285) rfl rfl ?_
          refine go_iload (q := 288) X43 hx (hb hby at_286) rfl rfl ?_
          refine go_callS (q := 291) (W := 2) X43 hx hZ hown e43 (hw _ (List.mem_of_getElem? (i := 9) rfl)) (hw _ (List.mem_of_getElem? (i := 10) rfl)) (hw _ (List.mem_of_getElem? (i := 3) rfl)) (hw _ (List.mem_of_getElem? (i := 11) rfl)) (by decide) [(.ref bx), (.int fx), (.ref bw), (.int fy), (.int (3 : Int32)), (.int (2 : Int32))] [(.long ((t0 + t1) + t2))] (rm3 l Z a0 hw [] bx fx bw fy (3 : Int32) (2 : Int32) k_bx k_bw _ _ x0 x1 x2 x3 y0 y1 y2 y3 h28 V_bx V_bw (fun q => absurd q (by decide))) (by rw [hml]; rfl) rfl (lenOf pd_1 rfl) (Nat.le_of_eq rfl) (by decide) (by decide) (hb hby at_288) rfl (by decide) (by decide) ?_
          rintro T44 L44 v44 X44 ⟨Np44, rfl, e44⟩
          have N44 := Fr.app N43 (Np44 _)
          show Go p e below s (fun v h L => v = some (.int (1 : Int32)) ∧ Fr h0.size L) room_1.cells room_1.slots T44 (mkF m 291 #[.val (.long xa), .second, .val (.long xb), .second, .val (.long ya), .second, .val (.long yb), .second, .val (.int shape), .val (.ref bx), .val (.int (0 : Int32)), .val (.ref bw), .val (.ref fX), .val (.ref fY), .val (.int (2 : Int32)), .val (.int fx), .val (.int fy), .unset, .unset, .unset, .unset] [(.long (if (3 : Int32) < (2 : Int32) then (sel4 x0 x1 x2 x3 (fx + (3 : Int32))).toInt64 * (sel4 y0 y1 y2 y3 (fy + (3 : Int32))).toInt64 else 0)), (.long ((t0 + t1) + t2))])
          suffices Ht3 : ∀ t3 : Int64, t3 = (if (3 : Int32) < (2 : Int32) then (sel4 x0 x1 x2 x3 (fx + (3 : Int32))).toInt64 * (sel4 y0 y1 y2 y3 (fy + (3 : Int32))).toInt64 else 0) → Go p e below s (fun v h L => v = some (.int (1 : Int32)) ∧ Fr h0.size L) room_1.cells room_1.slots T44 (mkF m 291 #[.val (.long xa), .second, .val (.long xb), .second, .val (.long ya), .second, .val (.long yb), .second, .val (.int shape), .val (.ref bx), .val (.int (0 : Int32)), .val (.ref bw), .val (.ref fX), .val (.ref fY), .val (.int (2 : Int32)), .val (.int fx), .val (.int fy), .unset, .unset, .unset, .unset] [(.long t3), (.long ((t0 + t1) + t2))]) from Ht3 _ rfl
          intro t3 et3
          rw [if_neg (by decide)] at et3
          have ht3 : t3.toInt = 0 ∧ (0 : Int).natAbs ≤ 70368744177664 := ⟨by rw [et3]; rfl, by decide⟩
          refine go_ladd (q := 292) (v := (((t0 + t1) + t2) + t3)) X44 hx (hb hby at_291) rfl rfl ?_
          refine go_lstore (q := 294) (l' := #[.val (.long xa), .second, .val (.long xb), .second, .val (.long ya), .second, .val (.long yb), .second, .val (.int shape), .val (.ref bx), .val (.int (0 : Int32)), .val (.ref bw), .val (.ref fX), .val (.ref fY), .val (.int (2 : Int32)), .val (.int fx), .val (.int fy), .val (.long (((t0 + t1) + t2) + t3)), .second, .unset, .unset]) X44 hx (hb hby at_292) rfl rfl ?_
          suffices Hex : ∀ ex : Int64, ex = (((t0 + t1) + t2) + t3) → Go p e below s (fun v h L => v = some (.int (1 : Int32)) ∧ Fr h0.size L) room_1.cells room_1.slots T44 (mkF m 294 #[.val (.long xa), .second, .val (.long xb), .second, .val (.long ya), .second, .val (.long yb), .second, .val (.int shape), .val (.ref bx), .val (.int (0 : Int32)), .val (.ref bw), .val (.ref fX), .val (.ref fY), .val (.int (2 : Int32)), .val (.int fx), .val (.int fy), .val (.long ex), .second, .unset, .unset] []) from Hex _ rfl
          intro ex eex
          have hex := own_sum4 ht0 ht1 ht2 ht3
          rw [← eex] at hex
          refine go_aload (q := 296) X44 hx (hb hby at_294) rfl rfl rfl ?_
          refine go_iload (q := 298) X44 hx (hb hby at_296) rfl rfl ?_
          refine go_aload (q := 300) X44 hx (hb hby at_298) rfl rfl rfl ?_
          refine go_iload (q := 302) X44 hx (hb hby at_300) rfl rfl ?_
          refine go_iload (q := 304) X44 hx (hb hby at_302) rfl rfl ?_
          refine go_callS (q := 307) (W := 0) X44 hx hZ hown e44 (hw _ (List.mem_of_getElem? (i := 12) rfl)) (hw _ (List.mem_of_getElem? (i := 13) rfl)) (hw _ (List.mem_of_getElem? (i := 14) rfl)) (hw _ (List.mem_of_getElem? (i := 15) rfl)) (by decide) [(.ref fX), (.int fx), (.ref fY), (.int fy), (.int (2 : Int32))] [] (rm4_2 l Z a0 hw [] fX fx fY fy k_fX k_fY _ _ x0 x1 x2 x3 y0 y1 y2 y3 h28 V_fX V_fY bx_ by_ rx0 ry0 rx1 ry1) (by rw [hml]; rfl) rfl (lenOf pd_2 rfl) (Nat.le_of_eq rfl) (by decide) (by decide) (hb hby at_304) rfl (by decide) (by decide) ?_
          rintro T45 L45 v45 X45 ⟨Np45, ⟨r_, rfl, hr_⟩, e45⟩
          have N45 := Fr.app N44 (Np45 _)
          show Go p e below s (fun v h L => v = some (.int (1 : Int32)) ∧ Fr h0.size L) room_1.cells room_1.slots T45 (mkF m 307 #[.val (.long xa), .second, .val (.long xb), .second, .val (.long ya), .second, .val (.long yb), .second, .val (.int shape), .val (.ref bx), .val (.int (0 : Int32)), .val (.ref bw), .val (.ref fX), .val (.ref fY), .val (.int (2 : Int32)), .val (.int fx), .val (.int fy), .val (.long ex), .second, .unset, .unset] [(.double r_)])
          refine go_dstore (q := 309) (l' := #[.val (.long xa), .second, .val (.long xb), .second, .val (.long ya), .second, .val (.long yb), .second, .val (.int shape), .val (.ref bx), .val (.int (0 : Int32)), .val (.ref bw), .val (.ref fX), .val (.ref fY), .val (.int (2 : Int32)), .val (.int fx), .val (.int fy), .val (.long ex), .second, .val (.double r_), .second]) X45 hx (hb hby at_307) rfl rfl ?_
          refine go_dload (q := 311) X45 hx (hb hby at_309) rfl rfl ?_
          refine go_lload (q := 313) X45 hx (hb hby at_311) rfl rfl ?_
          refine go_l2dB (q := 314) X45 hx (hb hby at_313) rfl (db_l2d (A := 281474976710656) hex.2 (by decide)) (fun z46 hz46 => ?_)
          refine go_dcmp (q := 315) X45 hx (hb hby at_314) rfl rfl ?_
          refine go_dif_ne (q := 318) (q' := 322) X45 hx (hb hby at_315) rfl (by decide) rfl hr_ hz46 (fun hc315 => ?_) (fun hc315 => ?_)
          · exact absurd (by rw [hex.1]; omega) hc315
          · refine go_iconst (q := 319) (v := (1 : Int32)) X45 hx (hb hby at_318) rfl rfl ?_
            refine go_goto (q := 323) X45 hx (hb hby at_319) (by decide) rfl ?_
            exact go_retN X45 hx (by simp) hret hlk (hb hby at_323) (by decide) (by decide) ⟨rfl, N45⟩
        · refine go_iload (q := 206) X28 hx (hb hby at_204) rfl rfl ?_
          refine go_iconst (q := 207) (v := (3 : Int32)) X28 hx (hb hby at_206) rfl rfl ?_
          refine go_iushr (q := 208) (v := ((shape.toUInt32 >>> ((3 : Int32) &&& 31).toUInt32).toInt32)) X28 hx (hb hby at_207) rfl rfl ?_
          refine go_bipush (q := 210) (v := (7 : Int32)) X28 hx (hb hby at_208) rfl rfl ?_
          refine go_iand (q := 211) (v := (((shape.toUInt32 >>> ((3 : Int32) &&& 31).toUInt32).toInt32) &&& (7 : Int32))) X28 hx (hb hby at_210) rfl rfl ?_
          refine go_iconst (q := 212) (v := (5 : Int32)) X28 hx (hb hby at_211) rfl rfl ?_
          refine go_iload (q := 214) X28 hx (hb hby at_212) rfl rfl ?_
          refine go_isub (q := 215) (v := (2 : Int32)) X28 hx (hb hby at_214) rfl rfl ?_
          refine go_irem (q := 216) (v := ((((shape.toUInt32 >>> ((3 : Int32) &&& 31).toUInt32).toInt32) &&& (7 : Int32)) % (2 : Int32))) X28 hx (hb hby at_215) rfl (by decide) rfl ?_
          refine go_istore (q := 218) (l' := #[.val (.long xa), .second, .val (.long xb), .second, .val (.long ya), .second, .val (.long yb), .second, .val (.int shape), .val (.ref bx), .val (.int (0 : Int32)), .val (.ref bw), .val (.ref fX), .val (.ref fY), .val (.int (3 : Int32)), .val (.int ((((shape.toUInt32 >>> ((3 : Int32) &&& 31).toUInt32).toInt32) &&& (7 : Int32)) % (2 : Int32))), .unset, .unset, .unset, .unset, .unset]) X28 hx (hb hby at_216) rfl rfl ?_
          suffices Hfx : ∀ fx : Int32, fx = ((((shape.toUInt32 >>> ((3 : Int32) &&& 31).toUInt32).toInt32) &&& (7 : Int32)) % (2 : Int32)) → Go p e below s (fun v h L => v = some (.int (1 : Int32)) ∧ Fr h0.size L) room_1.cells room_1.slots T28 (mkF m 218 #[.val (.long xa), .second, .val (.long xb), .second, .val (.long ya), .second, .val (.long yb), .second, .val (.int shape), .val (.ref bx), .val (.int (0 : Int32)), .val (.ref bw), .val (.ref fX), .val (.ref fY), .val (.int (3 : Int32)), .val (.int fx), .unset, .unset, .unset, .unset, .unset] []) from Hfx _ rfl
          intro fx efx
          refine go_iload (q := 220) X28 hx (hb hby at_218) rfl rfl ?_
          refine go_bipush (q := 222) (v := (6 : Int32)) X28 hx (hb hby at_220) rfl rfl ?_
          refine go_iushr (q := 223) (v := ((shape.toUInt32 >>> ((6 : Int32) &&& 31).toUInt32).toInt32)) X28 hx (hb hby at_222) rfl rfl ?_
          refine go_bipush (q := 225) (v := (7 : Int32)) X28 hx (hb hby at_223) rfl rfl ?_
          refine go_iand (q := 226) (v := (((shape.toUInt32 >>> ((6 : Int32) &&& 31).toUInt32).toInt32) &&& (7 : Int32))) X28 hx (hb hby at_225) rfl rfl ?_
          refine go_iconst (q := 227) (v := (5 : Int32)) X28 hx (hb hby at_226) rfl rfl ?_
          refine go_iload (q := 229) X28 hx (hb hby at_227) rfl rfl ?_
          refine go_isub (q := 230) (v := (2 : Int32)) X28 hx (hb hby at_229) rfl rfl ?_
          refine go_irem (q := 231) (v := ((((shape.toUInt32 >>> ((6 : Int32) &&& 31).toUInt32).toInt32) &&& (7 : Int32)) % (2 : Int32))) X28 hx (hb hby at_230) rfl (by decide) rfl ?_
          refine go_istore (q := 233) (l' := #[.val (.long xa), .second, .val (.long xb), .second, .val (.long ya), .second, .val (.long yb), .second, .val (.int shape), .val (.ref bx), .val (.int (0 : Int32)), .val (.ref bw), .val (.ref fX), .val (.ref fY), .val (.int (3 : Int32)), .val (.int fx), .val (.int ((((shape.toUInt32 >>> ((6 : Int32) &&& 31).toUInt32).toInt32) &&& (7 : Int32)) % (2 : Int32))), .unset, .unset, .unset, .unset]) X28 hx (hb hby at_231) rfl rfl ?_
          suffices Hfy : ∀ fy : Int32, fy = ((((shape.toUInt32 >>> ((6 : Int32) &&& 31).toUInt32).toInt32) &&& (7 : Int32)) % (2 : Int32)) → Go p e below s (fun v h L => v = some (.int (1 : Int32)) ∧ Fr h0.size L) room_1.cells room_1.slots T28 (mkF m 233 #[.val (.long xa), .second, .val (.long xb), .second, .val (.long ya), .second, .val (.long yb), .second, .val (.int shape), .val (.ref bx), .val (.int (0 : Int32)), .val (.ref bw), .val (.ref fX), .val (.ref fY), .val (.int (3 : Int32)), .val (.int fx), .val (.int fy), .unset, .unset, .unset, .unset] []) from Hfy _ rfl
          intro fy efy
          have rx : 0 ≤ fx.toInt ∧ fx.toInt ≤ 1 := by rw [efx]; exact own_idx3 _
          have ry : 0 ≤ fy.toInt ∧ fy.toInt ≤ 1 := by rw [efy]; exact own_idx3 _
          have rx0 := own_in (i := 0) (n := 1) rx (by decide) (by decide)
          have ry0 := own_in (i := 0) (n := 1) ry (by decide) (by decide)
          have rx1 := own_in (i := 1) (n := 1) rx (by decide) (by decide)
          have ry1 := own_in (i := 1) (n := 1) ry (by decide) (by decide)
          have rx2 := own_in (i := 2) (n := 1) rx (by decide) (by decide)
          have ry2 := own_in (i := 2) (n := 1) ry (by decide) (by decide)
          refine go_aload (q := 235) X28 hx (hb hby at_233) rfl rfl rfl ?_
          refine go_iload (q := 237) X28 hx (hb hby at_235) rfl rfl ?_
          refine go_aload (q := 239) X28 hx (hb hby at_237) rfl rfl rfl ?_
          refine go_iload (q := 241) X28 hx (hb hby at_239) rfl rfl ?_
          refine go_iconst (q := 242) (v := (0 : Int32)) X28 hx (hb hby at_241) rfl rfl ?_
          refine go_iload (q := 244) X28 hx (hb hby at_242) rfl rfl ?_
          refine go_callS (q := 247) (W := 0) X28 hx hZ hown e28 (hw _ (List.mem_of_getElem? (i := 9) rfl)) (hw _ (List.mem_of_getElem? (i := 10) rfl)) (hw _ (List.mem_of_getElem? (i := 3) rfl)) (hw _ (List.mem_of_getElem? (i := 11) rfl)) (by decide) [(.ref bx), (.int fx), (.ref bw), (.int fy), (.int (0 : Int32)), (.int (3 : Int32))] [] (rm3 l Z a0 hw [] bx fx bw fy (0 : Int32) (3 : Int32) k_bx k_bw _ _ x0 x1 x2 x3 y0 y1 y2 y3 h28 V_bx V_bw (fun _ => ⟨rx0, ry0⟩)) (by rw [hml]; rfl) rfl (lenOf pd_1 rfl) (Nat.le_of_eq rfl) (by decide) (by decide) (hb hby at_244) rfl (by decide) (by decide) ?_
          rintro T47 L47 v47 X47 ⟨Np47, rfl, e47⟩
          have N47 := Fr.app N28 (Np47 _)
          show Go p e below s (fun v h L => v = some (.int (1 : Int32)) ∧ Fr h0.size L) room_1.cells room_1.slots T47 (mkF m 247 #[.val (.long xa), .second, .val (.long xb), .second, .val (.long ya), .second, .val (.long yb), .second, .val (.int shape), .val (.ref bx), .val (.int (0 : Int32)), .val (.ref bw), .val (.ref fX), .val (.ref fY), .val (.int (3 : Int32)), .val (.int fx), .val (.int fy), .unset, .unset, .unset, .unset] [(.long (if (0 : Int32) < (3 : Int32) then (sel4 x0 x1 x2 x3 (fx + (0 : Int32))).toInt64 * (sel4 y0 y1 y2 y3 (fy + (0 : Int32))).toInt64 else 0))])
          suffices Ht0 : ∀ t0 : Int64, t0 = (if (0 : Int32) < (3 : Int32) then (sel4 x0 x1 x2 x3 (fx + (0 : Int32))).toInt64 * (sel4 y0 y1 y2 y3 (fy + (0 : Int32))).toInt64 else 0) → Go p e below s (fun v h L => v = some (.int (1 : Int32)) ∧ Fr h0.size L) room_1.cells room_1.slots T47 (mkF m 247 #[.val (.long xa), .second, .val (.long xb), .second, .val (.long ya), .second, .val (.long yb), .second, .val (.int shape), .val (.ref bx), .val (.int (0 : Int32)), .val (.ref bw), .val (.ref fX), .val (.ref fY), .val (.int (3 : Int32)), .val (.int fx), .val (.int fy), .unset, .unset, .unset, .unset] [(.long t0)]) from Ht0 _ rfl
          intro t0 et0
          rw [if_pos (by decide)] at et0
          have ht0 := own_prod (bx_ (fx + (0 : Int32))) (by_ (fy + (0 : Int32)))
          rw [← et0] at ht0
          refine go_aload (q := 249) X47 hx (hb hby at_247) rfl rfl rfl ?_
          refine go_iload (q := 251) X47 hx (hb hby at_249) rfl rfl ?_
          refine go_aload (q := 253) X47 hx (hb hby at_251) rfl rfl rfl ?_
          refine go_iload (q := 255) X47 hx (hb hby at_253) rfl rfl ?_
          refine go_iconst (q := 256) (v := (1 : Int32)) X47 hx (hb hby at_255) rfl rfl ?_
          refine go_iload (q := 258) X47 hx (hb hby at_256) rfl rfl ?_
          refine go_callS (q := 261) (W := 2) X47 hx hZ hown e47 (hw _ (List.mem_of_getElem? (i := 9) rfl)) (hw _ (List.mem_of_getElem? (i := 10) rfl)) (hw _ (List.mem_of_getElem? (i := 3) rfl)) (hw _ (List.mem_of_getElem? (i := 11) rfl)) (by decide) [(.ref bx), (.int fx), (.ref bw), (.int fy), (.int (1 : Int32)), (.int (3 : Int32))] [(.long t0)] (rm3 l Z a0 hw [] bx fx bw fy (1 : Int32) (3 : Int32) k_bx k_bw _ _ x0 x1 x2 x3 y0 y1 y2 y3 h28 V_bx V_bw (fun _ => ⟨rx1, ry1⟩)) (by rw [hml]; rfl) rfl (lenOf pd_1 rfl) (Nat.le_of_eq rfl) (by decide) (by decide) (hb hby at_258) rfl (by decide) (by decide) ?_
          rintro T48 L48 v48 X48 ⟨Np48, rfl, e48⟩
          have N48 := Fr.app N47 (Np48 _)
          show Go p e below s (fun v h L => v = some (.int (1 : Int32)) ∧ Fr h0.size L) room_1.cells room_1.slots T48 (mkF m 261 #[.val (.long xa), .second, .val (.long xb), .second, .val (.long ya), .second, .val (.long yb), .second, .val (.int shape), .val (.ref bx), .val (.int (0 : Int32)), .val (.ref bw), .val (.ref fX), .val (.ref fY), .val (.int (3 : Int32)), .val (.int fx), .val (.int fy), .unset, .unset, .unset, .unset] [(.long (if (1 : Int32) < (3 : Int32) then (sel4 x0 x1 x2 x3 (fx + (1 : Int32))).toInt64 * (sel4 y0 y1 y2 y3 (fy + (1 : Int32))).toInt64 else 0)), (.long t0)])
          suffices Ht1 : ∀ t1 : Int64, t1 = (if (1 : Int32) < (3 : Int32) then (sel4 x0 x1 x2 x3 (fx + (1 : Int32))).toInt64 * (sel4 y0 y1 y2 y3 (fy + (1 : Int32))).toInt64 else 0) → Go p e below s (fun v h L => v = some (.int (1 : Int32)) ∧ Fr h0.size L) room_1.cells room_1.slots T48 (mkF m 261 #[.val (.long xa), .second, .val (.long xb), .second, .val (.long ya), .second, .val (.long yb), .second, .val (.int shape), .val (.ref bx), .val (.int (0 : Int32)), .val (.ref bw), .val (.ref fX), .val (.ref fY), .val (.int (3 : Int32)), .val (.int fx), .val (.int fy), .unset, .unset, .unset, .unset] [(.long t1), (.long t0)]) from Ht1 _ rfl
          intro t1 et1
          rw [if_pos (by decide)] at et1
          have ht1 := own_prod (bx_ (fx + (1 : Int32))) (by_ (fy + (1 : Int32)))
          rw [← et1] at ht1
          refine go_ladd (q := 262) (v := (t0 + t1)) X48 hx (hb hby at_261) rfl rfl ?_
          refine go_aload (q := 264) X48 hx (hb hby at_262) rfl rfl rfl ?_
          refine go_iload (q := 266) X48 hx (hb hby at_264) rfl rfl ?_
          refine go_aload (q := 268) X48 hx (hb hby at_266) rfl rfl rfl ?_
          refine go_iload (q := 270) X48 hx (hb hby at_268) rfl rfl ?_
          refine go_iconst (q := 271) (v := (2 : Int32)) X48 hx (hb hby at_270) rfl rfl ?_
          refine go_iload (q := 273) X48 hx (hb hby at_271) rfl rfl ?_
          refine go_callS (q := 276) (W := 2) X48 hx hZ hown e48 (hw _ (List.mem_of_getElem? (i := 9) rfl)) (hw _ (List.mem_of_getElem? (i := 10) rfl)) (hw _ (List.mem_of_getElem? (i := 3) rfl)) (hw _ (List.mem_of_getElem? (i := 11) rfl)) (by decide) [(.ref bx), (.int fx), (.ref bw), (.int fy), (.int (2 : Int32)), (.int (3 : Int32))] [(.long (t0 + t1))] (rm3 l Z a0 hw [] bx fx bw fy (2 : Int32) (3 : Int32) k_bx k_bw _ _ x0 x1 x2 x3 y0 y1 y2 y3 h28 V_bx V_bw (fun _ => ⟨rx2, ry2⟩)) (by rw [hml]; rfl) rfl (lenOf pd_1 rfl) (Nat.le_of_eq rfl) (by decide) (by decide) (hb hby at_273) rfl (by decide) (by decide) ?_
          rintro T49 L49 v49 X49 ⟨Np49, rfl, e49⟩
          have N49 := Fr.app N48 (Np49 _)
          show Go p e below s (fun v h L => v = some (.int (1 : Int32)) ∧ Fr h0.size L) room_1.cells room_1.slots T49 (mkF m 276 #[.val (.long xa), .second, .val (.long xb), .second, .val (.long ya), .second, .val (.long yb), .second, .val (.int shape), .val (.ref bx), .val (.int (0 : Int32)), .val (.ref bw), .val (.ref fX), .val (.ref fY), .val (.int (3 : Int32)), .val (.int fx), .val (.int fy), .unset, .unset, .unset, .unset] [(.long (if (2 : Int32) < (3 : Int32) then (sel4 x0 x1 x2 x3 (fx + (2 : Int32))).toInt64 * (sel4 y0 y1 y2 y3 (fy + (2 : Int32))).toInt64 else 0)), (.long (t0 + t1))])
          suffices Ht2 : ∀ t2 : Int64, t2 = (if (2 : Int32) < (3 : Int32) then (sel4 x0 x1 x2 x3 (fx + (2 : Int32))).toInt64 * (sel4 y0 y1 y2 y3 (fy + (2 : Int32))).toInt64 else 0) → Go p e below s (fun v h L => v = some (.int (1 : Int32)) ∧ Fr h0.size L) room_1.cells room_1.slots T49 (mkF m 276 #[.val (.long xa), .second, .val (.long xb), .second, .val (.long ya), .second, .val (.long yb), .second, .val (.int shape), .val (.ref bx), .val (.int (0 : Int32)), .val (.ref bw), .val (.ref fX), .val (.ref fY), .val (.int (3 : Int32)), .val (.int fx), .val (.int fy), .unset, .unset, .unset, .unset] [(.long t2), (.long (t0 + t1))]) from Ht2 _ rfl
          intro t2 et2
          rw [if_pos (by decide)] at et2
          have ht2 := own_prod (bx_ (fx + (2 : Int32))) (by_ (fy + (2 : Int32)))
          rw [← et2] at ht2
          refine go_ladd (q := 277) (v := ((t0 + t1) + t2)) X49 hx (hb hby at_276) rfl rfl ?_
          refine go_aload (q := 279) X49 hx (hb hby at_277) rfl rfl rfl ?_
          refine go_iload (q := 281) X49 hx (hb hby at_279) rfl rfl ?_
          refine go_aload (q := 283) X49 hx (hb hby at_281) rfl rfl rfl ?_
          refine go_iload (q := 285) X49 hx (hb hby at_283) rfl rfl ?_
          refine go_iconst (q := 286) (v := (3 : Int32)) X49 hx (hb hby at_285) rfl rfl ?_
          refine go_iload (q := 288) X49 hx (hb hby at_286) rfl rfl ?_
          refine go_callS (q := 291) (W := 2) X49 hx hZ hown e49 (hw _ (List.mem_of_getElem? (i := 9) rfl)) (hw _ (List.mem_of_getElem? (i := 10) rfl)) (hw _ (List.mem_of_getElem? (i := 3) rfl)) (hw _ (List.mem_of_getElem? (i := 11) rfl)) (by decide) [(.ref bx), (.int fx), (.ref bw), (.int fy), (.int (3 : Int32)), (.int (3 : Int32))] [(.long ((t0 + t1) + t2))] (rm3 l Z a0 hw [] bx fx bw fy (3 : Int32) (3 : Int32) k_bx k_bw _ _ x0 x1 x2 x3 y0 y1 y2 y3 h28 V_bx V_bw (fun q => absurd q (by decide))) (by rw [hml]; rfl) rfl (lenOf pd_1 rfl) (Nat.le_of_eq rfl) (by decide) (by decide) (hb hby at_288) rfl (by decide) (by decide) ?_
          rintro T50 L50 v50 X50 ⟨Np50, rfl, e50⟩
          have N50 := Fr.app N49 (Np50 _)
          show Go p e below s (fun v h L => v = some (.int (1 : Int32)) ∧ Fr h0.size L) room_1.cells room_1.slots T50 (mkF m 291 #[.val (.long xa), .second, .val (.long xb), .second, .val (.long ya), .second, .val (.long yb), .second, .val (.int shape), .val (.ref bx), .val (.int (0 : Int32)), .val (.ref bw), .val (.ref fX), .val (.ref fY), .val (.int (3 : Int32)), .val (.int fx), .val (.int fy), .unset, .unset, .unset, .unset] [(.long (if (3 : Int32) < (3 : Int32) then (sel4 x0 x1 x2 x3 (fx + (3 : Int32))).toInt64 * (sel4 y0 y1 y2 y3 (fy + (3 : Int32))).toInt64 else 0)), (.long ((t0 + t1) + t2))])
          suffices Ht3 : ∀ t3 : Int64, t3 = (if (3 : Int32) < (3 : Int32) then (sel4 x0 x1 x2 x3 (fx + (3 : Int32))).toInt64 * (sel4 y0 y1 y2 y3 (fy + (3 : Int32))).toInt64 else 0) → Go p e below s (fun v h L => v = some (.int (1 : Int32)) ∧ Fr h0.size L) room_1.cells room_1.slots T50 (mkF m 291 #[.val (.long xa), .second, .val (.long xb), .second, .val (.long ya), .second, .val (.long yb), .second, .val (.int shape), .val (.ref bx), .val (.int (0 : Int32)), .val (.ref bw), .val (.ref fX), .val (.ref fY), .val (.int (3 : Int32)), .val (.int fx), .val (.int fy), .unset, .unset, .unset, .unset] [(.long t3), (.long ((t0 + t1) + t2))]) from Ht3 _ rfl
          intro t3 et3
          rw [if_neg (by decide)] at et3
          have ht3 : t3.toInt = 0 ∧ (0 : Int).natAbs ≤ 70368744177664 := ⟨by rw [et3]; rfl, by decide⟩
          refine go_ladd (q := 292) (v := (((t0 + t1) + t2) + t3)) X50 hx (hb hby at_291) rfl rfl ?_
          refine go_lstore (q := 294) (l' := #[.val (.long xa), .second, .val (.long xb), .second, .val (.long ya), .second, .val (.long yb), .second, .val (.int shape), .val (.ref bx), .val (.int (0 : Int32)), .val (.ref bw), .val (.ref fX), .val (.ref fY), .val (.int (3 : Int32)), .val (.int fx), .val (.int fy), .val (.long (((t0 + t1) + t2) + t3)), .second, .unset, .unset]) X50 hx (hb hby at_292) rfl rfl ?_
          suffices Hex : ∀ ex : Int64, ex = (((t0 + t1) + t2) + t3) → Go p e below s (fun v h L => v = some (.int (1 : Int32)) ∧ Fr h0.size L) room_1.cells room_1.slots T50 (mkF m 294 #[.val (.long xa), .second, .val (.long xb), .second, .val (.long ya), .second, .val (.long yb), .second, .val (.int shape), .val (.ref bx), .val (.int (0 : Int32)), .val (.ref bw), .val (.ref fX), .val (.ref fY), .val (.int (3 : Int32)), .val (.int fx), .val (.int fy), .val (.long ex), .second, .unset, .unset] []) from Hex _ rfl
          intro ex eex
          have hex := own_sum4 ht0 ht1 ht2 ht3
          rw [← eex] at hex
          refine go_aload (q := 296) X50 hx (hb hby at_294) rfl rfl rfl ?_
          refine go_iload (q := 298) X50 hx (hb hby at_296) rfl rfl ?_
          refine go_aload (q := 300) X50 hx (hb hby at_298) rfl rfl rfl ?_
          refine go_iload (q := 302) X50 hx (hb hby at_300) rfl rfl ?_
          refine go_iload (q := 304) X50 hx (hb hby at_302) rfl rfl ?_
          refine go_callS (q := 307) (W := 0) X50 hx hZ hown e50 (hw _ (List.mem_of_getElem? (i := 12) rfl)) (hw _ (List.mem_of_getElem? (i := 13) rfl)) (hw _ (List.mem_of_getElem? (i := 14) rfl)) (hw _ (List.mem_of_getElem? (i := 15) rfl)) (by decide) [(.ref fX), (.int fx), (.ref fY), (.int fy), (.int (3 : Int32))] [] (rm4_3 l Z a0 hw [] fX fx fY fy k_fX k_fY _ _ x0 x1 x2 x3 y0 y1 y2 y3 h28 V_fX V_fY bx_ by_ rx0 ry0 rx1 ry1 rx2 ry2) (by rw [hml]; rfl) rfl (lenOf pd_2 rfl) (Nat.le_of_eq rfl) (by decide) (by decide) (hb hby at_304) rfl (by decide) (by decide) ?_
          rintro T51 L51 v51 X51 ⟨Np51, ⟨r_, rfl, hr_⟩, e51⟩
          have N51 := Fr.app N50 (Np51 _)
          show Go p e below s (fun v h L => v = some (.int (1 : Int32)) ∧ Fr h0.size L) room_1.cells room_1.slots T51 (mkF m 307 #[.val (.long xa), .second, .val (.long xb), .second, .val (.long ya), .second, .val (.long yb), .second, .val (.int shape), .val (.ref bx), .val (.int (0 : Int32)), .val (.ref bw), .val (.ref fX), .val (.ref fY), .val (.int (3 : Int32)), .val (.int fx), .val (.int fy), .val (.long ex), .second, .unset, .unset] [(.double r_)])
          refine go_dstore (q := 309) (l' := #[.val (.long xa), .second, .val (.long xb), .second, .val (.long ya), .second, .val (.long yb), .second, .val (.int shape), .val (.ref bx), .val (.int (0 : Int32)), .val (.ref bw), .val (.ref fX), .val (.ref fY), .val (.int (3 : Int32)), .val (.int fx), .val (.int fy), .val (.long ex), .second, .val (.double r_), .second]) X51 hx (hb hby at_307) rfl rfl ?_
          refine go_dload (q := 311) X51 hx (hb hby at_309) rfl rfl ?_
          refine go_lload (q := 313) X51 hx (hb hby at_311) rfl rfl ?_
          refine go_l2dB (q := 314) X51 hx (hb hby at_313) rfl (db_l2d (A := 281474976710656) hex.2 (by decide)) (fun z52 hz52 => ?_)
          refine go_dcmp (q := 315) X51 hx (hb hby at_314) rfl rfl ?_
          refine go_dif_ne (q := 318) (q' := 322) X51 hx (hb hby at_315) rfl (by decide) rfl hr_ hz52 (fun hc315 => ?_) (fun hc315 => ?_)
          · exact absurd (by rw [hex.1]; omega) hc315
          · refine go_iconst (q := 319) (v := (1 : Int32)) X51 hx (hb hby at_318) rfl rfl ?_
            refine go_goto (q := 323) X51 hx (hb hby at_319) (by decide) rfl ?_
            exact go_retN X51 hx (by simp) hret hlk (hb hby at_323) (by decide) (by decide) ⟨rfl, N51⟩
        · refine go_iload (q := 206) X28 hx (hb hby at_204) rfl rfl ?_
          refine go_iconst (q := 207) (v := (3 : Int32)) X28 hx (hb hby at_206) rfl rfl ?_
          refine go_iushr (q := 208) (v := ((shape.toUInt32 >>> ((3 : Int32) &&& 31).toUInt32).toInt32)) X28 hx (hb hby at_207) rfl rfl ?_
          refine go_bipush (q := 210) (v := (7 : Int32)) X28 hx (hb hby at_208) rfl rfl ?_
          refine go_iand (q := 211) (v := (((shape.toUInt32 >>> ((3 : Int32) &&& 31).toUInt32).toInt32) &&& (7 : Int32))) X28 hx (hb hby at_210) rfl rfl ?_
          refine go_iconst (q := 212) (v := (5 : Int32)) X28 hx (hb hby at_211) rfl rfl ?_
          refine go_iload (q := 214) X28 hx (hb hby at_212) rfl rfl ?_
          refine go_isub (q := 215) (v := (1 : Int32)) X28 hx (hb hby at_214) rfl rfl ?_
          refine go_irem (q := 216) (v := ((((shape.toUInt32 >>> ((3 : Int32) &&& 31).toUInt32).toInt32) &&& (7 : Int32)) % (1 : Int32))) X28 hx (hb hby at_215) rfl (by decide) rfl ?_
          refine go_istore (q := 218) (l' := #[.val (.long xa), .second, .val (.long xb), .second, .val (.long ya), .second, .val (.long yb), .second, .val (.int shape), .val (.ref bx), .val (.int (0 : Int32)), .val (.ref bw), .val (.ref fX), .val (.ref fY), .val (.int (4 : Int32)), .val (.int ((((shape.toUInt32 >>> ((3 : Int32) &&& 31).toUInt32).toInt32) &&& (7 : Int32)) % (1 : Int32))), .unset, .unset, .unset, .unset, .unset]) X28 hx (hb hby at_216) rfl rfl ?_
          suffices Hfx : ∀ fx : Int32, fx = ((((shape.toUInt32 >>> ((3 : Int32) &&& 31).toUInt32).toInt32) &&& (7 : Int32)) % (1 : Int32)) → Go p e below s (fun v h L => v = some (.int (1 : Int32)) ∧ Fr h0.size L) room_1.cells room_1.slots T28 (mkF m 218 #[.val (.long xa), .second, .val (.long xb), .second, .val (.long ya), .second, .val (.long yb), .second, .val (.int shape), .val (.ref bx), .val (.int (0 : Int32)), .val (.ref bw), .val (.ref fX), .val (.ref fY), .val (.int (4 : Int32)), .val (.int fx), .unset, .unset, .unset, .unset, .unset] []) from Hfx _ rfl
          intro fx efx
          refine go_iload (q := 220) X28 hx (hb hby at_218) rfl rfl ?_
          refine go_bipush (q := 222) (v := (6 : Int32)) X28 hx (hb hby at_220) rfl rfl ?_
          refine go_iushr (q := 223) (v := ((shape.toUInt32 >>> ((6 : Int32) &&& 31).toUInt32).toInt32)) X28 hx (hb hby at_222) rfl rfl ?_
          refine go_bipush (q := 225) (v := (7 : Int32)) X28 hx (hb hby at_223) rfl rfl ?_
          refine go_iand (q := 226) (v := (((shape.toUInt32 >>> ((6 : Int32) &&& 31).toUInt32).toInt32) &&& (7 : Int32))) X28 hx (hb hby at_225) rfl rfl ?_
          refine go_iconst (q := 227) (v := (5 : Int32)) X28 hx (hb hby at_226) rfl rfl ?_
          refine go_iload (q := 229) X28 hx (hb hby at_227) rfl rfl ?_
          refine go_isub (q := 230) (v := (1 : Int32)) X28 hx (hb hby at_229) rfl rfl ?_
          refine go_irem (q := 231) (v := ((((shape.toUInt32 >>> ((6 : Int32) &&& 31).toUInt32).toInt32) &&& (7 : Int32)) % (1 : Int32))) X28 hx (hb hby at_230) rfl (by decide) rfl ?_
          refine go_istore (q := 233) (l' := #[.val (.long xa), .second, .val (.long xb), .second, .val (.long ya), .second, .val (.long yb), .second, .val (.int shape), .val (.ref bx), .val (.int (0 : Int32)), .val (.ref bw), .val (.ref fX), .val (.ref fY), .val (.int (4 : Int32)), .val (.int fx), .val (.int ((((shape.toUInt32 >>> ((6 : Int32) &&& 31).toUInt32).toInt32) &&& (7 : Int32)) % (1 : Int32))), .unset, .unset, .unset, .unset]) X28 hx (hb hby at_231) rfl rfl ?_
          suffices Hfy : ∀ fy : Int32, fy = ((((shape.toUInt32 >>> ((6 : Int32) &&& 31).toUInt32).toInt32) &&& (7 : Int32)) % (1 : Int32)) → Go p e below s (fun v h L => v = some (.int (1 : Int32)) ∧ Fr h0.size L) room_1.cells room_1.slots T28 (mkF m 233 #[.val (.long xa), .second, .val (.long xb), .second, .val (.long ya), .second, .val (.long yb), .second, .val (.int shape), .val (.ref bx), .val (.int (0 : Int32)), .val (.ref bw), .val (.ref fX), .val (.ref fY), .val (.int (4 : Int32)), .val (.int fx), .val (.int fy), .unset, .unset, .unset, .unset] []) from Hfy _ rfl
          intro fy efy
          have rx : 0 ≤ fx.toInt ∧ fx.toInt ≤ 0 := by rw [efx]; exact own_idx4 _
          have ry : 0 ≤ fy.toInt ∧ fy.toInt ≤ 0 := by rw [efy]; exact own_idx4 _
          have rx0 := own_in (i := 0) (n := 0) rx (by decide) (by decide)
          have ry0 := own_in (i := 0) (n := 0) ry (by decide) (by decide)
          have rx1 := own_in (i := 1) (n := 0) rx (by decide) (by decide)
          have ry1 := own_in (i := 1) (n := 0) ry (by decide) (by decide)
          have rx2 := own_in (i := 2) (n := 0) rx (by decide) (by decide)
          have ry2 := own_in (i := 2) (n := 0) ry (by decide) (by decide)
          have rx3 := own_in (i := 3) (n := 0) rx (by decide) (by decide)
          have ry3 := own_in (i := 3) (n := 0) ry (by decide) (by decide)
          refine go_aload (q := 235) X28 hx (hb hby at_233) rfl rfl rfl ?_
          refine go_iload (q := 237) X28 hx (hb hby at_235) rfl rfl ?_
          refine go_aload (q := 239) X28 hx (hb hby at_237) rfl rfl rfl ?_
          refine go_iload (q := 241) X28 hx (hb hby at_239) rfl rfl ?_
          refine go_iconst (q := 242) (v := (0 : Int32)) X28 hx (hb hby at_241) rfl rfl ?_
          refine go_iload (q := 244) X28 hx (hb hby at_242) rfl rfl ?_
          refine go_callS (q := 247) (W := 0) X28 hx hZ hown e28 (hw _ (List.mem_of_getElem? (i := 9) rfl)) (hw _ (List.mem_of_getElem? (i := 10) rfl)) (hw _ (List.mem_of_getElem? (i := 3) rfl)) (hw _ (List.mem_of_getElem? (i := 11) rfl)) (by decide) [(.ref bx), (.int fx), (.ref bw), (.int fy), (.int (0 : Int32)), (.int (4 : Int32))] [] (rm3 l Z a0 hw [] bx fx bw fy (0 : Int32) (4 : Int32) k_bx k_bw _ _ x0 x1 x2 x3 y0 y1 y2 y3 h28 V_bx V_bw (fun _ => ⟨rx0, ry0⟩)) (by rw [hml]; rfl) rfl (lenOf pd_1 rfl) (Nat.le_of_eq rfl) (by decide) (by decide) (hb hby at_244) rfl (by decide) (by decide) ?_
          rintro T53 L53 v53 X53 ⟨Np53, rfl, e53⟩
          have N53 := Fr.app N28 (Np53 _)
          show Go p e below s (fun v h L => v = some (.int (1 : Int32)) ∧ Fr h0.size L) room_1.cells room_1.slots T53 (mkF m 247 #[.val (.long xa), .second, .val (.long xb), .second, .val (.long ya), .second, .val (.long yb), .second, .val (.int shape), .val (.ref bx), .val (.int (0 : Int32)), .val (.ref bw), .val (.ref fX), .val (.ref fY), .val (.int (4 : Int32)), .val (.int fx), .val (.int fy), .unset, .unset, .unset, .unset] [(.long (if (0 : Int32) < (4 : Int32) then (sel4 x0 x1 x2 x3 (fx + (0 : Int32))).toInt64 * (sel4 y0 y1 y2 y3 (fy + (0 : Int32))).toInt64 else 0))])
          suffices Ht0 : ∀ t0 : Int64, t0 = (if (0 : Int32) < (4 : Int32) then (sel4 x0 x1 x2 x3 (fx + (0 : Int32))).toInt64 * (sel4 y0 y1 y2 y3 (fy + (0 : Int32))).toInt64 else 0) → Go p e below s (fun v h L => v = some (.int (1 : Int32)) ∧ Fr h0.size L) room_1.cells room_1.slots T53 (mkF m 247 #[.val (.long xa), .second, .val (.long xb), .second, .val (.long ya), .second, .val (.long yb), .second, .val (.int shape), .val (.ref bx), .val (.int (0 : Int32)), .val (.ref bw), .val (.ref fX), .val (.ref fY), .val (.int (4 : Int32)), .val (.int fx), .val (.int fy), .unset, .unset, .unset, .unset] [(.long t0)]) from Ht0 _ rfl
          intro t0 et0
          rw [if_pos (by decide)] at et0
          have ht0 := own_prod (bx_ (fx + (0 : Int32))) (by_ (fy + (0 : Int32)))
          rw [← et0] at ht0
          refine go_aload (q := 249) X53 hx (hb hby at_247) rfl rfl rfl ?_
          refine go_iload (q := 251) X53 hx (hb hby at_249) rfl rfl ?_
          refine go_aload (q := 253) X53 hx (hb hby at_251) rfl rfl rfl ?_
          refine go_iload (q := 255) X53 hx (hb hby at_253) rfl rfl ?_
          refine go_iconst (q := 256) (v := (1 : Int32)) X53 hx (hb hby at_255) rfl rfl ?_
          refine go_iload (q := 258) X53 hx (hb hby at_256) rfl rfl ?_
          refine go_callS (q := 261) (W := 2) X53 hx hZ hown e53 (hw _ (List.mem_of_getElem? (i := 9) rfl)) (hw _ (List.mem_of_getElem? (i := 10) rfl)) (hw _ (List.mem_of_getElem? (i := 3) rfl)) (hw _ (List.mem_of_getElem? (i := 11) rfl)) (by decide) [(.ref bx), (.int fx), (.ref bw), (.int fy), (.int (1 : Int32)), (.int (4 : Int32))] [(.long t0)] (rm3 l Z a0 hw [] bx fx bw fy (1 : Int32) (4 : Int32) k_bx k_bw _ _ x0 x1 x2 x3 y0 y1 y2 y3 h28 V_bx V_bw (fun _ => ⟨rx1, ry1⟩)) (by rw [hml]; rfl) rfl (lenOf pd_1 rfl) (Nat.le_of_eq rfl) (by decide) (by decide) (hb hby at_258) rfl (by decide) (by decide) ?_
          rintro T54 L54 v54 X54 ⟨Np54, rfl, e54⟩
          have N54 := Fr.app N53 (Np54 _)
          show Go p e below s (fun v h L => v = some (.int (1 : Int32)) ∧ Fr h0.size L) room_1.cells room_1.slots T54 (mkF m 261 #[.val (.long xa), .second, .val (.long xb), .second, .val (.long ya), .second, .val (.long yb), .second, .val (.int shape), .val (.ref bx), .val (.int (0 : Int32)), .val (.ref bw), .val (.ref fX), .val (.ref fY), .val (.int (4 : Int32)), .val (.int fx), .val (.int fy), .unset, .unset, .unset, .unset] [(.long (if (1 : Int32) < (4 : Int32) then (sel4 x0 x1 x2 x3 (fx + (1 : Int32))).toInt64 * (sel4 y0 y1 y2 y3 (fy + (1 : Int32))).toInt64 else 0)), (.long t0)])
          suffices Ht1 : ∀ t1 : Int64, t1 = (if (1 : Int32) < (4 : Int32) then (sel4 x0 x1 x2 x3 (fx + (1 : Int32))).toInt64 * (sel4 y0 y1 y2 y3 (fy + (1 : Int32))).toInt64 else 0) → Go p e below s (fun v h L => v = some (.int (1 : Int32)) ∧ Fr h0.size L) room_1.cells room_1.slots T54 (mkF m 261 #[.val (.long xa), .second, .val (.long xb), .second, .val (.long ya), .second, .val (.long yb), .second, .val (.int shape), .val (.ref bx), .val (.int (0 : Int32)), .val (.ref bw), .val (.ref fX), .val (.ref fY), .val (.int (4 : Int32)), .val (.int fx), .val (.int fy), .unset, .unset, .unset, .unset] [(.long t1), (.long t0)]) from Ht1 _ rfl
          intro t1 et1
          rw [if_pos (by decide)] at et1
          have ht1 := own_prod (bx_ (fx + (1 : Int32))) (by_ (fy + (1 : Int32)))
          rw [← et1] at ht1
          refine go_ladd (q := 262) (v := (t0 + t1)) X54 hx (hb hby at_261) rfl rfl ?_
          refine go_aload (q := 264) X54 hx (hb hby at_262) rfl rfl rfl ?_
          refine go_iload (q := 266) X54 hx (hb hby at_264) rfl rfl ?_
          refine go_aload (q := 268) X54 hx (hb hby at_266) rfl rfl rfl ?_
          refine go_iload (q := 270) X54 hx (hb hby at_268) rfl rfl ?_
          refine go_iconst (q := 271) (v := (2 : Int32)) X54 hx (hb hby at_270) rfl rfl ?_
          refine go_iload (q := 273) X54 hx (hb hby at_271) rfl rfl ?_
          refine go_callS (q := 276) (W := 2) X54 hx hZ hown e54 (hw _ (List.mem_of_getElem? (i := 9) rfl)) (hw _ (List.mem_of_getElem? (i := 10) rfl)) (hw _ (List.mem_of_getElem? (i := 3) rfl)) (hw _ (List.mem_of_getElem? (i := 11) rfl)) (by decide) [(.ref bx), (.int fx), (.ref bw), (.int fy), (.int (2 : Int32)), (.int (4 : Int32))] [(.long (t0 + t1))] (rm3 l Z a0 hw [] bx fx bw fy (2 : Int32) (4 : Int32) k_bx k_bw _ _ x0 x1 x2 x3 y0 y1 y2 y3 h28 V_bx V_bw (fun _ => ⟨rx2, ry2⟩)) (by rw [hml]; rfl) rfl (lenOf pd_1 rfl) (Nat.le_of_eq rfl) (by decide) (by decide) (hb hby at_273) rfl (by decide) (by decide) ?_
          rintro T55 L55 v55 X55 ⟨Np55, rfl, e55⟩
          have N55 := Fr.app N54 (Np55 _)
          show Go p e below s (fun v h L => v = some (.int (1 : Int32)) ∧ Fr h0.size L) room_1.cells room_1.slots T55 (mkF m 276 #[.val (.long xa), .second, .val (.long xb), .second, .val (.long ya), .second, .val (.long yb), .second, .val (.int shape), .val (.ref bx), .val (.int (0 : Int32)), .val (.ref bw), .val (.ref fX), .val (.ref fY), .val (.int (4 : Int32)), .val (.int fx), .val (.int fy), .unset, .unset, .unset, .unset] [(.long (if (2 : Int32) < (4 : Int32) then (sel4 x0 x1 x2 x3 (fx + (2 : Int32))).toInt64 * (sel4 y0 y1 y2 y3 (fy + (2 : Int32))).toInt64 else 0)), (.long (t0 + t1))])
          suffices Ht2 : ∀ t2 : Int64, t2 = (if (2 : Int32) < (4 : Int32) then (sel4 x0 x1 x2 x3 (fx + (2 : Int32))).toInt64 * (sel4 y0 y1 y2 y3 (fy + (2 : Int32))).toInt64 else 0) → Go p e below s (fun v h L => v = some (.int (1 : Int32)) ∧ Fr h0.size L) room_1.cells room_1.slots T55 (mkF m 276 #[.val (.long xa), .second, .val (.long xb), .second, .val (.long ya), .second, .val (.long yb), .second, .val (.int shape), .val (.ref bx), .val (.int (0 : Int32)), .val (.ref bw), .val (.ref fX), .val (.ref fY), .val (.int (4 : Int32)), .val (.int fx), .val (.int fy), .unset, .unset, .unset, .unset] [(.long t2), (.long (t0 + t1))]) from Ht2 _ rfl
          intro t2 et2
          rw [if_pos (by decide)] at et2
          have ht2 := own_prod (bx_ (fx + (2 : Int32))) (by_ (fy + (2 : Int32)))
          rw [← et2] at ht2
          refine go_ladd (q := 277) (v := ((t0 + t1) + t2)) X55 hx (hb hby at_276) rfl rfl ?_
          refine go_aload (q := 279) X55 hx (hb hby at_277) rfl rfl rfl ?_
          refine go_iload (q := 281) X55 hx (hb hby at_279) rfl rfl ?_
          refine go_aload (q := 283) X55 hx (hb hby at_281) rfl rfl rfl ?_
          refine go_iload (q := 285) X55 hx (hb hby at_283) rfl rfl ?_
          refine go_iconst (q := 286) (v := (3 : Int32)) X55 hx (hb hby at_285) rfl rfl ?_
          refine go_iload (q := 288) X55 hx (hb hby at_286) rfl rfl ?_
          refine go_callS (q := 291) (W := 2) X55 hx hZ hown e55 (hw _ (List.mem_of_getElem? (i := 9) rfl)) (hw _ (List.mem_of_getElem? (i := 10) rfl)) (hw _ (List.mem_of_getElem? (i := 3) rfl)) (hw _ (List.mem_of_getElem? (i := 11) rfl)) (by decide) [(.ref bx), (.int fx), (.ref bw), (.int fy), (.int (3 : Int32)), (.int (4 : Int32))] [(.long ((t0 + t1) + t2))] (rm3 l Z a0 hw [] bx fx bw fy (3 : Int32) (4 : Int32) k_bx k_bw _ _ x0 x1 x2 x3 y0 y1 y2 y3 h28 V_bx V_bw (fun _ => ⟨rx3, ry3⟩)) (by rw [hml]; rfl) rfl (lenOf pd_1 rfl) (Nat.le_of_eq rfl) (by decide) (by decide) (hb hby at_288) rfl (by decide) (by decide) ?_
          rintro T56 L56 v56 X56 ⟨Np56, rfl, e56⟩
          have N56 := Fr.app N55 (Np56 _)
          show Go p e below s (fun v h L => v = some (.int (1 : Int32)) ∧ Fr h0.size L) room_1.cells room_1.slots T56 (mkF m 291 #[.val (.long xa), .second, .val (.long xb), .second, .val (.long ya), .second, .val (.long yb), .second, .val (.int shape), .val (.ref bx), .val (.int (0 : Int32)), .val (.ref bw), .val (.ref fX), .val (.ref fY), .val (.int (4 : Int32)), .val (.int fx), .val (.int fy), .unset, .unset, .unset, .unset] [(.long (if (3 : Int32) < (4 : Int32) then (sel4 x0 x1 x2 x3 (fx + (3 : Int32))).toInt64 * (sel4 y0 y1 y2 y3 (fy + (3 : Int32))).toInt64 else 0)), (.long ((t0 + t1) + t2))])
          suffices Ht3 : ∀ t3 : Int64, t3 = (if (3 : Int32) < (4 : Int32) then (sel4 x0 x1 x2 x3 (fx + (3 : Int32))).toInt64 * (sel4 y0 y1 y2 y3 (fy + (3 : Int32))).toInt64 else 0) → Go p e below s (fun v h L => v = some (.int (1 : Int32)) ∧ Fr h0.size L) room_1.cells room_1.slots T56 (mkF m 291 #[.val (.long xa), .second, .val (.long xb), .second, .val (.long ya), .second, .val (.long yb), .second, .val (.int shape), .val (.ref bx), .val (.int (0 : Int32)), .val (.ref bw), .val (.ref fX), .val (.ref fY), .val (.int (4 : Int32)), .val (.int fx), .val (.int fy), .unset, .unset, .unset, .unset] [(.long t3), (.long ((t0 + t1) + t2))]) from Ht3 _ rfl
          intro t3 et3
          rw [if_pos (by decide)] at et3
          have ht3 := own_prod (bx_ (fx + (3 : Int32))) (by_ (fy + (3 : Int32)))
          rw [← et3] at ht3
          refine go_ladd (q := 292) (v := (((t0 + t1) + t2) + t3)) X56 hx (hb hby at_291) rfl rfl ?_
          refine go_lstore (q := 294) (l' := #[.val (.long xa), .second, .val (.long xb), .second, .val (.long ya), .second, .val (.long yb), .second, .val (.int shape), .val (.ref bx), .val (.int (0 : Int32)), .val (.ref bw), .val (.ref fX), .val (.ref fY), .val (.int (4 : Int32)), .val (.int fx), .val (.int fy), .val (.long (((t0 + t1) + t2) + t3)), .second, .unset, .unset]) X56 hx (hb hby at_292) rfl rfl ?_
          suffices Hex : ∀ ex : Int64, ex = (((t0 + t1) + t2) + t3) → Go p e below s (fun v h L => v = some (.int (1 : Int32)) ∧ Fr h0.size L) room_1.cells room_1.slots T56 (mkF m 294 #[.val (.long xa), .second, .val (.long xb), .second, .val (.long ya), .second, .val (.long yb), .second, .val (.int shape), .val (.ref bx), .val (.int (0 : Int32)), .val (.ref bw), .val (.ref fX), .val (.ref fY), .val (.int (4 : Int32)), .val (.int fx), .val (.int fy), .val (.long ex), .second, .unset, .unset] []) from Hex _ rfl
          intro ex eex
          have hex := own_sum4 ht0 ht1 ht2 ht3
          rw [← eex] at hex
          refine go_aload (q := 296) X56 hx (hb hby at_294) rfl rfl rfl ?_
          refine go_iload (q := 298) X56 hx (hb hby at_296) rfl rfl ?_
          refine go_aload (q := 300) X56 hx (hb hby at_298) rfl rfl rfl ?_
          refine go_iload (q := 302) X56 hx (hb hby at_300) rfl rfl ?_
          refine go_iload (q := 304) X56 hx (hb hby at_302) rfl rfl ?_
          refine go_callS (q := 307) (W := 0) X56 hx hZ hown e56 (hw _ (List.mem_of_getElem? (i := 12) rfl)) (hw _ (List.mem_of_getElem? (i := 13) rfl)) (hw _ (List.mem_of_getElem? (i := 14) rfl)) (hw _ (List.mem_of_getElem? (i := 15) rfl)) (by decide) [(.ref fX), (.int fx), (.ref fY), (.int fy), (.int (4 : Int32))] [] (rm4_4 l Z a0 hw [] fX fx fY fy k_fX k_fY _ _ x0 x1 x2 x3 y0 y1 y2 y3 h28 V_fX V_fY bx_ by_ rx0 ry0 rx1 ry1 rx2 ry2 rx3 ry3) (by rw [hml]; rfl) rfl (lenOf pd_2 rfl) (Nat.le_of_eq rfl) (by decide) (by decide) (hb hby at_304) rfl (by decide) (by decide) ?_
          rintro T57 L57 v57 X57 ⟨Np57, ⟨r_, rfl, hr_⟩, e57⟩
          have N57 := Fr.app N56 (Np57 _)
          show Go p e below s (fun v h L => v = some (.int (1 : Int32)) ∧ Fr h0.size L) room_1.cells room_1.slots T57 (mkF m 307 #[.val (.long xa), .second, .val (.long xb), .second, .val (.long ya), .second, .val (.long yb), .second, .val (.int shape), .val (.ref bx), .val (.int (0 : Int32)), .val (.ref bw), .val (.ref fX), .val (.ref fY), .val (.int (4 : Int32)), .val (.int fx), .val (.int fy), .val (.long ex), .second, .unset, .unset] [(.double r_)])
          refine go_dstore (q := 309) (l' := #[.val (.long xa), .second, .val (.long xb), .second, .val (.long ya), .second, .val (.long yb), .second, .val (.int shape), .val (.ref bx), .val (.int (0 : Int32)), .val (.ref bw), .val (.ref fX), .val (.ref fY), .val (.int (4 : Int32)), .val (.int fx), .val (.int fy), .val (.long ex), .second, .val (.double r_), .second]) X57 hx (hb hby at_307) rfl rfl ?_
          refine go_dload (q := 311) X57 hx (hb hby at_309) rfl rfl ?_
          refine go_lload (q := 313) X57 hx (hb hby at_311) rfl rfl ?_
          refine go_l2dB (q := 314) X57 hx (hb hby at_313) rfl (db_l2d (A := 281474976710656) hex.2 (by decide)) (fun z58 hz58 => ?_)
          refine go_dcmp (q := 315) X57 hx (hb hby at_314) rfl rfl ?_
          refine go_dif_ne (q := 318) (q' := 322) X57 hx (hb hby at_315) rfl (by decide) rfl hr_ hz58 (fun hc315 => ?_) (fun hc315 => ?_)
          · exact absurd (by rw [hex.1]; omega) hc315
          · refine go_iconst (q := 319) (v := (1 : Int32)) X57 hx (hb hby at_318) rfl rfl ?_
            refine go_goto (q := 323) X57 hx (hb hby at_319) (by decide) rfl ?_
            exact go_retN X57 hx (by simp) hret hlk (hb hby at_323) (by decide) (by decide) ⟨rfl, N57⟩
      · exact absurd rfl hc188
    · exact absurd rfl hc97
  · refine go_if_eq (q := 100) (q' := 104) X18 hx (hb hby at_97) rfl (by decide) rfl (fun hc97 => ?_) (fun hc97 => ?_)
    · exact absurd hc97 (by decide)
    · refine go_aload (q := 102) X18 hx (hb hby at_100) rfl rfl rfl ?_
      refine go_astore (q := 104) (l' := #[.val (.long xa), .second, .val (.long xb), .second, .val (.long ya), .second, .val (.long yb), .second, .val (.int shape), .val (.ref bx), .val (.int (1 : Int32)), .val (.ref bx), .unset, .unset, .unset, .unset, .unset, .unset, .unset, .unset, .unset]) X18 hx (hb hby at_102) rfl rfl rfl ?_
      refine go_iconst (q := 105) (v := (4 : Int32)) X18 hx (hb hby at_104) rfl rfl ?_
      refine go_newP (q := 107) X18 hx hZ (hw _ (List.mem_of_getElem? (i := 8) rfl)) e18 (hb hby at_105) rfl (by decide) 4 (by decide) (by decide) (by decide) (by decide) (fun T59 h59 k_fX fX eb59 X59 e59 E59 V_fX => ?_)
      have g_fX : h0.size ≤ fX := Nat.le_trans hsz (Nat.le_of_eq eb59.symm)
      have ne_bx_fX : bx ≠ fX := Nat.ne_of_lt (Nat.lt_of_lt_of_eq V_bx.lt eb59.symm)
      have ne_bw_fX : bw ≠ fX := Nat.ne_of_lt (Nat.lt_of_lt_of_eq V_bw.lt eb59.symm)
      replace V_bx := V_bx.ext E59
      replace V_bw := V_bw.ext E59
      replace hsz := Nat.le_trans hsz E59.1
      replace V_fX : Arv Z h59 fX k_fX .float (4 : Int32) [(.float (0 : UInt32)), (.float (0 : UInt32)), (.float (0 : UInt32)), (.float (0 : UInt32))] (.float (0 : UInt32)) := V_fX.pad (pad_rep [] (.float (0 : UInt32)) 4)
      refine go_astore (q := 109) (l' := #[.val (.long xa), .second, .val (.long xb), .second, .val (.long ya), .second, .val (.long yb), .second, .val (.int shape), .val (.ref bx), .val (.int (1 : Int32)), .val (.ref bx), .val (.ref fX), .unset, .unset, .unset, .unset, .unset, .unset, .unset, .unset]) X59 hx (hb hby at_107) rfl rfl rfl ?_
      refine go_aload (q := 111) X59 hx (hb hby at_109) rfl rfl rfl ?_
      refine go_iconst (q := 112) (v := (0 : Int32)) X59 hx (hb hby at_111) rfl rfl ?_
      refine go_aload (q := 114) X59 hx (hb hby at_112) rfl rfl rfl ?_
      refine go_iconst (q := 115) (v := (0 : Int32)) X59 hx (hb hby at_114) rfl rfl ?_
      refine go_iaload (q := 116) (v := (.int x0)) X59 hx hZ e59 V_bx ⟨by decide, by decide⟩ rfl (hb hby at_115) rfl ?_
      refine go_i2f (q := 117) X59 hx (hb hby at_116) rfl rfl ?_
      refine go_fastore (q := 118) X59 hx hZ e59 V_fX ⟨by decide, by decide⟩ 0 rfl (Nat.le_of_ble_eq_true rfl) N18 g_fX (hb hby at_117) rfl (fun T60 h60 l60 X60 N60 e60 W60 V60 => ?_)
      replace V_bx := V_bx.other W60 ne_bx_fX
      replace V_bw := V_bw.other W60 ne_bw_fX
      replace hsz := Nat.le_trans hsz (Nat.le_of_eq W60.size.symm)
      replace V_fX : Arv Z h60 fX k_fX .float (4 : Int32) [(.float (FP.i2f x0)), (.float (0 : UInt32)), (.float (0 : UInt32)), (.float (0 : UInt32))] (.float (0 : UInt32)) := V60
      refine go_aload (q := 120) X60 hx (hb hby at_118) rfl rfl rfl ?_
      refine go_iconst (q := 121) (v := (1 : Int32)) X60 hx (hb hby at_120) rfl rfl ?_
      refine go_aload (q := 123) X60 hx (hb hby at_121) rfl rfl rfl ?_
      refine go_iconst (q := 124) (v := (1 : Int32)) X60 hx (hb hby at_123) rfl rfl ?_
      refine go_iaload (q := 125) (v := (.int x1)) X60 hx hZ e60 V_bx ⟨by decide, by decide⟩ rfl (hb hby at_124) rfl ?_
      refine go_i2f (q := 126) X60 hx (hb hby at_125) rfl rfl ?_
      refine go_fastore (q := 127) X60 hx hZ e60 V_fX ⟨by decide, by decide⟩ 1 rfl (Nat.le_of_ble_eq_true rfl) N60 g_fX (hb hby at_126) rfl (fun T61 h61 l61 X61 N61 e61 W61 V61 => ?_)
      replace V_bx := V_bx.other W61 ne_bx_fX
      replace V_bw := V_bw.other W61 ne_bw_fX
      replace hsz := Nat.le_trans hsz (Nat.le_of_eq W61.size.symm)
      replace V_fX : Arv Z h61 fX k_fX .float (4 : Int32) [(.float (FP.i2f x0)), (.float (FP.i2f x1)), (.float (0 : UInt32)), (.float (0 : UInt32))] (.float (0 : UInt32)) := V61
      refine go_aload (q := 129) X61 hx (hb hby at_127) rfl rfl rfl ?_
      refine go_iconst (q := 130) (v := (2 : Int32)) X61 hx (hb hby at_129) rfl rfl ?_
      refine go_aload (q := 132) X61 hx (hb hby at_130) rfl rfl rfl ?_
      refine go_iconst (q := 133) (v := (2 : Int32)) X61 hx (hb hby at_132) rfl rfl ?_
      refine go_iaload (q := 134) (v := (.int x2)) X61 hx hZ e61 V_bx ⟨by decide, by decide⟩ rfl (hb hby at_133) rfl ?_
      refine go_i2f (q := 135) X61 hx (hb hby at_134) rfl rfl ?_
      refine go_fastore (q := 136) X61 hx hZ e61 V_fX ⟨by decide, by decide⟩ 2 rfl (Nat.le_of_ble_eq_true rfl) N61 g_fX (hb hby at_135) rfl (fun T62 h62 l62 X62 N62 e62 W62 V62 => ?_)
      replace V_bx := V_bx.other W62 ne_bx_fX
      replace V_bw := V_bw.other W62 ne_bw_fX
      replace hsz := Nat.le_trans hsz (Nat.le_of_eq W62.size.symm)
      replace V_fX : Arv Z h62 fX k_fX .float (4 : Int32) [(.float (FP.i2f x0)), (.float (FP.i2f x1)), (.float (FP.i2f x2)), (.float (0 : UInt32))] (.float (0 : UInt32)) := V62
      refine go_aload (q := 138) X62 hx (hb hby at_136) rfl rfl rfl ?_
      refine go_iconst (q := 139) (v := (3 : Int32)) X62 hx (hb hby at_138) rfl rfl ?_
      refine go_aload (q := 141) X62 hx (hb hby at_139) rfl rfl rfl ?_
      refine go_iconst (q := 142) (v := (3 : Int32)) X62 hx (hb hby at_141) rfl rfl ?_
      refine go_iaload (q := 143) (v := (.int x3)) X62 hx hZ e62 V_bx ⟨by decide, by decide⟩ rfl (hb hby at_142) rfl ?_
      refine go_i2f (q := 144) X62 hx (hb hby at_143) rfl rfl ?_
      refine go_fastore (q := 145) X62 hx hZ e62 V_fX ⟨by decide, by decide⟩ 3 rfl (Nat.le_of_ble_eq_true rfl) N62 g_fX (hb hby at_144) rfl (fun T63 h63 l63 X63 N63 e63 W63 V63 => ?_)
      replace V_bx := V_bx.other W63 ne_bx_fX
      replace V_bw := V_bw.other W63 ne_bw_fX
      replace hsz := Nat.le_trans hsz (Nat.le_of_eq W63.size.symm)
      replace V_fX : Arv Z h63 fX k_fX .float (4 : Int32) [(.float (FP.i2f x0)), (.float (FP.i2f x1)), (.float (FP.i2f x2)), (.float (FP.i2f x3))] (.float (0 : UInt32)) := V63
      refine go_iconst (q := 146) (v := (4 : Int32)) X63 hx (hb hby at_145) rfl rfl ?_
      refine go_newP (q := 148) X63 hx hZ (hw _ (List.mem_of_getElem? (i := 8) rfl)) e63 (hb hby at_146) rfl (by decide) 4 (by decide) (by decide) (by decide) (by decide) (fun T64 h64 k_fY fY eb64 X64 e64 E64 V_fY => ?_)
      have g_fY : h0.size ≤ fY := Nat.le_trans hsz (Nat.le_of_eq eb64.symm)
      have ne_bx_fY : bx ≠ fY := Nat.ne_of_lt (Nat.lt_of_lt_of_eq V_bx.lt eb64.symm)
      have ne_bw_fY : bw ≠ fY := Nat.ne_of_lt (Nat.lt_of_lt_of_eq V_bw.lt eb64.symm)
      have ne_fX_fY : fX ≠ fY := Nat.ne_of_lt (Nat.lt_of_lt_of_eq V_fX.lt eb64.symm)
      replace V_bx := V_bx.ext E64
      replace V_bw := V_bw.ext E64
      replace V_fX := V_fX.ext E64
      replace hsz := Nat.le_trans hsz E64.1
      replace V_fY : Arv Z h64 fY k_fY .float (4 : Int32) [(.float (0 : UInt32)), (.float (0 : UInt32)), (.float (0 : UInt32)), (.float (0 : UInt32))] (.float (0 : UInt32)) := V_fY.pad (pad_rep [] (.float (0 : UInt32)) 4)
      refine go_astore (q := 150) (l' := #[.val (.long xa), .second, .val (.long xb), .second, .val (.long ya), .second, .val (.long yb), .second, .val (.int shape), .val (.ref bx), .val (.int (1 : Int32)), .val (.ref bx), .val (.ref fX), .val (.ref fY), .unset, .unset, .unset, .unset, .unset, .unset, .unset]) X64 hx (hb hby at_148) rfl rfl rfl ?_
      refine go_aload (q := 152) X64 hx (hb hby at_150) rfl rfl rfl ?_
      refine go_iconst (q := 153) (v := (0 : Int32)) X64 hx (hb hby at_152) rfl rfl ?_
      refine go_aload (q := 155) X64 hx (hb hby at_153) rfl rfl rfl ?_
      refine go_iconst (q := 156) (v := (0 : Int32)) X64 hx (hb hby at_155) rfl rfl ?_
      refine go_iaload (q := 157) (v := (.int x0)) X64 hx hZ e64 V_bx ⟨by decide, by decide⟩ rfl (hb hby at_156) rfl ?_
      refine go_i2f (q := 158) X64 hx (hb hby at_157) rfl rfl ?_
      refine go_fastore (q := 159) X64 hx hZ e64 V_fY ⟨by decide, by decide⟩ 0 rfl (Nat.le_of_ble_eq_true rfl) N63 g_fY (hb hby at_158) rfl (fun T65 h65 l65 X65 N65 e65 W65 V65 => ?_)
      replace V_bx := V_bx.other W65 ne_bx_fY
      replace V_bw := V_bw.other W65 ne_bw_fY
      replace V_fX := V_fX.other W65 ne_fX_fY
      replace hsz := Nat.le_trans hsz (Nat.le_of_eq W65.size.symm)
      replace V_fY : Arv Z h65 fY k_fY .float (4 : Int32) [(.float (FP.i2f x0)), (.float (0 : UInt32)), (.float (0 : UInt32)), (.float (0 : UInt32))] (.float (0 : UInt32)) := V65
      refine go_aload (q := 161) X65 hx (hb hby at_159) rfl rfl rfl ?_
      refine go_iconst (q := 162) (v := (1 : Int32)) X65 hx (hb hby at_161) rfl rfl ?_
      refine go_aload (q := 164) X65 hx (hb hby at_162) rfl rfl rfl ?_
      refine go_iconst (q := 165) (v := (1 : Int32)) X65 hx (hb hby at_164) rfl rfl ?_
      refine go_iaload (q := 166) (v := (.int x1)) X65 hx hZ e65 V_bx ⟨by decide, by decide⟩ rfl (hb hby at_165) rfl ?_
      refine go_i2f (q := 167) X65 hx (hb hby at_166) rfl rfl ?_
      refine go_fastore (q := 168) X65 hx hZ e65 V_fY ⟨by decide, by decide⟩ 1 rfl (Nat.le_of_ble_eq_true rfl) N65 g_fY (hb hby at_167) rfl (fun T66 h66 l66 X66 N66 e66 W66 V66 => ?_)
      replace V_bx := V_bx.other W66 ne_bx_fY
      replace V_bw := V_bw.other W66 ne_bw_fY
      replace V_fX := V_fX.other W66 ne_fX_fY
      replace hsz := Nat.le_trans hsz (Nat.le_of_eq W66.size.symm)
      replace V_fY : Arv Z h66 fY k_fY .float (4 : Int32) [(.float (FP.i2f x0)), (.float (FP.i2f x1)), (.float (0 : UInt32)), (.float (0 : UInt32))] (.float (0 : UInt32)) := V66
      refine go_aload (q := 170) X66 hx (hb hby at_168) rfl rfl rfl ?_
      refine go_iconst (q := 171) (v := (2 : Int32)) X66 hx (hb hby at_170) rfl rfl ?_
      refine go_aload (q := 173) X66 hx (hb hby at_171) rfl rfl rfl ?_
      refine go_iconst (q := 174) (v := (2 : Int32)) X66 hx (hb hby at_173) rfl rfl ?_
      refine go_iaload (q := 175) (v := (.int x2)) X66 hx hZ e66 V_bx ⟨by decide, by decide⟩ rfl (hb hby at_174) rfl ?_
      refine go_i2f (q := 176) X66 hx (hb hby at_175) rfl rfl ?_
      refine go_fastore (q := 177) X66 hx hZ e66 V_fY ⟨by decide, by decide⟩ 2 rfl (Nat.le_of_ble_eq_true rfl) N66 g_fY (hb hby at_176) rfl (fun T67 h67 l67 X67 N67 e67 W67 V67 => ?_)
      replace V_bx := V_bx.other W67 ne_bx_fY
      replace V_bw := V_bw.other W67 ne_bw_fY
      replace V_fX := V_fX.other W67 ne_fX_fY
      replace hsz := Nat.le_trans hsz (Nat.le_of_eq W67.size.symm)
      replace V_fY : Arv Z h67 fY k_fY .float (4 : Int32) [(.float (FP.i2f x0)), (.float (FP.i2f x1)), (.float (FP.i2f x2)), (.float (0 : UInt32))] (.float (0 : UInt32)) := V67
      refine go_aload (q := 179) X67 hx (hb hby at_177) rfl rfl rfl ?_
      refine go_iconst (q := 180) (v := (3 : Int32)) X67 hx (hb hby at_179) rfl rfl ?_
      refine go_aload (q := 182) X67 hx (hb hby at_180) rfl rfl rfl ?_
      refine go_iconst (q := 183) (v := (3 : Int32)) X67 hx (hb hby at_182) rfl rfl ?_
      refine go_iaload (q := 184) (v := (.int x3)) X67 hx hZ e67 V_bx ⟨by decide, by decide⟩ rfl (hb hby at_183) rfl ?_
      refine go_i2f (q := 185) X67 hx (hb hby at_184) rfl rfl ?_
      refine go_fastore (q := 186) X67 hx hZ e67 V_fY ⟨by decide, by decide⟩ 3 rfl (Nat.le_of_ble_eq_true rfl) N67 g_fY (hb hby at_185) rfl (fun T68 h68 l68 X68 N68 e68 W68 V68 => ?_)
      replace V_bx := V_bx.other W68 ne_bx_fY
      replace V_bw := V_bw.other W68 ne_bw_fY
      replace V_fX := V_fX.other W68 ne_fX_fY
      replace hsz := Nat.le_trans hsz (Nat.le_of_eq W68.size.symm)
      replace V_fY : Arv Z h68 fY k_fY .float (4 : Int32) [(.float (FP.i2f x0)), (.float (FP.i2f x1)), (.float (FP.i2f x2)), (.float (FP.i2f x3))] (.float (0 : UInt32)) := V68
      refine go_iload (q := 188) X68 hx (hb hby at_186) rfl rfl ?_
      refine go_if_eq (q := 191) (q' := 195) X68 hx (hb hby at_188) rfl (by decide) rfl (fun hc188 => ?_) (fun hc188 => ?_)
      · exact absurd hc188 (by decide)
      · refine go_aload (q := 193) X68 hx (hb hby at_191) rfl rfl rfl ?_
        refine go_astore (q := 195) (l' := #[.val (.long xa), .second, .val (.long xb), .second, .val (.long ya), .second, .val (.long yb), .second, .val (.int shape), .val (.ref bx), .val (.int (1 : Int32)), .val (.ref bx), .val (.ref fX), .val (.ref fX), .unset, .unset, .unset, .unset, .unset, .unset, .unset]) X68 hx (hb hby at_193) rfl rfl rfl ?_
        refine go_iload (q := 197) X68 hx (hb hby at_195) rfl rfl ?_
        refine go_bipush (q := 199) (v := (7 : Int32)) X68 hx (hb hby at_197) rfl rfl ?_
        refine go_iand (q := 200) (v := (shape &&& (7 : Int32))) X68 hx (hb hby at_199) rfl rfl ?_
        refine go_iconst (q := 201) (v := (5 : Int32)) X68 hx (hb hby at_200) rfl rfl ?_
        refine go_irem (q := 202) (v := ((shape &&& (7 : Int32)) % (5 : Int32))) X68 hx (hb hby at_201) rfl (by decide) rfl ?_
        refine go_istore (q := 204) (l' := #[.val (.long xa), .second, .val (.long xb), .second, .val (.long ya), .second, .val (.long yb), .second, .val (.int shape), .val (.ref bx), .val (.int (1 : Int32)), .val (.ref bx), .val (.ref fX), .val (.ref fX), .val (.int ((shape &&& (7 : Int32)) % (5 : Int32))), .unset, .unset, .unset, .unset, .unset, .unset]) X68 hx (hb hby at_202) rfl rfl ?_
        suffices Hln : ∀ ln : Int32, ln = ((shape &&& (7 : Int32)) % (5 : Int32)) → Go p e below s (fun v h L => v = some (.int (1 : Int32)) ∧ Fr h0.size L) room_1.cells room_1.slots T68 (mkF m 204 #[.val (.long xa), .second, .val (.long xb), .second, .val (.long ya), .second, .val (.long yb), .second, .val (.int shape), .val (.ref bx), .val (.int (1 : Int32)), .val (.ref bx), .val (.ref fX), .val (.ref fX), .val (.int ln), .unset, .unset, .unset, .unset, .unset, .unset] []) from Hln _ rfl
        intro ln eln
        have hln : ln = 0 ∨ ln = 1 ∨ ln = 2 ∨ ln = 3 ∨ ln = 4 := by rw [eln]; exact own_len _
        rcases hln with rfl | rfl | rfl | rfl | rfl
        · refine go_iload (q := 206) X68 hx (hb hby at_204) rfl rfl ?_
          refine go_iconst (q := 207) (v := (3 : Int32)) X68 hx (hb hby at_206) rfl rfl ?_
          refine go_iushr (q := 208) (v := ((shape.toUInt32 >>> ((3 : Int32) &&& 31).toUInt32).toInt32)) X68 hx (hb hby at_207) rfl rfl ?_
          refine go_bipush (q := 210) (v := (7 : Int32)) X68 hx (hb hby at_208) rfl rfl ?_
          refine go_iand (q := 211) (v := (((shape.toUInt32 >>> ((3 : Int32) &&& 31).toUInt32).toInt32) &&& (7 : Int32))) X68 hx (hb hby at_210) rfl rfl ?_
          refine go_iconst (q := 212) (v := (5 : Int32)) X68 hx (hb hby at_211) rfl rfl ?_
          refine go_iload (q := 214) X68 hx (hb hby at_212) rfl rfl ?_
          refine go_isub (q := 215) (v := (5 : Int32)) X68 hx (hb hby at_214) rfl rfl ?_
          refine go_irem (q := 216) (v := ((((shape.toUInt32 >>> ((3 : Int32) &&& 31).toUInt32).toInt32) &&& (7 : Int32)) % (5 : Int32))) X68 hx (hb hby at_215) rfl (by decide) rfl ?_
          refine go_istore (q := 218) (l' := #[.val (.long xa), .second, .val (.long xb), .second, .val (.long ya), .second, .val (.long yb), .second, .val (.int shape), .val (.ref bx), .val (.int (1 : Int32)), .val (.ref bx), .val (.ref fX), .val (.ref fX), .val (.int (0 : Int32)), .val (.int ((((shape.toUInt32 >>> ((3 : Int32) &&& 31).toUInt32).toInt32) &&& (7 : Int32)) % (5 : Int32))), .unset, .unset, .unset, .unset, .unset]) X68 hx (hb hby at_216) rfl rfl ?_
          suffices Hfx : ∀ fx : Int32, fx = ((((shape.toUInt32 >>> ((3 : Int32) &&& 31).toUInt32).toInt32) &&& (7 : Int32)) % (5 : Int32)) → Go p e below s (fun v h L => v = some (.int (1 : Int32)) ∧ Fr h0.size L) room_1.cells room_1.slots T68 (mkF m 218 #[.val (.long xa), .second, .val (.long xb), .second, .val (.long ya), .second, .val (.long yb), .second, .val (.int shape), .val (.ref bx), .val (.int (1 : Int32)), .val (.ref bx), .val (.ref fX), .val (.ref fX), .val (.int (0 : Int32)), .val (.int fx), .unset, .unset, .unset, .unset, .unset] []) from Hfx _ rfl
          intro fx efx
          refine go_iload (q := 220) X68 hx (hb hby at_218) rfl rfl ?_
          refine go_bipush (q := 222) (v := (6 : Int32)) X68 hx (hb hby at_220) rfl rfl ?_
          refine go_iushr (q := 223) (v := ((shape.toUInt32 >>> ((6 : Int32) &&& 31).toUInt32).toInt32)) X68 hx (hb hby at_222) rfl rfl ?_
          refine go_bipush (q := 225) (v := (7 : Int32)) X68 hx (hb hby at_223) rfl rfl ?_
          refine go_iand (q := 226) (v := (((shape.toUInt32 >>> ((6 : Int32) &&& 31).toUInt32).toInt32) &&& (7 : Int32))) X68 hx (hb hby at_225) rfl rfl ?_
          refine go_iconst (q := 227) (v := (5 : Int32)) X68 hx (hb hby at_226) rfl rfl ?_
          refine go_iload (q := 229) X68 hx (hb hby at_227) rfl rfl ?_
          refine go_isub (q := 230) (v := (5 : Int32)) X68 hx (hb hby at_229) rfl rfl ?_
          refine go_irem (q := 231) (v := ((((shape.toUInt32 >>> ((6 : Int32) &&& 31).toUInt32).toInt32) &&& (7 : Int32)) % (5 : Int32))) X68 hx (hb hby at_230) rfl (by decide) rfl ?_
          refine go_istore (q := 233) (l' := #[.val (.long xa), .second, .val (.long xb), .second, .val (.long ya), .second, .val (.long yb), .second, .val (.int shape), .val (.ref bx), .val (.int (1 : Int32)), .val (.ref bx), .val (.ref fX), .val (.ref fX), .val (.int (0 : Int32)), .val (.int fx), .val (.int ((((shape.toUInt32 >>> ((6 : Int32) &&& 31).toUInt32).toInt32) &&& (7 : Int32)) % (5 : Int32))), .unset, .unset, .unset, .unset]) X68 hx (hb hby at_231) rfl rfl ?_
          suffices Hfy : ∀ fy : Int32, fy = ((((shape.toUInt32 >>> ((6 : Int32) &&& 31).toUInt32).toInt32) &&& (7 : Int32)) % (5 : Int32)) → Go p e below s (fun v h L => v = some (.int (1 : Int32)) ∧ Fr h0.size L) room_1.cells room_1.slots T68 (mkF m 233 #[.val (.long xa), .second, .val (.long xb), .second, .val (.long ya), .second, .val (.long yb), .second, .val (.int shape), .val (.ref bx), .val (.int (1 : Int32)), .val (.ref bx), .val (.ref fX), .val (.ref fX), .val (.int (0 : Int32)), .val (.int fx), .val (.int fy), .unset, .unset, .unset, .unset] []) from Hfy _ rfl
          intro fy efy
          have rx : 0 ≤ fx.toInt ∧ fx.toInt ≤ 4 := by rw [efx]; exact own_idx0 _
          have ry : 0 ≤ fy.toInt ∧ fy.toInt ≤ 4 := by rw [efy]; exact own_idx0 _
          refine go_aload (q := 235) X68 hx (hb hby at_233) rfl rfl rfl ?_
          refine go_iload (q := 237) X68 hx (hb hby at_235) rfl rfl ?_
          refine go_aload (q := 239) X68 hx (hb hby at_237) rfl rfl rfl ?_
          refine go_iload (q := 241) X68 hx (hb hby at_239) rfl rfl ?_
          refine go_iconst (q := 242) (v := (0 : Int32)) X68 hx (hb hby at_241) rfl rfl ?_
          refine go_iload (q := 244) X68 hx (hb hby at_242) rfl rfl ?_
          refine go_callS (q := 247) (W := 0) X68 hx hZ hown e68 (hw _ (List.mem_of_getElem? (i := 9) rfl)) (hw _ (List.mem_of_getElem? (i := 10) rfl)) (hw _ (List.mem_of_getElem? (i := 3) rfl)) (hw _ (List.mem_of_getElem? (i := 11) rfl)) (by decide) [(.ref bx), (.int fx), (.ref bx), (.int fy), (.int (0 : Int32)), (.int (0 : Int32))] [] (rm3 l Z a0 hw [] bx fx bx fy (0 : Int32) (0 : Int32) k_bx k_bx _ _ x0 x1 x2 x3 x0 x1 x2 x3 h68 V_bx V_bx (fun q => absurd q (by decide))) (by rw [hml]; rfl) rfl (lenOf pd_1 rfl) (Nat.le_of_eq rfl) (by decide) (by decide) (hb hby at_244) rfl (by decide) (by decide) ?_
          rintro T69 L69 v69 X69 ⟨Np69, rfl, e69⟩
          have N69 := Fr.app N68 (Np69 _)
          show Go p e below s (fun v h L => v = some (.int (1 : Int32)) ∧ Fr h0.size L) room_1.cells room_1.slots T69 (mkF m 247 #[.val (.long xa), .second, .val (.long xb), .second, .val (.long ya), .second, .val (.long yb), .second, .val (.int shape), .val (.ref bx), .val (.int (1 : Int32)), .val (.ref bx), .val (.ref fX), .val (.ref fX), .val (.int (0 : Int32)), .val (.int fx), .val (.int fy), .unset, .unset, .unset, .unset] [(.long (if (0 : Int32) < (0 : Int32) then (sel4 x0 x1 x2 x3 (fx + (0 : Int32))).toInt64 * (sel4 x0 x1 x2 x3 (fy + (0 : Int32))).toInt64 else 0))])
          suffices Ht0 : ∀ t0 : Int64, t0 = (if (0 : Int32) < (0 : Int32) then (sel4 x0 x1 x2 x3 (fx + (0 : Int32))).toInt64 * (sel4 x0 x1 x2 x3 (fy + (0 : Int32))).toInt64 else 0) → Go p e below s (fun v h L => v = some (.int (1 : Int32)) ∧ Fr h0.size L) room_1.cells room_1.slots T69 (mkF m 247 #[.val (.long xa), .second, .val (.long xb), .second, .val (.long ya), .second, .val (.long yb), .second, .val (.int shape), .val (.ref bx), .val (.int (1 : Int32)), .val (.ref bx), .val (.ref fX), .val (.ref fX), .val (.int (0 : Int32)), .val (.int fx), .val (.int fy), .unset, .unset, .unset, .unset] [(.long t0)]) from Ht0 _ rfl
          intro t0 et0
          rw [if_neg (by decide)] at et0
          have ht0 : t0.toInt = 0 ∧ (0 : Int).natAbs ≤ 70368744177664 := ⟨by rw [et0]; rfl, by decide⟩
          refine go_aload (q := 249) X69 hx (hb hby at_247) rfl rfl rfl ?_
          refine go_iload (q := 251) X69 hx (hb hby at_249) rfl rfl ?_
          refine go_aload (q := 253) X69 hx (hb hby at_251) rfl rfl rfl ?_
          refine go_iload (q := 255) X69 hx (hb hby at_253) rfl rfl ?_
          refine go_iconst (q := 256) (v := (1 : Int32)) X69 hx (hb hby at_255) rfl rfl ?_
          refine go_iload (q := 258) X69 hx (hb hby at_256) rfl rfl ?_
          refine go_callS (q := 261) (W := 2) X69 hx hZ hown e69 (hw _ (List.mem_of_getElem? (i := 9) rfl)) (hw _ (List.mem_of_getElem? (i := 10) rfl)) (hw _ (List.mem_of_getElem? (i := 3) rfl)) (hw _ (List.mem_of_getElem? (i := 11) rfl)) (by decide) [(.ref bx), (.int fx), (.ref bx), (.int fy), (.int (1 : Int32)), (.int (0 : Int32))] [(.long t0)] (rm3 l Z a0 hw [] bx fx bx fy (1 : Int32) (0 : Int32) k_bx k_bx _ _ x0 x1 x2 x3 x0 x1 x2 x3 h68 V_bx V_bx (fun q => absurd q (by decide))) (by rw [hml]; rfl) rfl (lenOf pd_1 rfl) (Nat.le_of_eq rfl) (by decide) (by decide) (hb hby at_258) rfl (by decide) (by decide) ?_
          rintro T70 L70 v70 X70 ⟨Np70, rfl, e70⟩
          have N70 := Fr.app N69 (Np70 _)
          show Go p e below s (fun v h L => v = some (.int (1 : Int32)) ∧ Fr h0.size L) room_1.cells room_1.slots T70 (mkF m 261 #[.val (.long xa), .second, .val (.long xb), .second, .val (.long ya), .second, .val (.long yb), .second, .val (.int shape), .val (.ref bx), .val (.int (1 : Int32)), .val (.ref bx), .val (.ref fX), .val (.ref fX), .val (.int (0 : Int32)), .val (.int fx), .val (.int fy), .unset, .unset, .unset, .unset] [(.long (if (1 : Int32) < (0 : Int32) then (sel4 x0 x1 x2 x3 (fx + (1 : Int32))).toInt64 * (sel4 x0 x1 x2 x3 (fy + (1 : Int32))).toInt64 else 0)), (.long t0)])
          suffices Ht1 : ∀ t1 : Int64, t1 = (if (1 : Int32) < (0 : Int32) then (sel4 x0 x1 x2 x3 (fx + (1 : Int32))).toInt64 * (sel4 x0 x1 x2 x3 (fy + (1 : Int32))).toInt64 else 0) → Go p e below s (fun v h L => v = some (.int (1 : Int32)) ∧ Fr h0.size L) room_1.cells room_1.slots T70 (mkF m 261 #[.val (.long xa), .second, .val (.long xb), .second, .val (.long ya), .second, .val (.long yb), .second, .val (.int shape), .val (.ref bx), .val (.int (1 : Int32)), .val (.ref bx), .val (.ref fX), .val (.ref fX), .val (.int (0 : Int32)), .val (.int fx), .val (.int fy), .unset, .unset, .unset, .unset] [(.long t1), (.long t0)]) from Ht1 _ rfl
          intro t1 et1
          rw [if_neg (by decide)] at et1
          have ht1 : t1.toInt = 0 ∧ (0 : Int).natAbs ≤ 70368744177664 := ⟨by rw [et1]; rfl, by decide⟩
          refine go_ladd (q := 262) (v := (t0 + t1)) X70 hx (hb hby at_261) rfl rfl ?_
          refine go_aload (q := 264) X70 hx (hb hby at_262) rfl rfl rfl ?_
          refine go_iload (q := 266) X70 hx (hb hby at_264) rfl rfl ?_
          refine go_aload (q := 268) X70 hx (hb hby at_266) rfl rfl rfl ?_
          refine go_iload (q := 270) X70 hx (hb hby at_268) rfl rfl ?_
          refine go_iconst (q := 271) (v := (2 : Int32)) X70 hx (hb hby at_270) rfl rfl ?_
          refine go_iload (q := 273) X70 hx (hb hby at_271) rfl rfl ?_
          refine go_callS (q := 276) (W := 2) X70 hx hZ hown e70 (hw _ (List.mem_of_getElem? (i := 9) rfl)) (hw _ (List.mem_of_getElem? (i := 10) rfl)) (hw _ (List.mem_of_getElem? (i := 3) rfl)) (hw _ (List.mem_of_getElem? (i := 11) rfl)) (by decide) [(.ref bx), (.int fx), (.ref bx), (.int fy), (.int (2 : Int32)), (.int (0 : Int32))] [(.long (t0 + t1))] (rm3 l Z a0 hw [] bx fx bx fy (2 : Int32) (0 : Int32) k_bx k_bx _ _ x0 x1 x2 x3 x0 x1 x2 x3 h68 V_bx V_bx (fun q => absurd q (by decide))) (by rw [hml]; rfl) rfl (lenOf pd_1 rfl) (Nat.le_of_eq rfl) (by decide) (by decide) (hb hby at_273) rfl (by decide) (by decide) ?_
          rintro T71 L71 v71 X71 ⟨Np71, rfl, e71⟩
          have N71 := Fr.app N70 (Np71 _)
          show Go p e below s (fun v h L => v = some (.int (1 : Int32)) ∧ Fr h0.size L) room_1.cells room_1.slots T71 (mkF m 276 #[.val (.long xa), .second, .val (.long xb), .second, .val (.long ya), .second, .val (.long yb), .second, .val (.int shape), .val (.ref bx), .val (.int (1 : Int32)), .val (.ref bx), .val (.ref fX), .val (.ref fX), .val (.int (0 : Int32)), .val (.int fx), .val (.int fy), .unset, .unset, .unset, .unset] [(.long (if (2 : Int32) < (0 : Int32) then (sel4 x0 x1 x2 x3 (fx + (2 : Int32))).toInt64 * (sel4 x0 x1 x2 x3 (fy + (2 : Int32))).toInt64 else 0)), (.long (t0 + t1))])
          suffices Ht2 : ∀ t2 : Int64, t2 = (if (2 : Int32) < (0 : Int32) then (sel4 x0 x1 x2 x3 (fx + (2 : Int32))).toInt64 * (sel4 x0 x1 x2 x3 (fy + (2 : Int32))).toInt64 else 0) → Go p e below s (fun v h L => v = some (.int (1 : Int32)) ∧ Fr h0.size L) room_1.cells room_1.slots T71 (mkF m 276 #[.val (.long xa), .second, .val (.long xb), .second, .val (.long ya), .second, .val (.long yb), .second, .val (.int shape), .val (.ref bx), .val (.int (1 : Int32)), .val (.ref bx), .val (.ref fX), .val (.ref fX), .val (.int (0 : Int32)), .val (.int fx), .val (.int fy), .unset, .unset, .unset, .unset] [(.long t2), (.long (t0 + t1))]) from Ht2 _ rfl
          intro t2 et2
          rw [if_neg (by decide)] at et2
          have ht2 : t2.toInt = 0 ∧ (0 : Int).natAbs ≤ 70368744177664 := ⟨by rw [et2]; rfl, by decide⟩
          refine go_ladd (q := 277) (v := ((t0 + t1) + t2)) X71 hx (hb hby at_276) rfl rfl ?_
          refine go_aload (q := 279) X71 hx (hb hby at_277) rfl rfl rfl ?_
          refine go_iload (q := 281) X71 hx (hb hby at_279) rfl rfl ?_
          refine go_aload (q := 283) X71 hx (hb hby at_281) rfl rfl rfl ?_
          refine go_iload (q := 285) X71 hx (hb hby at_283) rfl rfl ?_
          refine go_iconst (q := 286) (v := (3 : Int32)) X71 hx (hb hby at_285) rfl rfl ?_
          refine go_iload (q := 288) X71 hx (hb hby at_286) rfl rfl ?_
          refine go_callS (q := 291) (W := 2) X71 hx hZ hown e71 (hw _ (List.mem_of_getElem? (i := 9) rfl)) (hw _ (List.mem_of_getElem? (i := 10) rfl)) (hw _ (List.mem_of_getElem? (i := 3) rfl)) (hw _ (List.mem_of_getElem? (i := 11) rfl)) (by decide) [(.ref bx), (.int fx), (.ref bx), (.int fy), (.int (3 : Int32)), (.int (0 : Int32))] [(.long ((t0 + t1) + t2))] (rm3 l Z a0 hw [] bx fx bx fy (3 : Int32) (0 : Int32) k_bx k_bx _ _ x0 x1 x2 x3 x0 x1 x2 x3 h68 V_bx V_bx (fun q => absurd q (by decide))) (by rw [hml]; rfl) rfl (lenOf pd_1 rfl) (Nat.le_of_eq rfl) (by decide) (by decide) (hb hby at_288) rfl (by decide) (by decide) ?_
          rintro T72 L72 v72 X72 ⟨Np72, rfl, e72⟩
          have N72 := Fr.app N71 (Np72 _)
          show Go p e below s (fun v h L => v = some (.int (1 : Int32)) ∧ Fr h0.size L) room_1.cells room_1.slots T72 (mkF m 291 #[.val (.long xa), .second, .val (.long xb), .second, .val (.long ya), .second, .val (.long yb), .second, .val (.int shape), .val (.ref bx), .val (.int (1 : Int32)), .val (.ref bx), .val (.ref fX), .val (.ref fX), .val (.int (0 : Int32)), .val (.int fx), .val (.int fy), .unset, .unset, .unset, .unset] [(.long (if (3 : Int32) < (0 : Int32) then (sel4 x0 x1 x2 x3 (fx + (3 : Int32))).toInt64 * (sel4 x0 x1 x2 x3 (fy + (3 : Int32))).toInt64 else 0)), (.long ((t0 + t1) + t2))])
          suffices Ht3 : ∀ t3 : Int64, t3 = (if (3 : Int32) < (0 : Int32) then (sel4 x0 x1 x2 x3 (fx + (3 : Int32))).toInt64 * (sel4 x0 x1 x2 x3 (fy + (3 : Int32))).toInt64 else 0) → Go p e below s (fun v h L => v = some (.int (1 : Int32)) ∧ Fr h0.size L) room_1.cells room_1.slots T72 (mkF m 291 #[.val (.long xa), .second, .val (.long xb), .second, .val (.long ya), .second, .val (.long yb), .second, .val (.int shape), .val (.ref bx), .val (.int (1 : Int32)), .val (.ref bx), .val (.ref fX), .val (.ref fX), .val (.int (0 : Int32)), .val (.int fx), .val (.int fy), .unset, .unset, .unset, .unset] [(.long t3), (.long ((t0 + t1) + t2))]) from Ht3 _ rfl
          intro t3 et3
          rw [if_neg (by decide)] at et3
          have ht3 : t3.toInt = 0 ∧ (0 : Int).natAbs ≤ 70368744177664 := ⟨by rw [et3]; rfl, by decide⟩
          refine go_ladd (q := 292) (v := (((t0 + t1) + t2) + t3)) X72 hx (hb hby at_291) rfl rfl ?_
          refine go_lstore (q := 294) (l' := #[.val (.long xa), .second, .val (.long xb), .second, .val (.long ya), .second, .val (.long yb), .second, .val (.int shape), .val (.ref bx), .val (.int (1 : Int32)), .val (.ref bx), .val (.ref fX), .val (.ref fX), .val (.int (0 : Int32)), .val (.int fx), .val (.int fy), .val (.long (((t0 + t1) + t2) + t3)), .second, .unset, .unset]) X72 hx (hb hby at_292) rfl rfl ?_
          suffices Hex : ∀ ex : Int64, ex = (((t0 + t1) + t2) + t3) → Go p e below s (fun v h L => v = some (.int (1 : Int32)) ∧ Fr h0.size L) room_1.cells room_1.slots T72 (mkF m 294 #[.val (.long xa), .second, .val (.long xb), .second, .val (.long ya), .second, .val (.long yb), .second, .val (.int shape), .val (.ref bx), .val (.int (1 : Int32)), .val (.ref bx), .val (.ref fX), .val (.ref fX), .val (.int (0 : Int32)), .val (.int fx), .val (.int fy), .val (.long ex), .second, .unset, .unset] []) from Hex _ rfl
          intro ex eex
          have hex := own_sum4 ht0 ht1 ht2 ht3
          rw [← eex] at hex
          refine go_aload (q := 296) X72 hx (hb hby at_294) rfl rfl rfl ?_
          refine go_iload (q := 298) X72 hx (hb hby at_296) rfl rfl ?_
          refine go_aload (q := 300) X72 hx (hb hby at_298) rfl rfl rfl ?_
          refine go_iload (q := 302) X72 hx (hb hby at_300) rfl rfl ?_
          refine go_iload (q := 304) X72 hx (hb hby at_302) rfl rfl ?_
          refine go_callS (q := 307) (W := 0) X72 hx hZ hown e72 (hw _ (List.mem_of_getElem? (i := 12) rfl)) (hw _ (List.mem_of_getElem? (i := 13) rfl)) (hw _ (List.mem_of_getElem? (i := 14) rfl)) (hw _ (List.mem_of_getElem? (i := 15) rfl)) (by decide) [(.ref fX), (.int fx), (.ref fX), (.int fy), (.int (0 : Int32))] [] (rm4_0 l Z a0 hw [] fX fx fX fy k_fX k_fX _ _ x0 x1 x2 x3 x0 x1 x2 x3 h68 V_fX V_fX bx_ bx_) (by rw [hml]; rfl) rfl (lenOf pd_2 rfl) (Nat.le_of_eq rfl) (by decide) (by decide) (hb hby at_304) rfl (by decide) (by decide) ?_
          rintro T73 L73 v73 X73 ⟨Np73, ⟨r_, rfl, hr_⟩, e73⟩
          have N73 := Fr.app N72 (Np73 _)
          show Go p e below s (fun v h L => v = some (.int (1 : Int32)) ∧ Fr h0.size L) room_1.cells room_1.slots T73 (mkF m 307 #[.val (.long xa), .second, .val (.long xb), .second, .val (.long ya), .second, .val (.long yb), .second, .val (.int shape), .val (.ref bx), .val (.int (1 : Int32)), .val (.ref bx), .val (.ref fX), .val (.ref fX), .val (.int (0 : Int32)), .val (.int fx), .val (.int fy), .val (.long ex), .second, .unset, .unset] [(.double r_)])
          refine go_dstore (q := 309) (l' := #[.val (.long xa), .second, .val (.long xb), .second, .val (.long ya), .second, .val (.long yb), .second, .val (.int shape), .val (.ref bx), .val (.int (1 : Int32)), .val (.ref bx), .val (.ref fX), .val (.ref fX), .val (.int (0 : Int32)), .val (.int fx), .val (.int fy), .val (.long ex), .second, .val (.double r_), .second]) X73 hx (hb hby at_307) rfl rfl ?_
          refine go_dload (q := 311) X73 hx (hb hby at_309) rfl rfl ?_
          refine go_lload (q := 313) X73 hx (hb hby at_311) rfl rfl ?_
          refine go_l2dB (q := 314) X73 hx (hb hby at_313) rfl (db_l2d (A := 281474976710656) hex.2 (by decide)) (fun z74 hz74 => ?_)
          refine go_dcmp (q := 315) X73 hx (hb hby at_314) rfl rfl ?_
          refine go_dif_ne (q := 318) (q' := 322) X73 hx (hb hby at_315) rfl (by decide) rfl hr_ hz74 (fun hc315 => ?_) (fun hc315 => ?_)
          · exact absurd (by rw [hex.1]; omega) hc315
          · refine go_iconst (q := 319) (v := (1 : Int32)) X73 hx (hb hby at_318) rfl rfl ?_
            refine go_goto (q := 323) X73 hx (hb hby at_319) (by decide) rfl ?_
            exact go_retN X73 hx (by simp) hret hlk (hb hby at_323) (by decide) (by decide) ⟨rfl, N73⟩
        · refine go_iload (q := 206) X68 hx (hb hby at_204) rfl rfl ?_
          refine go_iconst (q := 207) (v := (3 : Int32)) X68 hx (hb hby at_206) rfl rfl ?_
          refine go_iushr (q := 208) (v := ((shape.toUInt32 >>> ((3 : Int32) &&& 31).toUInt32).toInt32)) X68 hx (hb hby at_207) rfl rfl ?_
          refine go_bipush (q := 210) (v := (7 : Int32)) X68 hx (hb hby at_208) rfl rfl ?_
          refine go_iand (q := 211) (v := (((shape.toUInt32 >>> ((3 : Int32) &&& 31).toUInt32).toInt32) &&& (7 : Int32))) X68 hx (hb hby at_210) rfl rfl ?_
          refine go_iconst (q := 212) (v := (5 : Int32)) X68 hx (hb hby at_211) rfl rfl ?_
          refine go_iload (q := 214) X68 hx (hb hby at_212) rfl rfl ?_
          refine go_isub (q := 215) (v := (4 : Int32)) X68 hx (hb hby at_214) rfl rfl ?_
          refine go_irem (q := 216) (v := ((((shape.toUInt32 >>> ((3 : Int32) &&& 31).toUInt32).toInt32) &&& (7 : Int32)) % (4 : Int32))) X68 hx (hb hby at_215) rfl (by decide) rfl ?_
          refine go_istore (q := 218) (l' := #[.val (.long xa), .second, .val (.long xb), .second, .val (.long ya), .second, .val (.long yb), .second, .val (.int shape), .val (.ref bx), .val (.int (1 : Int32)), .val (.ref bx), .val (.ref fX), .val (.ref fX), .val (.int (1 : Int32)), .val (.int ((((shape.toUInt32 >>> ((3 : Int32) &&& 31).toUInt32).toInt32) &&& (7 : Int32)) % (4 : Int32))), .unset, .unset, .unset, .unset, .unset]) X68 hx (hb hby at_216) rfl rfl ?_
          suffices Hfx : ∀ fx : Int32, fx = ((((shape.toUInt32 >>> ((3 : Int32) &&& 31).toUInt32).toInt32) &&& (7 : Int32)) % (4 : Int32)) → Go p e below s (fun v h L => v = some (.int (1 : Int32)) ∧ Fr h0.size L) room_1.cells room_1.slots T68 (mkF m 218 #[.val (.long xa), .second, .val (.long xb), .second, .val (.long ya), .second, .val (.long yb), .second, .val (.int shape), .val (.ref bx), .val (.int (1 : Int32)), .val (.ref bx), .val (.ref fX), .val (.ref fX), .val (.int (1 : Int32)), .val (.int fx), .unset, .unset, .unset, .unset, .unset] []) from Hfx _ rfl
          intro fx efx
          refine go_iload (q := 220) X68 hx (hb hby at_218) rfl rfl ?_
          refine go_bipush (q := 222) (v := (6 : Int32)) X68 hx (hb hby at_220) rfl rfl ?_
          refine go_iushr (q := 223) (v := ((shape.toUInt32 >>> ((6 : Int32) &&& 31).toUInt32).toInt32)) X68 hx (hb hby at_222) rfl rfl ?_
          refine go_bipush (q := 225) (v := (7 : Int32)) X68 hx (hb hby at_223) rfl rfl ?_
          refine go_iand (q := 226) (v := (((shape.toUInt32 >>> ((6 : Int32) &&& 31).toUInt32).toInt32) &&& (7 : Int32))) X68 hx (hb hby at_225) rfl rfl ?_
          refine go_iconst (q := 227) (v := (5 : Int32)) X68 hx (hb hby at_226) rfl rfl ?_
          refine go_iload (q := 229) X68 hx (hb hby at_227) rfl rfl ?_
          refine go_isub (q := 230) (v := (4 : Int32)) X68 hx (hb hby at_229) rfl rfl ?_
          refine go_irem (q := 231) (v := ((((shape.toUInt32 >>> ((6 : Int32) &&& 31).toUInt32).toInt32) &&& (7 : Int32)) % (4 : Int32))) X68 hx (hb hby at_230) rfl (by decide) rfl ?_
          refine go_istore (q := 233) (l' := #[.val (.long xa), .second, .val (.long xb), .second, .val (.long ya), .second, .val (.long yb), .second, .val (.int shape), .val (.ref bx), .val (.int (1 : Int32)), .val (.ref bx), .val (.ref fX), .val (.ref fX), .val (.int (1 : Int32)), .val (.int fx), .val (.int ((((shape.toUInt32 >>> ((6 : Int32) &&& 31).toUInt32).toInt32) &&& (7 : Int32)) % (4 : Int32))), .unset, .unset, .unset, .unset]) X68 hx (hb hby at_231) rfl rfl ?_
          suffices Hfy : ∀ fy : Int32, fy = ((((shape.toUInt32 >>> ((6 : Int32) &&& 31).toUInt32).toInt32) &&& (7 : Int32)) % (4 : Int32)) → Go p e below s (fun v h L => v = some (.int (1 : Int32)) ∧ Fr h0.size L) room_1.cells room_1.slots T68 (mkF m 233 #[.val (.long xa), .second, .val (.long xb), .second, .val (.long ya), .second, .val (.long yb), .second, .val (.int shape), .val (.ref bx), .val (.int (1 : Int32)), .val (.ref bx), .val (.ref fX), .val (.ref fX), .val (.int (1 : Int32)), .val (.int fx), .val (.int fy), .unset, .unset, .unset, .unset] []) from Hfy _ rfl
          intro fy efy
          have rx : 0 ≤ fx.toInt ∧ fx.toInt ≤ 3 := by rw [efx]; exact own_idx1 _
          have ry : 0 ≤ fy.toInt ∧ fy.toInt ≤ 3 := by rw [efy]; exact own_idx1 _
          have rx0 := own_in (i := 0) (n := 3) rx (by decide) (by decide)
          have ry0 := own_in (i := 0) (n := 3) ry (by decide) (by decide)
          refine go_aload (q := 235) X68 hx (hb hby at_233) rfl rfl rfl ?_
          refine go_iload (q := 237) X68 hx (hb hby at_235) rfl rfl ?_
          refine go_aload (q := 239) X68 hx (hb hby at_237) rfl rfl rfl ?_
          refine go_iload (q := 241) X68 hx (hb hby at_239) rfl rfl ?_
          refine go_iconst (q := 242) (v := (0 : Int32)) X68 hx (hb hby at_241) rfl rfl ?_
          refine go_iload (q := 244) X68 hx (hb hby at_242) rfl rfl ?_
          refine go_callS (q := 247) (W := 0) X68 hx hZ hown e68 (hw _ (List.mem_of_getElem? (i := 9) rfl)) (hw _ (List.mem_of_getElem? (i := 10) rfl)) (hw _ (List.mem_of_getElem? (i := 3) rfl)) (hw _ (List.mem_of_getElem? (i := 11) rfl)) (by decide) [(.ref bx), (.int fx), (.ref bx), (.int fy), (.int (0 : Int32)), (.int (1 : Int32))] [] (rm3 l Z a0 hw [] bx fx bx fy (0 : Int32) (1 : Int32) k_bx k_bx _ _ x0 x1 x2 x3 x0 x1 x2 x3 h68 V_bx V_bx (fun _ => ⟨rx0, ry0⟩)) (by rw [hml]; rfl) rfl (lenOf pd_1 rfl) (Nat.le_of_eq rfl) (by decide) (by decide) (hb hby at_244) rfl (by decide) (by decide) ?_
          rintro T75 L75 v75 X75 ⟨Np75, rfl, e75⟩
          have N75 := Fr.app N68 (Np75 _)
          show Go p e below s (fun v h L => v = some (.int (1 : Int32)) ∧ Fr h0.size L) room_1.cells room_1.slots T75 (mkF m 247 #[.val (.long xa), .second, .val (.long xb), .second, .val (.long ya), .second, .val (.long yb), .second, .val (.int shape), .val (.ref bx), .val (.int (1 : Int32)), .val (.ref bx), .val (.ref fX), .val (.ref fX), .val (.int (1 : Int32)), .val (.int fx), .val (.int fy), .unset, .unset, .unset, .unset] [(.long (if (0 : Int32) < (1 : Int32) then (sel4 x0 x1 x2 x3 (fx + (0 : Int32))).toInt64 * (sel4 x0 x1 x2 x3 (fy + (0 : Int32))).toInt64 else 0))])
          suffices Ht0 : ∀ t0 : Int64, t0 = (if (0 : Int32) < (1 : Int32) then (sel4 x0 x1 x2 x3 (fx + (0 : Int32))).toInt64 * (sel4 x0 x1 x2 x3 (fy + (0 : Int32))).toInt64 else 0) → Go p e below s (fun v h L => v = some (.int (1 : Int32)) ∧ Fr h0.size L) room_1.cells room_1.slots T75 (mkF m 247 #[.val (.long xa), .second, .val (.long xb), .second, .val (.long ya), .second, .val (.long yb), .second, .val (.int shape), .val (.ref bx), .val (.int (1 : Int32)), .val (.ref bx), .val (.ref fX), .val (.ref fX), .val (.int (1 : Int32)), .val (.int fx), .val (.int fy), .unset, .unset, .unset, .unset] [(.long t0)]) from Ht0 _ rfl
          intro t0 et0
          rw [if_pos (by decide)] at et0
          have ht0 := own_prod (bx_ (fx + (0 : Int32))) (bx_ (fy + (0 : Int32)))
          rw [← et0] at ht0
          refine go_aload (q := 249) X75 hx (hb hby at_247) rfl rfl rfl ?_
          refine go_iload (q := 251) X75 hx (hb hby at_249) rfl rfl ?_
          refine go_aload (q := 253) X75 hx (hb hby at_251) rfl rfl rfl ?_
          refine go_iload (q := 255) X75 hx (hb hby at_253) rfl rfl ?_
          refine go_iconst (q := 256) (v := (1 : Int32)) X75 hx (hb hby at_255) rfl rfl ?_
          refine go_iload (q := 258) X75 hx (hb hby at_256) rfl rfl ?_
          refine go_callS (q := 261) (W := 2) X75 hx hZ hown e75 (hw _ (List.mem_of_getElem? (i := 9) rfl)) (hw _ (List.mem_of_getElem? (i := 10) rfl)) (hw _ (List.mem_of_getElem? (i := 3) rfl)) (hw _ (List.mem_of_getElem? (i := 11) rfl)) (by decide) [(.ref bx), (.int fx), (.ref bx), (.int fy), (.int (1 : Int32)), (.int (1 : Int32))] [(.long t0)] (rm3 l Z a0 hw [] bx fx bx fy (1 : Int32) (1 : Int32) k_bx k_bx _ _ x0 x1 x2 x3 x0 x1 x2 x3 h68 V_bx V_bx (fun q => absurd q (by decide))) (by rw [hml]; rfl) rfl (lenOf pd_1 rfl) (Nat.le_of_eq rfl) (by decide) (by decide) (hb hby at_258) rfl (by decide) (by decide) ?_
          rintro T76 L76 v76 X76 ⟨Np76, rfl, e76⟩
          have N76 := Fr.app N75 (Np76 _)
          show Go p e below s (fun v h L => v = some (.int (1 : Int32)) ∧ Fr h0.size L) room_1.cells room_1.slots T76 (mkF m 261 #[.val (.long xa), .second, .val (.long xb), .second, .val (.long ya), .second, .val (.long yb), .second, .val (.int shape), .val (.ref bx), .val (.int (1 : Int32)), .val (.ref bx), .val (.ref fX), .val (.ref fX), .val (.int (1 : Int32)), .val (.int fx), .val (.int fy), .unset, .unset, .unset, .unset] [(.long (if (1 : Int32) < (1 : Int32) then (sel4 x0 x1 x2 x3 (fx + (1 : Int32))).toInt64 * (sel4 x0 x1 x2 x3 (fy + (1 : Int32))).toInt64 else 0)), (.long t0)])
          suffices Ht1 : ∀ t1 : Int64, t1 = (if (1 : Int32) < (1 : Int32) then (sel4 x0 x1 x2 x3 (fx + (1 : Int32))).toInt64 * (sel4 x0 x1 x2 x3 (fy + (1 : Int32))).toInt64 else 0) → Go p e below s (fun v h L => v = some (.int (1 : Int32)) ∧ Fr h0.size L) room_1.cells room_1.slots T76 (mkF m 261 #[.val (.long xa), .second, .val (.long xb), .second, .val (.long ya), .second, .val (.long yb), .second, .val (.int shape), .val (.ref bx), .val (.int (1 : Int32)), .val (.ref bx), .val (.ref fX), .val (.ref fX), .val (.int (1 : Int32)), .val (.int fx), .val (.int fy), .unset, .unset, .unset, .unset] [(.long t1), (.long t0)]) from Ht1 _ rfl
          intro t1 et1
          rw [if_neg (by decide)] at et1
          have ht1 : t1.toInt = 0 ∧ (0 : Int).natAbs ≤ 70368744177664 := ⟨by rw [et1]; rfl, by decide⟩
          refine go_ladd (q := 262) (v := (t0 + t1)) X76 hx (hb hby at_261) rfl rfl ?_
          refine go_aload (q := 264) X76 hx (hb hby at_262) rfl rfl rfl ?_
          refine go_iload (q := 266) X76 hx (hb hby at_264) rfl rfl ?_
          refine go_aload (q := 268) X76 hx (hb hby at_266) rfl rfl rfl ?_
          refine go_iload (q := 270) X76 hx (hb hby at_268) rfl rfl ?_
          refine go_iconst (q := 271) (v := (2 : Int32)) X76 hx (hb hby at_270) rfl rfl ?_
          refine go_iload (q := 273) X76 hx (hb hby at_271) rfl rfl ?_
          refine go_callS (q := 276) (W := 2) X76 hx hZ hown e76 (hw _ (List.mem_of_getElem? (i := 9) rfl)) (hw _ (List.mem_of_getElem? (i := 10) rfl)) (hw _ (List.mem_of_getElem? (i := 3) rfl)) (hw _ (List.mem_of_getElem? (i := 11) rfl)) (by decide) [(.ref bx), (.int fx), (.ref bx), (.int fy), (.int (2 : Int32)), (.int (1 : Int32))] [(.long (t0 + t1))] (rm3 l Z a0 hw [] bx fx bx fy (2 : Int32) (1 : Int32) k_bx k_bx _ _ x0 x1 x2 x3 x0 x1 x2 x3 h68 V_bx V_bx (fun q => absurd q (by decide))) (by rw [hml]; rfl) rfl (lenOf pd_1 rfl) (Nat.le_of_eq rfl) (by decide) (by decide) (hb hby at_273) rfl (by decide) (by decide) ?_
          rintro T77 L77 v77 X77 ⟨Np77, rfl, e77⟩
          have N77 := Fr.app N76 (Np77 _)
          show Go p e below s (fun v h L => v = some (.int (1 : Int32)) ∧ Fr h0.size L) room_1.cells room_1.slots T77 (mkF m 276 #[.val (.long xa), .second, .val (.long xb), .second, .val (.long ya), .second, .val (.long yb), .second, .val (.int shape), .val (.ref bx), .val (.int (1 : Int32)), .val (.ref bx), .val (.ref fX), .val (.ref fX), .val (.int (1 : Int32)), .val (.int fx), .val (.int fy), .unset, .unset, .unset, .unset] [(.long (if (2 : Int32) < (1 : Int32) then (sel4 x0 x1 x2 x3 (fx + (2 : Int32))).toInt64 * (sel4 x0 x1 x2 x3 (fy + (2 : Int32))).toInt64 else 0)), (.long (t0 + t1))])
          suffices Ht2 : ∀ t2 : Int64, t2 = (if (2 : Int32) < (1 : Int32) then (sel4 x0 x1 x2 x3 (fx + (2 : Int32))).toInt64 * (sel4 x0 x1 x2 x3 (fy + (2 : Int32))).toInt64 else 0) → Go p e below s (fun v h L => v = some (.int (1 : Int32)) ∧ Fr h0.size L) room_1.cells room_1.slots T77 (mkF m 276 #[.val (.long xa), .second, .val (.long xb), .second, .val (.long ya), .second, .val (.long yb), .second, .val (.int shape), .val (.ref bx), .val (.int (1 : Int32)), .val (.ref bx), .val (.ref fX), .val (.ref fX), .val (.int (1 : Int32)), .val (.int fx), .val (.int fy), .unset, .unset, .unset, .unset] [(.long t2), (.long (t0 + t1))]) from Ht2 _ rfl
          intro t2 et2
          rw [if_neg (by decide)] at et2
          have ht2 : t2.toInt = 0 ∧ (0 : Int).natAbs ≤ 70368744177664 := ⟨by rw [et2]; rfl, by decide⟩
          refine go_ladd (q := 277) (v := ((t0 + t1) + t2)) X77 hx (hb hby at_276) rfl rfl ?_
          refine go_aload (q := 279) X77 hx (hb hby at_277) rfl rfl rfl ?_
          refine go_iload (q := 281) X77 hx (hb hby at_279) rfl rfl ?_
          refine go_aload (q := 283) X77 hx (hb hby at_281) rfl rfl rfl ?_
          refine go_iload (q := 285) X77 hx (hb hby at_283) rfl rfl ?_
          refine go_iconst (q := 286) (v := (3 : Int32)) X77 hx (hb hby at_285) rfl rfl ?_
          refine go_iload (q := 288) X77 hx (hb hby at_286) rfl rfl ?_
          refine go_callS (q := 291) (W := 2) X77 hx hZ hown e77 (hw _ (List.mem_of_getElem? (i := 9) rfl)) (hw _ (List.mem_of_getElem? (i := 10) rfl)) (hw _ (List.mem_of_getElem? (i := 3) rfl)) (hw _ (List.mem_of_getElem? (i := 11) rfl)) (by decide) [(.ref bx), (.int fx), (.ref bx), (.int fy), (.int (3 : Int32)), (.int (1 : Int32))] [(.long ((t0 + t1) + t2))] (rm3 l Z a0 hw [] bx fx bx fy (3 : Int32) (1 : Int32) k_bx k_bx _ _ x0 x1 x2 x3 x0 x1 x2 x3 h68 V_bx V_bx (fun q => absurd q (by decide))) (by rw [hml]; rfl) rfl (lenOf pd_1 rfl) (Nat.le_of_eq rfl) (by decide) (by decide) (hb hby at_288) rfl (by decide) (by decide) ?_
          rintro T78 L78 v78 X78 ⟨Np78, rfl, e78⟩
          have N78 := Fr.app N77 (Np78 _)
          show Go p e below s (fun v h L => v = some (.int (1 : Int32)) ∧ Fr h0.size L) room_1.cells room_1.slots T78 (mkF m 291 #[.val (.long xa), .second, .val (.long xb), .second, .val (.long ya), .second, .val (.long yb), .second, .val (.int shape), .val (.ref bx), .val (.int (1 : Int32)), .val (.ref bx), .val (.ref fX), .val (.ref fX), .val (.int (1 : Int32)), .val (.int fx), .val (.int fy), .unset, .unset, .unset, .unset] [(.long (if (3 : Int32) < (1 : Int32) then (sel4 x0 x1 x2 x3 (fx + (3 : Int32))).toInt64 * (sel4 x0 x1 x2 x3 (fy + (3 : Int32))).toInt64 else 0)), (.long ((t0 + t1) + t2))])
          suffices Ht3 : ∀ t3 : Int64, t3 = (if (3 : Int32) < (1 : Int32) then (sel4 x0 x1 x2 x3 (fx + (3 : Int32))).toInt64 * (sel4 x0 x1 x2 x3 (fy + (3 : Int32))).toInt64 else 0) → Go p e below s (fun v h L => v = some (.int (1 : Int32)) ∧ Fr h0.size L) room_1.cells room_1.slots T78 (mkF m 291 #[.val (.long xa), .second, .val (.long xb), .second, .val (.long ya), .second, .val (.long yb), .second, .val (.int shape), .val (.ref bx), .val (.int (1 : Int32)), .val (.ref bx), .val (.ref fX), .val (.ref fX), .val (.int (1 : Int32)), .val (.int fx), .val (.int fy), .unset, .unset, .unset, .unset] [(.long t3), (.long ((t0 + t1) + t2))]) from Ht3 _ rfl
          intro t3 et3
          rw [if_neg (by decide)] at et3
          have ht3 : t3.toInt = 0 ∧ (0 : Int).natAbs ≤ 70368744177664 := ⟨by rw [et3]; rfl, by decide⟩
          refine go_ladd (q := 292) (v := (((t0 + t1) + t2) + t3)) X78 hx (hb hby at_291) rfl rfl ?_
          refine go_lstore (q := 294) (l' := #[.val (.long xa), .second, .val (.long xb), .second, .val (.long ya), .second, .val (.long yb), .second, .val (.int shape), .val (.ref bx), .val (.int (1 : Int32)), .val (.ref bx), .val (.ref fX), .val (.ref fX), .val (.int (1 : Int32)), .val (.int fx), .val (.int fy), .val (.long (((t0 + t1) + t2) + t3)), .second, .unset, .unset]) X78 hx (hb hby at_292) rfl rfl ?_
          suffices Hex : ∀ ex : Int64, ex = (((t0 + t1) + t2) + t3) → Go p e below s (fun v h L => v = some (.int (1 : Int32)) ∧ Fr h0.size L) room_1.cells room_1.slots T78 (mkF m 294 #[.val (.long xa), .second, .val (.long xb), .second, .val (.long ya), .second, .val (.long yb), .second, .val (.int shape), .val (.ref bx), .val (.int (1 : Int32)), .val (.ref bx), .val (.ref fX), .val (.ref fX), .val (.int (1 : Int32)), .val (.int fx), .val (.int fy), .val (.long ex), .second, .unset, .unset] []) from Hex _ rfl
          intro ex eex
          have hex := own_sum4 ht0 ht1 ht2 ht3
          rw [← eex] at hex
          refine go_aload (q := 296) X78 hx (hb hby at_294) rfl rfl rfl ?_
          refine go_iload (q := 298) X78 hx (hb hby at_296) rfl rfl ?_
          refine go_aload (q := 300) X78 hx (hb hby at_298) rfl rfl rfl ?_
          refine go_iload (q := 302) X78 hx (hb hby at_300) rfl rfl ?_
          refine go_iload (q := 304) X78 hx (hb hby at_302) rfl rfl ?_
          refine go_callS (q := 307) (W := 0) X78 hx hZ hown e78 (hw _ (List.mem_of_getElem? (i := 12) rfl)) (hw _ (List.mem_of_getElem? (i := 13) rfl)) (hw _ (List.mem_of_getElem? (i := 14) rfl)) (hw _ (List.mem_of_getElem? (i := 15) rfl)) (by decide) [(.ref fX), (.int fx), (.ref fX), (.int fy), (.int (1 : Int32))] [] (rm4_1 l Z a0 hw [] fX fx fX fy k_fX k_fX _ _ x0 x1 x2 x3 x0 x1 x2 x3 h68 V_fX V_fX bx_ bx_ rx0 ry0) (by rw [hml]; rfl) rfl (lenOf pd_2 rfl) (Nat.le_of_eq rfl) (by decide) (by decide) (hb hby at_304) rfl (by decide) (by decide) ?_
          rintro T79 L79 v79 X79 ⟨Np79, ⟨r_, rfl, hr_⟩, e79⟩
          have N79 := Fr.app N78 (Np79 _)
          show Go p e below s (fun v h L => v = some (.int (1 : Int32)) ∧ Fr h0.size L) room_1.cells room_1.slots T79 (mkF m 307 #[.val (.long xa), .second, .val (.long xb), .second, .val (.long ya), .second, .val (.long yb), .second, .val (.int shape), .val (.ref bx), .val (.int (1 : Int32)), .val (.ref bx), .val (.ref fX), .val (.ref fX), .val (.int (1 : Int32)), .val (.int fx), .val (.int fy), .val (.long ex), .second, .unset, .unset] [(.double r_)])
          refine go_dstore (q := 309) (l' := #[.val (.long xa), .second, .val (.long xb), .second, .val (.long ya), .second, .val (.long yb), .second, .val (.int shape), .val (.ref bx), .val (.int (1 : Int32)), .val (.ref bx), .val (.ref fX), .val (.ref fX), .val (.int (1 : Int32)), .val (.int fx), .val (.int fy), .val (.long ex), .second, .val (.double r_), .second]) X79 hx (hb hby at_307) rfl rfl ?_
          refine go_dload (q := 311) X79 hx (hb hby at_309) rfl rfl ?_
          refine go_lload (q := 313) X79 hx (hb hby at_311) rfl rfl ?_
          refine go_l2dB (q := 314) X79 hx (hb hby at_313) rfl (db_l2d (A := 281474976710656) hex.2 (by decide)) (fun z80 hz80 => ?_)
          refine go_dcmp (q := 315) X79 hx (hb hby at_314) rfl rfl ?_
          refine go_dif_ne (q := 318) (q' := 322) X79 hx (hb hby at_315) rfl (by decide) rfl hr_ hz80 (fun hc315 => ?_) (fun hc315 => ?_)
          · exact absurd (by rw [hex.1]; omega) hc315
          · refine go_iconst (q := 319) (v := (1 : Int32)) X79 hx (hb hby at_318) rfl rfl ?_
            refine go_goto (q := 323) X79 hx (hb hby at_319) (by decide) rfl ?_
            exact go_retN X79 hx (by simp) hret hlk (hb hby at_323) (by decide) (by decide) ⟨rfl, N79⟩
        · refine go_iload (q := 206) X68 hx (hb hby at_204) rfl rfl ?_
          refine go_iconst (q := 207) (v := (3 : Int32)) X68 hx (hb hby at_206) rfl rfl ?_
          refine go_iushr (q := 208) (v := ((shape.toUInt32 >>> ((3 : Int32) &&& 31).toUInt32).toInt32)) X68 hx (hb hby at_207) rfl rfl ?_
          refine go_bipush (q := 210) (v := (7 : Int32)) X68 hx (hb hby at_208) rfl rfl ?_
          refine go_iand (q := 211) (v := (((shape.toUInt32 >>> ((3 : Int32) &&& 31).toUInt32).toInt32) &&& (7 : Int32))) X68 hx (hb hby at_210) rfl rfl ?_
          refine go_iconst (q := 212) (v := (5 : Int32)) X68 hx (hb hby at_211) rfl rfl ?_
          refine go_iload (q := 214) X68 hx (hb hby at_212) rfl rfl ?_
          refine go_isub (q := 215) (v := (3 : Int32)) X68 hx (hb hby at_214) rfl rfl ?_
          refine go_irem (q := 216) (v := ((((shape.toUInt32 >>> ((3 : Int32) &&& 31).toUInt32).toInt32) &&& (7 : Int32)) % (3 : Int32))) X68 hx (hb hby at_215) rfl (by decide) rfl ?_
          refine go_istore (q := 218) (l' := #[.val (.long xa), .second, .val (.long xb), .second, .val (.long ya), .second, .val (.long yb), .second, .val (.int shape), .val (.ref bx), .val (.int (1 : Int32)), .val (.ref bx), .val (.ref fX), .val (.ref fX), .val (.int (2 : Int32)), .val (.int ((((shape.toUInt32 >>> ((3 : Int32) &&& 31).toUInt32).toInt32) &&& (7 : Int32)) % (3 : Int32))), .unset, .unset, .unset, .unset, .unset]) X68 hx (hb hby at_216) rfl rfl ?_
          suffices Hfx : ∀ fx : Int32, fx = ((((shape.toUInt32 >>> ((3 : Int32) &&& 31).toUInt32).toInt32) &&& (7 : Int32)) % (3 : Int32)) → Go p e below s (fun v h L => v = some (.int (1 : Int32)) ∧ Fr h0.size L) room_1.cells room_1.slots T68 (mkF m 218 #[.val (.long xa), .second, .val (.long xb), .second, .val (.long ya), .second, .val (.long yb), .second, .val (.int shape), .val (.ref bx), .val (.int (1 : Int32)), .val (.ref bx), .val (.ref fX), .val (.ref fX), .val (.int (2 : Int32)), .val (.int fx), .unset, .unset, .unset, .unset, .unset] []) from Hfx _ rfl
          intro fx efx
          refine go_iload (q := 220) X68 hx (hb hby at_218) rfl rfl ?_
          refine go_bipush (q := 222) (v := (6 : Int32)) X68 hx (hb hby at_220) rfl rfl ?_
          refine go_iushr (q := 223) (v := ((shape.toUInt32 >>> ((6 : Int32) &&& 31).toUInt32).toInt32)) X68 hx (hb hby at_222) rfl rfl ?_
          refine go_bipush (q := 225) (v := (7 : Int32)) X68 hx (hb hby at_223) rfl rfl ?_
          refine go_iand (q := 226) (v := (((shape.toUInt32 >>> ((6 : Int32) &&& 31).toUInt32).toInt32) &&& (7 : Int32))) X68 hx (hb hby at_225) rfl rfl ?_
          refine go_iconst (q := 227) (v := (5 : Int32)) X68 hx (hb hby at_226) rfl rfl ?_
          refine go_iload (q := 229) X68 hx (hb hby at_227) rfl rfl ?_
          refine go_isub (q := 230) (v := (3 : Int32)) X68 hx (hb hby at_229) rfl rfl ?_
          refine go_irem (q := 231) (v := ((((shape.toUInt32 >>> ((6 : Int32) &&& 31).toUInt32).toInt32) &&& (7 : Int32)) % (3 : Int32))) X68 hx (hb hby at_230) rfl (by decide) rfl ?_
          refine go_istore (q := 233) (l' := #[.val (.long xa), .second, .val (.long xb), .second, .val (.long ya), .second, .val (.long yb), .second, .val (.int shape), .val (.ref bx), .val (.int (1 : Int32)), .val (.ref bx), .val (.ref fX), .val (.ref fX), .val (.int (2 : Int32)), .val (.int fx), .val (.int ((((shape.toUInt32 >>> ((6 : Int32) &&& 31).toUInt32).toInt32) &&& (7 : Int32)) % (3 : Int32))), .unset, .unset, .unset, .unset]) X68 hx (hb hby at_231) rfl rfl ?_
          suffices Hfy : ∀ fy : Int32, fy = ((((shape.toUInt32 >>> ((6 : Int32) &&& 31).toUInt32).toInt32) &&& (7 : Int32)) % (3 : Int32)) → Go p e below s (fun v h L => v = some (.int (1 : Int32)) ∧ Fr h0.size L) room_1.cells room_1.slots T68 (mkF m 233 #[.val (.long xa), .second, .val (.long xb), .second, .val (.long ya), .second, .val (.long yb), .second, .val (.int shape), .val (.ref bx), .val (.int (1 : Int32)), .val (.ref bx), .val (.ref fX), .val (.ref fX), .val (.int (2 : Int32)), .val (.int fx), .val (.int fy), .unset, .unset, .unset, .unset] []) from Hfy _ rfl
          intro fy efy
          have rx : 0 ≤ fx.toInt ∧ fx.toInt ≤ 2 := by rw [efx]; exact own_idx2 _
          have ry : 0 ≤ fy.toInt ∧ fy.toInt ≤ 2 := by rw [efy]; exact own_idx2 _
          have rx0 := own_in (i := 0) (n := 2) rx (by decide) (by decide)
          have ry0 := own_in (i := 0) (n := 2) ry (by decide) (by decide)
          have rx1 := own_in (i := 1) (n := 2) rx (by decide) (by decide)
          have ry1 := own_in (i := 1) (n := 2) ry (by decide) (by decide)
          refine go_aload (q := 235) X68 hx (hb hby at_233) rfl rfl rfl ?_
          refine go_iload (q := 237) X68 hx (hb hby at_235) rfl rfl ?_
          refine go_aload (q := 239) X68 hx (hb hby at_237) rfl rfl rfl ?_
          refine go_iload (q := 241) X68 hx (hb hby at_239) rfl rfl ?_
          refine go_iconst (q := 242) (v := (0 : Int32)) X68 hx (hb hby at_241) rfl rfl ?_
          refine go_iload (q := 244) X68 hx (hb hby at_242) rfl rfl ?_
          refine go_callS (q := 247) (W := 0) X68 hx hZ hown e68 (hw _ (List.mem_of_getElem? (i := 9) rfl)) (hw _ (List.mem_of_getElem? (i := 10) rfl)) (hw _ (List.mem_of_getElem? (i := 3) rfl)) (hw _ (List.mem_of_getElem? (i := 11) rfl)) (by decide) [(.ref bx), (.int fx), (.ref bx), (.int fy), (.int (0 : Int32)), (.int (2 : Int32))] [] (rm3 l Z a0 hw [] bx fx bx fy (0 : Int32) (2 : Int32) k_bx k_bx _ _ x0 x1 x2 x3 x0 x1 x2 x3 h68 V_bx V_bx (fun _ => ⟨rx0, ry0⟩)) (by rw [hml]; rfl) rfl (lenOf pd_1 rfl) (Nat.le_of_eq rfl) (by decide) (by decide) (hb hby at_244) rfl (by decide) (by decide) ?_
          rintro T81 L81 v81 X81 ⟨Np81, rfl, e81⟩
          have N81 := Fr.app N68 (Np81 _)
          show Go p e below s (fun v h L => v = some (.int (1 : Int32)) ∧ Fr h0.size L) room_1.cells room_1.slots T81 (mkF m 247 #[.val (.long xa), .second, .val (.long xb), .second, .val (.long ya), .second, .val (.long yb), .second, .val (.int shape), .val (.ref bx), .val (.int (1 : Int32)), .val (.ref bx), .val (.ref fX), .val (.ref fX), .val (.int (2 : Int32)), .val (.int fx), .val (.int fy), .unset, .unset, .unset, .unset] [(.long (if (0 : Int32) < (2 : Int32) then (sel4 x0 x1 x2 x3 (fx + (0 : Int32))).toInt64 * (sel4 x0 x1 x2 x3 (fy + (0 : Int32))).toInt64 else 0))])
          suffices Ht0 : ∀ t0 : Int64, t0 = (if (0 : Int32) < (2 : Int32) then (sel4 x0 x1 x2 x3 (fx + (0 : Int32))).toInt64 * (sel4 x0 x1 x2 x3 (fy + (0 : Int32))).toInt64 else 0) → Go p e below s (fun v h L => v = some (.int (1 : Int32)) ∧ Fr h0.size L) room_1.cells room_1.slots T81 (mkF m 247 #[.val (.long xa), .second, .val (.long xb), .second, .val (.long ya), .second, .val (.long yb), .second, .val (.int shape), .val (.ref bx), .val (.int (1 : Int32)), .val (.ref bx), .val (.ref fX), .val (.ref fX), .val (.int (2 : Int32)), .val (.int fx), .val (.int fy), .unset, .unset, .unset, .unset] [(.long t0)]) from Ht0 _ rfl
          intro t0 et0
          rw [if_pos (by decide)] at et0
          have ht0 := own_prod (bx_ (fx + (0 : Int32))) (bx_ (fy + (0 : Int32)))
          rw [← et0] at ht0
          refine go_aload (q := 249) X81 hx (hb hby at_247) rfl rfl rfl ?_
          refine go_iload (q := 251) X81 hx (hb hby at_249) rfl rfl ?_
          refine go_aload (q := 253) X81 hx (hb hby at_251) rfl rfl rfl ?_
          refine go_iload (q := 255) X81 hx (hb hby at_253) rfl rfl ?_
          refine go_iconst (q := 256) (v := (1 : Int32)) X81 hx (hb hby at_255) rfl rfl ?_
          refine go_iload (q := 258) X81 hx (hb hby at_256) rfl rfl ?_
          refine go_callS (q := 261) (W := 2) X81 hx hZ hown e81 (hw _ (List.mem_of_getElem? (i := 9) rfl)) (hw _ (List.mem_of_getElem? (i := 10) rfl)) (hw _ (List.mem_of_getElem? (i := 3) rfl)) (hw _ (List.mem_of_getElem? (i := 11) rfl)) (by decide) [(.ref bx), (.int fx), (.ref bx), (.int fy), (.int (1 : Int32)), (.int (2 : Int32))] [(.long t0)] (rm3 l Z a0 hw [] bx fx bx fy (1 : Int32) (2 : Int32) k_bx k_bx _ _ x0 x1 x2 x3 x0 x1 x2 x3 h68 V_bx V_bx (fun _ => ⟨rx1, ry1⟩)) (by rw [hml]; rfl) rfl (lenOf pd_1 rfl) (Nat.le_of_eq rfl) (by decide) (by decide) (hb hby at_258) rfl (by decide) (by decide) ?_
          rintro T82 L82 v82 X82 ⟨Np82, rfl, e82⟩
          have N82 := Fr.app N81 (Np82 _)
          show Go p e below s (fun v h L => v = some (.int (1 : Int32)) ∧ Fr h0.size L) room_1.cells room_1.slots T82 (mkF m 261 #[.val (.long xa), .second, .val (.long xb), .second, .val (.long ya), .second, .val (.long yb), .second, .val (.int shape), .val (.ref bx), .val (.int (1 : Int32)), .val (.ref bx), .val (.ref fX), .val (.ref fX), .val (.int (2 : Int32)), .val (.int fx), .val (.int fy), .unset, .unset, .unset, .unset] [(.long (if (1 : Int32) < (2 : Int32) then (sel4 x0 x1 x2 x3 (fx + (1 : Int32))).toInt64 * (sel4 x0 x1 x2 x3 (fy + (1 : Int32))).toInt64 else 0)), (.long t0)])
          suffices Ht1 : ∀ t1 : Int64, t1 = (if (1 : Int32) < (2 : Int32) then (sel4 x0 x1 x2 x3 (fx + (1 : Int32))).toInt64 * (sel4 x0 x1 x2 x3 (fy + (1 : Int32))).toInt64 else 0) → Go p e below s (fun v h L => v = some (.int (1 : Int32)) ∧ Fr h0.size L) room_1.cells room_1.slots T82 (mkF m 261 #[.val (.long xa), .second, .val (.long xb), .second, .val (.long ya), .second, .val (.long yb), .second, .val (.int shape), .val (.ref bx), .val (.int (1 : Int32)), .val (.ref bx), .val (.ref fX), .val (.ref fX), .val (.int (2 : Int32)), .val (.int fx), .val (.int fy), .unset, .unset, .unset, .unset] [(.long t1), (.long t0)]) from Ht1 _ rfl
          intro t1 et1
          rw [if_pos (by decide)] at et1
          have ht1 := own_prod (bx_ (fx + (1 : Int32))) (bx_ (fy + (1 : Int32)))
          rw [← et1] at ht1
          refine go_ladd (q := 262) (v := (t0 + t1)) X82 hx (hb hby at_261) rfl rfl ?_
          refine go_aload (q := 264) X82 hx (hb hby at_262) rfl rfl rfl ?_
          refine go_iload (q := 266) X82 hx (hb hby at_264) rfl rfl ?_
          refine go_aload (q := 268) X82 hx (hb hby at_266) rfl rfl rfl ?_
          refine go_iload (q := 270) X82 hx (hb hby at_268) rfl rfl ?_
          refine go_iconst (q := 271) (v := (2 : Int32)) X82 hx (hb hby at_270) rfl rfl ?_
          refine go_iload (q := 273) X82 hx (hb hby at_271) rfl rfl ?_
          refine go_callS (q := 276) (W := 2) X82 hx hZ hown e82 (hw _ (List.mem_of_getElem? (i := 9) rfl)) (hw _ (List.mem_of_getElem? (i := 10) rfl)) (hw _ (List.mem_of_getElem? (i := 3) rfl)) (hw _ (List.mem_of_getElem? (i := 11) rfl)) (by decide) [(.ref bx), (.int fx), (.ref bx), (.int fy), (.int (2 : Int32)), (.int (2 : Int32))] [(.long (t0 + t1))] (rm3 l Z a0 hw [] bx fx bx fy (2 : Int32) (2 : Int32) k_bx k_bx _ _ x0 x1 x2 x3 x0 x1 x2 x3 h68 V_bx V_bx (fun q => absurd q (by decide))) (by rw [hml]; rfl) rfl (lenOf pd_1 rfl) (Nat.le_of_eq rfl) (by decide) (by decide) (hb hby at_273) rfl (by decide) (by decide) ?_
          rintro T83 L83 v83 X83 ⟨Np83, rfl, e83⟩
          have N83 := Fr.app N82 (Np83 _)
          show Go p e below s (fun v h L => v = some (.int (1 : Int32)) ∧ Fr h0.size L) room_1.cells room_1.slots T83 (mkF m 276 #[.val (.long xa), .second, .val (.long xb), .second, .val (.long ya), .second, .val (.long yb), .second, .val (.int shape), .val (.ref bx), .val (.int (1 : Int32)), .val (.ref bx), .val (.ref fX), .val (.ref fX), .val (.int (2 : Int32)), .val (.int fx), .val (.int fy), .unset, .unset, .unset, .unset] [(.long (if (2 : Int32) < (2 : Int32) then (sel4 x0 x1 x2 x3 (fx + (2 : Int32))).toInt64 * (sel4 x0 x1 x2 x3 (fy + (2 : Int32))).toInt64 else 0)), (.long (t0 + t1))])
          suffices Ht2 : ∀ t2 : Int64, t2 = (if (2 : Int32) < (2 : Int32) then (sel4 x0 x1 x2 x3 (fx + (2 : Int32))).toInt64 * (sel4 x0 x1 x2 x3 (fy + (2 : Int32))).toInt64 else 0) → Go p e below s (fun v h L => v = some (.int (1 : Int32)) ∧ Fr h0.size L) room_1.cells room_1.slots T83 (mkF m 276 #[.val (.long xa), .second, .val (.long xb), .second, .val (.long ya), .second, .val (.long yb), .second, .val (.int shape), .val (.ref bx), .val (.int (1 : Int32)), .val (.ref bx), .val (.ref fX), .val (.ref fX), .val (.int (2 : Int32)), .val (.int fx), .val (.int fy), .unset, .unset, .unset, .unset] [(.long t2), (.long (t0 + t1))]) from Ht2 _ rfl
          intro t2 et2
          rw [if_neg (by decide)] at et2
          have ht2 : t2.toInt = 0 ∧ (0 : Int).natAbs ≤ 70368744177664 := ⟨by rw [et2]; rfl, by decide⟩
          refine go_ladd (q := 277) (v := ((t0 + t1) + t2)) X83 hx (hb hby at_276) rfl rfl ?_
          refine go_aload (q := 279) X83 hx (hb hby at_277) rfl rfl rfl ?_
          refine go_iload (q := 281) X83 hx (hb hby at_279) rfl rfl ?_
          refine go_aload (q := 283) X83 hx (hb hby at_281) rfl rfl rfl ?_
          refine go_iload (q := 285) X83 hx (hb hby at_283) rfl rfl ?_
          refine go_iconst (q := 286) (v := (3 : Int32)) X83 hx (hb hby at_285) rfl rfl ?_
          refine go_iload (q := 288) X83 hx (hb hby at_286) rfl rfl ?_
          refine go_callS (q := 291) (W := 2) X83 hx hZ hown e83 (hw _ (List.mem_of_getElem? (i := 9) rfl)) (hw _ (List.mem_of_getElem? (i := 10) rfl)) (hw _ (List.mem_of_getElem? (i := 3) rfl)) (hw _ (List.mem_of_getElem? (i := 11) rfl)) (by decide) [(.ref bx), (.int fx), (.ref bx), (.int fy), (.int (3 : Int32)), (.int (2 : Int32))] [(.long ((t0 + t1) + t2))] (rm3 l Z a0 hw [] bx fx bx fy (3 : Int32) (2 : Int32) k_bx k_bx _ _ x0 x1 x2 x3 x0 x1 x2 x3 h68 V_bx V_bx (fun q => absurd q (by decide))) (by rw [hml]; rfl) rfl (lenOf pd_1 rfl) (Nat.le_of_eq rfl) (by decide) (by decide) (hb hby at_288) rfl (by decide) (by decide) ?_
          rintro T84 L84 v84 X84 ⟨Np84, rfl, e84⟩
          have N84 := Fr.app N83 (Np84 _)
          show Go p e below s (fun v h L => v = some (.int (1 : Int32)) ∧ Fr h0.size L) room_1.cells room_1.slots T84 (mkF m 291 #[.val (.long xa), .second, .val (.long xb), .second, .val (.long ya), .second, .val (.long yb), .second, .val (.int shape), .val (.ref bx), .val (.int (1 : Int32)), .val (.ref bx), .val (.ref fX), .val (.ref fX), .val (.int (2 : Int32)), .val (.int fx), .val (.int fy), .unset, .unset, .unset, .unset] [(.long (if (3 : Int32) < (2 : Int32) then (sel4 x0 x1 x2 x3 (fx + (3 : Int32))).toInt64 * (sel4 x0 x1 x2 x3 (fy + (3 : Int32))).toInt64 else 0)), (.long ((t0 + t1) + t2))])
          suffices Ht3 : ∀ t3 : Int64, t3 = (if (3 : Int32) < (2 : Int32) then (sel4 x0 x1 x2 x3 (fx + (3 : Int32))).toInt64 * (sel4 x0 x1 x2 x3 (fy + (3 : Int32))).toInt64 else 0) → Go p e below s (fun v h L => v = some (.int (1 : Int32)) ∧ Fr h0.size L) room_1.cells room_1.slots T84 (mkF m 291 #[.val (.long xa), .second, .val (.long xb), .second, .val (.long ya), .second, .val (.long yb), .second, .val (.int shape), .val (.ref bx), .val (.int (1 : Int32)), .val (.ref bx), .val (.ref fX), .val (.ref fX), .val (.int (2 : Int32)), .val (.int fx), .val (.int fy), .unset, .unset, .unset, .unset] [(.long t3), (.long ((t0 + t1) + t2))]) from Ht3 _ rfl
          intro t3 et3
          rw [if_neg (by decide)] at et3
          have ht3 : t3.toInt = 0 ∧ (0 : Int).natAbs ≤ 70368744177664 := ⟨by rw [et3]; rfl, by decide⟩
          refine go_ladd (q := 292) (v := (((t0 + t1) + t2) + t3)) X84 hx (hb hby at_291) rfl rfl ?_
          refine go_lstore (q := 294) (l' := #[.val (.long xa), .second, .val (.long xb), .second, .val (.long ya), .second, .val (.long yb), .second, .val (.int shape), .val (.ref bx), .val (.int (1 : Int32)), .val (.ref bx), .val (.ref fX), .val (.ref fX), .val (.int (2 : Int32)), .val (.int fx), .val (.int fy), .val (.long (((t0 + t1) + t2) + t3)), .second, .unset, .unset]) X84 hx (hb hby at_292) rfl rfl ?_
          suffices Hex : ∀ ex : Int64, ex = (((t0 + t1) + t2) + t3) → Go p e below s (fun v h L => v = some (.int (1 : Int32)) ∧ Fr h0.size L) room_1.cells room_1.slots T84 (mkF m 294 #[.val (.long xa), .second, .val (.long xb), .second, .val (.long ya), .second, .val (.long yb), .second, .val (.int shape), .val (.ref bx), .val (.int (1 : Int32)), .val (.ref bx), .val (.ref fX), .val (.ref fX), .val (.int (2 : Int32)), .val (.int fx), .val (.int fy), .val (.long ex), .second, .unset, .unset] []) from Hex _ rfl
          intro ex eex
          have hex := own_sum4 ht0 ht1 ht2 ht3
          rw [← eex] at hex
          refine go_aload (q := 296) X84 hx (hb hby at_294) rfl rfl rfl ?_
          refine go_iload (q := 298) X84 hx (hb hby at_296) rfl rfl ?_
          refine go_aload (q := 300) X84 hx (hb hby at_298) rfl rfl rfl ?_
          refine go_iload (q := 302) X84 hx (hb hby at_300) rfl rfl ?_
          refine go_iload (q := 304) X84 hx (hb hby at_302) rfl rfl ?_
          refine go_callS (q := 307) (W := 0) X84 hx hZ hown e84 (hw _ (List.mem_of_getElem? (i := 12) rfl)) (hw _ (List.mem_of_getElem? (i := 13) rfl)) (hw _ (List.mem_of_getElem? (i := 14) rfl)) (hw _ (List.mem_of_getElem? (i := 15) rfl)) (by decide) [(.ref fX), (.int fx), (.ref fX), (.int fy), (.int (2 : Int32))] [] (rm4_2 l Z a0 hw [] fX fx fX fy k_fX k_fX _ _ x0 x1 x2 x3 x0 x1 x2 x3 h68 V_fX V_fX bx_ bx_ rx0 ry0 rx1 ry1) (by rw [hml]; rfl) rfl (lenOf pd_2 rfl) (Nat.le_of_eq rfl) (by decide) (by decide) (hb hby at_304) rfl (by decide) (by decide) ?_
          rintro T85 L85 v85 X85 ⟨Np85, ⟨r_, rfl, hr_⟩, e85⟩
          have N85 := Fr.app N84 (Np85 _)
          show Go p e below s (fun v h L => v = some (.int (1 : Int32)) ∧ Fr h0.size L) room_1.cells room_1.slots T85 (mkF m 307 #[.val (.long xa), .second, .val (.long xb), .second, .val (.long ya), .second, .val (.long yb), .second, .val (.int shape), .val (.ref bx), .val (.int (1 : Int32)), .val (.ref bx), .val (.ref fX), .val (.ref fX), .val (.int (2 : Int32)), .val (.int fx), .val (.int fy), .val (.long ex), .second, .unset, .unset] [(.double r_)])
          refine go_dstore (q := 309) (l' := #[.val (.long xa), .second, .val (.long xb), .second, .val (.long ya), .second, .val (.long yb), .second, .val (.int shape), .val (.ref bx), .val (.int (1 : Int32)), .val (.ref bx), .val (.ref fX), .val (.ref fX), .val (.int (2 : Int32)), .val (.int fx), .val (.int fy), .val (.long ex), .second, .val (.double r_), .second]) X85 hx (hb hby at_307) rfl rfl ?_
          refine go_dload (q := 311) X85 hx (hb hby at_309) rfl rfl ?_
          refine go_lload (q := 313) X85 hx (hb hby at_311) rfl rfl ?_
          refine go_l2dB (q := 314) X85 hx (hb hby at_313) rfl (db_l2d (A := 281474976710656) hex.2 (by decide)) (fun z86 hz86 => ?_)
          refine go_dcmp (q := 315) X85 hx (hb hby at_314) rfl rfl ?_
          refine go_dif_ne (q := 318) (q' := 322) X85 hx (hb hby at_315) rfl (by decide) rfl hr_ hz86 (fun hc315 => ?_) (fun hc315 => ?_)
          · exact absurd (by rw [hex.1]; omega) hc315
          · refine go_iconst (q := 319) (v := (1 : Int32)) X85 hx (hb hby at_318) rfl rfl ?_
            refine go_goto (q := 323) X85 hx (hb hby at_319) (by decide) rfl ?_
            exact go_retN X85 hx (by simp) hret hlk (hb hby at_323) (by decide) (by decide) ⟨rfl, N85⟩
        · refine go_iload (q := 206) X68 hx (hb hby at_204) rfl rfl ?_
          refine go_iconst (q := 207) (v := (3 : Int32)) X68 hx (hb hby at_206) rfl rfl ?_
          refine go_iushr (q := 208) (v := ((shape.toUInt32 >>> ((3 : Int32) &&& 31).toUInt32).toInt32)) X68 hx (hb hby at_207) rfl rfl ?_
          refine go_bipush (q := 210) (v := (7 : Int32)) X68 hx (hb hby at_208) rfl rfl ?_
          refine go_iand (q := 211) (v := (((shape.toUInt32 >>> ((3 : Int32) &&& 31).toUInt32).toInt32) &&& (7 : Int32))) X68 hx (hb hby at_210) rfl rfl ?_
          refine go_iconst (q := 212) (v := (5 : Int32)) X68 hx (hb hby at_211) rfl rfl ?_
          refine go_iload (q := 214) X68 hx (hb hby at_212) rfl rfl ?_
          refine go_isub (q := 215) (v := (2 : Int32)) X68 hx (hb hby at_214) rfl rfl ?_
          refine go_irem (q := 216) (v := ((((shape.toUInt32 >>> ((3 : Int32) &&& 31).toUInt32).toInt32) &&& (7 : Int32)) % (2 : Int32))) X68 hx (hb hby at_215) rfl (by decide) rfl ?_
          refine go_istore (q := 218) (l' := #[.val (.long xa), .second, .val (.long xb), .second, .val (.long ya), .second, .val (.long yb), .second, .val (.int shape), .val (.ref bx), .val (.int (1 : Int32)), .val (.ref bx), .val (.ref fX), .val (.ref fX), .val (.int (3 : Int32)), .val (.int ((((shape.toUInt32 >>> ((3 : Int32) &&& 31).toUInt32).toInt32) &&& (7 : Int32)) % (2 : Int32))), .unset, .unset, .unset, .unset, .unset]) X68 hx (hb hby at_216) rfl rfl ?_
          suffices Hfx : ∀ fx : Int32, fx = ((((shape.toUInt32 >>> ((3 : Int32) &&& 31).toUInt32).toInt32) &&& (7 : Int32)) % (2 : Int32)) → Go p e below s (fun v h L => v = some (.int (1 : Int32)) ∧ Fr h0.size L) room_1.cells room_1.slots T68 (mkF m 218 #[.val (.long xa), .second, .val (.long xb), .second, .val (.long ya), .second, .val (.long yb), .second, .val (.int shape), .val (.ref bx), .val (.int (1 : Int32)), .val (.ref bx), .val (.ref fX), .val (.ref fX), .val (.int (3 : Int32)), .val (.int fx), .unset, .unset, .unset, .unset, .unset] []) from Hfx _ rfl
          intro fx efx
          refine go_iload (q := 220) X68 hx (hb hby at_218) rfl rfl ?_
          refine go_bipush (q := 222) (v := (6 : Int32)) X68 hx (hb hby at_220) rfl rfl ?_
          refine go_iushr (q := 223) (v := ((shape.toUInt32 >>> ((6 : Int32) &&& 31).toUInt32).toInt32)) X68 hx (hb hby at_222) rfl rfl ?_
          refine go_bipush (q := 225) (v := (7 : Int32)) X68 hx (hb hby at_223) rfl rfl ?_
          refine go_iand (q := 226) (v := (((shape.toUInt32 >>> ((6 : Int32) &&& 31).toUInt32).toInt32) &&& (7 : Int32))) X68 hx (hb hby at_225) rfl rfl ?_
          refine go_iconst (q := 227) (v := (5 : Int32)) X68 hx (hb hby at_226) rfl rfl ?_
          refine go_iload (q := 229) X68 hx (hb hby at_227) rfl rfl ?_
          refine go_isub (q := 230) (v := (2 : Int32)) X68 hx (hb hby at_229) rfl rfl ?_
          refine go_irem (q := 231) (v := ((((shape.toUInt32 >>> ((6 : Int32) &&& 31).toUInt32).toInt32) &&& (7 : Int32)) % (2 : Int32))) X68 hx (hb hby at_230) rfl (by decide) rfl ?_
          refine go_istore (q := 233) (l' := #[.val (.long xa), .second, .val (.long xb), .second, .val (.long ya), .second, .val (.long yb), .second, .val (.int shape), .val (.ref bx), .val (.int (1 : Int32)), .val (.ref bx), .val (.ref fX), .val (.ref fX), .val (.int (3 : Int32)), .val (.int fx), .val (.int ((((shape.toUInt32 >>> ((6 : Int32) &&& 31).toUInt32).toInt32) &&& (7 : Int32)) % (2 : Int32))), .unset, .unset, .unset, .unset]) X68 hx (hb hby at_231) rfl rfl ?_
          suffices Hfy : ∀ fy : Int32, fy = ((((shape.toUInt32 >>> ((6 : Int32) &&& 31).toUInt32).toInt32) &&& (7 : Int32)) % (2 : Int32)) → Go p e below s (fun v h L => v = some (.int (1 : Int32)) ∧ Fr h0.size L) room_1.cells room_1.slots T68 (mkF m 233 #[.val (.long xa), .second, .val (.long xb), .second, .val (.long ya), .second, .val (.long yb), .second, .val (.int shape), .val (.ref bx), .val (.int (1 : Int32)), .val (.ref bx), .val (.ref fX), .val (.ref fX), .val (.int (3 : Int32)), .val (.int fx), .val (.int fy), .unset, .unset, .unset, .unset] []) from Hfy _ rfl
          intro fy efy
          have rx : 0 ≤ fx.toInt ∧ fx.toInt ≤ 1 := by rw [efx]; exact own_idx3 _
          have ry : 0 ≤ fy.toInt ∧ fy.toInt ≤ 1 := by rw [efy]; exact own_idx3 _
          have rx0 := own_in (i := 0) (n := 1) rx (by decide) (by decide)
          have ry0 := own_in (i := 0) (n := 1) ry (by decide) (by decide)
          have rx1 := own_in (i := 1) (n := 1) rx (by decide) (by decide)
          have ry1 := own_in (i := 1) (n := 1) ry (by decide) (by decide)
          have rx2 := own_in (i := 2) (n := 1) rx (by decide) (by decide)
          have ry2 := own_in (i := 2) (n := 1) ry (by decide) (by decide)
          refine go_aload (q := 235) X68 hx (hb hby at_233) rfl rfl rfl ?_
          refine go_iload (q := 237) X68 hx (hb hby at_235) rfl rfl ?_
          refine go_aload (q := 239) X68 hx (hb hby at_237) rfl rfl rfl ?_
          refine go_iload (q := 241) X68 hx (hb hby at_239) rfl rfl ?_
          refine go_iconst (q := 242) (v := (0 : Int32)) X68 hx (hb hby at_241) rfl rfl ?_
          refine go_iload (q := 244) X68 hx (hb hby at_242) rfl rfl ?_
          refine go_callS (q := 247) (W := 0) X68 hx hZ hown e68 (hw _ (List.mem_of_getElem? (i := 9) rfl)) (hw _ (List.mem_of_getElem? (i := 10) rfl)) (hw _ (List.mem_of_getElem? (i := 3) rfl)) (hw _ (List.mem_of_getElem? (i := 11) rfl)) (by decide) [(.ref bx), (.int fx), (.ref bx), (.int fy), (.int (0 : Int32)), (.int (3 : Int32))] [] (rm3 l Z a0 hw [] bx fx bx fy (0 : Int32) (3 : Int32) k_bx k_bx _ _ x0 x1 x2 x3 x0 x1 x2 x3 h68 V_bx V_bx (fun _ => ⟨rx0, ry0⟩)) (by rw [hml]; rfl) rfl (lenOf pd_1 rfl) (Nat.le_of_eq rfl) (by decide) (by decide) (hb hby at_244) rfl (by decide) (by decide) ?_
          rintro T87 L87 v87 X87 ⟨Np87, rfl, e87⟩
          have N87 := Fr.app N68 (Np87 _)
          show Go p e below s (fun v h L => v = some (.int (1 : Int32)) ∧ Fr h0.size L) room_1.cells room_1.slots T87 (mkF m 247 #[.val (.long xa), .second, .val (.long xb), .second, .val (.long ya), .second, .val (.long yb), .second, .val (.int shape), .val (.ref bx), .val (.int (1 : Int32)), .val (.ref bx), .val (.ref fX), .val (.ref fX), .val (.int (3 : Int32)), .val (.int fx), .val (.int fy), .unset, .unset, .unset, .unset] [(.long (if (0 : Int32) < (3 : Int32) then (sel4 x0 x1 x2 x3 (fx + (0 : Int32))).toInt64 * (sel4 x0 x1 x2 x3 (fy + (0 : Int32))).toInt64 else 0))])
          suffices Ht0 : ∀ t0 : Int64, t0 = (if (0 : Int32) < (3 : Int32) then (sel4 x0 x1 x2 x3 (fx + (0 : Int32))).toInt64 * (sel4 x0 x1 x2 x3 (fy + (0 : Int32))).toInt64 else 0) → Go p e below s (fun v h L => v = some (.int (1 : Int32)) ∧ Fr h0.size L) room_1.cells room_1.slots T87 (mkF m 247 #[.val (.long xa), .second, .val (.long xb), .second, .val (.long ya), .second, .val (.long yb), .second, .val (.int shape), .val (.ref bx), .val (.int (1 : Int32)), .val (.ref bx), .val (.ref fX), .val (.ref fX), .val (.int (3 : Int32)), .val (.int fx), .val (.int fy), .unset, .unset, .unset, .unset] [(.long t0)]) from Ht0 _ rfl
          intro t0 et0
          rw [if_pos (by decide)] at et0
          have ht0 := own_prod (bx_ (fx + (0 : Int32))) (bx_ (fy + (0 : Int32)))
          rw [← et0] at ht0
          refine go_aload (q := 249) X87 hx (hb hby at_247) rfl rfl rfl ?_
          refine go_iload (q := 251) X87 hx (hb hby at_249) rfl rfl ?_
          refine go_aload (q := 253) X87 hx (hb hby at_251) rfl rfl rfl ?_
          refine go_iload (q := 255) X87 hx (hb hby at_253) rfl rfl ?_
          refine go_iconst (q := 256) (v := (1 : Int32)) X87 hx (hb hby at_255) rfl rfl ?_
          refine go_iload (q := 258) X87 hx (hb hby at_256) rfl rfl ?_
          refine go_callS (q := 261) (W := 2) X87 hx hZ hown e87 (hw _ (List.mem_of_getElem? (i := 9) rfl)) (hw _ (List.mem_of_getElem? (i := 10) rfl)) (hw _ (List.mem_of_getElem? (i := 3) rfl)) (hw _ (List.mem_of_getElem? (i := 11) rfl)) (by decide) [(.ref bx), (.int fx), (.ref bx), (.int fy), (.int (1 : Int32)), (.int (3 : Int32))] [(.long t0)] (rm3 l Z a0 hw [] bx fx bx fy (1 : Int32) (3 : Int32) k_bx k_bx _ _ x0 x1 x2 x3 x0 x1 x2 x3 h68 V_bx V_bx (fun _ => ⟨rx1, ry1⟩)) (by rw [hml]; rfl) rfl (lenOf pd_1 rfl) (Nat.le_of_eq rfl) (by decide) (by decide) (hb hby at_258) rfl (by decide) (by decide) ?_
          rintro T88 L88 v88 X88 ⟨Np88, rfl, e88⟩
          have N88 := Fr.app N87 (Np88 _)
          show Go p e below s (fun v h L => v = some (.int (1 : Int32)) ∧ Fr h0.size L) room_1.cells room_1.slots T88 (mkF m 261 #[.val (.long xa), .second, .val (.long xb), .second, .val (.long ya), .second, .val (.long yb), .second, .val (.int shape), .val (.ref bx), .val (.int (1 : Int32)), .val (.ref bx), .val (.ref fX), .val (.ref fX), .val (.int (3 : Int32)), .val (.int fx), .val (.int fy), .unset, .unset, .unset, .unset] [(.long (if (1 : Int32) < (3 : Int32) then (sel4 x0 x1 x2 x3 (fx + (1 : Int32))).toInt64 * (sel4 x0 x1 x2 x3 (fy + (1 : Int32))).toInt64 else 0)), (.long t0)])
          suffices Ht1 : ∀ t1 : Int64, t1 = (if (1 : Int32) < (3 : Int32) then (sel4 x0 x1 x2 x3 (fx + (1 : Int32))).toInt64 * (sel4 x0 x1 x2 x3 (fy + (1 : Int32))).toInt64 else 0) → Go p e below s (fun v h L => v = some (.int (1 : Int32)) ∧ Fr h0.size L) room_1.cells room_1.slots T88 (mkF m 261 #[.val (.long xa), .second, .val (.long xb), .second, .val (.long ya), .second, .val (.long yb), .second, .val (.int shape), .val (.ref bx), .val (.int (1 : Int32)), .val (.ref bx), .val (.ref fX), .val (.ref fX), .val (.int (3 : Int32)), .val (.int fx), .val (.int fy), .unset, .unset, .unset, .unset] [(.long t1), (.long t0)]) from Ht1 _ rfl
          intro t1 et1
          rw [if_pos (by decide)] at et1
          have ht1 := own_prod (bx_ (fx + (1 : Int32))) (bx_ (fy + (1 : Int32)))
          rw [← et1] at ht1
          refine go_ladd (q := 262) (v := (t0 + t1)) X88 hx (hb hby at_261) rfl rfl ?_
          refine go_aload (q := 264) X88 hx (hb hby at_262) rfl rfl rfl ?_
          refine go_iload (q := 266) X88 hx (hb hby at_264) rfl rfl ?_
          refine go_aload (q := 268) X88 hx (hb hby at_266) rfl rfl rfl ?_
          refine go_iload (q := 270) X88 hx (hb hby at_268) rfl rfl ?_
          refine go_iconst (q := 271) (v := (2 : Int32)) X88 hx (hb hby at_270) rfl rfl ?_
          refine go_iload (q := 273) X88 hx (hb hby at_271) rfl rfl ?_
          refine go_callS (q := 276) (W := 2) X88 hx hZ hown e88 (hw _ (List.mem_of_getElem? (i := 9) rfl)) (hw _ (List.mem_of_getElem? (i := 10) rfl)) (hw _ (List.mem_of_getElem? (i := 3) rfl)) (hw _ (List.mem_of_getElem? (i := 11) rfl)) (by decide) [(.ref bx), (.int fx), (.ref bx), (.int fy), (.int (2 : Int32)), (.int (3 : Int32))] [(.long (t0 + t1))] (rm3 l Z a0 hw [] bx fx bx fy (2 : Int32) (3 : Int32) k_bx k_bx _ _ x0 x1 x2 x3 x0 x1 x2 x3 h68 V_bx V_bx (fun _ => ⟨rx2, ry2⟩)) (by rw [hml]; rfl) rfl (lenOf pd_1 rfl) (Nat.le_of_eq rfl) (by decide) (by decide) (hb hby at_273) rfl (by decide) (by decide) ?_
          rintro T89 L89 v89 X89 ⟨Np89, rfl, e89⟩
          have N89 := Fr.app N88 (Np89 _)
          show Go p e below s (fun v h L => v = some (.int (1 : Int32)) ∧ Fr h0.size L) room_1.cells room_1.slots T89 (mkF m 276 #[.val (.long xa), .second, .val (.long xb), .second, .val (.long ya), .second, .val (.long yb), .second, .val (.int shape), .val (.ref bx), .val (.int (1 : Int32)), .val (.ref bx), .val (.ref fX), .val (.ref fX), .val (.int (3 : Int32)), .val (.int fx), .val (.int fy), .unset, .unset, .unset, .unset] [(.long (if (2 : Int32) < (3 : Int32) then (sel4 x0 x1 x2 x3 (fx + (2 : Int32))).toInt64 * (sel4 x0 x1 x2 x3 (fy + (2 : Int32))).toInt64 else 0)), (.long (t0 + t1))])
          suffices Ht2 : ∀ t2 : Int64, t2 = (if (2 : Int32) < (3 : Int32) then (sel4 x0 x1 x2 x3 (fx + (2 : Int32))).toInt64 * (sel4 x0 x1 x2 x3 (fy + (2 : Int32))).toInt64 else 0) → Go p e below s (fun v h L => v = some (.int (1 : Int32)) ∧ Fr h0.size L) room_1.cells room_1.slots T89 (mkF m 276 #[.val (.long xa), .second, .val (.long xb), .second, .val (.long ya), .second, .val (.long yb), .second, .val (.int shape), .val (.ref bx), .val (.int (1 : Int32)), .val (.ref bx), .val (.ref fX), .val (.ref fX), .val (.int (3 : Int32)), .val (.int fx), .val (.int fy), .unset, .unset, .unset, .unset] [(.long t2), (.long (t0 + t1))]) from Ht2 _ rfl
          intro t2 et2
          rw [if_pos (by decide)] at et2
          have ht2 := own_prod (bx_ (fx + (2 : Int32))) (bx_ (fy + (2 : Int32)))
          rw [← et2] at ht2
          refine go_ladd (q := 277) (v := ((t0 + t1) + t2)) X89 hx (hb hby at_276) rfl rfl ?_
          refine go_aload (q := 279) X89 hx (hb hby at_277) rfl rfl rfl ?_
          refine go_iload (q := 281) X89 hx (hb hby at_279) rfl rfl ?_
          refine go_aload (q := 283) X89 hx (hb hby at_281) rfl rfl rfl ?_
          refine go_iload (q := 285) X89 hx (hb hby at_283) rfl rfl ?_
          refine go_iconst (q := 286) (v := (3 : Int32)) X89 hx (hb hby at_285) rfl rfl ?_
          refine go_iload (q := 288) X89 hx (hb hby at_286) rfl rfl ?_
          refine go_callS (q := 291) (W := 2) X89 hx hZ hown e89 (hw _ (List.mem_of_getElem? (i := 9) rfl)) (hw _ (List.mem_of_getElem? (i := 10) rfl)) (hw _ (List.mem_of_getElem? (i := 3) rfl)) (hw _ (List.mem_of_getElem? (i := 11) rfl)) (by decide) [(.ref bx), (.int fx), (.ref bx), (.int fy), (.int (3 : Int32)), (.int (3 : Int32))] [(.long ((t0 + t1) + t2))] (rm3 l Z a0 hw [] bx fx bx fy (3 : Int32) (3 : Int32) k_bx k_bx _ _ x0 x1 x2 x3 x0 x1 x2 x3 h68 V_bx V_bx (fun q => absurd q (by decide))) (by rw [hml]; rfl) rfl (lenOf pd_1 rfl) (Nat.le_of_eq rfl) (by decide) (by decide) (hb hby at_288) rfl (by decide) (by decide) ?_
          rintro T90 L90 v90 X90 ⟨Np90, rfl, e90⟩
          have N90 := Fr.app N89 (Np90 _)
          show Go p e below s (fun v h L => v = some (.int (1 : Int32)) ∧ Fr h0.size L) room_1.cells room_1.slots T90 (mkF m 291 #[.val (.long xa), .second, .val (.long xb), .second, .val (.long ya), .second, .val (.long yb), .second, .val (.int shape), .val (.ref bx), .val (.int (1 : Int32)), .val (.ref bx), .val (.ref fX), .val (.ref fX), .val (.int (3 : Int32)), .val (.int fx), .val (.int fy), .unset, .unset, .unset, .unset] [(.long (if (3 : Int32) < (3 : Int32) then (sel4 x0 x1 x2 x3 (fx + (3 : Int32))).toInt64 * (sel4 x0 x1 x2 x3 (fy + (3 : Int32))).toInt64 else 0)), (.long ((t0 + t1) + t2))])
          suffices Ht3 : ∀ t3 : Int64, t3 = (if (3 : Int32) < (3 : Int32) then (sel4 x0 x1 x2 x3 (fx + (3 : Int32))).toInt64 * (sel4 x0 x1 x2 x3 (fy + (3 : Int32))).toInt64 else 0) → Go p e below s (fun v h L => v = some (.int (1 : Int32)) ∧ Fr h0.size L) room_1.cells room_1.slots T90 (mkF m 291 #[.val (.long xa), .second, .val (.long xb), .second, .val (.long ya), .second, .val (.long yb), .second, .val (.int shape), .val (.ref bx), .val (.int (1 : Int32)), .val (.ref bx), .val (.ref fX), .val (.ref fX), .val (.int (3 : Int32)), .val (.int fx), .val (.int fy), .unset, .unset, .unset, .unset] [(.long t3), (.long ((t0 + t1) + t2))]) from Ht3 _ rfl
          intro t3 et3
          rw [if_neg (by decide)] at et3
          have ht3 : t3.toInt = 0 ∧ (0 : Int).natAbs ≤ 70368744177664 := ⟨by rw [et3]; rfl, by decide⟩
          refine go_ladd (q := 292) (v := (((t0 + t1) + t2) + t3)) X90 hx (hb hby at_291) rfl rfl ?_
          refine go_lstore (q := 294) (l' := #[.val (.long xa), .second, .val (.long xb), .second, .val (.long ya), .second, .val (.long yb), .second, .val (.int shape), .val (.ref bx), .val (.int (1 : Int32)), .val (.ref bx), .val (.ref fX), .val (.ref fX), .val (.int (3 : Int32)), .val (.int fx), .val (.int fy), .val (.long (((t0 + t1) + t2) + t3)), .second, .unset, .unset]) X90 hx (hb hby at_292) rfl rfl ?_
          suffices Hex : ∀ ex : Int64, ex = (((t0 + t1) + t2) + t3) → Go p e below s (fun v h L => v = some (.int (1 : Int32)) ∧ Fr h0.size L) room_1.cells room_1.slots T90 (mkF m 294 #[.val (.long xa), .second, .val (.long xb), .second, .val (.long ya), .second, .val (.long yb), .second, .val (.int shape), .val (.ref bx), .val (.int (1 : Int32)), .val (.ref bx), .val (.ref fX), .val (.ref fX), .val (.int (3 : Int32)), .val (.int fx), .val (.int fy), .val (.long ex), .second, .unset, .unset] []) from Hex _ rfl
          intro ex eex
          have hex := own_sum4 ht0 ht1 ht2 ht3
          rw [← eex] at hex
          refine go_aload (q := 296) X90 hx (hb hby at_294) rfl rfl rfl ?_
          refine go_iload (q := 298) X90 hx (hb hby at_296) rfl rfl ?_
          refine go_aload (q := 300) X90 hx (hb hby at_298) rfl rfl rfl ?_
          refine go_iload (q := 302) X90 hx (hb hby at_300) rfl rfl ?_
          refine go_iload (q := 304) X90 hx (hb hby at_302) rfl rfl ?_
          refine go_callS (q := 307) (W := 0) X90 hx hZ hown e90 (hw _ (List.mem_of_getElem? (i := 12) rfl)) (hw _ (List.mem_of_getElem? (i := 13) rfl)) (hw _ (List.mem_of_getElem? (i := 14) rfl)) (hw _ (List.mem_of_getElem? (i := 15) rfl)) (by decide) [(.ref fX), (.int fx), (.ref fX), (.int fy), (.int (3 : Int32))] [] (rm4_3 l Z a0 hw [] fX fx fX fy k_fX k_fX _ _ x0 x1 x2 x3 x0 x1 x2 x3 h68 V_fX V_fX bx_ bx_ rx0 ry0 rx1 ry1 rx2 ry2) (by rw [hml]; rfl) rfl (lenOf pd_2 rfl) (Nat.le_of_eq rfl) (by decide) (by decide) (hb hby at_304) rfl (by decide) (by decide) ?_
          rintro T91 L91 v91 X91 ⟨Np91, ⟨r_, rfl, hr_⟩, e91⟩
          have N91 := Fr.app N90 (Np91 _)
          show Go p e below s (fun v h L => v = some (.int (1 : Int32)) ∧ Fr h0.size L) room_1.cells room_1.slots T91 (mkF m 307 #[.val (.long xa), .second, .val (.long xb), .second, .val (.long ya), .second, .val (.long yb), .second, .val (.int shape), .val (.ref bx), .val (.int (1 : Int32)), .val (.ref bx), .val (.ref fX), .val (.ref fX), .val (.int (3 : Int32)), .val (.int fx), .val (.int fy), .val (.long ex), .second, .unset, .unset] [(.double r_)])
          refine go_dstore (q := 309) (l' := #[.val (.long xa), .second, .val (.long xb), .second, .val (.long ya), .second, .val (.long yb), .second, .val (.int shape), .val (.ref bx), .val (.int (1 : Int32)), .val (.ref bx), .val (.ref fX), .val (.ref fX), .val (.int (3 : Int32)), .val (.int fx), .val (.int fy), .val (.long ex), .second, .val (.double r_), .second]) X91 hx (hb hby at_307) rfl rfl ?_
          refine go_dload (q := 311) X91 hx (hb hby at_309) rfl rfl ?_
          refine go_lload (q := 313) X91 hx (hb hby at_311) rfl rfl ?_
          refine go_l2dB (q := 314) X91 hx (hb hby at_313) rfl (db_l2d (A := 281474976710656) hex.2 (by decide)) (fun z92 hz92 => ?_)
          refine go_dcmp (q := 315) X91 hx (hb hby at_314) rfl rfl ?_
          refine go_dif_ne (q := 318) (q' := 322) X91 hx (hb hby at_315) rfl (by decide) rfl hr_ hz92 (fun hc315 => ?_) (fun hc315 => ?_)
          · exact absurd (by rw [hex.1]; omega) hc315
          · refine go_iconst (q := 319) (v := (1 : Int32)) X91 hx (hb hby at_318) rfl rfl ?_
            refine go_goto (q := 323) X91 hx (hb hby at_319) (by decide) rfl ?_
            exact go_retN X91 hx (by simp) hret hlk (hb hby at_323) (by decide) (by decide) ⟨rfl, N91⟩
        · refine go_iload (q := 206) X68 hx (hb hby at_204) rfl rfl ?_
          refine go_iconst (q := 207) (v := (3 : Int32)) X68 hx (hb hby at_206) rfl rfl ?_
          refine go_iushr (q := 208) (v := ((shape.toUInt32 >>> ((3 : Int32) &&& 31).toUInt32).toInt32)) X68 hx (hb hby at_207) rfl rfl ?_
          refine go_bipush (q := 210) (v := (7 : Int32)) X68 hx (hb hby at_208) rfl rfl ?_
          refine go_iand (q := 211) (v := (((shape.toUInt32 >>> ((3 : Int32) &&& 31).toUInt32).toInt32) &&& (7 : Int32))) X68 hx (hb hby at_210) rfl rfl ?_
          refine go_iconst (q := 212) (v := (5 : Int32)) X68 hx (hb hby at_211) rfl rfl ?_
          refine go_iload (q := 214) X68 hx (hb hby at_212) rfl rfl ?_
          refine go_isub (q := 215) (v := (1 : Int32)) X68 hx (hb hby at_214) rfl rfl ?_
          refine go_irem (q := 216) (v := ((((shape.toUInt32 >>> ((3 : Int32) &&& 31).toUInt32).toInt32) &&& (7 : Int32)) % (1 : Int32))) X68 hx (hb hby at_215) rfl (by decide) rfl ?_
          refine go_istore (q := 218) (l' := #[.val (.long xa), .second, .val (.long xb), .second, .val (.long ya), .second, .val (.long yb), .second, .val (.int shape), .val (.ref bx), .val (.int (1 : Int32)), .val (.ref bx), .val (.ref fX), .val (.ref fX), .val (.int (4 : Int32)), .val (.int ((((shape.toUInt32 >>> ((3 : Int32) &&& 31).toUInt32).toInt32) &&& (7 : Int32)) % (1 : Int32))), .unset, .unset, .unset, .unset, .unset]) X68 hx (hb hby at_216) rfl rfl ?_
          suffices Hfx : ∀ fx : Int32, fx = ((((shape.toUInt32 >>> ((3 : Int32) &&& 31).toUInt32).toInt32) &&& (7 : Int32)) % (1 : Int32)) → Go p e below s (fun v h L => v = some (.int (1 : Int32)) ∧ Fr h0.size L) room_1.cells room_1.slots T68 (mkF m 218 #[.val (.long xa), .second, .val (.long xb), .second, .val (.long ya), .second, .val (.long yb), .second, .val (.int shape), .val (.ref bx), .val (.int (1 : Int32)), .val (.ref bx), .val (.ref fX), .val (.ref fX), .val (.int (4 : Int32)), .val (.int fx), .unset, .unset, .unset, .unset, .unset] []) from Hfx _ rfl
          intro fx efx
          refine go_iload (q := 220) X68 hx (hb hby at_218) rfl rfl ?_
          refine go_bipush (q := 222) (v := (6 : Int32)) X68 hx (hb hby at_220) rfl rfl ?_
          refine go_iushr (q := 223) (v := ((shape.toUInt32 >>> ((6 : Int32) &&& 31).toUInt32).toInt32)) X68 hx (hb hby at_222) rfl rfl ?_
          refine go_bipush (q := 225) (v := (7 : Int32)) X68 hx (hb hby at_223) rfl rfl ?_
          refine go_iand (q := 226) (v := (((shape.toUInt32 >>> ((6 : Int32) &&& 31).toUInt32).toInt32) &&& (7 : Int32))) X68 hx (hb hby at_225) rfl rfl ?_
          refine go_iconst (q := 227) (v := (5 : Int32)) X68 hx (hb hby at_226) rfl rfl ?_
          refine go_iload (q := 229) X68 hx (hb hby at_227) rfl rfl ?_
          refine go_isub (q := 230) (v := (1 : Int32)) X68 hx (hb hby at_229) rfl rfl ?_
          refine go_irem (q := 231) (v := ((((shape.toUInt32 >>> ((6 : Int32) &&& 31).toUInt32).toInt32) &&& (7 : Int32)) % (1 : Int32))) X68 hx (hb hby at_230) rfl (by decide) rfl ?_
          refine go_istore (q := 233) (l' := #[.val (.long xa), .second, .val (.long xb), .second, .val (.long ya), .second, .val (.long yb), .second, .val (.int shape), .val (.ref bx), .val (.int (1 : Int32)), .val (.ref bx), .val (.ref fX), .val (.ref fX), .val (.int (4 : Int32)), .val (.int fx), .val (.int ((((shape.toUInt32 >>> ((6 : Int32) &&& 31).toUInt32).toInt32) &&& (7 : Int32)) % (1 : Int32))), .unset, .unset, .unset, .unset]) X68 hx (hb hby at_231) rfl rfl ?_
          suffices Hfy : ∀ fy : Int32, fy = ((((shape.toUInt32 >>> ((6 : Int32) &&& 31).toUInt32).toInt32) &&& (7 : Int32)) % (1 : Int32)) → Go p e below s (fun v h L => v = some (.int (1 : Int32)) ∧ Fr h0.size L) room_1.cells room_1.slots T68 (mkF m 233 #[.val (.long xa), .second, .val (.long xb), .second, .val (.long ya), .second, .val (.long yb), .second, .val (.int shape), .val (.ref bx), .val (.int (1 : Int32)), .val (.ref bx), .val (.ref fX), .val (.ref fX), .val (.int (4 : Int32)), .val (.int fx), .val (.int fy), .unset, .unset, .unset, .unset] []) from Hfy _ rfl
          intro fy efy
          have rx : 0 ≤ fx.toInt ∧ fx.toInt ≤ 0 := by rw [efx]; exact own_idx4 _
          have ry : 0 ≤ fy.toInt ∧ fy.toInt ≤ 0 := by rw [efy]; exact own_idx4 _
          have rx0 := own_in (i := 0) (n := 0) rx (by decide) (by decide)
          have ry0 := own_in (i := 0) (n := 0) ry (by decide) (by decide)
          have rx1 := own_in (i := 1) (n := 0) rx (by decide) (by decide)
          have ry1 := own_in (i := 1) (n := 0) ry (by decide) (by decide)
          have rx2 := own_in (i := 2) (n := 0) rx (by decide) (by decide)
          have ry2 := own_in (i := 2) (n := 0) ry (by decide) (by decide)
          have rx3 := own_in (i := 3) (n := 0) rx (by decide) (by decide)
          have ry3 := own_in (i := 3) (n := 0) ry (by decide) (by decide)
          refine go_aload (q := 235) X68 hx (hb hby at_233) rfl rfl rfl ?_
          refine go_iload (q := 237) X68 hx (hb hby at_235) rfl rfl ?_
          refine go_aload (q := 239) X68 hx (hb hby at_237) rfl rfl rfl ?_
          refine go_iload (q := 241) X68 hx (hb hby at_239) rfl rfl ?_
          refine go_iconst (q := 242) (v := (0 : Int32)) X68 hx (hb hby at_241) rfl rfl ?_
          refine go_iload (q := 244) X68 hx (hb hby at_242) rfl rfl ?_
          refine go_callS (q := 247) (W := 0) X68 hx hZ hown e68 (hw _ (List.mem_of_getElem? (i := 9) rfl)) (hw _ (List.mem_of_getElem? (i := 10) rfl)) (hw _ (List.mem_of_getElem? (i := 3) rfl)) (hw _ (List.mem_of_getElem? (i := 11) rfl)) (by decide) [(.ref bx), (.int fx), (.ref bx), (.int fy), (.int (0 : Int32)), (.int (4 : Int32))] [] (rm3 l Z a0 hw [] bx fx bx fy (0 : Int32) (4 : Int32) k_bx k_bx _ _ x0 x1 x2 x3 x0 x1 x2 x3 h68 V_bx V_bx (fun _ => ⟨rx0, ry0⟩)) (by rw [hml]; rfl) rfl (lenOf pd_1 rfl) (Nat.le_of_eq rfl) (by decide) (by decide) (hb hby at_244) rfl (by decide) (by decide) ?_
          rintro T93 L93 v93 X93 ⟨Np93, rfl, e93⟩
          have N93 := Fr.app N68 (Np93 _)
          show Go p e below s (fun v h L => v = some (.int (1 : Int32)) ∧ Fr h0.size L) room_1.cells room_1.slots T93 (mkF m 247 #[.val (.long xa), .second, .val (.long xb), .second, .val (.long ya), .second, .val (.long yb), .second, .val (.int shape), .val (.ref bx), .val (.int (1 : Int32)), .val (.ref bx), .val (.ref fX), .val (.ref fX), .val (.int (4 : Int32)), .val (.int fx), .val (.int fy), .unset, .unset, .unset, .unset] [(.long (if (0 : Int32) < (4 : Int32) then (sel4 x0 x1 x2 x3 (fx + (0 : Int32))).toInt64 * (sel4 x0 x1 x2 x3 (fy + (0 : Int32))).toInt64 else 0))])
          suffices Ht0 : ∀ t0 : Int64, t0 = (if (0 : Int32) < (4 : Int32) then (sel4 x0 x1 x2 x3 (fx + (0 : Int32))).toInt64 * (sel4 x0 x1 x2 x3 (fy + (0 : Int32))).toInt64 else 0) → Go p e below s (fun v h L => v = some (.int (1 : Int32)) ∧ Fr h0.size L) room_1.cells room_1.slots T93 (mkF m 247 #[.val (.long xa), .second, .val (.long xb), .second, .val (.long ya), .second, .val (.long yb), .second, .val (.int shape), .val (.ref bx), .val (.int (1 : Int32)), .val (.ref bx), .val (.ref fX), .val (.ref fX), .val (.int (4 : Int32)), .val (.int fx), .val (.int fy), .unset, .unset, .unset, .unset] [(.long t0)]) from Ht0 _ rfl
          intro t0 et0
          rw [if_pos (by decide)] at et0
          have ht0 := own_prod (bx_ (fx + (0 : Int32))) (bx_ (fy + (0 : Int32)))
          rw [← et0] at ht0
          refine go_aload (q := 249) X93 hx (hb hby at_247) rfl rfl rfl ?_
          refine go_iload (q := 251) X93 hx (hb hby at_249) rfl rfl ?_
          refine go_aload (q := 253) X93 hx (hb hby at_251) rfl rfl rfl ?_
          refine go_iload (q := 255) X93 hx (hb hby at_253) rfl rfl ?_
          refine go_iconst (q := 256) (v := (1 : Int32)) X93 hx (hb hby at_255) rfl rfl ?_
          refine go_iload (q := 258) X93 hx (hb hby at_256) rfl rfl ?_
          refine go_callS (q := 261) (W := 2) X93 hx hZ hown e93 (hw _ (List.mem_of_getElem? (i := 9) rfl)) (hw _ (List.mem_of_getElem? (i := 10) rfl)) (hw _ (List.mem_of_getElem? (i := 3) rfl)) (hw _ (List.mem_of_getElem? (i := 11) rfl)) (by decide) [(.ref bx), (.int fx), (.ref bx), (.int fy), (.int (1 : Int32)), (.int (4 : Int32))] [(.long t0)] (rm3 l Z a0 hw [] bx fx bx fy (1 : Int32) (4 : Int32) k_bx k_bx _ _ x0 x1 x2 x3 x0 x1 x2 x3 h68 V_bx V_bx (fun _ => ⟨rx1, ry1⟩)) (by rw [hml]; rfl) rfl (lenOf pd_1 rfl) (Nat.le_of_eq rfl) (by decide) (by decide) (hb hby at_258) rfl (by decide) (by decide) ?_
          rintro T94 L94 v94 X94 ⟨Np94, rfl, e94⟩
          have N94 := Fr.app N93 (Np94 _)
          show Go p e below s (fun v h L => v = some (.int (1 : Int32)) ∧ Fr h0.size L) room_1.cells room_1.slots T94 (mkF m 261 #[.val (.long xa), .second, .val (.long xb), .second, .val (.long ya), .second, .val (.long yb), .second, .val (.int shape), .val (.ref bx), .val (.int (1 : Int32)), .val (.ref bx), .val (.ref fX), .val (.ref fX), .val (.int (4 : Int32)), .val (.int fx), .val (.int fy), .unset, .unset, .unset, .unset] [(.long (if (1 : Int32) < (4 : Int32) then (sel4 x0 x1 x2 x3 (fx + (1 : Int32))).toInt64 * (sel4 x0 x1 x2 x3 (fy + (1 : Int32))).toInt64 else 0)), (.long t0)])
          suffices Ht1 : ∀ t1 : Int64, t1 = (if (1 : Int32) < (4 : Int32) then (sel4 x0 x1 x2 x3 (fx + (1 : Int32))).toInt64 * (sel4 x0 x1 x2 x3 (fy + (1 : Int32))).toInt64 else 0) → Go p e below s (fun v h L => v = some (.int (1 : Int32)) ∧ Fr h0.size L) room_1.cells room_1.slots T94 (mkF m 261 #[.val (.long xa), .second, .val (.long xb), .second, .val (.long ya), .second, .val (.long yb), .second, .val (.int shape), .val (.ref bx), .val (.int (1 : Int32)), .val (.ref bx), .val (.ref fX), .val (.ref fX), .val (.int (4 : Int32)), .val (.int fx), .val (.int fy), .unset, .unset, .unset, .unset] [(.long t1), (.long t0)]) from Ht1 _ rfl
          intro t1 et1
          rw [if_pos (by decide)] at et1
          have ht1 := own_prod (bx_ (fx + (1 : Int32))) (bx_ (fy + (1 : Int32)))
          rw [← et1] at ht1
          refine go_ladd (q := 262) (v := (t0 + t1)) X94 hx (hb hby at_261) rfl rfl ?_
          refine go_aload (q := 264) X94 hx (hb hby at_262) rfl rfl rfl ?_
          refine go_iload (q := 266) X94 hx (hb hby at_264) rfl rfl ?_
          refine go_aload (q := 268) X94 hx (hb hby at_266) rfl rfl rfl ?_
          refine go_iload (q := 270) X94 hx (hb hby at_268) rfl rfl ?_
          refine go_iconst (q := 271) (v := (2 : Int32)) X94 hx (hb hby at_270) rfl rfl ?_
          refine go_iload (q := 273) X94 hx (hb hby at_271) rfl rfl ?_
          refine go_callS (q := 276) (W := 2) X94 hx hZ hown e94 (hw _ (List.mem_of_getElem? (i := 9) rfl)) (hw _ (List.mem_of_getElem? (i := 10) rfl)) (hw _ (List.mem_of_getElem? (i := 3) rfl)) (hw _ (List.mem_of_getElem? (i := 11) rfl)) (by decide) [(.ref bx), (.int fx), (.ref bx), (.int fy), (.int (2 : Int32)), (.int (4 : Int32))] [(.long (t0 + t1))] (rm3 l Z a0 hw [] bx fx bx fy (2 : Int32) (4 : Int32) k_bx k_bx _ _ x0 x1 x2 x3 x0 x1 x2 x3 h68 V_bx V_bx (fun _ => ⟨rx2, ry2⟩)) (by rw [hml]; rfl) rfl (lenOf pd_1 rfl) (Nat.le_of_eq rfl) (by decide) (by decide) (hb hby at_273) rfl (by decide) (by decide) ?_
          rintro T95 L95 v95 X95 ⟨Np95, rfl, e95⟩
          have N95 := Fr.app N94 (Np95 _)
          show Go p e below s (fun v h L => v = some (.int (1 : Int32)) ∧ Fr h0.size L) room_1.cells room_1.slots T95 (mkF m 276 #[.val (.long xa), .second, .val (.long xb), .second, .val (.long ya), .second, .val (.long yb), .second, .val (.int shape), .val (.ref bx), .val (.int (1 : Int32)), .val (.ref bx), .val (.ref fX), .val (.ref fX), .val (.int (4 : Int32)), .val (.int fx), .val (.int fy), .unset, .unset, .unset, .unset] [(.long (if (2 : Int32) < (4 : Int32) then (sel4 x0 x1 x2 x3 (fx + (2 : Int32))).toInt64 * (sel4 x0 x1 x2 x3 (fy + (2 : Int32))).toInt64 else 0)), (.long (t0 + t1))])
          suffices Ht2 : ∀ t2 : Int64, t2 = (if (2 : Int32) < (4 : Int32) then (sel4 x0 x1 x2 x3 (fx + (2 : Int32))).toInt64 * (sel4 x0 x1 x2 x3 (fy + (2 : Int32))).toInt64 else 0) → Go p e below s (fun v h L => v = some (.int (1 : Int32)) ∧ Fr h0.size L) room_1.cells room_1.slots T95 (mkF m 276 #[.val (.long xa), .second, .val (.long xb), .second, .val (.long ya), .second, .val (.long yb), .second, .val (.int shape), .val (.ref bx), .val (.int (1 : Int32)), .val (.ref bx), .val (.ref fX), .val (.ref fX), .val (.int (4 : Int32)), .val (.int fx), .val (.int fy), .unset, .unset, .unset, .unset] [(.long t2), (.long (t0 + t1))]) from Ht2 _ rfl
          intro t2 et2
          rw [if_pos (by decide)] at et2
          have ht2 := own_prod (bx_ (fx + (2 : Int32))) (bx_ (fy + (2 : Int32)))
          rw [← et2] at ht2
          refine go_ladd (q := 277) (v := ((t0 + t1) + t2)) X95 hx (hb hby at_276) rfl rfl ?_
          refine go_aload (q := 279) X95 hx (hb hby at_277) rfl rfl rfl ?_
          refine go_iload (q := 281) X95 hx (hb hby at_279) rfl rfl ?_
          refine go_aload (q := 283) X95 hx (hb hby at_281) rfl rfl rfl ?_
          refine go_iload (q := 285) X95 hx (hb hby at_283) rfl rfl ?_
          refine go_iconst (q := 286) (v := (3 : Int32)) X95 hx (hb hby at_285) rfl rfl ?_
          refine go_iload (q := 288) X95 hx (hb hby at_286) rfl rfl ?_
          refine go_callS (q := 291) (W := 2) X95 hx hZ hown e95 (hw _ (List.mem_of_getElem? (i := 9) rfl)) (hw _ (List.mem_of_getElem? (i := 10) rfl)) (hw _ (List.mem_of_getElem? (i := 3) rfl)) (hw _ (List.mem_of_getElem? (i := 11) rfl)) (by decide) [(.ref bx), (.int fx), (.ref bx), (.int fy), (.int (3 : Int32)), (.int (4 : Int32))] [(.long ((t0 + t1) + t2))] (rm3 l Z a0 hw [] bx fx bx fy (3 : Int32) (4 : Int32) k_bx k_bx _ _ x0 x1 x2 x3 x0 x1 x2 x3 h68 V_bx V_bx (fun _ => ⟨rx3, ry3⟩)) (by rw [hml]; rfl) rfl (lenOf pd_1 rfl) (Nat.le_of_eq rfl) (by decide) (by decide) (hb hby at_288) rfl (by decide) (by decide) ?_
          rintro T96 L96 v96 X96 ⟨Np96, rfl, e96⟩
          have N96 := Fr.app N95 (Np96 _)
          show Go p e below s (fun v h L => v = some (.int (1 : Int32)) ∧ Fr h0.size L) room_1.cells room_1.slots T96 (mkF m 291 #[.val (.long xa), .second, .val (.long xb), .second, .val (.long ya), .second, .val (.long yb), .second, .val (.int shape), .val (.ref bx), .val (.int (1 : Int32)), .val (.ref bx), .val (.ref fX), .val (.ref fX), .val (.int (4 : Int32)), .val (.int fx), .val (.int fy), .unset, .unset, .unset, .unset] [(.long (if (3 : Int32) < (4 : Int32) then (sel4 x0 x1 x2 x3 (fx + (3 : Int32))).toInt64 * (sel4 x0 x1 x2 x3 (fy + (3 : Int32))).toInt64 else 0)), (.long ((t0 + t1) + t2))])
          suffices Ht3 : ∀ t3 : Int64, t3 = (if (3 : Int32) < (4 : Int32) then (sel4 x0 x1 x2 x3 (fx + (3 : Int32))).toInt64 * (sel4 x0 x1 x2 x3 (fy + (3 : Int32))).toInt64 else 0) → Go p e below s (fun v h L => v = some (.int (1 : Int32)) ∧ Fr h0.size L) room_1.cells room_1.slots T96 (mkF m 291 #[.val (.long xa), .second, .val (.long xb), .second, .val (.long ya), .second, .val (.long yb), .second, .val (.int shape), .val (.ref bx), .val (.int (1 : Int32)), .val (.ref bx), .val (.ref fX), .val (.ref fX), .val (.int (4 : Int32)), .val (.int fx), .val (.int fy), .unset, .unset, .unset, .unset] [(.long t3), (.long ((t0 + t1) + t2))]) from Ht3 _ rfl
          intro t3 et3
          rw [if_pos (by decide)] at et3
          have ht3 := own_prod (bx_ (fx + (3 : Int32))) (bx_ (fy + (3 : Int32)))
          rw [← et3] at ht3
          refine go_ladd (q := 292) (v := (((t0 + t1) + t2) + t3)) X96 hx (hb hby at_291) rfl rfl ?_
          refine go_lstore (q := 294) (l' := #[.val (.long xa), .second, .val (.long xb), .second, .val (.long ya), .second, .val (.long yb), .second, .val (.int shape), .val (.ref bx), .val (.int (1 : Int32)), .val (.ref bx), .val (.ref fX), .val (.ref fX), .val (.int (4 : Int32)), .val (.int fx), .val (.int fy), .val (.long (((t0 + t1) + t2) + t3)), .second, .unset, .unset]) X96 hx (hb hby at_292) rfl rfl ?_
          suffices Hex : ∀ ex : Int64, ex = (((t0 + t1) + t2) + t3) → Go p e below s (fun v h L => v = some (.int (1 : Int32)) ∧ Fr h0.size L) room_1.cells room_1.slots T96 (mkF m 294 #[.val (.long xa), .second, .val (.long xb), .second, .val (.long ya), .second, .val (.long yb), .second, .val (.int shape), .val (.ref bx), .val (.int (1 : Int32)), .val (.ref bx), .val (.ref fX), .val (.ref fX), .val (.int (4 : Int32)), .val (.int fx), .val (.int fy), .val (.long ex), .second, .unset, .unset] []) from Hex _ rfl
          intro ex eex
          have hex := own_sum4 ht0 ht1 ht2 ht3
          rw [← eex] at hex
          refine go_aload (q := 296) X96 hx (hb hby at_294) rfl rfl rfl ?_
          refine go_iload (q := 298) X96 hx (hb hby at_296) rfl rfl ?_
          refine go_aload (q := 300) X96 hx (hb hby at_298) rfl rfl rfl ?_
          refine go_iload (q := 302) X96 hx (hb hby at_300) rfl rfl ?_
          refine go_iload (q := 304) X96 hx (hb hby at_302) rfl rfl ?_
          refine go_callS (q := 307) (W := 0) X96 hx hZ hown e96 (hw _ (List.mem_of_getElem? (i := 12) rfl)) (hw _ (List.mem_of_getElem? (i := 13) rfl)) (hw _ (List.mem_of_getElem? (i := 14) rfl)) (hw _ (List.mem_of_getElem? (i := 15) rfl)) (by decide) [(.ref fX), (.int fx), (.ref fX), (.int fy), (.int (4 : Int32))] [] (rm4_4 l Z a0 hw [] fX fx fX fy k_fX k_fX _ _ x0 x1 x2 x3 x0 x1 x2 x3 h68 V_fX V_fX bx_ bx_ rx0 ry0 rx1 ry1 rx2 ry2 rx3 ry3) (by rw [hml]; rfl) rfl (lenOf pd_2 rfl) (Nat.le_of_eq rfl) (by decide) (by decide) (hb hby at_304) rfl (by decide) (by decide) ?_
          rintro T97 L97 v97 X97 ⟨Np97, ⟨r_, rfl, hr_⟩, e97⟩
          have N97 := Fr.app N96 (Np97 _)
          show Go p e below s (fun v h L => v = some (.int (1 : Int32)) ∧ Fr h0.size L) room_1.cells room_1.slots T97 (mkF m 307 #[.val (.long xa), .second, .val (.long xb), .second, .val (.long ya), .second, .val (.long yb), .second, .val (.int shape), .val (.ref bx), .val (.int (1 : Int32)), .val (.ref bx), .val (.ref fX), .val (.ref fX), .val (.int (4 : Int32)), .val (.int fx), .val (.int fy), .val (.long ex), .second, .unset, .unset] [(.double r_)])
          refine go_dstore (q := 309) (l' := #[.val (.long xa), .second, .val (.long xb), .second, .val (.long ya), .second, .val (.long yb), .second, .val (.int shape), .val (.ref bx), .val (.int (1 : Int32)), .val (.ref bx), .val (.ref fX), .val (.ref fX), .val (.int (4 : Int32)), .val (.int fx), .val (.int fy), .val (.long ex), .second, .val (.double r_), .second]) X97 hx (hb hby at_307) rfl rfl ?_
          refine go_dload (q := 311) X97 hx (hb hby at_309) rfl rfl ?_
          refine go_lload (q := 313) X97 hx (hb hby at_311) rfl rfl ?_
          refine go_l2dB (q := 314) X97 hx (hb hby at_313) rfl (db_l2d (A := 281474976710656) hex.2 (by decide)) (fun z98 hz98 => ?_)
          refine go_dcmp (q := 315) X97 hx (hb hby at_314) rfl rfl ?_
          refine go_dif_ne (q := 318) (q' := 322) X97 hx (hb hby at_315) rfl (by decide) rfl hr_ hz98 (fun hc315 => ?_) (fun hc315 => ?_)
          · exact absurd (by rw [hex.1]; omega) hc315
          · refine go_iconst (q := 319) (v := (1 : Int32)) X97 hx (hb hby at_318) rfl rfl ?_
            refine go_goto (q := 323) X97 hx (hb hby at_319) (by decide) rfl ?_
            exact go_retN X97 hx (by simp) hret hlk (hb hby at_323) (by decide) (by decide) ⟨rfl, N97⟩
set_option maxRecDepth 65536 in
set_option maxHeartbeats 40000000 in
theorem comes_1 {Post : Tables → Env → Array Value → State → Outcome → State → Prop} (hpost : ∀ tb e args s v u, (limb_1_1.after args s (.returned v) u = true ∧ limb_1_2.after args s (.returned v) u = true ∧ True) → FrameEnd s (.returned v) u (Jvm.fieldLocs frame_1_writes args s ++ Jvm.arrayLocs frame_1_arrays args s ++ Jvm.staticLocs frame_1_statics s) 16 128 → Post tb e args s (.returned v) u) :
    ArmFor flags0 classFile x code maxLocals ret World_1 tables_1 room_1 Calls_1 rest_1 Pre_1 Post := by
  intro l hfl _ _ p e ha hc hk s m args below hf hA hF happ hP
  obtain ⟨hcalls, hrest, hpre⟩ := hP
  obtain ⟨-, -, -, hnamed, -, -, -, hat⟩ := (Spec.applies_iff hf).mp happ
  obtain ⟨hg, hn⟩ := and_e (Cond.before_iff.mp (show (Jvm.Cond.and given_1 narrow_1).before args s = true from hpre))
  obtain ⟨hcnt, hg0⟩ := and_e hg
  obtain ⟨ha0, hg1⟩ := and_e hg0
  obtain ⟨ha1, hg2⟩ := and_e hg1
  obtain ⟨ha2, hg3⟩ := and_e hg2
  obtain ⟨ha3, hg4⟩ := and_e hg3
  have ha4 := hg4
  obtain ⟨w0, w1, w2, w3, w4, rfl⟩ : ∃ w0 w1 w2 w3 w4 : Value, args = #[w0, w1, w2, w3, w4] := by
    have hs : args.size = 5 := by simpa [Cond.value, given_1] using hcnt
    obtain ⟨L⟩ := args
    match L, hs with
    | [w0, w1, w2, w3, w4], _ => exact ⟨w0, w1, w2, w3, w4, rfl⟩
  have hw := fun d (hd : d ∈ tables_1) => atoms_spec (ws := Jvm.Cond.code x code maxLocals ret :: tables_1) hat d (List.mem_cons_of_mem _ hd)
  obtain ⟨i0, ei0⟩ := isL_v ha0
  obtain rfl : w0 = (.long i0) := Option.some.inj ei0
  obtain ⟨i1, ei1⟩ := isL_v ha1
  obtain rfl : w1 = (.long i1) := Option.some.inj ei1
  obtain ⟨i2, ei2⟩ := isL_v ha2
  obtain rfl : w2 = (.long i2) := Option.some.inj ei2
  obtain ⟨i3, ei3⟩ := isL_v ha3
  obtain rfl : w3 = (.long i3) := Option.some.inj ei3
  obtain ⟨i4, ei4⟩ := is_v ha4
  obtain rfl : w4 = (.int i4) := Option.some.inj ei4
  obtain ⟨n, o, h1, h2, h3, _, L, rfl, ⟨rfl, N⟩, hq⟩ := rm0 l s _ hw tables_1 i0 i1 i2 i3 i4  s.heap  p e ha hc hk s m _ below hf ((Spec.applies_iff_loose hf).mp happ).1 ⟨rfl, State.Warmed39.refl s, rfl⟩ trivial
  refine ⟨n, _, h1, h2, h3, hpost _ _ _ _ _ _ ⟨Cond.after_iff.mpr rfl, Cond.after_iff.mpr (eq_i res_at (Term.int_eval (1)) rfl), trivial⟩ ⟨hq.1, hq.2.1, (hq.2.2.sift fun y hy => Or.inr (N y hy)).mono (by decide) (by decide)⟩⟩
theorem main_1_1 : Claimed_1_1 := comes_1 fun _ _ _ _ _ _ h hF => ⟨h.1, hF⟩
theorem main_1_2 : Claimed_1_2 := comes_1 fun _ _ _ _ _ _ h hF => ⟨h.2.1, hF⟩

end Jvm.Pilot.@@N@@
namespace Jvm.Pilot.@@N@@
open Jvm Jvm.ClassFile Sem Op Lib Jvm.Free Jvm.Stand Jvm.Pilot.@@N@@.Jvm.D
/-! MADE BY PROGRAM (witnessworld.py) out of the Statement's table words and the real class files: 11 classes; the members and pool entries that the words name. The judged class is class 1, her method 4. -/
namespace start1
open Jvm.ClassFile
def u (s : String) : CpInfo := .utf8 (stringToUtf16 s)
/-- a pool by its gaps: so many unusable entries, then the entry; so many at the end -/
def gap : Nat → List CpInfo → List CpInfo
  | 0, r => r
  | n + 1, r => .unusable :: gap n r
def poolList (es : List (Nat × CpInfo)) (last : Nat) : List CpInfo := es.foldr (fun e r => gap e.1 (e.2 :: r)) (gap last [])
def pool (es : List (Nat × CpInfo)) (last : Nat) : Array CpInfo := ⟨poolList es last⟩
def fileOf (pool : Array CpInfo) (this : Nat) (attrs : Array Attribute := #[]) (ms : Array MethodInfo := #[]) (fl : Nat := 33) (sup : Nat := 0) (ifs : Array Nat := #[]) (fds : Array FieldInfo := #[]) : ClassFile where
  minorVersion := 0
  majorVersion := 65
  constantPool := pool
  accessFlags := fl
  thisClass := this
  superClass := sup
  interfaces := ifs
  fields := fds
  methods := ms
  attributes := attrs
def plain (name : String) (sup : Option ClassId) : Class where
  name := name
  kind := .ordinary
  loader := none
  accessFlags := 33
  super := sup
  interfaces := #[]
  cf := none
  fields := #[]
  methods := #[]
  instanceTypes := #[]
  staticTypes := #[]
  resolved := #[]
  callSites := []
  init := .initialized
  statics := none
  mirror := none

def pool0 : Array CpInfo := pool [(5, u "<init>"), (0, u "()V"), (1, .class_ 10), (1, u "java/lang/Object")] 113

def k0m0 : Method := { name := "<init>", desc := "()V", sig := { parameters := [], returnType := none }, accessFlags := 1, code := none }
/-- java/lang/Object -/
def k0 : Class := { plain "java/lang/Object" none with
  accessFlags := 33
  interfaces := #[]
  cf := some (fileOf pool0 8 #[] #[{ accessFlags := 1, nameIndex := 5, descriptorIndex := 6, attributes := #[] }] 33 0 #[] #[])
  fields := #[]
  methods := #[k0m0]
  instanceTypes := #[]
  staticTypes := #[]
  resolved := Array.replicate 124 none
  statics := none }

def pool1 : Array CpInfo := pool [(2, .class_ 4), (1, u "java/lang/Object"), (0, u "<init>"), (0, u "()V"), (0, .methodref 8 9), (0, .class_ 10), (0, .nameAndType 11 12), (0, u "nearfield/vectors/FloatProductsDotProductPinLaw"), (0, u "low"), (0, u "(J)I"), (0, .methodref 8 14), (0, .nameAndType 15 12), (0, u "high"), (0, .methodref 8 17), (0, .nameAndType 18 19), (0, u "term"), (0, u "([II[IIII)J"), (0, .methodref 21 22), (0, .class_ 23), (0, .nameAndType 24 25), (0, u "nearfield/vectors/FloatProducts"), (0, u "dotProduct"), (0, u "([FI[FII)D"), (3, u "law"), (0, u "(JJJJI)Z")] 6

def k1m0 : Method := { name := "<init>", desc := "()V", sig := { parameters := [], returnType := none }, accessFlags := 2, code := none }
def k1c1 : Code := { maxStack := 3, maxLocals := 2, code := method_2_code, exceptionTable := #[], attributes := #[] }
def k1m1 : Method := { name := "low", desc := "(J)I", sig := { parameters := [.long], returnType := some .int }, accessFlags := 10, code := some k1c1 }
def k1c2 : Code := { maxStack := 3, maxLocals := 2, code := method_3_code, exceptionTable := #[], attributes := #[] }
def k1m2 : Method := { name := "high", desc := "(J)I", sig := { parameters := [.long], returnType := some .int }, accessFlags := 10, code := some k1c2 }
def k1c3 : Code := { maxStack := 5, maxLocals := 6, code := method_4_code, exceptionTable := #[], attributes := #[] }
def k1m3 : Method := { name := "term", desc := "([II[IIII)J", sig := { parameters := [(.array .int), .int, (.array .int), .int, .int, .int], returnType := some .long }, accessFlags := 10, code := some k1c3 }
def k1c4 : Code := { maxStack := 8, maxLocals := 21, code := code, exceptionTable := #[], attributes := #[] }
def k1m4 : Method := { name := "law", desc := "(JJJJI)Z", sig := { parameters := [.long, .long, .long, .long, .int], returnType := some .boolean }, accessFlags := 9, code := some k1c4 }
/-- nearfield/vectors/FloatProductsDotProductPinLaw -/
def k1 : Class := { plain "nearfield/vectors/FloatProductsDotProductPinLaw" (some 0) with
  accessFlags := 49
  interfaces := #[]
  cf := some (fileOf pool1 8 #[] #[{ accessFlags := 2, nameIndex := 5, descriptorIndex := 6, attributes := #[] }, { accessFlags := 10, nameIndex := 11, descriptorIndex := 12, attributes := #[] }, { accessFlags := 10, nameIndex := 15, descriptorIndex := 12, attributes := #[] }, { accessFlags := 10, nameIndex := 18, descriptorIndex := 19, attributes := #[] }, { accessFlags := 9, nameIndex := 29, descriptorIndex := 30, attributes := #[] }] 49 2 #[] #[])
  fields := #[]
  methods := #[k1m0, k1m1, k1m2, k1m3, k1m4]
  instanceTypes := #[]
  staticTypes := #[]
  resolved := Array.replicate 37 none
  statics := none }

def pool2 : Array CpInfo := pool [(2, .class_ 4), (1, u "java/lang/Object"), (0, u "<init>"), (0, u "()V"), (21, .class_ 30), (1, u "nearfield/vectors/FloatProducts"), (9, u "dotProduct"), (0, u "([FI[FII)D")] 36

def k2m0 : Method := { name := "<init>", desc := "()V", sig := { parameters := [], returnType := none }, accessFlags := 2, code := none }
def k2c1 : Code := { maxStack := 7, maxLocals := 8, code := prog_164_method_2_code, exceptionTable := #[], attributes := #[] }
def k2m1 : Method := { name := "dotProduct", desc := "([FI[FII)D", sig := { parameters := [(.array .float), .int, (.array .float), .int, .int], returnType := some .double }, accessFlags := 8, code := some k2c1 }
/-- nearfield/vectors/FloatProducts -/
def k2 : Class := { plain "nearfield/vectors/FloatProducts" (some 0) with
  accessFlags := 48
  interfaces := #[]
  cf := some (fileOf pool2 28 #[] #[{ accessFlags := 2, nameIndex := 5, descriptorIndex := 6, attributes := #[] }, { accessFlags := 8, nameIndex := 40, descriptorIndex := 41, attributes := #[] }] 48 2 #[] #[])
  fields := #[]
  methods := #[k2m0, k2m1]
  instanceTypes := #[]
  staticTypes := #[]
  resolved := Array.replicate 78 none
  statics := none }

def pool3 : Array CpInfo := pool [(1, u "java/lang/Cloneable"), (0, .class_ 1), (0, u "java/lang/Object"), (0, .class_ 3)] 3

/-- java/lang/Cloneable -/
def k3 : Class := { plain "java/lang/Cloneable" (some 0) with
  accessFlags := 1537
  interfaces := #[]
  cf := some (fileOf pool3 2 #[] #[] 1537 4 #[] #[])
  fields := #[]
  methods := #[]
  instanceTypes := #[]
  staticTypes := #[]
  resolved := Array.replicate 8 none
  statics := none }

def pool4 : Array CpInfo := pool [(1, u "java/io/Serializable"), (0, .class_ 1), (0, u "java/lang/Object"), (0, .class_ 3)] 3

/-- java/io/Serializable -/
def k4 : Class := { plain "java/io/Serializable" (some 0) with
  accessFlags := 1537
  interfaces := #[]
  cf := some (fileOf pool4 2 #[] #[] 1537 4 #[] #[])
  fields := #[]
  methods := #[]
  instanceTypes := #[]
  staticTypes := #[]
  resolved := Array.replicate 8 none
  statics := none }

/-- the primitive byte -/
def k5 : Class := { plain "byte" none with kind := .primitive 'B', accessFlags := 0x411 }
/-- [B -/
def k6 : Class := { plain "[B" (some 0) with kind := .array 5 .byte, interfaces := #[3, 4], accessFlags := 1041 }

/-- the primitive float -/
def k7 : Class := { plain "float" none with kind := .primitive 'F', accessFlags := 0x411 }
/-- [F -/
def k8 : Class := { plain "[F" (some 0) with kind := .array 7 .float, interfaces := #[3, 4], accessFlags := 1041 }

/-- the primitive int -/
def k9 : Class := { plain "int" none with kind := .primitive 'I', accessFlags := 0x411 }
/-- [I -/
def k10 : Class := { plain "[I" (some 0) with kind := .array 9 .int, interfaces := #[3, 4], accessFlags := 1041 }

def heap : Heap := #[]
def classes : Array Class := #[k0, k1, k2, k3, k4, k5, k6, k7, k8, k9, k10]
def interned : List (Array UInt16 × Addr) := []
def slotsUsed : Nat := 0
def theMethod : MethodId := ⟨1, 4⟩
def args0 : Array Value := #[.long 5, .long 7, .long 9, .long 11, .int 3]
def aboutOver (below : List Frame) : State where
  vm := { classes := classes, interned := interned.toArray }
  heap := heap
  slotsUsed := slotsUsed
  threads := #[{ frames := .invoking theMethod args0 :: below }]
def below0 : List Frame := [.native { method := ⟨0, 0⟩, args := #[] }]
def about1 : State := aboutOver below0
def p0 : Program := .bare "" "" ""
def e0 : Env := launch0.env 0 0 0
theorem w_frames : about1.frames = Frame.invoking theMethod args0 :: below0 := rfl
set_option maxRecDepth 65536 in
theorem w_args : argsFit about1.vm theMethod args0 = true := by decide +kernel
set_option maxRecDepth 65536 in
theorem w_heap : heapFits about1 = true := by decide +kernel
set_option maxRecDepth 65536 in
theorem w_runnable : about1.curStatus? = some .runnable := by decide +kernel
set_option maxRecDepth 65536 in
theorem w_alone : about1.alone = true := by decide +kernel
set_option maxRecDepth 65536 in
theorem w_named : about1.methodNamed? x = some theMethod := by decide +kernel
set_option maxRecDepth 65536 in
theorem w_hears : about1.hears theMethod below0 = true := by decide +kernel
set_option maxRecDepth 65536 in
theorem w_ripe : about1.ripe theMethod args0 below0 = true := by decide +kernel
theorem w_running : about1.status = .running := rfl
set_option maxRecDepth 65536 in
theorem w_room : about1.hasRoom e0.platform room_1 = true :=
  launch0.hasRoom_least _ room_1 (by decide +kernel) (by decide +kernel) (by decide +kernel) (by decide +kernel) (by decide +kernel) (by decide +kernel)
theorem allAtoms_all (ts : List Jvm.Cond) (a : Array Jvm.Value) (st : Jvm.State) : (allAtoms ts).before a st = ts.all (fun c => c.before a st) := by
  induction ts with
  | nil => rfl
  | cons c t ih =>
    show (Jvm.Cond.and c (allAtoms t)).before a st = _
    rw [Jvm.Cond.before_and, ih, List.all_cons]
def words1 : List Jvm.Cond := Jvm.Cond.code x code maxLocals ret :: tables_1
/-- a 'code' word, met by the world's own term for the bytes: nothing is compared byte by byte -/
theorem code_word {y : MethodName} {bytes : ByteArray} {mx : Nat} {rt : Option FieldType} {a : Array Value} {s : State} {m : MethodId} {meth : Method} {c : Code} (h1 : s.methodNamed? y = some m) (h2 : s.vm.method? m = some meth) (h3 : meth.code = some c) (h4 : c.code = bytes)
    (h5 : (c.maxLocals == mx && c.exceptionTable.isEmpty && decide (c.maxStack ≤ mostOperands) && decide (meth.sig.returnType = rt) && !meth.locks && decide (parseMethodDescriptor y.desc = some meth.sig)) = true) : (Jvm.Cond.code y bytes mx rt).before a s = true := by
  simp only [Bool.and_eq_true, beq_iff_eq, Bool.not_eq_true', decide_eq_true_eq] at h5
  obtain ⟨⟨⟨⟨⟨g1, g2⟩, g3⟩, g4⟩, g5⟩, g6⟩ := h5
  simp [Cond.before, Cond.holds, Cond.value, h1, h2, h3, h4, g1, g2, g3, g4, g5, g6]
def isCode : Jvm.Cond → Bool
  | .code _ _ _ _ => true
  | _ => false
theorem all_split {L : List Jvm.Cond} {P : Jvm.Cond → Bool} (h1 : L.all (fun c => isCode c || P c) = true) (h2 : ∀ c ∈ L.filter isCode, P c = true) : L.all P = true := by
  refine List.all_eq_true.mpr fun c hc => ?_
  have h := List.all_eq_true.mp h1 c hc
  rcases Bool.eq_false_or_eq_true (isCode c) with hi | hi
  · exact h2 c (List.mem_filter.mpr ⟨hc, hi⟩)
  · simpa [hi] using h
set_option maxRecDepth 65536 in
theorem w_c0 : (Jvm.Cond.code x code maxLocals ret).before args0 about1 = true := code_word (m := ⟨1, 4⟩) (meth := k1m4) (c := k1c4) (by decide +kernel) rfl rfl rfl (by decide +kernel)
set_option maxRecDepth 65536 in
theorem w_c1 : (Jvm.Cond.code ({ cls := "nearfield/vectors/FloatProductsDotProductPinLaw", name := "low", desc := "(J)I" } : Jvm.MethodName) method_2_code (2 : Nat) (Option.some Jvm.ClassFile.FieldType.int)).before args0 about1 = true := code_word (m := ⟨1, 1⟩) (meth := k1m1) (c := k1c1) (by decide +kernel) rfl rfl rfl (by decide +kernel)
set_option maxRecDepth 65536 in
theorem w_c2 : (Jvm.Cond.code ({ cls := "nearfield/vectors/FloatProductsDotProductPinLaw", name := "high", desc := "(J)I" } : Jvm.MethodName) method_3_code (2 : Nat) (Option.some Jvm.ClassFile.FieldType.int)).before args0 about1 = true := code_word (m := ⟨1, 2⟩) (meth := k1m2) (c := k1c2) (by decide +kernel) rfl rfl rfl (by decide +kernel)
set_option maxRecDepth 65536 in
theorem w_c3 : (Jvm.Cond.code ({ cls := "nearfield/vectors/FloatProductsDotProductPinLaw", name := "term", desc := "([II[IIII)J" } : Jvm.MethodName) method_4_code (6 : Nat) (Option.some Jvm.ClassFile.FieldType.long)).before args0 about1 = true := code_word (m := ⟨1, 3⟩) (meth := k1m3) (c := k1c3) (by decide +kernel) rfl rfl rfl (by decide +kernel)
set_option maxRecDepth 65536 in
theorem w_c4 : (Jvm.Cond.code ({ cls := "nearfield/vectors/FloatProducts", name := "dotProduct", desc := "([FI[FII)D" } : Jvm.MethodName) prog_164_method_2_code (8 : Nat) (Option.some Jvm.ClassFile.FieldType.double)).before args0 about1 = true := code_word (m := ⟨2, 1⟩) (meth := k2m1) (c := k2c1) (by decide +kernel) rfl rfl rfl (by decide +kernel)
def codes1 : List Jvm.Cond := [Jvm.Cond.code x code maxLocals ret, Jvm.Cond.code ({ cls := "nearfield/vectors/FloatProductsDotProductPinLaw", name := "low", desc := "(J)I" } : Jvm.MethodName) method_2_code (2 : Nat) (Option.some Jvm.ClassFile.FieldType.int), Jvm.Cond.code ({ cls := "nearfield/vectors/FloatProductsDotProductPinLaw", name := "high", desc := "(J)I" } : Jvm.MethodName) method_3_code (2 : Nat) (Option.some Jvm.ClassFile.FieldType.int), Jvm.Cond.code ({ cls := "nearfield/vectors/FloatProductsDotProductPinLaw", name := "term", desc := "([II[IIII)J" } : Jvm.MethodName) method_4_code (6 : Nat) (Option.some Jvm.ClassFile.FieldType.long), Jvm.Cond.code ({ cls := "nearfield/vectors/FloatProducts", name := "dotProduct", desc := "([FI[FII)D" } : Jvm.MethodName) prog_164_method_2_code (8 : Nat) (Option.some Jvm.ClassFile.FieldType.double)]
set_option maxRecDepth 65536 in
theorem codes_eq : words1.filter isCode = codes1 := rfl
theorem w_codes : ∀ c ∈ words1.filter isCode, c.before args0 about1 = true := by
  rw [codes_eq]
  intro c hc
  simp only [codes1, List.mem_cons, List.not_mem_nil, or_false] at hc
  rcases hc with rfl | rfl | rfl | rfl | rfl
  · exact w_c0
  · exact w_c1
  · exact w_c2
  · exact w_c3
  · exact w_c4
set_option maxRecDepth 65536 in
theorem w_t1 : words1.all (fun c => isCode c || c.before args0 about1) = true := by decide +kernel
theorem w_tables : (allAtoms (Jvm.Cond.code x code maxLocals ret :: tables_1)).before args0 about1 = true := by
  rw [allAtoms_all]
  show words1.all (fun c => c.before args0 about1) = true
  refine all_split ?_ w_codes
  rw [w_t1]
set_option maxRecDepth 65536 in
theorem w_case : (Jvm.Cond.and given_1 narrow_1).before args0 about1 = true := by decide +kernel
theorem w_applies : (headSpec (Jvm.Cond.code x code maxLocals ret :: tables_1) room_1).applies x e0.platform about1 = true :=
  (Spec.applies_iff w_frames).mpr ⟨w_running, w_runnable, w_alone, w_named, w_hears, w_ripe, w_room, w_tables⟩
theorem atStart : AtStart classFile x code maxLocals ret World_1 tables_1 room_1 Calls_1 rest_1 Pre_1 launch0 p0 e0 about1 theMethod args0 below0 :=
  ⟨lists_1, trivial, launch0.admits_env _ _ _, launch0.least_env, fairChoices_fair.cas, fairChoices_fair.clock, w_frames, w_args, w_heap, w_applies, trivial, trivial, w_case⟩
end start1
theorem witness_1 : WitnessClaimed_1 := ⟨start1.p0, start1.e0, start1.about1, start1.theMethod, start1.args0, start1.below0, start1.atStart⟩
end Jvm.Pilot.@@N@@
