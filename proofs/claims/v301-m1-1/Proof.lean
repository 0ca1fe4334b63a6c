import JvmDerived
import JvmDerived.Pilot.@@N@@Statement
import JvmDerived.Pilot.@@N@@Code
set_option linter.unusedVariables false
set_option linter.unusedSimpArgs false
namespace Jvm.Pilot.@@N@@
open Jvm Jvm.ClassFile Sem Op Lib Jvm.Free Jvm.Stand Jvm.LawKit Jvm.RoadKit Bundle Jvm.Pilot.@@N@@.Jvm.D

section OwnWalk
variable {p : Program} {l : Launch} {e : Env} {R : Room} {s : State} {m : MethodId} {args : Array Value} {below : List Frame} {meth : Method} {c : Code} {T : State} {locs : List Loc} {cells slots : Nat} {Z : State} {h : Heap} {Q : Option Value → Heap → List Loc → Prop} {ce sl : Nat} {pc q q' : Nat} {ls : Array Slot} {st : List Value} {a0 : Array Value}
/-- the rest of a body's run, from the frame g on -/
def Go (p : Program) (e : Env) (below : List Frame) (s : State) (Q : Option Value → Heap → List Loc → Prop) (ce sl : Nat) (T : State) (g : JFrame) : Prop :=
  ∃ s₂ o, Steps p.tables e below (T.setTop g) s₂ ∧ s₂.status = .running ∧ Ended s₂ below o ∧ ∃ v L, o = .returned v ∧ Q v s₂.heap L ∧ FrameEnd s o s₂ L ce sl
theorem Go.to {T' : State} {g g' : JFrame} (k : Go p e below s Q ce sl T' g') (f : ∀ t, Steps p.tables e below (T'.setTop g') t → Steps p.tables e below (T.setTop g) t) : Go p e below s Q ce sl T g := by
  obtain ⟨s2, o, h1, r⟩ := k
  exact ⟨s2, o, f _ h1, r⟩
theorem Go.cast {g g' : JFrame} (w : g = g') (k : Go p e below s Q ce sl T g') : Go p e below s Q ce sl T g := w ▸ k
/-- a body's contract: from these arguments, over this heap, it returns with Q -/
abbrev Con (l : Launch) (y : MethodName) (bytes : ByteArray) (maxL : Nat) (ret : Option FieldType) (ws : List Jvm.Cond) (rm : Room) (Z : State) (as' : Array Value) (h : Heap) (Q : Option Value → Heap → List Loc → Prop) : Prop :=
  MetFree l y (head1 (Jvm.Cond.code y bytes maxL ret :: ws) rm) (fun a U => a = as' ∧ Z.Warmed39 U.vm ∧ U.heap = h) (fun _ _ _ _ _ => True) (fun _ U o U' => ∃ v L, o = .returned v ∧ Q v U'.heap L ∧ FrameEnd U o U' L rm.cells rm.slots)
theorem con_of {y : MethodName} {bytes : ByteArray} {maxL : Nat} {ret : Option FieldType} {ws : List Jvm.Cond} {rm : Room} {as' : Array Value} (hpl : plainFor y = true)
    (body : ∀ (p : Program) (e : Env) (s : State) (m : MethodId) (below : List Frame) (meth : Method) (c : Code) (s₁ : State), Stand p l e rm s m as' below meth c s₁ [] 0 0 → p.tables.exec = Jvm.exec → c.code = bytes → c.maxLocals = maxL → meth.sig.returnType = ret → meth.locks = false → s.vm.findClass y.cls = some m.cls → meth.name = y.name → Z.Warmed39 s.vm → s₁.heap = h → Go p e below s Q rm.cells rm.slots s₁ (entryFrame m as' maxL)) :
    Con l y bytes maxL ret ws rm Z as' h Q := by
  refine MetFree.of_bodySF hpl hisR ?_
  intro p e s m args below meth c s₁ Bd hml0 hP hK
  obtain ⟨rfl, hZ, hh⟩ := hP
  exact body p e s m below meth c s₁ (Stand.of_body Bd) Bd.exec Bd.bytes hml0 Bd.returns Bd.notSynchronized (findClass_of_methodNamed Bd.named) (name_of_methodNamed Bd.named Bd.method).1 hZ (by rw [← hh, Bd.state]; rfl)
theorem go_iload (X : Stand p l e R s m args below meth c T locs cells slots) (hx : p.tables.exec = Jvm.exec) {k : Nat} {v : Int32} (hd : decode c.code pc = .ok (.iload k, 2)) (hp : pc + 2 = q) (hl : ls[k]? = some (.val (.int v))) (K : Go p e below s Q ce sl T (mkF m q ls (.int v :: st))) : Go p e below s Q ce sl T (mkF m pc ls st) := by
  subst hp
  exact K.to fun _ r => XS.iload X.here hx rfl hd hl r
theorem go_iloadN (X : Stand p l e R s m args below meth c T locs cells slots) (hx : p.tables.exec = Jvm.exec) {k : Fin 4} {v : Int32} (hd : decode c.code pc = .ok (.iload_n k, 1)) (hp : pc + 1 = q) (hl : ls[k.val]? = some (.val (.int v))) (K : Go p e below s Q ce sl T (mkF m q ls (.int v :: st))) : Go p e below s Q ce sl T (mkF m pc ls st) := by
  subst hp
  exact K.to fun _ r => XS.iloadN X.here hx rfl hd hl r
theorem go_istore (X : Stand p l e R s m args below meth c T locs cells slots) (hx : p.tables.exec = Jvm.exec) {k : Nat} {v : Int32} {l' : Array Slot} (hd : decode c.code pc = .ok (.istore k, 2)) (hp : pc + 2 = q) (hl : storeLocals ls k (.int v) = some l') (K : Go p e below s Q ce sl T (mkF m q l' st)) : Go p e below s Q ce sl T (mkF m pc ls (.int v :: st)) := by
  subst hp
  exact K.to fun _ r => XS.istore X.here hx rfl hd rfl hl r
theorem go_istoreN (X : Stand p l e R s m args below meth c T locs cells slots) (hx : p.tables.exec = Jvm.exec) {k : Fin 4} {v : Int32} {l' : Array Slot} (hd : decode c.code pc = .ok (.istore_n k, 1)) (hp : pc + 1 = q) (hl : storeLocals ls k.val (.int v) = some l') (K : Go p e below s Q ce sl T (mkF m q l' st)) : Go p e below s Q ce sl T (mkF m pc ls (.int v :: st)) := by
  subst hp
  exact K.to fun _ r => XS.istoreN X.here hx rfl hd rfl hl r
theorem go_lload (X : Stand p l e R s m args below meth c T locs cells slots) (hx : p.tables.exec = Jvm.exec) {k : Nat} {v : Int64} (hd : decode c.code pc = .ok (.lload k, 2)) (hp : pc + 2 = q) (hl : ls[k]? = some (.val (.long v))) (K : Go p e below s Q ce sl T (mkF m q ls (.long v :: st))) : Go p e below s Q ce sl T (mkF m pc ls st) := by
  subst hp
  exact K.to fun _ r => XS.lload X.here hx rfl hd hl r
theorem go_lloadN (X : Stand p l e R s m args below meth c T locs cells slots) (hx : p.tables.exec = Jvm.exec) {k : Fin 4} {v : Int64} (hd : decode c.code pc = .ok (.lload_n k, 1)) (hp : pc + 1 = q) (hl : ls[k.val]? = some (.val (.long v))) (K : Go p e below s Q ce sl T (mkF m q ls (.long v :: st))) : Go p e below s Q ce sl T (mkF m pc ls st) := by
  subst hp
  exact K.to fun _ r => XS.lloadN X.here hx rfl hd hl r
theorem go_lstore (X : Stand p l e R s m args below meth c T locs cells slots) (hx : p.tables.exec = Jvm.exec) {k : Nat} {v : Int64} {l' : Array Slot} (hd : decode c.code pc = .ok (.lstore k, 2)) (hp : pc + 2 = q) (hl : storeLocals ls k (.long v) = some l') (K : Go p e below s Q ce sl T (mkF m q l' st)) : Go p e below s Q ce sl T (mkF m pc ls (.long v :: st)) := by
  subst hp
  exact K.to fun _ r => XS.lstore X.here hx rfl hd rfl hl r
theorem go_lstoreN (X : Stand p l e R s m args below meth c T locs cells slots) (hx : p.tables.exec = Jvm.exec) {k : Fin 4} {v : Int64} {l' : Array Slot} (hd : decode c.code pc = .ok (.lstore_n k, 1)) (hp : pc + 1 = q) (hl : storeLocals ls k.val (.long v) = some l') (K : Go p e below s Q ce sl T (mkF m q l' st)) : Go p e below s Q ce sl T (mkF m pc ls (.long v :: st)) := by
  subst hp
  exact K.to fun _ r => XS.lstoreN X.here hx rfl hd rfl hl r
theorem go_dload (X : Stand p l e R s m args below meth c T locs cells slots) (hx : p.tables.exec = Jvm.exec) {k : Nat} {v : UInt64} (hd : decode c.code pc = .ok (.dload k, 2)) (hp : pc + 2 = q) (hl : ls[k]? = some (.val (.double v))) (K : Go p e below s Q ce sl T (mkF m q ls (.double v :: st))) : Go p e below s Q ce sl T (mkF m pc ls st) := by
  subst hp
  exact K.to fun _ r => XS.dload X.here hx rfl hd hl r
theorem go_dloadN (X : Stand p l e R s m args below meth c T locs cells slots) (hx : p.tables.exec = Jvm.exec) {k : Fin 4} {v : UInt64} (hd : decode c.code pc = .ok (.dload_n k, 1)) (hp : pc + 1 = q) (hl : ls[k.val]? = some (.val (.double v))) (K : Go p e below s Q ce sl T (mkF m q ls (.double v :: st))) : Go p e below s Q ce sl T (mkF m pc ls st) := by
  subst hp
  exact K.to fun _ r => XS.dloadN X.here hx rfl hd hl r
theorem go_dstore (X : Stand p l e R s m args below meth c T locs cells slots) (hx : p.tables.exec = Jvm.exec) {k : Nat} {v : UInt64} {l' : Array Slot} (hd : decode c.code pc = .ok (.dstore k, 2)) (hp : pc + 2 = q) (hl : storeLocals ls k (.double v) = some l') (K : Go p e below s Q ce sl T (mkF m q l' st)) : Go p e below s Q ce sl T (mkF m pc ls (.double v :: st)) := by
  subst hp
  exact K.to fun _ r => XS.dstore X.here hx rfl hd rfl hl r
theorem go_dstoreN (X : Stand p l e R s m args below meth c T locs cells slots) (hx : p.tables.exec = Jvm.exec) {k : Fin 4} {v : UInt64} {l' : Array Slot} (hd : decode c.code pc = .ok (.dstore_n k, 1)) (hp : pc + 1 = q) (hl : storeLocals ls k.val (.double v) = some l') (K : Go p e below s Q ce sl T (mkF m q l' st)) : Go p e below s Q ce sl T (mkF m pc ls (.double v :: st)) := by
  subst hp
  exact K.to fun _ r => XS.dstoreN X.here hx rfl hd rfl hl r
theorem go_fload (X : Stand p l e R s m args below meth c T locs cells slots) (hx : p.tables.exec = Jvm.exec) {k : Nat} {v : UInt32} (hd : decode c.code pc = .ok (.fload k, 2)) (hp : pc + 2 = q) (hl : ls[k]? = some (.val (.float v))) (K : Go p e below s Q ce sl T (mkF m q ls (.float v :: st))) : Go p e below s Q ce sl T (mkF m pc ls st) := by
  subst hp
  exact K.to fun _ r => XS.fload X.here hx rfl hd hl r
theorem go_floadN (X : Stand p l e R s m args below meth c T locs cells slots) (hx : p.tables.exec = Jvm.exec) {k : Fin 4} {v : UInt32} (hd : decode c.code pc = .ok (.fload_n k, 1)) (hp : pc + 1 = q) (hl : ls[k.val]? = some (.val (.float v))) (K : Go p e below s Q ce sl T (mkF m q ls (.float v :: st))) : Go p e below s Q ce sl T (mkF m pc ls st) := by
  subst hp
  exact K.to fun _ r => XS.floadN X.here hx rfl hd hl r
theorem go_fstore (X : Stand p l e R s m args below meth c T locs cells slots) (hx : p.tables.exec = Jvm.exec) {k : Nat} {v : UInt32} {l' : Array Slot} (hd : decode c.code pc = .ok (.fstore k, 2)) (hp : pc + 2 = q) (hl : storeLocals ls k (.float v) = some l') (K : Go p e below s Q ce sl T (mkF m q l' st)) : Go p e below s Q ce sl T (mkF m pc ls (.float v :: st)) := by
  subst hp
  exact K.to fun _ r => XS.fstore X.here hx rfl hd rfl hl r
theorem go_fstoreN (X : Stand p l e R s m args below meth c T locs cells slots) (hx : p.tables.exec = Jvm.exec) {k : Fin 4} {v : UInt32} {l' : Array Slot} (hd : decode c.code pc = .ok (.fstore_n k, 1)) (hp : pc + 1 = q) (hl : storeLocals ls k.val (.float v) = some l') (K : Go p e below s Q ce sl T (mkF m q l' st)) : Go p e below s Q ce sl T (mkF m pc ls (.float v :: st)) := by
  subst hp
  exact K.to fun _ r => XS.fstoreN X.here hx rfl hd rfl hl r
theorem go_aload (X : Stand p l e R s m args below meth c T locs cells slots) (hx : p.tables.exec = Jvm.exec) {k : Nat} {v : Value} (hd : decode c.code pc = .ok (.aload k, 2)) (hp : pc + 2 = q) (hl : ls[k]? = some (.val v)) (hv : v.isRef = true) (K : Go p e below s Q ce sl T (mkF m q ls (v :: st))) : Go p e below s Q ce sl T (mkF m pc ls st) := by
  subst hp
  exact K.to fun _ r => XS.aload X.here hx rfl hd hl hv r
theorem go_aloadN (X : Stand p l e R s m args below meth c T locs cells slots) (hx : p.tables.exec = Jvm.exec) {k : Fin 4} {v : Value} (hd : decode c.code pc = .ok (.aload_n k, 1)) (hp : pc + 1 = q) (hl : ls[k.val]? = some (.val v)) (hv : v.isRef = true) (K : Go p e below s Q ce sl T (mkF m q ls (v :: st))) : Go p e below s Q ce sl T (mkF m pc ls st) := by
  subst hp
  exact K.to fun _ r => XS.aloadN X.here hx rfl hd hl hv r
theorem go_astore (X : Stand p l e R s m args below meth c T locs cells slots) (hx : p.tables.exec = Jvm.exec) {k : Nat} {v : Value} {l' : Array Slot} (hd : decode c.code pc = .ok (.astore k, 2)) (hp : pc + 2 = q) (hv : v.isRef = true) (hl : storeLocals ls k v = some l') (K : Go p e below s Q ce sl T (mkF m q l' st)) : Go p e below s Q ce sl T (mkF m pc ls (v :: st)) := by
  subst hp
  exact K.to fun _ r => XS.astore X.here hx rfl hd rfl hv hl r
theorem go_astoreN (X : Stand p l e R s m args below meth c T locs cells slots) (hx : p.tables.exec = Jvm.exec) {k : Fin 4} {v : Value} {l' : Array Slot} (hd : decode c.code pc = .ok (.astore_n k, 1)) (hp : pc + 1 = q) (hv : v.isRef = true) (hl : storeLocals ls k.val v = some l') (K : Go p e below s Q ce sl T (mkF m q l' st)) : Go p e below s Q ce sl T (mkF m pc ls (v :: st)) := by
  subst hp
  exact K.to fun _ r => XS.astoreN X.here hx rfl hd rfl hv hl r
theorem go_iconst (X : Stand p l e R s m args below meth c T locs cells slots) (hx : p.tables.exec = Jvm.exec) {i : Int} {v : Int32} (hd : decode c.code pc = .ok (.iconst i, 1)) (hp : pc + 1 = q) (hv : Int32.ofInt i = v) (K : Go p e below s Q ce sl T (mkF m q ls (.int v :: st))) : Go p e below s Q ce sl T (mkF m pc ls st) := by
  subst hp
  exact K.to fun _ r => XS.iconst X.here hx rfl hd (hv ▸ r)
theorem go_bipush (X : Stand p l e R s m args below meth c T locs cells slots) (hx : p.tables.exec = Jvm.exec) {i : Int} {v : Int32} (hd : decode c.code pc = .ok (.bipush i, 2)) (hp : pc + 2 = q) (hv : (Int8.ofInt i).toInt32 = v) (K : Go p e below s Q ce sl T (mkF m q ls (.int v :: st))) : Go p e below s Q ce sl T (mkF m pc ls st) := by
  subst hp
  exact K.to fun _ r => XS.bipush X.here hx rfl hd (hv ▸ r)
theorem go_sipush (X : Stand p l e R s m args below meth c T locs cells slots) (hx : p.tables.exec = Jvm.exec) {i : Int} {v : Int32} (hd : decode c.code pc = .ok (.sipush i, 3)) (hp : pc + 3 = q) (hv : (Int16.ofInt i).toInt32 = v) (K : Go p e below s Q ce sl T (mkF m q ls (.int v :: st))) : Go p e below s Q ce sl T (mkF m pc ls st) := by
  subst hp
  exact K.to fun _ r => XS.sipush X.here hx rfl hd (hv ▸ r)
theorem go_lconst (X : Stand p l e R s m args below meth c T locs cells slots) (hx : p.tables.exec = Jvm.exec) {k : Fin 2} {v : Int64} (hd : decode c.code pc = .ok (.lconst k, 1)) (hp : pc + 1 = q) (hv : Int64.ofNat k = v) (K : Go p e below s Q ce sl T (mkF m q ls (.long v :: st))) : Go p e below s Q ce sl T (mkF m pc ls st) := by
  subst hp
  exact K.to fun _ r => XS.lconst X.here hx rfl hd (hv ▸ r)
theorem go_aconstNull (X : Stand p l e R s m args below meth c T locs cells slots) (hx : p.tables.exec = Jvm.exec)  (hd : decode c.code pc = .ok (.aconst_null, 1)) (hp : pc + 1 = q)  (K : Go p e below s Q ce sl T (mkF m q ls (.null :: st))) : Go p e below s Q ce sl T (mkF m pc ls st) := by
  subst hp
  exact K.to fun _ r => XS.aconstNull X.here hx rfl hd r
theorem go_dconst0 (X : Stand p l e R s m args below meth c T locs cells slots) (hx : p.tables.exec = Jvm.exec) {v : UInt64} (hd : decode c.code pc = .ok (.dconst 0, 1)) (hp : pc + 1 = q) (hv : FP.dconst0 = v) (K : Go p e below s Q ce sl T (mkF m q ls (.double v :: st))) : Go p e below s Q ce sl T (mkF m pc ls st) := by
  subst hp
  exact K.to fun _ r => XS.dconst0 X.here hx rfl hd hv r
theorem go_dconst1 (X : Stand p l e R s m args below meth c T locs cells slots) (hx : p.tables.exec = Jvm.exec) {v : UInt64} (hd : decode c.code pc = .ok (.dconst 1, 1)) (hp : pc + 1 = q) (hv : FP.dconst1 = v) (K : Go p e below s Q ce sl T (mkF m q ls (.double v :: st))) : Go p e below s Q ce sl T (mkF m pc ls st) := by
  subst hp
  exact K.to fun _ r => XS.dconst1 X.here hx rfl hd hv r
theorem go_iadd (X : Stand p l e R s m args below meth c T locs cells slots) (hx : p.tables.exec = Jvm.exec) {x y v : Int32} (hd : decode c.code pc = .ok (.iadd, 1)) (hp : pc + 1 = q) (hv : x + y = v) (K : Go p e below s Q ce sl T (mkF m q ls (.int v :: st))) : Go p e below s Q ce sl T (mkF m pc ls (.int y :: .int x :: st)) := by
  subst hp
  exact K.to fun _ r => XS.iadd X.here hx rfl hd rfl (hv ▸ r)
theorem go_isub (X : Stand p l e R s m args below meth c T locs cells slots) (hx : p.tables.exec = Jvm.exec) {x y v : Int32} (hd : decode c.code pc = .ok (.isub, 1)) (hp : pc + 1 = q) (hv : x - y = v) (K : Go p e below s Q ce sl T (mkF m q ls (.int v :: st))) : Go p e below s Q ce sl T (mkF m pc ls (.int y :: .int x :: st)) := by
  subst hp
  exact K.to fun _ r => XS.isub X.here hx rfl hd rfl (hv ▸ r)
theorem go_imul (X : Stand p l e R s m args below meth c T locs cells slots) (hx : p.tables.exec = Jvm.exec) {x y v : Int32} (hd : decode c.code pc = .ok (.imul, 1)) (hp : pc + 1 = q) (hv : x * y = v) (K : Go p e below s Q ce sl T (mkF m q ls (.int v :: st))) : Go p e below s Q ce sl T (mkF m pc ls (.int y :: .int x :: st)) := by
  subst hp
  exact K.to fun _ r => XS.imul X.here hx rfl hd rfl (hv ▸ r)
theorem go_iand (X : Stand p l e R s m args below meth c T locs cells slots) (hx : p.tables.exec = Jvm.exec) {x y v : Int32} (hd : decode c.code pc = .ok (.iand, 1)) (hp : pc + 1 = q) (hv : x &&& y = v) (K : Go p e below s Q ce sl T (mkF m q ls (.int v :: st))) : Go p e below s Q ce sl T (mkF m pc ls (.int y :: .int x :: st)) := by
  subst hp
  exact K.to fun _ r => XS.iand X.here hx rfl hd rfl (hv ▸ r)
theorem go_ior (X : Stand p l e R s m args below meth c T locs cells slots) (hx : p.tables.exec = Jvm.exec) {x y v : Int32} (hd : decode c.code pc = .ok (.ior, 1)) (hp : pc + 1 = q) (hv : x ||| y = v) (K : Go p e below s Q ce sl T (mkF m q ls (.int v :: st))) : Go p e below s Q ce sl T (mkF m pc ls (.int y :: .int x :: st)) := by
  subst hp
  exact K.to fun _ r => XS.ior X.here hx rfl hd rfl (hv ▸ r)
theorem go_ixor (X : Stand p l e R s m args below meth c T locs cells slots) (hx : p.tables.exec = Jvm.exec) {x y v : Int32} (hd : decode c.code pc = .ok (.ixor, 1)) (hp : pc + 1 = q) (hv : x ^^^ y = v) (K : Go p e below s Q ce sl T (mkF m q ls (.int v :: st))) : Go p e below s Q ce sl T (mkF m pc ls (.int y :: .int x :: st)) := by
  subst hp
  exact K.to fun _ r => XS.ixor X.here hx rfl hd rfl (hv ▸ r)
theorem go_ineg (X : Stand p l e R s m args below meth c T locs cells slots) (hx : p.tables.exec = Jvm.exec) {x v : Int32} (hd : decode c.code pc = .ok (.ineg, 1)) (hp : pc + 1 = q) (hv : -x = v) (K : Go p e below s Q ce sl T (mkF m q ls (.int v :: st))) : Go p e below s Q ce sl T (mkF m pc ls (.int x :: st)) := by
  subst hp
  exact K.to fun _ r => XS.ineg X.here hx rfl hd rfl (hv ▸ r)
theorem go_idiv (X : Stand p l e R s m args below meth c T locs cells slots) (hx : p.tables.exec = Jvm.exec) {x y v : Int32} (hd : decode c.code pc = .ok (.idiv, 1)) (hp : pc + 1 = q) (hy : y ≠ 0) (hv : x / y = v) (K : Go p e below s Q ce sl T (mkF m q ls (.int v :: st))) : Go p e below s Q ce sl T (mkF m pc ls (.int y :: .int x :: st)) := by
  subst hp
  exact K.to fun _ r => XS.idiv X.here hx rfl hd rfl hy (hv ▸ r)
theorem go_ladd (X : Stand p l e R s m args below meth c T locs cells slots) (hx : p.tables.exec = Jvm.exec) {x y v : Int64} (hd : decode c.code pc = .ok (.ladd, 1)) (hp : pc + 1 = q) (hv : x + y = v) (K : Go p e below s Q ce sl T (mkF m q ls (.long v :: st))) : Go p e below s Q ce sl T (mkF m pc ls (.long y :: .long x :: st)) := by
  subst hp
  exact K.to fun _ r => XS.ladd X.here hx rfl hd rfl (hv ▸ r)
theorem go_lsub (X : Stand p l e R s m args below meth c T locs cells slots) (hx : p.tables.exec = Jvm.exec) {x y v : Int64} (hd : decode c.code pc = .ok (.lsub, 1)) (hp : pc + 1 = q) (hv : x - y = v) (K : Go p e below s Q ce sl T (mkF m q ls (.long v :: st))) : Go p e below s Q ce sl T (mkF m pc ls (.long y :: .long x :: st)) := by
  subst hp
  exact K.to fun _ r => XS.lsub X.here hx rfl hd rfl (hv ▸ r)
theorem go_lmul (X : Stand p l e R s m args below meth c T locs cells slots) (hx : p.tables.exec = Jvm.exec) {x y v : Int64} (hd : decode c.code pc = .ok (.lmul, 1)) (hp : pc + 1 = q) (hv : x * y = v) (K : Go p e below s Q ce sl T (mkF m q ls (.long v :: st))) : Go p e below s Q ce sl T (mkF m pc ls (.long y :: .long x :: st)) := by
  subst hp
  exact K.to fun _ r => XS.lmul X.here hx rfl hd rfl (hv ▸ r)
theorem go_land (X : Stand p l e R s m args below meth c T locs cells slots) (hx : p.tables.exec = Jvm.exec) {x y v : Int64} (hd : decode c.code pc = .ok (.land, 1)) (hp : pc + 1 = q) (hv : x &&& y = v) (K : Go p e below s Q ce sl T (mkF m q ls (.long v :: st))) : Go p e below s Q ce sl T (mkF m pc ls (.long y :: .long x :: st)) := by
  subst hp
  exact K.to fun _ r => XS.land X.here hx rfl hd rfl (hv ▸ r)
theorem go_lor (X : Stand p l e R s m args below meth c T locs cells slots) (hx : p.tables.exec = Jvm.exec) {x y v : Int64} (hd : decode c.code pc = .ok (.lor, 1)) (hp : pc + 1 = q) (hv : x ||| y = v) (K : Go p e below s Q ce sl T (mkF m q ls (.long v :: st))) : Go p e below s Q ce sl T (mkF m pc ls (.long y :: .long x :: st)) := by
  subst hp
  exact K.to fun _ r => XS.lor X.here hx rfl hd rfl (hv ▸ r)
theorem go_lxor (X : Stand p l e R s m args below meth c T locs cells slots) (hx : p.tables.exec = Jvm.exec) {x y v : Int64} (hd : decode c.code pc = .ok (.lxor, 1)) (hp : pc + 1 = q) (hv : x ^^^ y = v) (K : Go p e below s Q ce sl T (mkF m q ls (.long v :: st))) : Go p e below s Q ce sl T (mkF m pc ls (.long y :: .long x :: st)) := by
  subst hp
  exact K.to fun _ r => XS.lxor X.here hx rfl hd rfl (hv ▸ r)
theorem go_lneg (X : Stand p l e R s m args below meth c T locs cells slots) (hx : p.tables.exec = Jvm.exec) {x v : Int64} (hd : decode c.code pc = .ok (.lneg, 1)) (hp : pc + 1 = q) (hv : -x = v) (K : Go p e below s Q ce sl T (mkF m q ls (.long v :: st))) : Go p e below s Q ce sl T (mkF m pc ls (.long x :: st)) := by
  subst hp
  exact K.to fun _ r => XS.lneg X.here hx rfl hd rfl (hv ▸ r)
theorem go_ldiv (X : Stand p l e R s m args below meth c T locs cells slots) (hx : p.tables.exec = Jvm.exec) {x y v : Int64} (hd : decode c.code pc = .ok (.ldiv, 1)) (hp : pc + 1 = q) (hy : y ≠ 0) (hv : x / y = v) (K : Go p e below s Q ce sl T (mkF m q ls (.long v :: st))) : Go p e below s Q ce sl T (mkF m pc ls (.long y :: .long x :: st)) := by
  subst hp
  exact K.to fun _ r => XS.ldiv X.here hx rfl hd rfl hy (hv ▸ r)
theorem go_irem (X : Stand p l e R s m args below meth c T locs cells slots) (hx : p.tables.exec = Jvm.exec) {x y v : Int32} (hd : decode c.code pc = .ok (.irem, 1)) (hp : pc + 1 = q) (hy : y ≠ 0) (hv : x % y = v) (K : Go p e below s Q ce sl T (mkF m q ls (.int v :: st))) : Go p e below s Q ce sl T (mkF m pc ls (.int y :: .int x :: st)) := by
  subst hp
  exact K.to fun _ r => iremM X hx rfl hd rfl hy (hv ▸ r)
theorem go_lrem (X : Stand p l e R s m args below meth c T locs cells slots) (hx : p.tables.exec = Jvm.exec) {x y v : Int64} (hd : decode c.code pc = .ok (.lrem, 1)) (hp : pc + 1 = q) (hy : y ≠ 0) (hv : x % y = v) (K : Go p e below s Q ce sl T (mkF m q ls (.long v :: st))) : Go p e below s Q ce sl T (mkF m pc ls (.long y :: .long x :: st)) := by
  subst hp
  exact K.to fun _ r => XS.lrem X.here hx rfl hd rfl hy ((lrem_mod x y).symm ▸ hv ▸ r)
theorem go_ishl (X : Stand p l e R s m args below meth c T locs cells slots) (hx : p.tables.exec = Jvm.exec) {x v : Int32} {y : Int32} (hd : decode c.code pc = .ok (.ishl, 1)) (hp : pc + 1 = q) (hv : (x <<< (y &&& 31)) = v) (K : Go p e below s Q ce sl T (mkF m q ls (.int v :: st))) : Go p e below s Q ce sl T (mkF m pc ls (.int y :: .int x :: st)) := by
  subst hp
  exact K.to fun _ r => XS.ishl X.here hx rfl hd rfl (hv ▸ r)
theorem go_ishr (X : Stand p l e R s m args below meth c T locs cells slots) (hx : p.tables.exec = Jvm.exec) {x v : Int32} {y : Int32} (hd : decode c.code pc = .ok (.ishr, 1)) (hp : pc + 1 = q) (hv : (x >>> (y &&& 31)) = v) (K : Go p e below s Q ce sl T (mkF m q ls (.int v :: st))) : Go p e below s Q ce sl T (mkF m pc ls (.int y :: .int x :: st)) := by
  subst hp
  exact K.to fun _ r => XS.ishr X.here hx rfl hd rfl (hv ▸ r)
theorem go_iushr (X : Stand p l e R s m args below meth c T locs cells slots) (hx : p.tables.exec = Jvm.exec) {x v : Int32} {y : Int32} (hd : decode c.code pc = .ok (.iushr, 1)) (hp : pc + 1 = q) (hv : ((x.toUInt32 >>> (y &&& 31).toUInt32).toInt32) = v) (K : Go p e below s Q ce sl T (mkF m q ls (.int v :: st))) : Go p e below s Q ce sl T (mkF m pc ls (.int y :: .int x :: st)) := by
  subst hp
  exact K.to fun _ r => XS.iushr X.here hx rfl hd rfl (hv ▸ r)
theorem go_lshl (X : Stand p l e R s m args below meth c T locs cells slots) (hx : p.tables.exec = Jvm.exec) {x v : Int64} {y : Int32} (hd : decode c.code pc = .ok (.lshl, 1)) (hp : pc + 1 = q) (hv : (x <<< (y &&& 0x3f).toInt64) = v) (K : Go p e below s Q ce sl T (mkF m q ls (.long v :: st))) : Go p e below s Q ce sl T (mkF m pc ls (.int y :: .long x :: st)) := by
  subst hp
  exact K.to fun _ r => XS.lshl X.here hx rfl hd rfl (hv ▸ r)
theorem go_lshr (X : Stand p l e R s m args below meth c T locs cells slots) (hx : p.tables.exec = Jvm.exec) {x v : Int64} {y : Int32} (hd : decode c.code pc = .ok (.lshr, 1)) (hp : pc + 1 = q) (hv : (x >>> (y &&& 0x3f).toInt64) = v) (K : Go p e below s Q ce sl T (mkF m q ls (.long v :: st))) : Go p e below s Q ce sl T (mkF m pc ls (.int y :: .long x :: st)) := by
  subst hp
  exact K.to fun _ r => XS.lshr X.here hx rfl hd rfl (hv ▸ r)
theorem go_lushr (X : Stand p l e R s m args below meth c T locs cells slots) (hx : p.tables.exec = Jvm.exec) {x v : Int64} {y : Int32} (hd : decode c.code pc = .ok (.lushr, 1)) (hp : pc + 1 = q) (hv : ((x.toUInt64 >>> (y &&& 0x3f).toInt64.toUInt64).toInt64) = v) (K : Go p e below s Q ce sl T (mkF m q ls (.long v :: st))) : Go p e below s Q ce sl T (mkF m pc ls (.int y :: .long x :: st)) := by
  subst hp
  exact K.to fun _ r => XS.lushr X.here hx rfl hd rfl (hv ▸ r)
theorem go_i2l (X : Stand p l e R s m args below meth c T locs cells slots) (hx : p.tables.exec = Jvm.exec) {x : Int32} {v : Int64} (hd : decode c.code pc = .ok (.i2l, 1)) (hp : pc + 1 = q) (hv : x.toInt64 = v) (K : Go p e below s Q ce sl T (mkF m q ls (.long v :: st))) : Go p e below s Q ce sl T (mkF m pc ls (.int x :: st)) := by
  subst hp
  exact K.to fun _ r => XS.i2l X.here hx rfl hd rfl (hv ▸ r)
theorem go_l2i (X : Stand p l e R s m args below meth c T locs cells slots) (hx : p.tables.exec = Jvm.exec) {x : Int64} {v : Int32} (hd : decode c.code pc = .ok (.l2i, 1)) (hp : pc + 1 = q) (hv : x.toInt32 = v) (K : Go p e below s Q ce sl T (mkF m q ls (.int v :: st))) : Go p e below s Q ce sl T (mkF m pc ls (.long x :: st)) := by
  subst hp
  exact K.to fun _ r => XS.l2i X.here hx rfl hd rfl (hv ▸ r)
theorem go_i2b (X : Stand p l e R s m args below meth c T locs cells slots) (hx : p.tables.exec = Jvm.exec) {x : Int32} {v : Int32} (hd : decode c.code pc = .ok (.i2b, 1)) (hp : pc + 1 = q) (hv : x.toInt8.toInt32 = v) (K : Go p e below s Q ce sl T (mkF m q ls (.int v :: st))) : Go p e below s Q ce sl T (mkF m pc ls (.int x :: st)) := by
  subst hp
  exact K.to fun _ r => XS.i2b X.here hx rfl hd rfl (hv ▸ r)
theorem go_i2s (X : Stand p l e R s m args below meth c T locs cells slots) (hx : p.tables.exec = Jvm.exec) {x : Int32} {v : Int32} (hd : decode c.code pc = .ok (.i2s, 1)) (hp : pc + 1 = q) (hv : x.toInt16.toInt32 = v) (K : Go p e below s Q ce sl T (mkF m q ls (.int v :: st))) : Go p e below s Q ce sl T (mkF m pc ls (.int x :: st)) := by
  subst hp
  exact K.to fun _ r => XS.i2s X.here hx rfl hd rfl (hv ▸ r)
theorem go_i2c (X : Stand p l e R s m args below meth c T locs cells slots) (hx : p.tables.exec = Jvm.exec) {x : Int32} {v : Int32} (hd : decode c.code pc = .ok (.i2c, 1)) (hp : pc + 1 = q) (hv : x.toUInt32.toUInt16.toUInt32.toInt32 = v) (K : Go p e below s Q ce sl T (mkF m q ls (.int v :: st))) : Go p e below s Q ce sl T (mkF m pc ls (.int x :: st)) := by
  subst hp
  exact K.to fun _ r => XS.i2c X.here hx rfl hd rfl (hv ▸ r)
theorem go_lcmp (X : Stand p l e R s m args below meth c T locs cells slots) (hx : p.tables.exec = Jvm.exec) {x y : Int64} (hd : decode c.code pc = .ok (.lcmp, 1)) (hp : pc + 1 = q)  (K : Go p e below s Q ce sl T (mkF m q ls (.int (lcmpW x y) :: st))) : Go p e below s Q ce sl T (mkF m pc ls (.long y :: .long x :: st)) := by
  subst hp
  exact K.to fun _ r => XS.lcmp X.here hx rfl hd rfl r
theorem go_i2d (X : Stand p l e R s m args below meth c T locs cells slots) (hx : p.tables.exec = Jvm.exec) {x : Int32} {v : UInt64} (hd : decode c.code pc = .ok (.i2d, 1)) (hp : pc + 1 = q) (hv : FP.i2d x = v) (K : Go p e below s Q ce sl T (mkF m q ls (.double v :: st))) : Go p e below s Q ce sl T (mkF m pc ls (.int x :: st)) := by
  subst hp
  exact K.to fun _ r => XS.i2dS X.here hx rfl hd rfl hv r
theorem go_l2d (X : Stand p l e R s m args below meth c T locs cells slots) (hx : p.tables.exec = Jvm.exec) {x : Int64} {v : UInt64} (hd : decode c.code pc = .ok (.l2d, 1)) (hp : pc + 1 = q) (hv : FP.l2d x = v) (K : Go p e below s Q ce sl T (mkF m q ls (.double v :: st))) : Go p e below s Q ce sl T (mkF m pc ls (.long x :: st)) := by
  subst hp
  exact K.to fun _ r => XS.l2dS X.here hx rfl hd rfl hv r
theorem go_d2l (X : Stand p l e R s m args below meth c T locs cells slots) (hx : p.tables.exec = Jvm.exec) {x : UInt64} {v : Int64} (hd : decode c.code pc = .ok (.d2l, 1)) (hp : pc + 1 = q) (hv : FP.d2l x = v) (K : Go p e below s Q ce sl T (mkF m q ls (.long v :: st))) : Go p e below s Q ce sl T (mkF m pc ls (.double x :: st)) := by
  subst hp
  exact K.to fun _ r => XS.d2lS X.here hx rfl hd rfl hv r
theorem go_i2f (X : Stand p l e R s m args below meth c T locs cells slots) (hx : p.tables.exec = Jvm.exec) {x : Int32} {v : UInt32} (hd : decode c.code pc = .ok (.i2f, 1)) (hp : pc + 1 = q) (hv : FP.i2f x = v) (K : Go p e below s Q ce sl T (mkF m q ls (.float v :: st))) : Go p e below s Q ce sl T (mkF m pc ls (.int x :: st)) := by
  subst hp
  exact K.to fun _ r => XS.i2fS X.here hx rfl hd rfl hv r
theorem go_f2d (X : Stand p l e R s m args below meth c T locs cells slots) (hx : p.tables.exec = Jvm.exec) {x : UInt32} {v : UInt64} (hd : decode c.code pc = .ok (.f2d, 1)) (hp : pc + 1 = q) (hn : Jvm.Free.Fl.NoNaN64 (FP.f2d x)) (hv : FP.f2d x = v) (K : Go p e below s Q ce sl T (mkF m q ls (.double v :: st))) : Go p e below s Q ce sl T (mkF m pc ls (.float x :: st)) := by
  subst hp
  exact K.to fun _ r => XS.f2dS X.here hx rfl hd rfl hn hv r
theorem go_dcmp (X : Stand p l e R s m args below meth c T locs cells slots) (hx : p.tables.exec = Jvm.exec) {o : CmpOp} {x y : UInt64} {v : Int32} (hd : decode c.code pc = .ok (.dcmp o, 1)) (hp : pc + 1 = q) (hv : cmpValue (FP.dcmp x y) o = v) (K : Go p e below s Q ce sl T (mkF m q ls (.int v :: st))) : Go p e below s Q ce sl T (mkF m pc ls (.double y :: .double x :: st)) := by
  subst hp
  exact K.to fun _ r => XS.dcmpS X.here hx rfl hd rfl hv r
theorem go_dadd (X : Stand p l e R s m args below meth c T locs cells slots) (hx : p.tables.exec = Jvm.exec) {x y v : UInt64} (hd : decode c.code pc = .ok (.dadd, 1)) (hp : pc + 1 = q) (hn : Jvm.Free.Fl.NoNaN64 (FP.dadd x y)) (hv : FP.dadd x y = v) (K : Go p e below s Q ce sl T (mkF m q ls (.double v :: st))) : Go p e below s Q ce sl T (mkF m pc ls (.double y :: .double x :: st)) := by
  subst hp
  exact K.to fun _ r => XS.daddS X.here hx rfl hd rfl hn hv r
theorem go_dsub (X : Stand p l e R s m args below meth c T locs cells slots) (hx : p.tables.exec = Jvm.exec) {x y v : UInt64} (hd : decode c.code pc = .ok (.dsub, 1)) (hp : pc + 1 = q) (hn : Jvm.Free.Fl.NoNaN64 (FP.dsub x y)) (hv : FP.dsub x y = v) (K : Go p e below s Q ce sl T (mkF m q ls (.double v :: st))) : Go p e below s Q ce sl T (mkF m pc ls (.double y :: .double x :: st)) := by
  subst hp
  exact K.to fun _ r => XS.dsubS X.here hx rfl hd rfl hn hv r
theorem go_dmul (X : Stand p l e R s m args below meth c T locs cells slots) (hx : p.tables.exec = Jvm.exec) {x y v : UInt64} (hd : decode c.code pc = .ok (.dmul, 1)) (hp : pc + 1 = q) (hn : Jvm.Free.Fl.NoNaN64 (FP.dmul x y)) (hv : FP.dmul x y = v) (K : Go p e below s Q ce sl T (mkF m q ls (.double v :: st))) : Go p e below s Q ce sl T (mkF m pc ls (.double y :: .double x :: st)) := by
  subst hp
  exact K.to fun _ r => XS.dmulS X.here hx rfl hd rfl hn hv r
theorem go_ddiv (X : Stand p l e R s m args below meth c T locs cells slots) (hx : p.tables.exec = Jvm.exec) {x y v : UInt64} (hd : decode c.code pc = .ok (.ddiv, 1)) (hp : pc + 1 = q) (hn : Jvm.Free.Fl.NoNaN64 (FP.ddiv x y)) (hv : FP.ddiv x y = v) (K : Go p e below s Q ce sl T (mkF m q ls (.double v :: st))) : Go p e below s Q ce sl T (mkF m pc ls (.double y :: .double x :: st)) := by
  subst hp
  exact K.to fun _ r => XS.ddivS X.here hx rfl hd rfl hn hv r
theorem go_dup (X : Stand p l e R s m args below meth c T locs cells slots) (hx : p.tables.exec = Jvm.exec) {v : Value} (hd : decode c.code pc = .ok (.dup, 1)) (hp : pc + 1 = q) (hv : v.category = 1) (K : Go p e below s Q ce sl T (mkF m q ls (v :: v :: st))) : Go p e below s Q ce sl T (mkF m pc ls (v :: st)) := by
  subst hp
  exact K.to fun _ r => XS.dup X.here hx rfl hd rfl hv r
theorem go_pop (X : Stand p l e R s m args below meth c T locs cells slots) (hx : p.tables.exec = Jvm.exec) {v : Value} (hd : decode c.code pc = .ok (.pop, 1)) (hp : pc + 1 = q) (hv : v.category = 1) (K : Go p e below s Q ce sl T (mkF m q ls st)) : Go p e below s Q ce sl T (mkF m pc ls (v :: st)) := by
  subst hp
  exact K.to fun _ r => XS.pop X.here hx rfl hd rfl hv r
theorem go_iinc (X : Stand p l e R s m args below meth c T locs cells slots) (hx : p.tables.exec = Jvm.exec) {k : Nat} {i : Int} {v : Int32} {l' : Array Slot} (hd : decode c.code pc = .ok (.iinc k i, 3)) (hp : pc + 3 = q) (hl : ls[k]? = some (.val (.int v))) (hs : storeLocals ls k (.int (v + Int32.ofInt i)) = some l') (K : Go p e below s Q ce sl T (mkF m q l' st)) : Go p e below s Q ce sl T (mkF m pc ls st) := by
  subst hp
  exact K.to fun _ r => XS.iinc X.here hx rfl hd hl hs r
theorem go_goto (X : Stand p l e R s m args below meth c T locs cells slots) (hx : p.tables.exec = Jvm.exec) {o : Int} (hd : decode c.code pc = .ok (.goto o, 3)) (ho : 0 ≤ (pc : Int) + o) (hq : ((pc : Int) + o).toNat = q) (K : Go p e below s Q ce sl T (mkF m q ls st)) : Go p e below s Q ce sl T (mkF m pc ls st) :=
  K.to fun _ r => XS.goto X.here hx rfl (pc0 := pc) rfl hd ho hq r
theorem go_icmp_lt (X : Stand p l e R s m args below meth c T locs cells slots) (hx : p.tables.exec = Jvm.exec) {x y : Int32} {o : Int} (hd : decode c.code pc = .ok (.if_icmp .lt o, 3)) (hp : pc + 3 = q) (ho : 0 ≤ (pc : Int) + o) (hq : ((pc : Int) + o).toNat = q') (KY : x < y → Go p e below s Q ce sl T (mkF m q' ls st)) (KN : ¬ x < y → Go p e below s Q ce sl T (mkF m q ls st)) : Go p e below s Q ce sl T (mkF m pc ls (.int y :: .int x :: st)) := by
  subst hp
  by_cases hc : x < y
  · exact (KY hc).to fun _ r => XS.icmpYes X.here hx rfl (pc0 := pc) rfl hd rfl (tlt hc).1 ho hq r
  · exact (KN hc).to fun _ r => XS.icmpNo X.here hx rfl hd rfl (flt hc).1 r
theorem go_if_lt (X : Stand p l e R s m args below meth c T locs cells slots) (hx : p.tables.exec = Jvm.exec) {x : Int32} {o : Int} (hd : decode c.code pc = .ok (.ifCond .lt o, 3)) (hp : pc + 3 = q) (ho : 0 ≤ (pc : Int) + o) (hq : ((pc : Int) + o).toNat = q') (KY : x < (0 : Int32) → Go p e below s Q ce sl T (mkF m q' ls st)) (KN : ¬ x < (0 : Int32) → Go p e below s Q ce sl T (mkF m q ls st)) : Go p e below s Q ce sl T (mkF m pc ls (.int x :: st)) := by
  subst hp
  by_cases hc : x < (0 : Int32)
  · exact (KY hc).to fun _ r => XS.ifYes X.here hx rfl (pc0 := pc) rfl hd rfl ((if0 _ _).trans (tlt hc).1) ho hq r
  · exact (KN hc).to fun _ r => XS.ifNo X.here hx rfl hd rfl ((if0 _ _).trans (flt hc).1) r
theorem go_lif_lt (X : Stand p l e R s m args below meth c T locs cells slots) (hx : p.tables.exec = Jvm.exec) {a b : Int64} {o : Int} (hd : decode c.code pc = .ok (.ifCond .lt o, 3)) (hp : pc + 3 = q) (ho : 0 ≤ (pc : Int) + o) (hq : ((pc : Int) + o).toNat = q') (KY : a < b → Go p e below s Q ce sl T (mkF m q' ls st)) (KN : ¬ a < b → Go p e below s Q ce sl T (mkF m q ls st)) : Go p e below s Q ce sl T (mkF m pc ls (.int (lcmpW a b) :: st)) :=
  go_if_lt X hx hd hp ho hq (fun w => KY ((lw_lt _ _).mp w)) (fun w => KN (fun z => w ((lw_lt _ _).mpr z)))
theorem go_icmp_ge (X : Stand p l e R s m args below meth c T locs cells slots) (hx : p.tables.exec = Jvm.exec) {x y : Int32} {o : Int} (hd : decode c.code pc = .ok (.if_icmp .ge o, 3)) (hp : pc + 3 = q) (ho : 0 ≤ (pc : Int) + o) (hq : ((pc : Int) + o).toNat = q') (KY : ¬ x < y → Go p e below s Q ce sl T (mkF m q' ls st)) (KN : x < y → Go p e below s Q ce sl T (mkF m q ls st)) : Go p e below s Q ce sl T (mkF m pc ls (.int y :: .int x :: st)) := by
  subst hp
  by_cases hc : x < y
  · exact (KN hc).to fun _ r => XS.icmpNo X.here hx rfl hd rfl (tlt hc).2.1 r
  · exact (KY hc).to fun _ r => XS.icmpYes X.here hx rfl (pc0 := pc) rfl hd rfl (flt hc).2.1 ho hq r
theorem go_if_ge (X : Stand p l e R s m args below meth c T locs cells slots) (hx : p.tables.exec = Jvm.exec) {x : Int32} {o : Int} (hd : decode c.code pc = .ok (.ifCond .ge o, 3)) (hp : pc + 3 = q) (ho : 0 ≤ (pc : Int) + o) (hq : ((pc : Int) + o).toNat = q') (KY : ¬ x < (0 : Int32) → Go p e below s Q ce sl T (mkF m q' ls st)) (KN : x < (0 : Int32) → Go p e below s Q ce sl T (mkF m q ls st)) : Go p e below s Q ce sl T (mkF m pc ls (.int x :: st)) := by
  subst hp
  by_cases hc : x < (0 : Int32)
  · exact (KN hc).to fun _ r => XS.ifNo X.here hx rfl hd rfl ((if0 _ _).trans (tlt hc).2.1) r
  · exact (KY hc).to fun _ r => XS.ifYes X.here hx rfl (pc0 := pc) rfl hd rfl ((if0 _ _).trans (flt hc).2.1) ho hq r
theorem go_lif_ge (X : Stand p l e R s m args below meth c T locs cells slots) (hx : p.tables.exec = Jvm.exec) {a b : Int64} {o : Int} (hd : decode c.code pc = .ok (.ifCond .ge o, 3)) (hp : pc + 3 = q) (ho : 0 ≤ (pc : Int) + o) (hq : ((pc : Int) + o).toNat = q') (KY : ¬ a < b → Go p e below s Q ce sl T (mkF m q' ls st)) (KN : a < b → Go p e below s Q ce sl T (mkF m q ls st)) : Go p e below s Q ce sl T (mkF m pc ls (.int (lcmpW a b) :: st)) :=
  go_if_ge X hx hd hp ho hq (fun w => KY (fun z => w ((lw_lt _ _).mpr z))) (fun w => KN ((lw_lt _ _).mp w))
theorem go_icmp_gt (X : Stand p l e R s m args below meth c T locs cells slots) (hx : p.tables.exec = Jvm.exec) {x y : Int32} {o : Int} (hd : decode c.code pc = .ok (.if_icmp .gt o, 3)) (hp : pc + 3 = q) (ho : 0 ≤ (pc : Int) + o) (hq : ((pc : Int) + o).toNat = q') (KY : y < x → Go p e below s Q ce sl T (mkF m q' ls st)) (KN : ¬ y < x → Go p e below s Q ce sl T (mkF m q ls st)) : Go p e below s Q ce sl T (mkF m pc ls (.int y :: .int x :: st)) := by
  subst hp
  by_cases hc : y < x
  · exact (KY hc).to fun _ r => XS.icmpYes X.here hx rfl (pc0 := pc) rfl hd rfl (tlt hc).2.2.1 ho hq r
  · exact (KN hc).to fun _ r => XS.icmpNo X.here hx rfl hd rfl (flt hc).2.2.1 r
theorem go_if_gt (X : Stand p l e R s m args below meth c T locs cells slots) (hx : p.tables.exec = Jvm.exec) {x : Int32} {o : Int} (hd : decode c.code pc = .ok (.ifCond .gt o, 3)) (hp : pc + 3 = q) (ho : 0 ≤ (pc : Int) + o) (hq : ((pc : Int) + o).toNat = q') (KY : (0 : Int32) < x → Go p e below s Q ce sl T (mkF m q' ls st)) (KN : ¬ (0 : Int32) < x → Go p e below s Q ce sl T (mkF m q ls st)) : Go p e below s Q ce sl T (mkF m pc ls (.int x :: st)) := by
  subst hp
  by_cases hc : (0 : Int32) < x
  · exact (KY hc).to fun _ r => XS.ifYes X.here hx rfl (pc0 := pc) rfl hd rfl ((if0 _ _).trans (tlt hc).2.2.1) ho hq r
  · exact (KN hc).to fun _ r => XS.ifNo X.here hx rfl hd rfl ((if0 _ _).trans (flt hc).2.2.1) r
theorem go_lif_gt (X : Stand p l e R s m args below meth c T locs cells slots) (hx : p.tables.exec = Jvm.exec) {a b : Int64} {o : Int} (hd : decode c.code pc = .ok (.ifCond .gt o, 3)) (hp : pc + 3 = q) (ho : 0 ≤ (pc : Int) + o) (hq : ((pc : Int) + o).toNat = q') (KY : b < a → Go p e below s Q ce sl T (mkF m q' ls st)) (KN : ¬ b < a → Go p e below s Q ce sl T (mkF m q ls st)) : Go p e below s Q ce sl T (mkF m pc ls (.int (lcmpW a b) :: st)) :=
  go_if_gt X hx hd hp ho hq (fun w => KY ((lw_gt _ _).mp w)) (fun w => KN (fun z => w ((lw_gt _ _).mpr z)))
theorem go_icmp_le (X : Stand p l e R s m args below meth c T locs cells slots) (hx : p.tables.exec = Jvm.exec) {x y : Int32} {o : Int} (hd : decode c.code pc = .ok (.if_icmp .le o, 3)) (hp : pc + 3 = q) (ho : 0 ≤ (pc : Int) + o) (hq : ((pc : Int) + o).toNat = q') (KY : ¬ y < x → Go p e below s Q ce sl T (mkF m q' ls st)) (KN : y < x → Go p e below s Q ce sl T (mkF m q ls st)) : Go p e below s Q ce sl T (mkF m pc ls (.int y :: .int x :: st)) := by
  subst hp
  by_cases hc : y < x
  · exact (KN hc).to fun _ r => XS.icmpNo X.here hx rfl hd rfl (tlt hc).2.2.2 r
  · exact (KY hc).to fun _ r => XS.icmpYes X.here hx rfl (pc0 := pc) rfl hd rfl (flt hc).2.2.2 ho hq r
theorem go_if_le (X : Stand p l e R s m args below meth c T locs cells slots) (hx : p.tables.exec = Jvm.exec) {x : Int32} {o : Int} (hd : decode c.code pc = .ok (.ifCond .le o, 3)) (hp : pc + 3 = q) (ho : 0 ≤ (pc : Int) + o) (hq : ((pc : Int) + o).toNat = q') (KY : ¬ (0 : Int32) < x → Go p e below s Q ce sl T (mkF m q' ls st)) (KN : (0 : Int32) < x → Go p e below s Q ce sl T (mkF m q ls st)) : Go p e below s Q ce sl T (mkF m pc ls (.int x :: st)) := by
  subst hp
  by_cases hc : (0 : Int32) < x
  · exact (KN hc).to fun _ r => XS.ifNo X.here hx rfl hd rfl ((if0 _ _).trans (tlt hc).2.2.2) r
  · exact (KY hc).to fun _ r => XS.ifYes X.here hx rfl (pc0 := pc) rfl hd rfl ((if0 _ _).trans (flt hc).2.2.2) ho hq r
theorem go_lif_le (X : Stand p l e R s m args below meth c T locs cells slots) (hx : p.tables.exec = Jvm.exec) {a b : Int64} {o : Int} (hd : decode c.code pc = .ok (.ifCond .le o, 3)) (hp : pc + 3 = q) (ho : 0 ≤ (pc : Int) + o) (hq : ((pc : Int) + o).toNat = q') (KY : ¬ b < a → Go p e below s Q ce sl T (mkF m q' ls st)) (KN : b < a → Go p e below s Q ce sl T (mkF m q ls st)) : Go p e below s Q ce sl T (mkF m pc ls (.int (lcmpW a b) :: st)) :=
  go_if_le X hx hd hp ho hq (fun w => KY (fun z => w ((lw_gt _ _).mpr z))) (fun w => KN ((lw_gt _ _).mp w))
theorem go_icmp_eq (X : Stand p l e R s m args below meth c T locs cells slots) (hx : p.tables.exec = Jvm.exec) {x y : Int32} {o : Int} (hd : decode c.code pc = .ok (.if_icmp .eq o, 3)) (hp : pc + 3 = q) (ho : 0 ≤ (pc : Int) + o) (hq : ((pc : Int) + o).toNat = q') (KY : x = y → Go p e below s Q ce sl T (mkF m q' ls st)) (KN : ¬ x = y → Go p e below s Q ce sl T (mkF m q ls st)) : Go p e below s Q ce sl T (mkF m pc ls (.int y :: .int x :: st)) := by
  subst hp
  by_cases hc : x = y
  · exact (KY hc).to fun _ r => XS.icmpYes X.here hx rfl (pc0 := pc) rfl hd rfl (teq hc).1 ho hq r
  · exact (KN hc).to fun _ r => XS.icmpNo X.here hx rfl hd rfl (feq hc).1 r
theorem go_if_eq (X : Stand p l e R s m args below meth c T locs cells slots) (hx : p.tables.exec = Jvm.exec) {x : Int32} {o : Int} (hd : decode c.code pc = .ok (.ifCond .eq o, 3)) (hp : pc + 3 = q) (ho : 0 ≤ (pc : Int) + o) (hq : ((pc : Int) + o).toNat = q') (KY : x = (0 : Int32) → Go p e below s Q ce sl T (mkF m q' ls st)) (KN : ¬ x = (0 : Int32) → Go p e below s Q ce sl T (mkF m q ls st)) : Go p e below s Q ce sl T (mkF m pc ls (.int x :: st)) := by
  subst hp
  by_cases hc : x = (0 : Int32)
  · exact (KY hc).to fun _ r => XS.ifYes X.here hx rfl (pc0 := pc) rfl hd rfl ((if0 _ _).trans (teq hc).1) ho hq r
  · exact (KN hc).to fun _ r => XS.ifNo X.here hx rfl hd rfl ((if0 _ _).trans (feq hc).1) r
theorem go_lif_eq (X : Stand p l e R s m args below meth c T locs cells slots) (hx : p.tables.exec = Jvm.exec) {a b : Int64} {o : Int} (hd : decode c.code pc = .ok (.ifCond .eq o, 3)) (hp : pc + 3 = q) (ho : 0 ≤ (pc : Int) + o) (hq : ((pc : Int) + o).toNat = q') (KY : a = b → Go p e below s Q ce sl T (mkF m q' ls st)) (KN : ¬ a = b → Go p e below s Q ce sl T (mkF m q ls st)) : Go p e below s Q ce sl T (mkF m pc ls (.int (lcmpW a b) :: st)) :=
  go_if_eq X hx hd hp ho hq (fun w => KY ((lw_eq _ _).mp w)) (fun w => KN (fun z => w ((lw_eq _ _).mpr z)))
theorem go_icmp_ne (X : Stand p l e R s m args below meth c T locs cells slots) (hx : p.tables.exec = Jvm.exec) {x y : Int32} {o : Int} (hd : decode c.code pc = .ok (.if_icmp .ne o, 3)) (hp : pc + 3 = q) (ho : 0 ≤ (pc : Int) + o) (hq : ((pc : Int) + o).toNat = q') (KY : ¬ x = y → Go p e below s Q ce sl T (mkF m q' ls st)) (KN : x = y → Go p e below s Q ce sl T (mkF m q ls st)) : Go p e below s Q ce sl T (mkF m pc ls (.int y :: .int x :: st)) := by
  subst hp
  by_cases hc : x = y
  · exact (KN hc).to fun _ r => XS.icmpNo X.here hx rfl hd rfl (teq hc).2 r
  · exact (KY hc).to fun _ r => XS.icmpYes X.here hx rfl (pc0 := pc) rfl hd rfl (feq hc).2 ho hq r
theorem go_if_ne (X : Stand p l e R s m args below meth c T locs cells slots) (hx : p.tables.exec = Jvm.exec) {x : Int32} {o : Int} (hd : decode c.code pc = .ok (.ifCond .ne o, 3)) (hp : pc + 3 = q) (ho : 0 ≤ (pc : Int) + o) (hq : ((pc : Int) + o).toNat = q') (KY : ¬ x = (0 : Int32) → Go p e below s Q ce sl T (mkF m q' ls st)) (KN : x = (0 : Int32) → Go p e below s Q ce sl T (mkF m q ls st)) : Go p e below s Q ce sl T (mkF m pc ls (.int x :: st)) := by
  subst hp
  by_cases hc : x = (0 : Int32)
  · exact (KN hc).to fun _ r => XS.ifNo X.here hx rfl hd rfl ((if0 _ _).trans (teq hc).2) r
  · exact (KY hc).to fun _ r => XS.ifYes X.here hx rfl (pc0 := pc) rfl hd rfl ((if0 _ _).trans (feq hc).2) ho hq r
theorem go_lif_ne (X : Stand p l e R s m args below meth c T locs cells slots) (hx : p.tables.exec = Jvm.exec) {a b : Int64} {o : Int} (hd : decode c.code pc = .ok (.ifCond .ne o, 3)) (hp : pc + 3 = q) (ho : 0 ≤ (pc : Int) + o) (hq : ((pc : Int) + o).toNat = q') (KY : ¬ a = b → Go p e below s Q ce sl T (mkF m q' ls st)) (KN : a = b → Go p e below s Q ce sl T (mkF m q ls st)) : Go p e below s Q ce sl T (mkF m pc ls (.int (lcmpW a b) :: st)) :=
  go_if_ne X hx hd hp ho hq (fun w => KY (fun z => w ((lw_eq _ _).mpr z))) (fun w => KN ((lw_eq _ _).mp w))
theorem go_ret (X : Stand p l e R s m args below meth c T locs cells slots) (hx : p.tables.exec = Jvm.exec) {w : Value} {t : FieldType} {i : Instr} (hret : meth.sig.returnType = some t) (hlk : meth.locks = false) (hn : narrow t w = w)
    (hi : (i = .ireturn ∧ (t = .int ∨ t = .boolean ∨ t = .byte ∨ t = .char ∨ t = .short) ∧ ∃ z, w = .int z) ∨ (i = .lreturn ∧ t = .long ∧ ∃ z, w = .long z) ∨ (i = .dreturn ∧ t = .double ∧ ∃ z, w = .double z) ∨ (i = .freturn ∧ t = .float ∧ ∃ z, w = .float z) ∨ (i = .areturn ∧ t.isReference = true ∧ w.isRef = true))
    (hd : decode c.code pc = .ok (i, 1)) (hc : cells ≤ ce) (hs : slots ≤ sl) (hQ : Q (some w) T.heap locs) : Go p e below s Q ce sl T (mkF m pc ls (w :: st)) := by
  obtain ⟨fs, hr, hrun, hended, hW, hsame⟩ := X.leave (v := some w) (fun h => by rw [hret] at h; cases h) hlk
  exact ⟨_, _, retOut X hx hret hn hi hd hr, hrun, hended, _, _, rfl, hQ, ⟨_, rfl⟩, hW, hsame.mono hc hs⟩
theorem go_retD (X : Stand p l e R s m args below meth c T locs cells slots) (hx : p.tables.exec = Jvm.exec) {v : UInt64} (hret : meth.sig.returnType = some .double) (hlk : meth.locks = false) (hd : decode c.code pc = .ok (.dreturn, 1)) (hc : cells ≤ ce) (hs : slots ≤ sl) (hQ : Q (some (.double v)) T.heap locs) : Go p e below s Q ce sl T (mkF m pc ls (.double v :: st)) :=
  go_ret X hx hret hlk rfl (Or.inr (Or.inr (Or.inl ⟨rfl, rfl, v, rfl⟩))) hd hc hs hQ
theorem go_retJ (X : Stand p l e R s m args below meth c T locs cells slots) (hx : p.tables.exec = Jvm.exec) {v : Int64} (hret : meth.sig.returnType = some .long) (hlk : meth.locks = false) (hd : decode c.code pc = .ok (.lreturn, 1)) (hc : cells ≤ ce) (hs : slots ≤ sl) (hQ : Q (some (.long v)) T.heap locs) : Go p e below s Q ce sl T (mkF m pc ls (.long v :: st)) :=
  go_ret X hx hret hlk rfl (Or.inr (Or.inl ⟨rfl, rfl, v, rfl⟩)) hd hc hs hQ
theorem go_retI (X : Stand p l e R s m args below meth c T locs cells slots) (hx : p.tables.exec = Jvm.exec) {v : Int32} (hret : meth.sig.returnType = some .int) (hlk : meth.locks = false) (hd : decode c.code pc = .ok (.ireturn, 1)) (hc : cells ≤ ce) (hs : slots ≤ sl) (hQ : Q (some (.int v)) T.heap locs) : Go p e below s Q ce sl T (mkF m pc ls (.int v :: st)) :=
  go_ret X hx hret hlk rfl (Or.inl ⟨rfl, Or.inl rfl, v, rfl⟩) hd hc hs hQ
theorem go_retA (X : Stand p l e R s m args below meth c T locs cells slots) (hx : p.tables.exec = Jvm.exec) {v : Value} {t : FieldType} (hret : meth.sig.returnType = some t) (hlk : meth.locks = false) (ht : t.isReference = true) (hv : v.isRef = true) (hn : narrow t v = v) (hd : decode c.code pc = .ok (.areturn, 1)) (hc : cells ≤ ce) (hs : slots ≤ sl) (hQ : Q (some v) T.heap locs) : Go p e below s Q ce sl T (mkF m pc ls (v :: st)) :=
  go_ret X hx hret hlk hn (Or.inr (Or.inr (Or.inr (Or.inr ⟨rfl, ht, hv⟩)))) hd hc hs hQ
theorem go_retN (X : Stand p l e R s m args below meth c T locs cells slots) (hx : p.tables.exec = Jvm.exec) {z : Int32} {t : FieldType} (ht : t = .boolean ∨ t = .byte ∨ t = .char ∨ t = .short) (hret : meth.sig.returnType = some t) (hlk : meth.locks = false) (hd : decode c.code pc = .ok (.ireturn, 1)) (hc : cells ≤ ce) (hs : slots ≤ sl) (hQ : Q (some (.int (nar t z))) T.heap locs) : Go p e below s Q ce sl T (mkF m pc ls (.int z :: st)) := by
  obtain ⟨fs, hr, hrun, hended, hW, hsame⟩ := X.leave (v := some (.int (nar t z))) (fun h => by rw [hret] at h; cases h) hlk
  exact ⟨_, _, retN X hx hret ht hd hr, hrun, hended, _, _, rfl, hQ, ⟨_, rfl⟩, hW, hsame.mono hc hs⟩
theorem go_retV (X : Stand p l e R s m args below meth c T locs cells slots) (hx : p.tables.exec = Jvm.exec) (hret : meth.sig.returnType = none) (hlk : meth.locks = false) (hd : decode c.code pc = .ok (.return_, 1)) (hc : cells ≤ ce) (hs : slots ≤ sl) (hQ : Q none T.heap locs) : Go p e below s Q ce sl T (mkF m pc ls []) := by
  obtain ⟨fs, hr, hrun, hended, hW, hsame⟩ := X.leave (v := none) (fun _ => rfl) hlk
  exact ⟨_, _, X.returnOut hx hret hd hr, hrun, hended, _, _, rfl, hQ, ⟨_, rfl⟩, hW, hsame.mono hc hs⟩
theorem go_ldcI (X : Stand p l e R s m args below meth c T locs cells slots) (hx : p.tables.exec = Jvm.exec) (hZ : Z.Warmed39 s.vm) {own : String} {index : Nat} {v : Int32} (hown : s.vm.findClass own = some m.cls) (w : (Jvm.Cond.constant own index v).before a0 Z = true) (hd : decode c.code pc = .ok (.ldc index, 2)) (hp : pc + 2 = q) (K : Go p e below s Q ce sl T (mkF m q ls (.int v :: st))) : Go p e below s Q ce sl T (mkF m pc ls st) := by
  subst hp
  exact K.to fun t r => X.ldcInt hx hown (mvT hZ w) (g := mkF m pc ls st) rfl hd t r
theorem go_ldc2J (X : Stand p l e R s m args below meth c T locs cells slots) (hx : p.tables.exec = Jvm.exec) (hZ : Z.Warmed39 s.vm) {own : String} {index : Nat} {v : Int64} (hown : s.vm.findClass own = some m.cls) (w : (Jvm.Cond.constantLong own index v).before a0 Z = true) (hd : decode c.code pc = .ok (.ldc2_w index, 3)) (hp : pc + 3 = q) (K : Go p e below s Q ce sl T (mkF m q ls (.long v :: st))) : Go p e below s Q ce sl T (mkF m pc ls st) := by
  subst hp
  exact K.to fun t r => X.ldc2Long hx hown (mvT hZ w) (g := mkF m pc ls st) rfl hd t r
theorem go_ldc2D (X : Stand p l e R s m args below meth c T locs cells slots) (hx : p.tables.exec = Jvm.exec) (hZ : Z.Warmed39 s.vm) {own : String} {index : Nat} {v : UInt64} (hown : s.vm.findClass own = some m.cls) (w : (Jvm.Cond.constantDouble own index v).before a0 Z = true) (hd : decode c.code pc = .ok (.ldc2_w index, 3)) (hp : pc + 3 = q) (K : Go p e below s Q ce sl T (mkF m q ls (.double v :: st))) : Go p e below s Q ce sl T (mkF m pc ls st) := by
  subst hp
  exact K.to fun t r => X.ldc2DoubleC hx hown (mvT hZ w) (g := mkF m pc ls st) rfl hd t r
theorem go_callS (X : Stand p l e R s m args below meth c T locs cells slots) (hx : p.tables.exec = Jvm.exec) (hZ : Z.Warmed39 s.vm) {own : String} {index : Nat} {y : MethodName} {bytes : ByteArray} {maxL : Nat} {ret : Option FieldType} {rm : Room} {W : Nat} {Qc : Option Value → Heap → List Loc → Prop} (hown : s.vm.findClass own = some m.cls) (eT : T.heap = h)
    (w1 : (Jvm.Cond.methodLink own index y).before a0 Z = true) (w2 : (Jvm.Cond.static y).before a0 Z = true) (w3 : (Jvm.Cond.initialized y.cls).before a0 Z = true) (w4 : (Jvm.Cond.code y bytes maxL ret).before a0 Z = true) (hy : y.cls ≠ "java/lang/invoke/MethodHandle" ∧ y.cls ≠ "java/lang/invoke/VarHandle")
    (argsL rest : List Value) (hM : Con l y bytes maxL ret [] rm Z argsL.toArray h Qc) (hsz : ls.size = c.maxLocals) (hst : st = argsL.reverse ++ rest) (hlen : ∀ sig, parseMethodDescriptor y.desc = some sig → argsL.length = sig.parameters.length) (hW : (rest.map fun v => v.category).sum ≤ W)
    (hf : rm.frames + 1 ≤ R.frames) (hl : W + (maxL + 11) + rm.locals ≤ R.locals) (hd : decode c.code pc = .ok (.invokestatic index, 3)) (hp : pc + 3 = q) (hc : cells + rm.cells ≤ R.cells) (hs : slots + rm.slots ≤ R.slots)
    (K : ∀ (T' : State) (L : List Loc) (v : Option Value), Stand p l e R s m args below meth c T' (locs ++ L) (cells + rm.cells) (slots + rm.slots) → Qc v T'.heap L → Go p e below s Q ce sl T' (mkF m q ls (v.toList ++ rest))) : Go p e below s Q ce sl T (mkF m pc ls st) := by
  subst hp
  obtain ⟨v, _, ⟨T', L', k', n'⟩, -, X', ⟨Lc, hQ, l1, y1, z1⟩, stp⟩ := Jvm.LawKit.callS X hx (y := y) hown (mvT hZ w1) (mvT hZ w2) (mvT hZ w3) (mvT hZ w4) hy (backOf (W := W) hM hZ w4 w3 hf hl) (g := mkF m pc ls st) rfl hsz (argsL := argsL) (rest := rest) hlen hst (by show 2 * 0 + _ ≤ _; omega) hd (fun _ _ => ⟨rfl, eT, hc, hs⟩)
  dsimp only [Pt.U, Pt.locs, Pt.cells, Pt.slots] at X' l1 y1 z1 stp hQ
  subst l1 y1 z1
  exact (K T' Lc v X' hQ).to fun t r => stp t r
theorem go_callI (X : Stand p l e R s m args below meth c T locs cells slots) (hx : p.tables.exec = Jvm.exec) (hZ : Z.Warmed39 s.vm) {own : String} {index : Nat} {y : MethodName} {bytes : ByteArray} {maxL : Nat} {rm : Room} {W : Nat} {Qc : Option Value → Heap → List Loc → Prop} (hown : s.vm.findClass own = some m.cls) (eT : T.heap = h) (hy1 : y.name = "<init>")
    (w1 : (Jvm.Cond.methodLink own index y).before a0 Z = true) (w2 : (Jvm.Cond.instanceMethod y).before a0 Z = true) (w3 : (Jvm.Cond.initialized y.cls).before a0 Z = true) (w4 : (Jvm.Cond.code y bytes maxL none).before a0 Z = true) (hy : y.cls ≠ "java/lang/invoke/MethodHandle" ∧ y.cls ≠ "java/lang/invoke/VarHandle")
    (a : Addr) (argsL rest : List Value) (hM : Con l y bytes maxL none [] rm Z (.ref a :: argsL).toArray h Qc) (hsz : ls.size = c.maxLocals) (hst : st = argsL.reverse ++ .ref a :: rest) (hlen : ∀ sig, parseMethodDescriptor y.desc = some sig → argsL.length = sig.parameters.length) (hW : (rest.map fun v => v.category).sum ≤ W)
    (hf : rm.frames + 1 ≤ R.frames) (hl : W + (maxL + 11) + rm.locals ≤ R.locals) (hd : decode c.code pc = .ok (.invokespecial index, 3)) (hp : pc + 3 = q) (hc : cells + rm.cells ≤ R.cells) (hs : slots + rm.slots ≤ R.slots)
    (K : ∀ (T' : State) (L : List Loc) (v : Option Value), Stand p l e R s m args below meth c T' (locs ++ L) (cells + rm.cells) (slots + rm.slots) → Qc v T'.heap L → Go p e below s Q ce sl T' (mkF m q ls (v.toList ++ rest))) : Go p e below s Q ce sl T (mkF m pc ls st) := by
  subst hp
  obtain ⟨v, _, ⟨T', L', k', n'⟩, -, X', ⟨Lc, hQ, l1, y1, z1⟩, stp⟩ := X.specialBack hx (y := y) hy1 hown (mvT hZ w1) (mvT hZ w2) (mvT hZ w4) hy (backOf (W := W) hM hZ w4 w3 hf hl) (g := mkF m pc ls st) rfl hsz (Steps.refl _) (a := a) (argsL := argsL) (rest := rest) hlen hst (by show 2 * 0 + _ ≤ _; omega) hd (fun _ _ => ⟨rfl, eT, hc, hs⟩)
  dsimp only [Pt.U, Pt.locs, Pt.cells, Pt.slots] at X' l1 y1 z1 stp hQ
  subst l1 y1 z1
  exact (K T' Lc v X' hQ).to fun t r => stp.trans r
theorem go_callV (X : Stand p l e R s m args below meth c T locs cells slots) (hx : p.tables.exec = Jvm.exec) (hZ : Z.Warmed39 s.vm) {own C : String} {index : Nat} {y : MethodName} {bytes : ByteArray} {maxL : Nat} {ret : Option FieldType} {rm : Room} {W : Nat} {Qc : Option Value → Heap → List Loc → Prop} {z : MethodName} (hown : s.vm.findClass own = some m.cls) (eT : T.heap = h)
    (w1 : (Jvm.Cond.methodLink own index y).before a0 Z = true) (w2 : (Jvm.Cond.declares y).before a0 Z = true) (hnf : NotFace s y) (w3 : (Jvm.Cond.selects C y z).before a0 Z = true) (w5 : (Jvm.Cond.instanceMethod z).before a0 Z = true) (w6 : (Jvm.Cond.initialized z.cls).before a0 Z = true) (w4 : (Jvm.Cond.code z bytes maxL ret).before a0 Z = true) (hy : y.cls ≠ "java/lang/invoke/MethodHandle" ∧ y.cls ≠ "java/lang/invoke/VarHandle")
    (a : Addr) (argsL rest : List Value) (E : Exa Z h a C) (hM : Con l z bytes maxL ret [] rm Z (.ref a :: argsL).toArray h Qc) (hsz : ls.size = c.maxLocals) (hst : st = argsL.reverse ++ .ref a :: rest) (hlen : ∀ sig, parseMethodDescriptor y.desc = some sig → argsL.length = sig.parameters.length) (hW : (rest.map fun v => v.category).sum ≤ W)
    (hf : rm.frames + 1 ≤ R.frames) (hl : W + (maxL + 11) + rm.locals ≤ R.locals) (hd : decode c.code pc = .ok (.invokevirtual index, 3)) (hp : pc + 3 = q) (hc : cells + rm.cells ≤ R.cells) (hs : slots + rm.slots ≤ R.slots)
    (K : ∀ (T' : State) (L : List Loc) (v : Option Value), Stand p l e R s m args below meth c T' (locs ++ L) (cells + rm.cells) (slots + rm.slots) → Qc v T'.heap L → Go p e below s Q ce sl T' (mkF m q ls (v.toList ++ rest))) : Go p e below s Q ce sl T (mkF m pc ls st) := by
  subst hp
  obtain ⟨cq, kq, qa, qb, qc⟩ := isOf hZ eT E
  obtain ⟨v, _, ⟨T', L', k', n'⟩, -, X', ⟨Lc, hQ, l1, y1, z1⟩, stp⟩ := X.virtualBack hx (y := y) (z := z) hown (mvT hZ w1) (mvT hZ w2) hnf (mvT hZ w3) (mvT hZ w5) hy (backOf (W := W) hM hZ w4 w6 hf hl) qa qc (g := mkF m pc ls st) rfl hsz (Steps.refl _) (argsL := argsL) (rest := rest) hlen hst (by show 2 * 0 + _ ≤ _; omega) hd (fun _ _ => ⟨rfl, eT, hc, hs⟩)
  dsimp only [Pt.U, Pt.locs, Pt.cells, Pt.slots] at X' l1 y1 z1 stp hQ
  subst l1 y1 z1
  exact (K T' Lc v X' hQ).to fun t r => stp.trans r
end OwnWalk

section OwnHeap
variable {p : Program} {l : Launch} {e : Env} {R : Room} {s : State} {m : MethodId} {args : Array Value} {below : List Frame} {meth : Method} {c : Code} {T : State} {locs : List Loc} {cells slots : Nat} {Z : State} {h : Heap} {Q : Option Value → Heap → List Loc → Prop} {ce sl : Nat} {pc q q' : Nat} {ls : Array Slot} {st : List Value} {a0 : Array Value} {n0 : Nat} {a : Addr}
theorem go_getS (X : Stand p l e R s m args below meth c T locs cells slots) (hx : p.tables.exec = Jvm.exec) (hZ : Z.Warmed39 s.vm) {own R0 O n d host : String} {index : Nat} (hown : s.vm.findClass own = some m.cls) (w : (Jvm.Cond.fieldLink own index R0 n d).before a0 Z = true ∨ (Jvm.Cond.fieldLinkNest own index R0 n d host).before a0 Z = true) (via : Via Z R0 O n d) (eT : T.heap = h) {v : Value} (F : Sta Z h O n d v) (hd : decode c.code pc = .ok (.getstatic index, 3)) (hp : pc + 3 = q) (K : ∀ T', Stand p l e R s m args below meth c T' locs cells slots → T'.heap = h → Go p e below s Q ce sl T' (mkF m q ls (v :: st))) : Go p e below s Q ce sl T (mkF m pc ls st) := by
  subst hp
  obtain ⟨T', X', e', st'⟩ := getS2 X hx hZ hown w via eT F (g := mkF m pc ls st) rfl hd
  exact (K T' X' e').to fun t r => st' t r
theorem go_getF (X : Stand p l e R s m args below meth c T locs cells slots) (hx : p.tables.exec = Jvm.exec) (hZ : Z.Warmed39 s.vm) {own R0 O n d host : String} {index : Nat} (hown : s.vm.findClass own = some m.cls) (w : (Jvm.Cond.fieldLink own index R0 n d).before a0 Z = true ∨ (Jvm.Cond.fieldLinkNest own index R0 n d host).before a0 Z = true) (via : Via Z R0 O n d) (eT : T.heap = h) {v : Value} (F : Fld Z h a O n d v) (hd : decode c.code pc = .ok (.getfield index, 3)) (hp : pc + 3 = q) (K : ∀ T', Stand p l e R s m args below meth c T' locs cells slots → T'.heap = h → Go p e below s Q ce sl T' (mkF m q ls (v :: st))) : Go p e below s Q ce sl T (mkF m pc ls (.ref a :: st)) := by
  subst hp
  obtain ⟨T', X', e', st'⟩ := getF X hx hZ hown w via eT F (g := mkF m pc ls (.ref a :: st)) rfl rfl hd
  exact (K T' X' e').to fun t r => st' t r
theorem go_putF (X : Stand p l e R s m args below meth c T locs cells slots) (hx : p.tables.exec = Jvm.exec) (hZ : Z.Warmed39 s.vm) {own R0 O n d host : String} {index : Nat} (hown : s.vm.findClass own = some m.cls) (w : (Jvm.Cond.fieldLink own index R0 n d).before a0 Z = true ∨ (Jvm.Cond.fieldLinkNest own index R0 n d host).before a0 Z = true) (via : Via Z R0 O n d) (eT : T.heap = h) {C : String} {kk : Nat} {ty : FieldType} {v old : Value} (F : Fld Z h a O n d old) (E : Exa Z h a C) (L : (Jvm.Cond.lays C O n d).before a0 Z = true ∨ ((Jvm.Cond.laysFinal C O n d).before a0 Z = true ∧ own = O ∧ meth.name = "<init>")) (wi : (Jvm.Cond.instantiable C kk).before a0 Z = true) (hty : parseFieldDescriptor d = some ty) (hn : narrow ty v = v) (hf : fits ty v = true) (N : Fr n0 locs) (ha : n0 ≤ a) (hd : decode c.code pc = .ok (.putfield index, 3)) (hp : pc + 3 = q)
    (K : ∀ T' h' locs', Stand p l e R s m args below meth c T' locs' cells slots → Fr n0 locs' → T'.heap = h' → Wr h h' a (Jvm.RoadKit.slotOf Z O n d) v → Go p e below s Q ce sl T' (mkF m q ls st)) : Go p e below s Q ce sl T (mkF m pc ls (v :: .ref a :: st)) := by
  subst hp
  obtain ⟨T', h', X', e', W', st'⟩ := putF X hx hZ hown w via eT F E L wi hty hn hf (g := mkF m pc ls (v :: .ref a :: st)) rfl rfl hd
  exact (K T' h' _ X' (Fr.snoc X' N ha) e' W').to fun t r => st' t r
theorem go_newO (X : Stand p l e R s m args below meth c T locs cells slots) (hx : p.tables.exec = Jvm.exec) (hZ : Z.Warmed39 s.vm) {own C : String} {index n : Nat} (hown : s.vm.findClass own = some m.cls) (w : (Jvm.Cond.classLink own index C).before a0 Z = true) (wi : (Jvm.Cond.instantiable C n).before a0 Z = true) (wz : (Jvm.Cond.initialized C).before a0 Z = true) (eT : T.heap = h) (hd : decode c.code pc = .ok (.new index, 3)) (hp : pc + 3 = q) (hc : cells + 1 ≤ R.cells) (hl : slots + n ≤ R.slots)
    (K : ∀ T' h' b, b = h.size → Stand p l e R s m args below meth c T' locs (cells + 1) (slots + n) → T'.heap = h' → Ext h h' → Exa Z h' b C → (∀ {O nm d : String} {ty : FieldType}, Laid Z a0 C O nm d → parseFieldDescriptor d = some ty → Fld Z h' b O nm d (defaultValue ty)) → Go p e below s Q ce sl T' (mkF m q ls (.ref b :: st))) : Go p e below s Q ce sl T (mkF m pc ls st) := by
  subst hp
  obtain ⟨T', h', X', e', E', A', D', -, st'⟩ := newO X hx hZ hown w wi wz eT (g := mkF m pc ls st) rfl hd hc hl
  exact (K T' h' _ rfl X' e' E' A' D').to fun t r => st' t r
theorem go_newP (X : Stand p l e R s m args below meth c T locs cells slots) (hx : p.tables.exec = Jvm.exec) (hZ : Z.Warmed39 s.vm) {aty : ArrayType} (w : (Jvm.Cond.arrayClass (newarray.typeOf aty)).before a0 Z = true) (eT : T.heap = h) (hd : decode c.code pc = .ok (.newarray aty, 2)) (hp : pc + 2 = q) {n : Int32} (hn : ¬ n < 0) (cap : Nat) (hcap : n.toNatClampNeg ≤ cap) (hb : cap * 8 ≤ 536870912) (hc : cells + 1 ≤ R.cells) (hl : slots + cap ≤ R.slots)
    (K : ∀ T' h' kc b, b = h.size → Stand p l e R s m args below meth c T' locs (cells + 1) (slots + cap) → T'.heap = h' → Ext h h' → Arv Z h' b kc (newarray.typeOf aty) n [] (defaultValue (newarray.typeOf aty)) → Go p e below s Q ce sl T' (mkF m q ls (.ref b :: st))) : Go p e below s Q ce sl T (mkF m pc ls (.int n :: st)) := by
  subst hp
  obtain ⟨T', h', kc, X', e', E', A', st'⟩ := newP X hx hZ w eT (g := mkF m pc ls (.int n :: st)) rfl hd rfl hn (cap := cap) hcap hb hc hl
  exact (K T' h' kc _ rfl X' e' E' (Arv.new A' hn)).to fun t r => st' t r
theorem go_initO (X : Stand p l e R s m args below meth c T locs cells slots) (hx : p.tables.exec = Jvm.exec) (hZ : Z.Warmed39 s.vm) {own : String} {index W : Nat} (hown : s.vm.findClass own = some m.cls) (w1 : (Jvm.Cond.methodLink own index Lib.objectInit).before a0 Z = true) (w2 : (Jvm.Cond.instanceMethod Lib.objectInit).before a0 Z = true) (w3 : (Jvm.Cond.code Lib.objectInit ⟨#[0xb1]⟩ 1 none).before a0 Z = true) (eT : T.heap = h) (hsz : ls.size = c.maxLocals) (hd : decode c.code pc = .ok (.invokespecial index, 3)) (hp : pc + 3 = q) (hf : 1 ≤ R.frames) (hW : (st.map fun v => v.category).sum ≤ W) (hl : W + 12 ≤ R.locals) (K : ∀ T', Stand p l e R s m args below meth c T' locs cells slots → T'.heap = h → Go p e below s Q ce sl T' (mkF m q ls st)) : Go p e below s Q ce sl T (mkF m pc ls (.ref a :: st)) := by
  subst hp
  obtain ⟨T', X', e', st'⟩ := initO X hx hZ hown w1 w2 w3 eT (g := mkF m pc ls (.ref a :: st)) rfl hsz rfl hd hf (W := W) (by show 2 * 0 + _ ≤ _; omega) hl
  exact (K T' X' e').to fun t r => st' t r
theorem go_iaload (X : Stand p l e R s m args below meth c T locs cells slots) (hx : p.tables.exec = Jvm.exec) (hZ : Z.Warmed39 s.vm) (eT : T.heap = h) {k : ClassId} {z j : Int32} {vs : List Value} {dv : Value} {v : Value} (F : Arv Z h a k .int z vs dv) (hj : ¬ j < 0 ∧ j < z) (hv : vs.getD j.toNatClampNeg dv = v) (hd : decode c.code pc = .ok (.iaload, 1)) (hp : pc + 1 = q) (K : Go p e below s Q ce sl T (mkF m q ls (v :: st))) : Go p e below s Q ce sl T (mkF m pc ls (.int j :: .ref a :: st)) := by
  subst hp
  obtain ⟨cl, A, -, S, -, H, -⟩ := F
  exact K.to fun t r => X.iaload hx (by rw [eT]; exact A.1) (State.isArrayOf_alike hZ.alike A.2.1) A.2.2 (inb_of S hj) (H.at (inb_of S hj) hv) (g := mkF m pc ls (.int j :: .ref a :: st)) rfl rfl hd t r
theorem go_daload (X : Stand p l e R s m args below meth c T locs cells slots) (hx : p.tables.exec = Jvm.exec) (hZ : Z.Warmed39 s.vm) (eT : T.heap = h) {k : ClassId} {z j : Int32} {vs : List Value} {dv : Value} {v : Value} (F : Arv Z h a k .double z vs dv) (hj : ¬ j < 0 ∧ j < z) (hv : vs.getD j.toNatClampNeg dv = v) (hd : decode c.code pc = .ok (.daload, 1)) (hp : pc + 1 = q) (K : Go p e below s Q ce sl T (mkF m q ls (v :: st))) : Go p e below s Q ce sl T (mkF m pc ls (.int j :: .ref a :: st)) := by
  subst hp
  obtain ⟨cl, A, -, S, -, H, -⟩ := F
  exact K.to fun t r => X.daload hx (by rw [eT]; exact A.1) (State.isArrayOf_alike hZ.alike A.2.1) A.2.2 (inb_of S hj) (H.at (inb_of S hj) hv) (g := mkF m pc ls (.int j :: .ref a :: st)) rfl rfl hd t r
theorem go_faload (X : Stand p l e R s m args below meth c T locs cells slots) (hx : p.tables.exec = Jvm.exec) (hZ : Z.Warmed39 s.vm) (eT : T.heap = h) {k : ClassId} {z j : Int32} {vs : List Value} {dv : Value} {v : Value} (F : Arv Z h a k .float z vs dv) (hj : ¬ j < 0 ∧ j < z) (hv : vs.getD j.toNatClampNeg dv = v) (hd : decode c.code pc = .ok (.faload, 1)) (hp : pc + 1 = q) (K : Go p e below s Q ce sl T (mkF m q ls (v :: st))) : Go p e below s Q ce sl T (mkF m pc ls (.int j :: .ref a :: st)) := by
  subst hp
  obtain ⟨cl, A, -, S, -, H, -⟩ := F
  exact K.to fun t r => X.faload hx (by rw [eT]; exact A.1) (State.isArrayOf_alike hZ.alike A.2.1) A.2.2 (inb_of S hj) (H.at (inb_of S hj) hv) (g := mkF m pc ls (.int j :: .ref a :: st)) rfl rfl hd t r
theorem go_baload (X : Stand p l e R s m args below meth c T locs cells slots) (hx : p.tables.exec = Jvm.exec) (hZ : Z.Warmed39 s.vm) (eT : T.heap = h) {k : ClassId} {z j : Int32} {vs : List Value} {dv : Value} {v : Value} (F : Arv Z h a k .boolean z vs dv) (hj : ¬ j < 0 ∧ j < z) (hv : vs.getD j.toNatClampNeg dv = v) (hd : decode c.code pc = .ok (.baload, 1)) (hp : pc + 1 = q) (K : Go p e below s Q ce sl T (mkF m q ls (v :: st))) : Go p e below s Q ce sl T (mkF m pc ls (.int j :: .ref a :: st)) := by
  subst hp
  obtain ⟨cl, A, -, S, -, H, -⟩ := F
  exact K.to fun t r => X.baloadBooleans hx (by rw [eT]; exact A.1) (State.isArrayOf_alike hZ.alike A.2.1) A.2.2 (inb_of S hj) (H.at (inb_of S hj) hv) (g := mkF m pc ls (.int j :: .ref a :: st)) rfl rfl hd t r
theorem go_baloadB (X : Stand p l e R s m args below meth c T locs cells slots) (hx : p.tables.exec = Jvm.exec) (hZ : Z.Warmed39 s.vm) (eT : T.heap = h) {k : ClassId} {z j : Int32} {vs : List Value} {dv : Value} {v : Value} (F : Arv Z h a k .byte z vs dv) (hj : ¬ j < 0 ∧ j < z) (hv : vs.getD j.toNatClampNeg dv = v) (hd : decode c.code pc = .ok (.baload, 1)) (hp : pc + 1 = q) (K : Go p e below s Q ce sl T (mkF m q ls (v :: st))) : Go p e below s Q ce sl T (mkF m pc ls (.int j :: .ref a :: st)) := by
  subst hp
  obtain ⟨cl, A, -, S, -, H, -⟩ := F
  exact K.to fun t r => X.baloadBytes hx (by rw [eT]; exact A.1) (State.isArrayOf_alike hZ.alike A.2.1) A.2.2 (inb_of S hj) (H.at (inb_of S hj) hv) (g := mkF m pc ls (.int j :: .ref a :: st)) rfl rfl hd t r
theorem go_caload (X : Stand p l e R s m args below meth c T locs cells slots) (hx : p.tables.exec = Jvm.exec) (hZ : Z.Warmed39 s.vm) (eT : T.heap = h) {k : ClassId} {z j : Int32} {vs : List Value} {dv : Value} {v : Value} (F : Arv Z h a k .char z vs dv) (hj : ¬ j < 0 ∧ j < z) (hv : vs.getD j.toNatClampNeg dv = v) (hd : decode c.code pc = .ok (.caload, 1)) (hp : pc + 1 = q) (K : Go p e below s Q ce sl T (mkF m q ls (v :: st))) : Go p e below s Q ce sl T (mkF m pc ls (.int j :: .ref a :: st)) := by
  subst hp
  obtain ⟨cl, A, -, S, -, H, -⟩ := F
  exact K.to fun t r => X.caload hx (by rw [eT]; exact A.1) (State.isArrayOf_alike hZ.alike A.2.1) A.2.2 (inb_of S hj) (H.at (inb_of S hj) hv) (g := mkF m pc ls (.int j :: .ref a :: st)) rfl rfl hd t r
theorem go_alen (X : Stand p l e R s m args below meth c T locs cells slots) (hx : p.tables.exec = Jvm.exec) (hZ : Z.Warmed39 s.vm) (eT : T.heap = h) {k : ClassId} {z : Int32} {vs : List Value} {dv : Value} {ty : FieldType} (F : Arv Z h a k ty z vs dv) (hd : decode c.code pc = .ok (.arraylength, 1)) (hp : pc + 1 = q) (K : Go p e below s Q ce sl T (mkF m q ls (.int z :: st))) : Go p e below s Q ce sl T (mkF m pc ls (.ref a :: st)) := by
  subst hp
  obtain ⟨cl, A, -, S, N, -, -⟩ := F
  exact K.to fun t r => X.arraylength hx (by rw [eT]; exact A.1) (State.isArrayOf_alike hZ.alike A.2.1) (g := mkF m pc ls (.ref a :: st)) rfl rfl hd t (by rw [len_of S N]; exact r)
theorem go_iastore (X : Stand p l e R s m args below meth c T locs cells slots) (hx : p.tables.exec = Jvm.exec) (hZ : Z.Warmed39 s.vm) (eT : T.heap = h) {k : ClassId} {z j : Int32} {vs : List Value} {dv : Value} {x : Int32} (F : Arv Z h a k .int z vs dv) (hj : ¬ j < 0 ∧ j < z) (i : Nat) (hi : j.toNatClampNeg = i) (hl : i < vs.length) (N : Fr n0 locs) (ha : n0 ≤ a) (hd : decode c.code pc = .ok (.iastore, 1)) (hp : pc + 1 = q)
    (K : ∀ T' h' locs', Stand p l e R s m args below meth c T' locs' cells slots → Fr n0 locs' → T'.heap = h' → Wr h h' a j.toNatClampNeg (.int x) → Arv Z h' a k .int z (vs.set i (.int x)) dv → Go p e below s Q ce sl T' (mkF m q ls st)) : Go p e below s Q ce sl T (mkF m pc ls ((.int x) :: .int j :: .ref a :: st)) := by
  subst hp
  obtain ⟨cl, A, q1, S, q3, H, G⟩ := F
  obtain ⟨T', h', X', e', W', st'⟩ := stI X hx hZ eT A (inb_of S hj) (g := mkF m pc ls ((.int x) :: .int j :: .ref a :: st)) rfl rfl hd
  exact (K T' h' _ X' (Fr.snoc X' N ha) e' W' (Arv.set A q1 S q3 H G rfl W' i hi hl)).to fun t r => st' t r
theorem go_dastore (X : Stand p l e R s m args below meth c T locs cells slots) (hx : p.tables.exec = Jvm.exec) (hZ : Z.Warmed39 s.vm) (eT : T.heap = h) {k : ClassId} {z j : Int32} {vs : List Value} {dv : Value} {x : UInt64} (F : Arv Z h a k .double z vs dv) (hj : ¬ j < 0 ∧ j < z) (i : Nat) (hi : j.toNatClampNeg = i) (hl : i < vs.length) (N : Fr n0 locs) (ha : n0 ≤ a) (hd : decode c.code pc = .ok (.dastore, 1)) (hp : pc + 1 = q)
    (K : ∀ T' h' locs', Stand p l e R s m args below meth c T' locs' cells slots → Fr n0 locs' → T'.heap = h' → Wr h h' a j.toNatClampNeg (.double x) → Arv Z h' a k .double z (vs.set i (.double x)) dv → Go p e below s Q ce sl T' (mkF m q ls st)) : Go p e below s Q ce sl T (mkF m pc ls ((.double x) :: .int j :: .ref a :: st)) := by
  subst hp
  obtain ⟨cl, A, q1, S, q3, H, G⟩ := F
  obtain ⟨T', h', X', e', W', st'⟩ := stD X hx hZ eT A (inb_of S hj) (g := mkF m pc ls ((.double x) :: .int j :: .ref a :: st)) rfl rfl hd
  exact (K T' h' _ X' (Fr.snoc X' N ha) e' W' (Arv.set A q1 S q3 H G rfl W' i hi hl)).to fun t r => st' t r
theorem go_fastore (X : Stand p l e R s m args below meth c T locs cells slots) (hx : p.tables.exec = Jvm.exec) (hZ : Z.Warmed39 s.vm) (eT : T.heap = h) {k : ClassId} {z j : Int32} {vs : List Value} {dv : Value} {x : UInt32} (F : Arv Z h a k .float z vs dv) (hj : ¬ j < 0 ∧ j < z) (i : Nat) (hi : j.toNatClampNeg = i) (hl : i < vs.length) (N : Fr n0 locs) (ha : n0 ≤ a) (hd : decode c.code pc = .ok (.fastore, 1)) (hp : pc + 1 = q)
    (K : ∀ T' h' locs', Stand p l e R s m args below meth c T' locs' cells slots → Fr n0 locs' → T'.heap = h' → Wr h h' a j.toNatClampNeg (.float x) → Arv Z h' a k .float z (vs.set i (.float x)) dv → Go p e below s Q ce sl T' (mkF m q ls st)) : Go p e below s Q ce sl T (mkF m pc ls ((.float x) :: .int j :: .ref a :: st)) := by
  subst hp
  obtain ⟨cl, A, q1, S, q3, H, G⟩ := F
  obtain ⟨T', h', X', e', W', st'⟩ := stF X hx hZ eT A (inb_of S hj) (g := mkF m pc ls ((.float x) :: .int j :: .ref a :: st)) rfl rfl hd
  exact (K T' h' _ X' (Fr.snoc X' N ha) e' W' (Arv.set A q1 S q3 H G rfl W' i hi hl)).to fun t r => st' t r
theorem go_bastore (X : Stand p l e R s m args below meth c T locs cells slots) (hx : p.tables.exec = Jvm.exec) (hZ : Z.Warmed39 s.vm) (eT : T.heap = h) {k : ClassId} {z j : Int32} {vs : List Value} {dv : Value} {x : Int32} (F : Arv Z h a k .boolean z vs dv) (hj : ¬ j < 0 ∧ j < z) (i : Nat) (hi : j.toNatClampNeg = i) (hl : i < vs.length) (N : Fr n0 locs) (ha : n0 ≤ a) (hd : decode c.code pc = .ok (.bastore, 1)) (hp : pc + 1 = q)
    (K : ∀ T' h' locs', Stand p l e R s m args below meth c T' locs' cells slots → Fr n0 locs' → T'.heap = h' → Wr h h' a j.toNatClampNeg (.int (nar .boolean x)) → Arv Z h' a k .boolean z (vs.set i (.int (nar .boolean x))) dv → Go p e below s Q ce sl T' (mkF m q ls st)) : Go p e below s Q ce sl T (mkF m pc ls ((.int x) :: .int j :: .ref a :: st)) := by
  subst hp
  obtain ⟨cl, A, q1, S, q3, H, G⟩ := F
  obtain ⟨T', h', X', e', W', st'⟩ := stZ X hx hZ eT A (inb_of S hj) (g := mkF m pc ls ((.int x) :: .int j :: .ref a :: st)) rfl rfl hd
  exact (K T' h' _ X' (Fr.snoc X' N ha) e' W' (Arv.set A q1 S q3 H G (fits_nar_bool _) W' i hi hl)).to fun t r => st' t r
theorem go_castore (X : Stand p l e R s m args below meth c T locs cells slots) (hx : p.tables.exec = Jvm.exec) (hZ : Z.Warmed39 s.vm) (eT : T.heap = h) {k : ClassId} {z j : Int32} {vs : List Value} {dv : Value} {x : Int32} (F : Arv Z h a k .char z vs dv) (hj : ¬ j < 0 ∧ j < z) (i : Nat) (hi : j.toNatClampNeg = i) (hl : i < vs.length) (N : Fr n0 locs) (ha : n0 ≤ a) (hd : decode c.code pc = .ok (.castore, 1)) (hp : pc + 1 = q)
    (K : ∀ T' h' locs', Stand p l e R s m args below meth c T' locs' cells slots → Fr n0 locs' → T'.heap = h' → Wr h h' a j.toNatClampNeg (.int (nar .char x)) → Arv Z h' a k .char z (vs.set i (.int (nar .char x))) dv → Go p e below s Q ce sl T' (mkF m q ls st)) : Go p e below s Q ce sl T (mkF m pc ls ((.int x) :: .int j :: .ref a :: st)) := by
  subst hp
  obtain ⟨cl, A, q1, S, q3, H, G⟩ := F
  obtain ⟨T', h', X', e', W', st'⟩ := stC X hx hZ eT A (inb_of S hj) (g := mkF m pc ls ((.int x) :: .int j :: .ref a :: st)) rfl rfl hd
  exact (K T' h' _ X' (Fr.snoc X' N ha) e' W' (Arv.set A q1 S q3 H G (fits_nar_char _) W' i hi hl)).to fun t r => st' t r
theorem go_bastoreB (X : Stand p l e R s m args below meth c T locs cells slots) (hx : p.tables.exec = Jvm.exec) (hZ : Z.Warmed39 s.vm) (eT : T.heap = h) {k : ClassId} {z j : Int32} {vs : List Value} {dv : Value} {x : Int32} (F : Arv Z h a k .byte z vs dv) (hj : ¬ j < 0 ∧ j < z) (i : Nat) (hi : j.toNatClampNeg = i) (hl : i < vs.length) (N : Fr n0 locs) (ha : n0 ≤ a) (hd : decode c.code pc = .ok (.bastore, 1)) (hp : pc + 1 = q)
    (K : ∀ T' h' locs', Stand p l e R s m args below meth c T' locs' cells slots → Fr n0 locs' → T'.heap = h' → Wr h h' a j.toNatClampNeg (.int (nar .byte x)) → Arv Z h' a k .byte z (vs.set i (.int (nar .byte x))) dv → Go p e below s Q ce sl T' (mkF m q ls st)) : Go p e below s Q ce sl T (mkF m pc ls ((.int x) :: .int j :: .ref a :: st)) := by
  subst hp
  obtain ⟨cl, A, q1, S, q3, H, G⟩ := F
  obtain ⟨T', h', X', e', W', st'⟩ := stB X hx hZ eT A (inb_of S hj) (g := mkF m pc ls ((.int x) :: .int j :: .ref a :: st)) rfl rfl hd
  exact (K T' h' _ X' (Fr.snoc X' N ha) e' W' (Arv.set A q1 S q3 H G (fits_nar_byte _) W' i hi hl)).to fun t r => st' t r
theorem go_acmp_eq (X : Stand p l e R s m args below meth c T locs cells slots) (hx : p.tables.exec = Jvm.exec) {x y : Value} (h1 : x.isRef = true) (h2 : y.isRef = true) {o : Int} (hd : decode c.code pc = .ok (.if_acmp .eq o, 3)) (hp : pc + 3 = q) (ho : 0 ≤ (pc : Int) + o) (hq : ((pc : Int) + o).toNat = q') (KY : x = y → Go p e below s Q ce sl T (mkF m q' ls st)) (KN : ¬ x = y → Go p e below s Q ce sl T (mkF m q ls st)) : Go p e below s Q ce sl T (mkF m pc ls (y :: x :: st)) := by
  subst hp hq
  by_cases w : x = y
  · exact (KY w).to fun t r => Jvm.RoadKit.acmp (g := mkF m pc ls (y :: x :: st)) X hx rfl h1 h2 (pc0 := pc) (same := true) rfl hd rfl (decide_eq_true w) ho rfl r
  · exact (KN w).to fun t r => Jvm.RoadKit.acmp (g := mkF m pc ls (y :: x :: st)) X hx rfl h1 h2 (pc0 := pc) (same := false) rfl hd rfl (decide_eq_false w) ho rfl r
theorem go_acmp_ne (X : Stand p l e R s m args below meth c T locs cells slots) (hx : p.tables.exec = Jvm.exec) {x y : Value} (h1 : x.isRef = true) (h2 : y.isRef = true) {o : Int} (hd : decode c.code pc = .ok (.if_acmp .ne o, 3)) (hp : pc + 3 = q) (ho : 0 ≤ (pc : Int) + o) (hq : ((pc : Int) + o).toNat = q') (KY : ¬ x = y → Go p e below s Q ce sl T (mkF m q' ls st)) (KN : x = y → Go p e below s Q ce sl T (mkF m q ls st)) : Go p e below s Q ce sl T (mkF m pc ls (y :: x :: st)) := by
  subst hp hq
  by_cases w : x = y
  · exact (KN w).to fun t r => Jvm.RoadKit.acmp (g := mkF m pc ls (y :: x :: st)) X hx rfl h1 h2 (pc0 := pc) (same := true) rfl hd rfl (decide_eq_true w) ho rfl r
  · exact (KY w).to fun t r => Jvm.RoadKit.acmp (g := mkF m pc ls (y :: x :: st)) X hx rfl h1 h2 (pc0 := pc) (same := false) rfl hd rfl (decide_eq_false w) ho rfl r
theorem go_ifnullR (X : Stand p l e R s m args below meth c T locs cells slots) (hx : p.tables.exec = Jvm.exec) {b : Addr} {o : Int} (hd : decode c.code pc = .ok (.ifnull o, 3)) (hp : pc + 3 = q) (K : Go p e below s Q ce sl T (mkF m q ls st)) : Go p e below s Q ce sl T (mkF m pc ls (.ref b :: st)) := by
  subst hp
  exact K.to fun t r => XS.ifnullNo X.here hx rfl hd rfl r
theorem go_ifnonnullR (X : Stand p l e R s m args below meth c T locs cells slots) (hx : p.tables.exec = Jvm.exec) {b : Addr} {o : Int} (hd : decode c.code pc = .ok (.ifnonnull o, 3)) (ho : 0 ≤ (pc : Int) + o) (hq : ((pc : Int) + o).toNat = q') (K : Go p e below s Q ce sl T (mkF m q' ls st)) : Go p e below s Q ce sl T (mkF m pc ls (.ref b :: st)) :=
  K.to fun t r => XS.ifnonnullYes X.here hx rfl (pc0 := pc) rfl hd rfl ho hq r
theorem go_tsw (X : Stand p l e R s m args below meth c T locs cells slots) (hx : p.tables.exec = Jvm.exec) {dflt low high off : Int} {offs : Array Int} {len : Nat} {i : Int32} (hd : decode c.code pc = .ok (.tableswitch dflt low high offs, len)) (hin : ¬ (i.toInt < low ∨ i.toInt > high)) (hoff : offs[(i.toInt - low).toNat]? = some off) (ho : 0 ≤ (pc : Int) + off) (hq : ((pc : Int) + off).toNat = q) (K : Go p e below s Q ce sl T (mkF m q ls st)) : Go p e below s Q ce sl T (mkF m pc ls (.int i :: st)) :=
  K.to fun t r => XS.tswIn X.here hx rfl (pc0 := pc) rfl hd rfl hin hoff ho hq r
theorem go_callVU (X : Stand p l e R s m args below meth c T locs cells slots) (hx : p.tables.exec = Jvm.exec) (hZ : Z.Warmed39 s.vm) {own C owner : String} {index : Nat} {y : MethodName} {bytes : ByteArray} {maxL : Nat} {ret : Option FieldType} {rm : Room} {W : Nat} {Qc : Option Value → Heap → List Loc → Prop} {z : MethodName} (hown : s.vm.findClass own = some m.cls) (eT : T.heap = h)
    (w1 : (Jvm.Cond.methodLink own index y).before a0 Z = true) (w2 : (Jvm.Cond.sameMethod y.cls owner y.name y.desc).before a0 Z = true) (w7 : (Jvm.Cond.declares ⟨owner, y.name, y.desc⟩).before a0 Z = true) (hy : owner ≠ "java/lang/invoke/MethodHandle" ∧ owner ≠ "java/lang/invoke/VarHandle") (w3 : (Jvm.Cond.selects C y z).before a0 Z = true) (w5 : (Jvm.Cond.instanceMethod z).before a0 Z = true) (w6 : (Jvm.Cond.initialized z.cls).before a0 Z = true) (w4 : (Jvm.Cond.code z bytes maxL ret).before a0 Z = true)
    (a : Addr) (argsL rest : List Value) (E : Exa Z h a C) (hM : Con l z bytes maxL ret [] rm Z (.ref a :: argsL).toArray h Qc) (hsz : ls.size = c.maxLocals) (hst : st = argsL.reverse ++ .ref a :: rest) (hlen : ∀ sig, parseMethodDescriptor y.desc = some sig → argsL.length = sig.parameters.length) (hW : (rest.map fun v => v.category).sum ≤ W)
    (hf : rm.frames + 1 ≤ R.frames) (hl : W + (maxL + 11) + rm.locals ≤ R.locals) (hd : decode c.code pc = .ok (.invokevirtual index, 3)) (hp : pc + 3 = q) (hc : cells + rm.cells ≤ R.cells) (hs : slots + rm.slots ≤ R.slots)
    (K : ∀ (T' : State) (L : List Loc) (v : Option Value), Stand p l e R s m args below meth c T' (locs ++ L) (cells + rm.cells) (slots + rm.slots) → Qc v T'.heap L → Go p e below s Q ce sl T' (mkF m q ls (v.toList ++ rest))) : Go p e below s Q ce sl T (mkF m pc ls st) := by
  subst hp
  obtain ⟨cq, kq, qa, qb, qc⟩ := isOf hZ eT E
  obtain ⟨v, _, ⟨T', L', k', n'⟩, -, X', ⟨Lc, hQ, l1, y1, z1⟩, stp⟩ := X.virtualBackUp hx (x := y) (y := z) hown (mvT hZ w1) (mvT hZ w2) (mvT hZ w7) hy (mvT hZ w3) (mvT hZ w5) (backOf (W := W) hM hZ w4 w6 hf hl) qa qc (g := mkF m pc ls st) rfl hsz (Steps.refl _) (argsL := argsL) (rest := rest) hlen hst (by show 2 * 0 + _ ≤ _; omega) hd (fun _ _ => ⟨rfl, eT, hc, hs⟩)
  dsimp only [Pt.U, Pt.locs, Pt.cells, Pt.slots] at X' l1 y1 z1 stp hQ
  subst l1 y1 z1
  exact (K T' Lc v X' hQ).to fun t r => stp.trans r
theorem go_callIB (X : Stand p l e R s m args below meth c T locs cells slots) (hx : p.tables.exec = Jvm.exec) (hZ : Z.Warmed39 s.vm) {own : String} {index : Nat} {y : MethodName} {bytes : ByteArray} {maxL : Nat} {W dc ds : Nat} {Qc : Option Value → Heap → List Loc → Prop} (hown : s.vm.findClass own = some m.cls) (eT : T.heap = h) (hy1 : y.name = "<init>")
    (w1 : (Jvm.Cond.methodLink own index y).before a0 Z = true) (w2 : (Jvm.Cond.instanceMethod y).before a0 Z = true) (w4 : (Jvm.Cond.code y bytes maxL none).before a0 Z = true) (hy : y.cls ≠ "java/lang/invoke/MethodHandle" ∧ y.cls ≠ "java/lang/invoke/VarHandle")
    (a : Addr) (argsL rest : List Value) (hK : Back l R p e below s args y 3 W (fun P b => b = (.ref a :: argsL).toArray ∧ P.U.heap = h ∧ P.cells + dc ≤ R.cells ∧ P.slots + ds ≤ R.slots) (fun P _ v B => ∃ L, Qc v B.U.heap L ∧ B.locs = P.locs ++ L ∧ B.cells = P.cells + dc ∧ B.slots = P.slots + ds)) (hsz : ls.size = c.maxLocals) (hst : st = argsL.reverse ++ .ref a :: rest) (hlen : ∀ sig, parseMethodDescriptor y.desc = some sig → argsL.length = sig.parameters.length) (hW : (rest.map fun v => v.category).sum ≤ W)
    (hd : decode c.code pc = .ok (.invokespecial index, 3)) (hp : pc + 3 = q) (hc : cells + dc ≤ R.cells) (hs : slots + ds ≤ R.slots)
    (K : ∀ (T' : State) (L : List Loc) (v : Option Value), Stand p l e R s m args below meth c T' (locs ++ L) (cells + dc) (slots + ds) → Qc v T'.heap L → Go p e below s Q ce sl T' (mkF m q ls (v.toList ++ rest))) : Go p e below s Q ce sl T (mkF m pc ls st) := by
  subst hp
  obtain ⟨v, _, ⟨T', L', k', n'⟩, -, X', ⟨Lc, hQ, l1, y1, z1⟩, stp⟩ := X.specialBack hx (y := y) hy1 hown (mvT hZ w1) (mvT hZ w2) (mvT hZ w4) hy hK (g := mkF m pc ls st) rfl hsz (Steps.refl _) (a := a) (argsL := argsL) (rest := rest) hlen hst (by show 2 * 0 + _ ≤ _; omega) hd (fun _ _ => ⟨rfl, eT, hc, hs⟩)
  dsimp only [Pt.U, Pt.locs, Pt.cells, Pt.slots] at X' l1 y1 z1 stp hQ
  subst l1 y1 z1
  exact (K T' Lc v X' hQ).to fun t r => stp.trans r
end OwnHeap

section OwnFloat
open Jvm.FP Jvm.FP.Core
/-- the datum with its exponent moved down by k -/
def sh (k : Int) : Datum → Datum
  | .fin s c q => .fin s c (q - k)
  | d => d
/-- the datum's value is i * 2^k -/
def Dy (k i : Int) (d : Datum) : Prop := Whole i (sh k d)
theorem dy_zero_iff {i : Int} {d : Datum} : Dy 0 i d ↔ Whole i d := by
  cases d <;> simp [Dy, sh]
theorem sh_sum (k : Int) (x y : Datum) : exactSum (sh k x) (sh k y) = sh k (exactSum x y) := by
  cases x <;> cases y <;> try rfl
  · rename_i a b; by_cases q : a = b <;> simp [sh, exactSum, q]
  · rename_i s c q t d r
    have e1 : min (q - k) (r - k) = min q r - k := by omega
    have e2 : q - k - (min q r - k) = q - min q r := by omega
    have e3 : r - k - (min q r - k) = r - min q r := by omega
    simp [sh, exactSum, sumUnits, inUnits, e1, e2, e3]
theorem sh_product (k l : Int) {x y : Datum} {s t : Bool} {c d : Nat} {q r : Int} (hx : x = .fin s c q) (hy : y = .fin t d r) : exactProduct (sh k x) (sh l y) = sh (k + l) (exactProduct x y) := by
  subst hx hy
  have e1 : q - k + (r - l) = q + r - (k + l) := by omega
  simp [sh, exactProduct, e1]
theorem sh_negate (k : Int) (x : Datum) : negate (sh k x) = sh k (negate x) := by cases x <;> rfl
theorem sh_order (k : Int) (x y : Datum) : order (sh k x) (sh k y) = order x y := by
  cases x <;> cases y <;> try rfl
  rename_i s c q t d r
  have e1 : min (q - k) (r - k) = min q r - k := by omega
  have e2 : q - k - (min q r - k) = q - min q r := by omega
  have e3 : r - k - (min q r - k) = r - min q r := by omega
  simp [sh, order, inUnits, e1, e2, e3]
theorem dy_fin {k i : Int} {d : Datum} (h : Dy k i d) : ∃ s c q, d = .fin s c q := by
  cases d with
  | nan => exact h.elim
  | inf s => exact h.elim
  | fin s c q => exact ⟨s, c, q, rfl⟩
theorem dy_sum {k i j : Int} {x y : Datum} (hx : Dy k i x) (hy : Dy k j y) : Dy k (i + j) (exactSum x y) := by
  unfold Dy; rw [← sh_sum]; exact whole_sum hx hy
theorem dy_negate {k i : Int} {x : Datum} (hx : Dy k i x) : Dy k (-i) (negate x) := by
  unfold Dy; rw [← sh_negate]; exact whole_negate hx
theorem dy_product {k l i j : Int} {x y : Datum} (hx : Dy k i x) (hy : Dy l j y) : Dy (k + l) (i * j) (exactProduct x y) := by
  obtain ⟨s, c, q, ex⟩ := dy_fin hx
  obtain ⟨t, d, r, ey⟩ := dy_fin hy
  unfold Dy; rw [← sh_product k l ex ey]; exact whole_product hx hy
theorem dy_order {k i j : Int} {x y : Datum} (hx : Dy k i x) (hy : Dy k j y) : order x y = some (compare i j) := by
  rw [← sh_order k]; exact order_whole hx hy
/-- c * 2^q and A * 2^k are alike: by differences, or with both exponents raised -/
theorem p2 {c A : Nat} {q k : Int} (N : Nat) (h1 : 0 ≤ q + N) (h2 : 0 ≤ k + N) : c * 2 ^ (q - k).toNat = A * 2 ^ (k - q).toNat ↔ c * 2 ^ (q + N).toNat = A * 2 ^ (k + N).toNat := by
  rcases Int.le_total q k with hqk | hqk
  · have e1 : (q - k).toNat = 0 := by omega
    have e2 : (k + N).toNat = (k - q).toNat + (q + N).toNat := by omega
    rw [e1, e2, Nat.pow_zero, Nat.mul_one, Nat.pow_add, ← Nat.mul_assoc]
    exact ⟨fun h => by rw [h], fun h => Nat.eq_of_mul_eq_mul_right (Nat.two_pow_pos _) h⟩
  · have e1 : (k - q).toNat = 0 := by omega
    have e2 : (q + N).toNat = (q - k).toNat + (k + N).toNat := by omega
    rw [e1, e2, Nat.pow_zero, Nat.mul_one, Nat.pow_add, ← Nat.mul_assoc]
    exact ⟨fun h => by rw [h], fun h => Nat.eq_of_mul_eq_mul_right (Nat.two_pow_pos _) h⟩
theorem dy_abs {k i : Int} {s : Bool} {c : Nat} {q : Int} (h : Dy k i (.fin s c q)) : c * 2 ^ (q - k).toNat = i.natAbs * 2 ^ (k - q).toNat := by
  have h' : signed s (c * 2 ^ (q - k).toNat) = i * ((2 ^ (-(q - k)).toNat : Nat) : Int) := h
  have e := congrArg Int.natAbs h'
  rw [natAbs_signed, Int.natAbs_mul, Int.natAbs_natCast, show -(q - k) = k - q by omega] at e
  exact e
theorem dy_sgn {k i : Int} {s : Bool} {c : Nat} {q : Int} (h : Dy k i (.fin s c q)) : signed s i.natAbs = i := by
  have h' : signed s (c * 2 ^ (q - k).toNat) = i * ((2 ^ (-(q - k)).toNat : Nat) : Int) := h
  rw [dy_abs h, signed_mul, show -(q - k) = k - q by omega] at h'
  exact Int.eq_of_mul_eq_mul_right (by have := Nat.two_pow_pos (k - q).toNat; omega) h'
theorem dy_mk {k i : Int} {s : Bool} {c : Nat} {q : Int} (h1 : c * 2 ^ (q - k).toNat = i.natAbs * 2 ^ (k - q).toNat) (h2 : signed s i.natAbs = i) : Dy k i (.fin s c q) := by
  show signed s (c * 2 ^ (q - k).toNat) = i * ((2 ^ (-(q - k)).toNat : Nat) : Int)
  rw [h1, signed_mul, h2, show -(q - k) = k - q by omega]
theorem dy_of_units {k i : Int} {s : Bool} {c' : Nat} {q' : Int} (hq : -1074 ≤ q') (hk : -1074 ≤ k) (e2 : inUnits c' q' (-1074) = inUnits i.natAbs k (-1074)) (h2 : signed s i.natAbs = i) : Dy k i (.fin s c' q') := by
  refine dy_mk ?_ h2
  rw [p2 1074 (by omega) (by omega)]
  unfold inUnits at e2
  rw [show q' - -1074 = q' + (1074 : Nat) by omega, show k - -1074 = k + (1074 : Nat) by omega] at e2
  exact e2
theorem dy_roundRatio {k m : Int} {S : Bool} {c d : Nat} {e : Int} (hd : 0 < d) (h : c * 2 ^ (e - k).toNat = m.natAbs * d * 2 ^ (k - e).toNat) (hm : m.natAbs < 2 ^ 53) (k1 : -1074 ≤ k) (k2 : k ≤ 971) (h2 : signed S m.natAbs = m) : Dy k m (roundRatio b64 S c d e) := by
  have hr : roundRatio b64 S c d e = round b64 (.fin S m.natAbs k) := roundRatio_congr (A := c) (B := d) (A' := m.natAbs) (B' := 1) (e := e) (e' := k) hd (by decide) (by rw [Nat.mul_one]; exact h)
  obtain ⟨c', q', e1, e2⟩ := round_exact good_b64 S (c := m.natAbs) (q := k) hm (by rw [qmin_b64]; exact k1) (by show k ≤ 971; exact k2)
  have hf : Core.fits b64 (.fin S c' q') := by rw [← e1]; exact round_fits good_b64 _
  have hq : -1074 ≤ q' := by have := hf.2.1; rw [qmin_b64] at this; exact this
  rw [hr, e1]
  rw [qmin_b64] at e2
  exact dy_of_units hq k1 e2 h2
theorem dy_round {k i : Int} {d : Datum} (h : Dy k i d) (hi : i.natAbs < 2 ^ 53) (k1 : -1074 ≤ k) (k2 : k ≤ 971) : Dy k i (round b64 d) := by
  obtain ⟨s, c, q, rfl⟩ := dy_fin h
  exact dy_roundRatio (d := 1) (by decide) (by rw [Nat.mul_one]; exact dy_abs h) hi k1 k2 (dy_sgn h)
theorem signed_xor1 (s t : Bool) (a b : Nat) : signed (s != t) (a * b) = signed s a * signed t b := signed_xor s t a b
theorem dy_quotient {k l i j m : Int} {x y : Datum} (hx : Dy k i x) (hy : Dy l j y) (hj : j ≠ 0) (hm : i = m * j) (hb : m.natAbs < 2 ^ 53) (k1 : -1074 ≤ k - l) (k2 : k - l ≤ 971) : Dy (k - l) m (quotient b64 x y) := by
  obtain ⟨s, c, q, rfl⟩ := dy_fin hx
  obtain ⟨t, d, r, rfl⟩ := dy_fin hy
  have a1 := dy_abs hx
  have a2 := dy_abs hy
  have jpos : 0 < j.natAbs := by omega
  have dpos : 0 < d := by
    rcases Nat.eq_zero_or_pos d with rfl | h
    · rw [Nat.zero_mul] at a2
      have := Nat.mul_pos jpos (Nat.two_pow_pos (l - r).toNat)
      omega
    · exact h
  have ea : i.natAbs = m.natAbs * j.natAbs := by rw [hm, Int.natAbs_mul]
  show Dy (k - l) m (if d = 0 then (if c = 0 then .nan else .inf (s != t)) else roundRatio b64 (s != t) c d (q - r))
  rw [if_neg (by omega)]
  refine dy_roundRatio dpos ?_ hb k1 k2 ?_
  · have N : Nat := 0
    obtain ⟨M, hM⟩ : ∃ M : Nat, 0 ≤ q + M ∧ 0 ≤ k + M ∧ 0 ≤ r + M ∧ 0 ≤ l + M := ⟨q.natAbs + k.natAbs + r.natAbs + l.natAbs, by omega, by omega, by omega, by omega⟩
    rw [p2 M hM.1 hM.2.1] at a1
    rw [p2 M hM.2.2.1 hM.2.2.2] at a2
    have e1 : q - r - (k - l) = (q + l) - (k + r) := by omega
    have e2 : k - l - (q - r) = (k + r) - (q + l) := by omega
    rw [e1, e2, p2 (2 * M) (by omega) (by omega)]
    have f1 : (q + l + ((2 * M : Nat) : Int)).toNat = (q + M).toNat + (l + M).toNat := by omega
    have f2 : (k + r + ((2 * M : Nat) : Int)).toNat = (k + M).toNat + (r + M).toNat := by omega
    rw [f1, f2, Nat.pow_add, Nat.pow_add]
    refine Nat.eq_of_mul_eq_mul_right jpos ?_
    calc c * (2 ^ (q + M).toNat * 2 ^ (l + M).toNat) * j.natAbs
        = (c * 2 ^ (q + M).toNat) * (j.natAbs * 2 ^ (l + M).toNat) := by ac_rfl
      _ = (i.natAbs * 2 ^ (k + M).toNat) * (d * 2 ^ (r + M).toNat) := by rw [a1, a2]
      _ = m.natAbs * d * (2 ^ (k + M).toNat * 2 ^ (r + M).toNat) * j.natAbs := by rw [ea]; ac_rfl
  · have s1 := dy_sgn hx
    have s2 := dy_sgn hy
    have s3 : signed (s != t) (i.natAbs * j.natAbs) = i * j := by rw [signed_xor, s1, s2]
    have e3 : i.natAbs * j.natAbs = m.natAbs * (j.natAbs * j.natAbs) := by rw [ea, Nat.mul_assoc]
    rw [e3, signed_mul, Int.natAbs_mul_self, hm, Int.mul_assoc] at s3
    exact Int.eq_of_mul_eq_mul_right (Int.mul_ne_zero hj hj) s3
theorem dy_scale {k i : Int} {d : Datum} (h : Dy k i d) (n : Nat) : Dy (k - n) (i * 2 ^ n) d := by
  obtain ⟨s, c, q, rfl⟩ := dy_fin h
  have a1 := dy_abs h
  have s1 := dy_sgn h
  have e0 : (i * 2 ^ n).natAbs = i.natAbs * 2 ^ n := by rw [Int.natAbs_mul, Int.natAbs_pow]; rfl
  refine dy_mk ?_ ?_
  · obtain ⟨M, h1, h2⟩ : ∃ M : Nat, 0 ≤ q + M ∧ 0 ≤ k - n + M := ⟨q.natAbs + k.natAbs + n, by omega, by omega⟩
    rw [p2 M h1 (by omega)] at a1
    rw [p2 M h1 h2, a1, e0]
    have : (k + (M : Int)).toNat = n + (k - n + M).toNat := by omega
    rw [this, Nat.pow_add, Nat.mul_assoc]
  · rw [e0, signed_mul, s1]; congr 1
/-- the double x is worth i * 2^k, and |i| is at most A -/
def DB (k : Int) (A : Nat) (i : Int) (x : UInt64) : Prop := Dy k i (val64 x) ∧ i.natAbs ≤ A
theorem DB.fin {k i : Int} {A : Nat} {x : UInt64} (h : DB k A i x) : DFin x := dy_fin h.1
theorem DB.nn {k i : Int} {A : Nat} {x : UInt64} (h : DB k A i x) : Jvm.Free.Fl.NoNaN64 x := Jvm.Free.Fl.noNaN64_no.mpr h.fin.notNaN
theorem DB.le {k i : Int} {A B : Nat} {x : UInt64} (h : DB k A i x) (hb : i.natAbs ≤ B) : DB k B i x := ⟨h.1, hb⟩
theorem DB.eqv {k i j : Int} {A : Nat} {x : UInt64} (h : DB k A i x) (e : i = j) : DB k A j x := e ▸ h
theorem db_add {k i j : Int} {A B : Nat} {x y : UInt64} (hx : DB k A i x) (hy : DB k B j y) (hA : A + B < 9007199254740992) (k1 : -1074 ≤ k) (k2 : k ≤ 971) : DB k (A + B) (i + j) (FP.dadd x y) := by
  have h1 := hx.2; have h2 := hy.2
  have hb : (i + j).natAbs ≤ A + B := by omega
  refine ⟨?_, hb⟩
  show Dy k (i + j) (val64 (Core.dadd x y))
  rw [val64_dadd]; exact dy_round (dy_sum hx.1 hy.1) (by omega) k1 k2
theorem db_sub {k i j : Int} {A B : Nat} {x y : UInt64} (hx : DB k A i x) (hy : DB k B j y) (hA : A + B < 9007199254740992) (k1 : -1074 ≤ k) (k2 : k ≤ 971) : DB k (A + B) (i - j) (FP.dsub x y) := by
  have h1 := hx.2; have h2 := hy.2
  have hb : (i - j).natAbs ≤ A + B := by omega
  refine ⟨?_, hb⟩
  show Dy k (i - j) (val64 (Core.dsub x y))
  rw [val64_dsub]; exact dy_round (by rw [Int.sub_eq_add_neg]; exact dy_sum hx.1 (dy_negate hy.1)) (by omega) k1 k2
theorem db_mul {k l i j : Int} {A B : Nat} {x y : UInt64} (hx : DB k A i x) (hy : DB l B j y) (hA : A * B < 9007199254740992) (k1 : -1074 ≤ k + l) (k2 : k + l ≤ 971) : DB (k + l) (A * B) (i * j) (FP.dmul x y) := by
  have hb : (i * j).natAbs ≤ A * B := by rw [Int.natAbs_mul]; exact Nat.mul_le_mul hx.2 hy.2
  refine ⟨?_, hb⟩
  show Dy (k + l) (i * j) (val64 (Core.dmul x y))
  rw [val64_dmul]; exact dy_round (dy_product hx.1 hy.1) (by omega) k1 k2
theorem db_div {k l i j : Int} {A B : Nat} {x y : UInt64} (m : Int) (hx : DB k A i x) (hy : DB l B j y) (hj : j ≠ 0) (hm : i = m * j) (hA : A < 9007199254740992) (k1 : -1074 ≤ k - l) (k2 : k - l ≤ 971) : DB (k - l) A m (FP.ddiv x y) := by
  have h1 : m.natAbs ≤ i.natAbs := by rw [hm, Int.natAbs_mul]; exact Nat.le_mul_of_pos_right _ (by omega)
  have h2 := hx.2
  refine ⟨?_, by omega⟩
  show Dy (k - l) m (val64 (Core.ddiv x y))
  rw [val64_ddiv]; exact dy_quotient hx.1 hy.1 hj hm (by omega) k1 k2
theorem DB.scale {k i : Int} {A : Nat} {x : UInt64} (h : DB k A i x) (n : Nat) : DB (k - n) (A * 2 ^ n) (i * 2 ^ n) x :=
  ⟨dy_scale h.1 n, by rw [Int.natAbs_mul, Int.natAbs_pow]; exact Nat.mul_le_mul_right _ h.2⟩
theorem db_i2d (v : Int32) : DB 0 2147483648 v.toInt (FP.i2d v) := ⟨dy_zero_iff.mpr (i2d_int v), by have := Int32.toInt_lt v; have := Int32.le_toInt v; omega⟩
theorem db_i2d' {v : Int32} {A : Nat} (h : v.toInt.natAbs ≤ A) : DB 0 A v.toInt (FP.i2d v) := (db_i2d v).le h
theorem db_l2d {v : Int64} {A : Nat} (h : v.toInt.natAbs ≤ A) (hA : A ≤ 9007199254740992) : DB 0 A v.toInt (FP.l2d v) := ⟨dy_zero_iff.mpr (l2d_int (by omega)), h⟩
theorem db_dcmp {k i j : Int} {A B : Nat} {x y : UInt64} (hx : DB k A i x) (hy : DB k B j y) : FP.dcmp x y = some (compare i j) := dy_order hx.1 hy.1
theorem db_cv {k i j : Int} {A B : Nat} {x y : UInt64} (hx : DB k A i x) (hy : DB k B j y) (o : CmpOp) : cmpValue (FP.dcmp x y) o = if i < j then -1 else if i = j then 0 else 1 := by
  rw [db_dcmp hx hy, compare_ite]
  by_cases h1 : i < j
  · simp [h1]; rfl
  · by_cases h2 : i = j
    · simp [h2]; rfl
    · simp [h1, h2]; rfl
theorem db_lt {k i j : Int} {A B : Nat} {x y : UInt64} (hx : DB k A i x) (hy : DB k B j y) (o : CmpOp) : cmpValue (FP.dcmp x y) o < 0 ↔ i < j := by
  rw [db_cv hx hy]
  by_cases h1 : i < j
  · simp [h1]
  · by_cases h2 : i = j
    · simp [h2]
    · simp [h1, h2]
theorem db_gt {k i j : Int} {A B : Nat} {x y : UInt64} (hx : DB k A i x) (hy : DB k B j y) (o : CmpOp) : 0 < cmpValue (FP.dcmp x y) o ↔ j < i := by
  rw [db_cv hx hy]
  by_cases h1 : i < j
  · simp [h1, show ¬ j < i by omega]
  · by_cases h2 : i = j
    · simp [h2]
    · simp [h1, h2, show j < i by omega]
theorem db_eq {k i j : Int} {A B : Nat} {x y : UInt64} (hx : DB k A i x) (hy : DB k B j y) (o : CmpOp) : cmpValue (FP.dcmp x y) o = 0 ↔ i = j := by
  rw [db_cv hx hy]
  by_cases h1 : i < j
  · simp [h1, show ¬ i = j by omega]
  · by_cases h2 : i = j
    · simp [h2]
    · simp [h1, h2]
theorem db_c0 : DB 0 0 0 0 := ⟨by rw [show val64 0 = .fin false 0 (-1074) by decide +kernel]; exact dy_mk (by simp) rfl, by decide⟩
theorem db_c1 : DB 0 1 1 4607182418800017408 := ⟨by rw [show val64 4607182418800017408 = .fin false (2 ^ 52) (-52) by decide +kernel]; exact dy_mk (by decide +kernel) rfl, by decide⟩
theorem db_c2 : DB 0 2 2 4611686018427387904 := ⟨by rw [show val64 4611686018427387904 = .fin false (2 ^ 52) (-51) by decide +kernel]; exact dy_mk (by decide +kernel) rfl, by decide⟩
end OwnFloat

section OwnFloatGo
variable {p : Program} {l : Launch} {e : Env} {R : Room} {s : State} {m : MethodId} {args : Array Value} {below : List Frame} {meth : Method} {c : Code} {T : State} {locs : List Loc} {cells slots : Nat} {Z : State} {h : Heap} {Q : Option Value → Heap → List Loc → Prop} {ce sl : Nat} {pc q q' : Nat} {ls : Array Slot} {st : List Value} {a0 : Array Value}
theorem go_i2dB (X : Stand p l e R s m args below meth c T locs cells slots) (hx : p.tables.exec = Jvm.exec) {x : Int32} {A : Nat} {i : Int} (hd : decode c.code pc = .ok (.i2d, 1)) (hp : pc + 1 = q) (hA : DB 0 A i (FP.i2d x)) (K : ∀ z, DB 0 A i z → Go p e below s Q ce sl T (mkF m q ls (.double z :: st))) : Go p e below s Q ce sl T (mkF m pc ls (.int x :: st)) :=
  go_i2d X hx hd hp rfl (K _ hA)
theorem go_l2dB (X : Stand p l e R s m args below meth c T locs cells slots) (hx : p.tables.exec = Jvm.exec) {x : Int64} {A : Nat} {i : Int} (hd : decode c.code pc = .ok (.l2d, 1)) (hp : pc + 1 = q) (hA : DB 0 A i (FP.l2d x)) (K : ∀ z, DB 0 A i z → Go p e below s Q ce sl T (mkF m q ls (.double z :: st))) : Go p e below s Q ce sl T (mkF m pc ls (.long x :: st)) :=
  go_l2d X hx hd hp rfl (K _ hA)
theorem go_f2dB (X : Stand p l e R s m args below meth c T locs cells slots) (hx : p.tables.exec = Jvm.exec) {x : UInt32} {A : Nat} {i : Int} (hd : decode c.code pc = .ok (.f2d, 1)) (hp : pc + 1 = q) (hA : DB 0 A i (FP.f2d x)) (K : ∀ z, DB 0 A i z → Go p e below s Q ce sl T (mkF m q ls (.double z :: st))) : Go p e below s Q ce sl T (mkF m pc ls (.float x :: st)) :=
  go_f2d X hx hd hp hA.nn rfl (K _ hA)
theorem go_daddB (X : Stand p l e R s m args below meth c T locs cells slots) (hx : p.tables.exec = Jvm.exec) {x y : UInt64} {k i j : Int} {A B C : Nat} (hd : decode c.code pc = .ok (.dadd, 1)) (hp : pc + 1 = q) (hA : DB k A i x) (hB : DB k B j y) (b1 : A + B < 9007199254740992) (k1 : -1074 ≤ k) (k2 : k ≤ 971) (hC : A + B = C) (K : ∀ z, DB k C (i + j) z → Go p e below s Q ce sl T (mkF m q ls (.double z :: st))) : Go p e below s Q ce sl T (mkF m pc ls (.double y :: .double x :: st)) :=
  go_dadd X hx hd hp (db_add hA hB b1 k1 k2).nn rfl (K _ (hC ▸ db_add hA hB b1 k1 k2))
theorem go_dsubB (X : Stand p l e R s m args below meth c T locs cells slots) (hx : p.tables.exec = Jvm.exec) {x y : UInt64} {k i j : Int} {A B C : Nat} (hd : decode c.code pc = .ok (.dsub, 1)) (hp : pc + 1 = q) (hA : DB k A i x) (hB : DB k B j y) (b1 : A + B < 9007199254740992) (k1 : -1074 ≤ k) (k2 : k ≤ 971) (hC : A + B = C) (K : ∀ z, DB k C (i - j) z → Go p e below s Q ce sl T (mkF m q ls (.double z :: st))) : Go p e below s Q ce sl T (mkF m pc ls (.double y :: .double x :: st)) :=
  go_dsub X hx hd hp (db_sub hA hB b1 k1 k2).nn rfl (K _ (hC ▸ db_sub hA hB b1 k1 k2))
theorem go_dmulB (X : Stand p l e R s m args below meth c T locs cells slots) (hx : p.tables.exec = Jvm.exec) {x y : UInt64} {k k' kk i j : Int} {A B C : Nat} (hd : decode c.code pc = .ok (.dmul, 1)) (hp : pc + 1 = q) (hA : DB k A i x) (hB : DB k' B j y) (b1 : A * B < 9007199254740992) (k1 : -1074 ≤ k + k') (k2 : k + k' ≤ 971) (hk : k + k' = kk) (hC : A * B = C) (K : ∀ z, DB kk C (i * j) z → Go p e below s Q ce sl T (mkF m q ls (.double z :: st))) : Go p e below s Q ce sl T (mkF m pc ls (.double y :: .double x :: st)) :=
  go_dmul X hx hd hp (db_mul hA hB b1 k1 k2).nn rfl (K _ (hC ▸ hk ▸ db_mul hA hB b1 k1 k2))
theorem go_ddivB (X : Stand p l e R s m args below meth c T locs cells slots) (hx : p.tables.exec = Jvm.exec) {x y : UInt64} {k k' kk i j w0 : Int} {A B : Nat} (hd : decode c.code pc = .ok (.ddiv, 1)) (hp : pc + 1 = q) (hA : DB k A i x) (hB : DB k' B j y) (hj : j ≠ 0) (hm : i = w0 * j) (b1 : A < 9007199254740992) (k1 : -1074 ≤ k - k') (k2 : k - k' ≤ 971) (hk : k - k' = kk) (K : ∀ z, DB kk A w0 z → Go p e below s Q ce sl T (mkF m q ls (.double z :: st))) : Go p e below s Q ce sl T (mkF m pc ls (.double y :: .double x :: st)) :=
  go_ddiv X hx hd hp (db_div w0 hA hB hj hm b1 k1 k2).nn rfl (K _ (hk ▸ db_div w0 hA hB hj hm b1 k1 k2))
theorem go_dif_lt (X : Stand p l e R s m args below meth c T locs cells slots) (hx : p.tables.exec = Jvm.exec) {x y : UInt64} {k i j : Int} {A B : Nat} {cm : CmpOp} {o : Int} (hd : decode c.code pc = .ok (.ifCond .lt o, 3)) (hp : pc + 3 = q) (ho : 0 ≤ (pc : Int) + o) (hq : ((pc : Int) + o).toNat = q') (hA : DB k A i x) (hB : DB k B j y) (KY : i < j → Go p e below s Q ce sl T (mkF m q' ls st)) (KN : ¬ i < j → Go p e below s Q ce sl T (mkF m q ls st)) : Go p e below s Q ce sl T (mkF m pc ls (.int (cmpValue (FP.dcmp x y) cm) :: st)) :=
  go_if_lt X hx hd hp ho hq (fun w => KY ((db_lt hA hB _).mp w)) (fun w => KN (fun z => w ((db_lt hA hB _).mpr z)))
theorem go_dif_ge (X : Stand p l e R s m args below meth c T locs cells slots) (hx : p.tables.exec = Jvm.exec) {x y : UInt64} {k i j : Int} {A B : Nat} {cm : CmpOp} {o : Int} (hd : decode c.code pc = .ok (.ifCond .ge o, 3)) (hp : pc + 3 = q) (ho : 0 ≤ (pc : Int) + o) (hq : ((pc : Int) + o).toNat = q') (hA : DB k A i x) (hB : DB k B j y) (KY : ¬ i < j → Go p e below s Q ce sl T (mkF m q' ls st)) (KN : i < j → Go p e below s Q ce sl T (mkF m q ls st)) : Go p e below s Q ce sl T (mkF m pc ls (.int (cmpValue (FP.dcmp x y) cm) :: st)) :=
  go_if_ge X hx hd hp ho hq (fun w => KY (fun z => w ((db_lt hA hB _).mpr z))) (fun w => KN ((db_lt hA hB _).mp w))
theorem go_dif_gt (X : Stand p l e R s m args below meth c T locs cells slots) (hx : p.tables.exec = Jvm.exec) {x y : UInt64} {k i j : Int} {A B : Nat} {cm : CmpOp} {o : Int} (hd : decode c.code pc = .ok (.ifCond .gt o, 3)) (hp : pc + 3 = q) (ho : 0 ≤ (pc : Int) + o) (hq : ((pc : Int) + o).toNat = q') (hA : DB k A i x) (hB : DB k B j y) (KY : j < i → Go p e below s Q ce sl T (mkF m q' ls st)) (KN : ¬ j < i → Go p e below s Q ce sl T (mkF m q ls st)) : Go p e below s Q ce sl T (mkF m pc ls (.int (cmpValue (FP.dcmp x y) cm) :: st)) :=
  go_if_gt X hx hd hp ho hq (fun w => KY ((db_gt hA hB _).mp w)) (fun w => KN (fun z => w ((db_gt hA hB _).mpr z)))
theorem go_dif_le (X : Stand p l e R s m args below meth c T locs cells slots) (hx : p.tables.exec = Jvm.exec) {x y : UInt64} {k i j : Int} {A B : Nat} {cm : CmpOp} {o : Int} (hd : decode c.code pc = .ok (.ifCond .le o, 3)) (hp : pc + 3 = q) (ho : 0 ≤ (pc : Int) + o) (hq : ((pc : Int) + o).toNat = q') (hA : DB k A i x) (hB : DB k B j y) (KY : ¬ j < i → Go p e below s Q ce sl T (mkF m q' ls st)) (KN : j < i → Go p e below s Q ce sl T (mkF m q ls st)) : Go p e below s Q ce sl T (mkF m pc ls (.int (cmpValue (FP.dcmp x y) cm) :: st)) :=
  go_if_le X hx hd hp ho hq (fun w => KY (fun z => w ((db_gt hA hB _).mpr z))) (fun w => KN ((db_gt hA hB _).mp w))
theorem go_dif_eq (X : Stand p l e R s m args below meth c T locs cells slots) (hx : p.tables.exec = Jvm.exec) {x y : UInt64} {k i j : Int} {A B : Nat} {cm : CmpOp} {o : Int} (hd : decode c.code pc = .ok (.ifCond .eq o, 3)) (hp : pc + 3 = q) (ho : 0 ≤ (pc : Int) + o) (hq : ((pc : Int) + o).toNat = q') (hA : DB k A i x) (hB : DB k B j y) (KY : i = j → Go p e below s Q ce sl T (mkF m q' ls st)) (KN : ¬ i = j → Go p e below s Q ce sl T (mkF m q ls st)) : Go p e below s Q ce sl T (mkF m pc ls (.int (cmpValue (FP.dcmp x y) cm) :: st)) :=
  go_if_eq X hx hd hp ho hq (fun w => KY ((db_eq hA hB _).mp w)) (fun w => KN (fun z => w ((db_eq hA hB _).mpr z)))
theorem go_dif_ne (X : Stand p l e R s m args below meth c T locs cells slots) (hx : p.tables.exec = Jvm.exec) {x y : UInt64} {k i j : Int} {A B : Nat} {cm : CmpOp} {o : Int} (hd : decode c.code pc = .ok (.ifCond .ne o, 3)) (hp : pc + 3 = q) (ho : 0 ≤ (pc : Int) + o) (hq : ((pc : Int) + o).toNat = q') (hA : DB k A i x) (hB : DB k B j y) (KY : ¬ i = j → Go p e below s Q ce sl T (mkF m q' ls st)) (KN : i = j → Go p e below s Q ce sl T (mkF m q ls st)) : Go p e below s Q ce sl T (mkF m pc ls (.int (cmpValue (FP.dcmp x y) cm) :: st)) :=
  go_if_ne X hx hd hp ho hq (fun w => KY (fun z => w ((db_eq hA hB _).mpr z))) (fun w => KN ((db_eq hA hB _).mp w))
end OwnFloatGo

section OwnRound
open Jvm.FP Jvm.FP.Core
/-- A / B, rounded -/
def rr (A B : Nat) : Datum := roundRatio b64 false A B 0
/-- a double's worth, in units of 2^-1074 -/
def zm (x : UInt64) : Nat := zmag b64 (val64 x)
theorem units0 (A : Nat) : inUnits A 0 (-1074) = A * 2 ^ 1074 := rfl
theorem zmag_fin (s : Bool) (c : Nat) (q : Int) : zmag b64 (.fin s c q) = inUnits c q (-1074) := by
  show inUnits c q b64.qmin = _; rw [qmin_b64]
theorem rr_near {A B c c' : Nat} {q q' : Int} {t : Bool} (hB : 0 < B) (hR : rr A B = .fin false c q) (hV : Core.fits b64 (.fin t c' q')) :
    (((A * 2 ^ 1074 : Nat) : Int) - ((zmag b64 (.fin false c q) * B : Nat) : Int)).natAbs ≤ (((A * 2 ^ 1074 : Nat) : Int) - ((zmag b64 (.fin t c' q') * B : Nat) : Int)).natAbs := by
  have h := roundRatio_nearest good_b64 hB hR hV.1 hV.2.1 (e0 := -1074) (by rw [qmin_b64]; decide) (by decide)
  unfold distance at h
  rw [units0, ← zmag_fin false c q, ← zmag_fin t c' q', ← Int.natCast_mul, ← Int.natCast_mul] at h
  exact h
theorem rr_congr {A B A' B' : Nat} (hB : 0 < B) (hB' : 0 < B') (h : A * B' = A' * B) : rr A B = rr A' B' :=
  roundRatio_congr hB hB' (by rw [show ((0 : Int) - 0).toNat = 0 from rfl, Nat.pow_zero, Nat.mul_one, Nat.mul_one]; exact h)
theorem rr_mono {A B A' B' : Nat} (hB : 0 < B) (hB' : 0 < B') (h : A * B' ≤ A' * B) (f1 : ∃ c q, rr A B = .fin false c q) (f2 : ∃ c q, rr A' B' = .fin false c q) : zmag b64 (rr A B) ≤ zmag b64 (rr A' B') := by
  refine Nat.le_of_not_lt fun hlt => ?_
  have e0 : rr A B ≠ rr A' B' := fun q => by rw [q] at hlt; exact Nat.lt_irrefl _ hlt
  obtain ⟨c, q, R1⟩ := f1
  obtain ⟨c', q', R2⟩ := f2
  have g1 : Core.fits b64 (.fin false c q) := by rw [← R1]; exact roundRatio_fits good_b64 false A hB 0
  have g2 : Core.fits b64 (.fin false c' q') := by rw [← R2]; exact roundRatio_fits good_b64 false A' hB' 0
  have n1 := rr_near hB R1 g2
  have n2 := rr_near hB' R2 g1
  rw [R1, R2] at hlt
  have m1 : zmag b64 (.fin false c' q') * B < zmag b64 (.fin false c q) * B := Nat.mul_lt_mul_of_pos_right hlt hB
  have m2 : zmag b64 (.fin false c' q') * B' < zmag b64 (.fin false c q) * B' := Nat.mul_lt_mul_of_pos_right hlt hB'
  generalize zmag b64 (.fin false c q) = z at *
  generalize zmag b64 (.fin false c' q') = z' at *
  have hP : A * 2 ^ 1074 * B' ≤ A' * 2 ^ 1074 * B := by
    have := Nat.mul_le_mul_right (2 ^ 1074) h
    rw [Nat.mul_right_comm A, Nat.mul_right_comm A']; exact this
  have k1 : z * B + z' * B ≤ 2 * (A * 2 ^ 1074) := by omega
  have k2 : 2 * (A' * 2 ^ 1074) ≤ z * B' + z' * B' := by omega
  have k3 := Nat.mul_le_mul_right B' k1
  have k4 := Nat.mul_le_mul_right B k2
  have k5 : (z * B + z' * B) * B' = (z * B' + z' * B') * B := by rw [Nat.add_mul, Nat.add_mul]; congr 1 <;> exact Nat.mul_right_comm _ _ _
  rw [k5] at k3
  have k6 : 2 * (A * 2 ^ 1074) * B' = 2 * (A * 2 ^ 1074 * B') := Nat.mul_assoc _ _ _
  have k7 : 2 * (A' * 2 ^ 1074) * B = 2 * (A' * 2 ^ 1074 * B) := Nat.mul_assoc _ _ _
  rw [k6] at k3; rw [k7] at k4
  have k8 : A * 2 ^ 1074 * B' = A' * 2 ^ 1074 * B := by omega
  refine e0 (rr_congr hB hB' ?_)
  rw [Nat.mul_right_comm A, Nat.mul_right_comm A'] at k8
  exact Nat.eq_of_mul_eq_mul_right (Nat.two_pow_pos 1074) k8
theorem zm_one : zm 4607182418800017408 = 2 ^ 1074 := by
  unfold zm; rw [show val64 4607182418800017408 = .fin false (2 ^ 52) (-52) by decide +kernel, zmag_fin]; decide +kernel
theorem zm_zero : zm 0 = 0 := by
  unfold zm; rw [show val64 0 = .fin false 0 (-1074) by decide +kernel, zmag_fin]; decide +kernel
/-- A / B below V rounds to at most V -/
theorem rr_le {A B : Nat} {V : UInt64} (hB : 0 < B) (hn : val64 V ≠ .nan) (h : A * 2 ^ 1074 ≤ zm V * B) : zmag b64 (rr A B) ≤ zm V :=
  zmag_roundRatio_le good_b64 hB (val64_fits V) hn (e0 := -1074) (by rw [qmin_b64]; decide) (by decide) (by rw [units0, qmin_b64, show ((-1074 : Int) - -1074).toNat = 0 from rfl, Nat.pow_zero, Nat.mul_one]; exact h)
theorem rr_ge {A B : Nat} {V : UInt64} (hB : 0 < B) (h : zm V * B ≤ A * 2 ^ 1074) : zm V ≤ zmag b64 (rr A B) :=
  zmag_roundRatio_ge good_b64 hB (val64_fits V) (e0 := -1074) (by rw [qmin_b64]; decide) (by decide) (by rw [units0, qmin_b64, show ((-1074 : Int) - -1074).toNat = 0 from rfl, Nat.pow_zero, Nat.mul_one]; exact h)
theorem rr_fin {A B : Nat} (h : zmag b64 (rr A B) < 2 ^ 2098) : ∃ c q, rr A B = .fin false c q := by
  rcases roundRatio_cases b64 false A B 0 with ⟨c, q, hR⟩ | hR
  · exact ⟨c, q, hR⟩
  · exfalso
    have e : zmag b64 (rr A B) = b64.tails * 2 ^ (b64.exps - 2) := by unfold rr; rw [hR]; rfl
    rw [e, show b64.tails * 2 ^ (b64.exps - 2) = 2 ^ 2098 by decide +kernel] at h
    exact Nat.lt_irrefl _ h
theorem l2d_rr {x : Int64} (h : 0 ≤ x.toInt) : val64 (FP.l2d x) = rr x.toInt.natAbs 1 := by
  show val64 (Core.l2d x) = _
  rw [val64_l2d]
  show roundRatio b64 (decide (x.toInt < 0)) x.toInt.natAbs 1 0 = _
  rw [show decide (x.toInt < 0) = false by simp; omega]; rfl
theorem l2d_finR {x : Int64} (h : 0 ≤ x.toInt) : ∃ c q, val64 (FP.l2d x) = .fin false c q := by
  rcases roundRatio_cases b64 false x.toInt.natAbs 1 0 with ⟨c, q, hR⟩ | hR
  · exact ⟨c, q, (l2d_rr h).trans hR⟩
  · exfalso
    obtain ⟨s, c, q, e⟩ := Core.l2d_fin x
    rw [show val64 (Core.l2d x) = rr x.toInt.natAbs 1 from l2d_rr h] at e
    unfold rr at e; rw [hR] at e; cases e
theorem l2d_mono {x y : Int64} (h0 : 0 ≤ x.toInt) (h : x.toInt ≤ y.toInt) : zm (FP.l2d x) ≤ zm (FP.l2d y) := by
  have f1 := l2d_finR h0; have f2 := l2d_finR (x := y) (by omega)
  unfold zm; rw [l2d_rr h0] at f1 ⊢; rw [l2d_rr (x := y) (by omega)] at f2 ⊢
  exact rr_mono (by decide) (by decide) (by omega) f1 f2
theorem l2d_ge1 {x : Int64} (h : 0 < x.toInt) : 2 ^ 1074 ≤ zm (FP.l2d x) := by
  rw [← zm_one]; unfold zm; rw [l2d_rr (by omega)]
  refine rr_ge (by decide) ?_
  rw [zm_one, Nat.mul_one]
  exact Nat.le_mul_of_pos_left _ (by omega)
theorem l2d_le {x : Int64} (h : 0 ≤ x.toInt) : zm (FP.l2d x) ≤ 2 ^ 63 * 2 ^ 1074 := by
  have e : zm 4890909195324358656 = 2 ^ 63 * 2 ^ 1074 := by
    unfold zm; rw [show val64 4890909195324358656 = .fin false (2 ^ 52) 11 by decide +kernel, zmag_fin]; decide +kernel
  rw [← e]; unfold zm; rw [l2d_rr h]
  refine rr_le (by decide) (by decide +kernel) ?_
  rw [e, Nat.mul_one]
  exact Nat.mul_le_mul_right _ (by have := Int64.toInt_lt x; omega)
theorem l2d_exact {x : Int64} (h : 0 ≤ x.toInt) (hb : x.toInt ≤ 9007199254740992) : zm (FP.l2d x) = x.toInt.natAbs * 2 ^ 1074 := by
  obtain ⟨c, q, e⟩ := l2d_finR h
  have hf := val64_fits (FP.l2d x)
  have hw : Whole x.toInt (val64 (FP.l2d x)) := Core.l2d_int (a := x) (by omega)
  have hz := whole_zval good_b64 hf hw
  unfold zm
  have hs : sgn (val64 (FP.l2d x)) = false := by rw [e]; rfl
  unfold zval at hz
  rw [hs] at hz
  have : signed false (zmag b64 (val64 (FP.l2d x))) = (zmag b64 (val64 (FP.l2d x)) : Int) := rfl
  rw [this, qmin_b64, show (-(-1074 : Int)).toNat = 1074 from rfl] at hz
  have h2 : (x.toInt.natAbs : Int) = x.toInt := by omega
  rw [← h2, ← Int.natCast_mul] at hz
  exact Int.natCast_inj.mp hz
theorem div_rr {a b : UInt64} {c d : Nat} {q r : Int} (ha : val64 a = .fin false c q) (hb : val64 b = .fin false d r) (hd : d ≠ 0) : val64 (FP.ddiv a b) = rr (zm a) (zm b) := by
  show val64 (Core.ddiv a b) = _
  have fa : Core.fits b64 (.fin false c q) := ha ▸ val64_fits a
  have fb : Core.fits b64 (.fin false d r) := hb ▸ val64_fits b
  have qa : -1074 ≤ q := by have := fa.2.1; rw [qmin_b64] at this; exact this
  have qb : -1074 ≤ r := by have := fb.2.1; rw [qmin_b64] at this; exact this
  rw [val64_ddiv, ha, hb]
  show (if d = 0 then _ else roundRatio b64 (false != false) c d (q - r)) = _
  rw [if_neg hd]
  unfold rr zm
  rw [ha, hb, zmag_fin, zmag_fin]
  refine roundRatio_congr (by omega) ?_ ?_
  · unfold inUnits; exact Nat.mul_pos (by omega) (Nat.two_pow_pos _)
  · unfold inUnits
    have e1 : q - r - 0 = (q + 1074) - (r + 1074) := by omega
    have e2 : 0 - (q - r) = (r + 1074) - (q + 1074) := by omega
    have e3 : q - -1074 = q + 1074 := by omega
    have e4 : r - -1074 = r + 1074 := by omega
    rw [e1, e2, e3, e4]
    obtain ⟨u, hu⟩ : ∃ u : Nat, q + 1074 = u := ⟨(q + 1074).toNat, by omega⟩
    obtain ⟨w, hw⟩ : ∃ w : Nat, r + 1074 = w := ⟨(r + 1074).toNat, by omega⟩
    rw [hu, hw]
    rcases Nat.le_total u w with huw | huw
    · rw [show ((u : Int) - w).toNat = 0 by omega, show ((w : Int) - u).toNat = w - u by omega, Int.toNat_natCast, Int.toNat_natCast]
      have : 2 ^ w = 2 ^ u * 2 ^ (w - u) := by rw [← Nat.pow_add]; congr 1; omega
      rw [this]; ac_rfl
    · rw [show ((w : Int) - u).toNat = 0 by omega, show ((u : Int) - w).toNat = u - w by omega, Int.toNat_natCast, Int.toNat_natCast]
      have : 2 ^ u = 2 ^ w * 2 ^ (u - w) := by rw [← Nat.pow_add]; congr 1; omega
      rw [this]; ac_rfl
theorem zm_pos {a : UInt64} {c : Nat} {q : Int} (ha : val64 a = .fin false c q) (hz : 0 < zm a) : c ≠ 0 := fun h => by
  unfold zm at hz; rw [ha, zmag_fin, h] at hz; unfold inUnits at hz; rw [Nat.zero_mul] at hz; exact Nat.lt_irrefl _ hz
/-- comparison of two numbers that aren't negative -/
theorem cv_zm {a b : UInt64} (ha : ∃ c q, val64 a = .fin false c q) (hb : ∃ c q, val64 b = .fin false c q) (o : CmpOp) : cmpValue (FP.dcmp a b) o = if zm a < zm b then -1 else if zm a = zm b then 0 else 1 := by
  obtain ⟨c, q, ea⟩ := ha
  obtain ⟨d, r, eb⟩ := hb
  have h := Core.dcmp_zval (a := a) (b := b) (by rw [ea]; exact fun z => by cases z) (by rw [eb]; exact fun z => by cases z)
  have z1 : zval b64 (val64 a) = (zm a : Int) := by unfold zval zm; rw [ea]; rfl
  have z2 : zval b64 (val64 b) = (zm b : Int) := by unfold zval zm; rw [eb]; rfl
  rw [z1, z2] at h
  rw [show FP.dcmp a b = Core.dcmp a b from rfl, h, compare_ite]
  by_cases h1 : zm a < zm b
  · rw [if_pos (by omega), if_pos h1]; rfl
  · by_cases h2 : zm a = zm b
    · rw [if_neg (by omega), if_pos (by omega), if_neg h1, if_pos h2]; rfl
    · rw [if_neg (by omega), if_neg (by omega), if_neg h1, if_neg h2]; rfl
end OwnRound
section OwnRound2
open Jvm.FP Jvm.FP.Core
theorem zm_dy {k i : Int} {x : UInt64} (h : Dy k i (val64 x)) (hk : -1074 ≤ k) : zm x = i.natAbs * 2 ^ (k + 1074).toNat := by
  obtain ⟨s, c, q, e⟩ := dy_fin h
  have hq : -1074 ≤ q := by have := (e ▸ val64_fits x : Core.fits b64 (.fin s c q)).2.1; rw [qmin_b64] at this; exact this
  rw [e] at h
  have a := dy_abs h
  rw [p2 1074 (by omega) (by omega)] at a
  unfold zm; rw [e, zmag_fin]; unfold inUnits
  rw [show q - -1074 = q + (1074 : Nat) by omega, a]; rfl
theorem mul_rr {a b : UInt64} {c d : Nat} {q r : Int} (ha : val64 a = .fin false c q) (hb : val64 b = .fin false d r) : val64 (FP.dmul a b) = rr (zm a * zm b) (2 ^ 2148) := by
  show val64 (Core.dmul a b) = _
  have fa : Core.fits b64 (.fin false c q) := ha ▸ val64_fits a
  have fb : Core.fits b64 (.fin false d r) := hb ▸ val64_fits b
  have qa : -1074 ≤ q := by have := fa.2.1; rw [qmin_b64] at this; exact this
  have qb : -1074 ≤ r := by have := fb.2.1; rw [qmin_b64] at this; exact this
  rw [val64_dmul, ha, hb]
  show roundRatio b64 (false != false) (c * d) 1 (q + r) = _
  unfold rr zm
  rw [ha, hb, zmag_fin, zmag_fin]
  refine roundRatio_congr (by decide) (Nat.two_pow_pos _) ?_
  unfold inUnits
  rw [Nat.mul_one, show q + r - 0 = q + r by omega, show 0 - (q + r) = -(q + r) by omega]
  have e : 2 ^ 2148 * 2 ^ (q + r).toNat = 2 ^ (q - -1074).toNat * 2 ^ (r - -1074).toNat * 2 ^ (-(q + r)).toNat := by
    rw [← Nat.pow_add, ← Nat.pow_add, ← Nat.pow_add]; congr 1; omega
  calc c * d * 2 ^ 2148 * 2 ^ (q + r).toNat = c * d * (2 ^ 2148 * 2 ^ (q + r).toNat) := Nat.mul_assoc _ _ _
    _ = c * d * (2 ^ (q - -1074).toNat * 2 ^ (r - -1074).toNat * 2 ^ (-(q + r)).toNat) := by rw [e]
    _ = _ := by ac_rfl
end OwnRound2

section OwnRel
open Jvm.FP Jvm.FP.Core
theorem rel_cut (N : Nat) (hN : 2 ^ 100 ≤ N) : ∃ c e : Nat, 2 ^ 52 ≤ c ∧ c < 2 ^ 53 ∧ c * 2 ^ e ≤ N ∧ N < c * 2 ^ e + 2 ^ e := by
  have h0 : N ≠ 0 := by omega
  have hL : 100 ≤ N.log2 := (Nat.le_log2 h0).mpr hN
  obtain ⟨e, he⟩ : ∃ e, N.log2 = 52 + e := ⟨N.log2 - 52, by omega⟩
  have h1 : 2 ^ N.log2 ≤ N := Nat.log2_self_le h0
  have h2 : N < 2 ^ (N.log2 + 1) := Nat.lt_log2_self
  rw [he, Nat.pow_add] at h1
  rw [he, show 52 + e + 1 = 53 + e by omega, Nat.pow_add] at h2
  have hp := Nat.two_pow_pos e
  refine ⟨N / 2 ^ e, e, (Nat.le_div_iff_mul_le hp).mpr h1, (Nat.div_lt_iff_lt_mul hp).mpr h2, Nat.div_mul_le_self _ _, ?_⟩
  have := Nat.lt_div_mul_add (a := N) hp
  exact this
theorem rel_core (M B c' E P8 : Nat) (hB : 0 < B) (k1 : 2 ^ 52 ≤ c') (k3 : c' * E ≤ M / B) (k4 : M / B < c' * E + E) : (((M * P8 : Nat) : Int) - ((c' * E * P8 * B : Nat) : Int)).natAbs * 2 ^ 52 ≤ M * P8 := by
  have d1 : M / B * B ≤ M := Nat.div_mul_le_self _ _
  have d2 : M < M / B * B + B := Nat.lt_div_mul_add hB
  generalize M / B = n at *
  have m1 := Nat.mul_le_mul_right B k3
  have m2 := Nat.mul_le_mul_right B (Nat.succ_le_of_lt k4)
  rw [Nat.succ_mul, Nat.add_mul] at m2
  have m3 : 2 ^ 52 * (E * B) ≤ c' * E * B := by rw [Nat.mul_assoc c']; exact Nat.mul_le_mul_right _ k1
  have e3 : c' * E * P8 * B = c' * E * B * P8 := Nat.mul_right_comm _ _ _
  rw [e3]
  generalize c' * E * B = u at *
  generalize E * B = w at *
  have hu : u ≤ M := by omega
  rw [show (((M * P8 : Nat) : Int) - ((u * P8 : Nat) : Int)).natAbs = (M - u) * P8 by
    have : u * P8 ≤ M * P8 := Nat.mul_le_mul_right _ hu
    rw [Nat.sub_mul]; generalize u * P8 = a at *; generalize M * P8 = b at *; omega, Nat.mul_right_comm]
  exact Nat.mul_le_mul_right _ (by omega)
/-- rounding's relative error -/
theorem rr_rel {A B c : Nat} {q : Int} (hB : 0 < B) (hR : rr A B = .fin false c q) (hA : B ≤ A * 2 ^ 100) :
    (((A * 2 ^ 1074 : Nat) : Int) - ((zmag b64 (.fin false c q) * B : Nat) : Int)).natAbs * 2 ^ 52 ≤ A * 2 ^ 1074 := by
  obtain ⟨c', e, k1, k2, k3, k4⟩ := rel_cut (A * 2 ^ 200 / B) ((Nat.le_div_iff_mul_le hB).mpr (by
    rw [show (200 : Nat) = 100 + 100 from rfl, Nat.pow_add, ← Nat.mul_assoc, Nat.mul_comm (2 ^ 100) B]; exact Nat.mul_le_mul_right _ hA))
  have h := roundRatio_nearest good_b64 hB hR (c' := c') (q' := (e : Int) - 200) (by exact k2) (by rw [qmin_b64]; omega) (e0 := -1074) (by rw [qmin_b64]; decide) (by decide)
  unfold distance at h
  rw [units0, ← zmag_fin false c q, ← Int.natCast_mul, ← Int.natCast_mul] at h
  refine Nat.le_trans (Nat.mul_le_mul_right _ h) ?_
  have eu : inUnits c' ((e : Int) - 200) (-1074) = c' * 2 ^ e * 2 ^ 874 := by
    unfold inUnits; rw [show ((e : Int) - 200 - -1074).toNat = e + 874 by omega, Nat.pow_add, Nat.mul_assoc]
  have eP : A * 2 ^ 1074 = A * 2 ^ 200 * 2 ^ 874 := by rw [Nat.mul_assoc, ← Nat.pow_add]
  rw [eu, eP]
  exact rel_core _ B c' (2 ^ e) (2 ^ 874) hB k1 k3 k4
end OwnRel

section OwnAp
open Jvm.FP Jvm.FP.Core
def st (x : Int32 × UInt64) (c k : Int32) : Int32 × UInt64 := if c = 0 then x else (x.1 + 1, FP.dadd x.2 (FP.ddiv (FP.i2d (x.1 + 1)) (FP.i2d k)))
def nt (x : Int32 × Int32) (c k : Int32) : Int32 × Int32 := if c = 0 then x else (x.1 + 1, x.2 + (x.1 + 1) * k)
def a6 (c0 c1 c2 c3 c4 c5 : Int32) : Int32 × UInt64 := st (st (st (st (st (st (0, 0) c0 1) c1 2) c2 3) c3 4) c4 5) c5 6
def n6 (c0 c1 c2 c3 c4 c5 : Int32) : Int32 × Int32 := nt (nt (nt (nt (nt (nt (0, 0) c0 60) c1 30) c2 20) c3 15) c4 12) c5 10
def okS (S : UInt64) (m : Int32) : Bool :=
  match val64 S with
  | .fin false _ _ => (zm S == 0 || Nat.ble (2 ^ 1070) (zm S)) && Nat.ble (zm S) (8 * 2 ^ 1074) && (decide (0 ≤ m.toInt) && decide (m.toInt ≤ 1000)) && (Nat.ble ((60 * zm S - m.toInt.natAbs * 2 ^ 1074) * 2 ^ 40) (2 ^ 1074) && Nat.ble ((m.toInt.natAbs * 2 ^ 1074 - 60 * zm S) * 2 ^ 40) (2 ^ 1074))
  | _ => false
def ib (b : Bool) : Int32 := if b then 1 else 0
set_option maxRecDepth 100000 in
theorem ok_all : ∀ b0 b1 b2 b3 b4 b5 : Bool, okS (a6 (ib b0) (ib b1) (ib b2) (ib b3) (ib b4) (ib b5)).2 (n6 (ib b0) (ib b1) (ib b2) (ib b3) (ib b4) (ib b5)).2 = true := by decide +kernel
end OwnAp
section OwnAp2
open Jvm.FP Jvm.FP.Core
theorem ok_open {S : UInt64} {m : Int32} (h : okS S m = true) : ∃ c q, val64 S = .fin false c q ∧ (zm S = 0 ∨ 2 ^ 1070 ≤ zm S) ∧ zm S ≤ 8 * 2 ^ 1074 ∧ 0 ≤ m.toInt ∧ m.toInt ≤ 1000 ∧ (60 * zm S - m.toInt.natAbs * 2 ^ 1074) * 2 ^ 40 ≤ 2 ^ 1074 ∧ (m.toInt.natAbs * 2 ^ 1074 - 60 * zm S) * 2 ^ 40 ≤ 2 ^ 1074 := by
  unfold okS at h
  split at h
  · rename_i c q e
    obtain ⟨h, h5⟩ := Bool.and_eq_true_iff.mp h
    obtain ⟨h, h4⟩ := Bool.and_eq_true_iff.mp h
    obtain ⟨h, h3⟩ := Bool.and_eq_true_iff.mp h
    obtain ⟨h5, h6⟩ := Bool.and_eq_true_iff.mp h5
    obtain ⟨h4, h7⟩ := Bool.and_eq_true_iff.mp h4
    refine ⟨c, q, e, ?_, Nat.le_of_ble_eq_true h3, of_decide_eq_true h4, of_decide_eq_true h7, Nat.le_of_ble_eq_true h5, Nat.le_of_ble_eq_true h6⟩
    rcases (Bool.or_eq_true_iff).mp h with h | h
    · exact Or.inl (eq_of_beq h)
    · exact Or.inr (Nat.le_of_ble_eq_true h)
  · cases h
theorem rel_cancel {a b P : Nat} (hP : 0 < P) (h : (((a * P : Nat) : Int) - ((b * P : Nat) : Int)).natAbs * 2 ^ 52 ≤ a * P) : ((a : Int) - (b : Int)).natAbs * 2 ^ 52 ≤ a := by
  have e : (((a * P : Nat) : Int) - ((b * P : Nat) : Int)).natAbs = ((a : Int) - (b : Int)).natAbs * P := by
    rw [Int.natCast_mul, Int.natCast_mul, ← Int.sub_mul, Int.natAbs_mul, Int.natAbs_natCast]
  rw [e, Nat.mul_right_comm] at h
  exact Nat.le_of_mul_le_mul_right h hP
theorem ap_core (P s y b mP : Nat) (x1 : ((s : Int) - (y : Int)).natAbs * 2 ^ 52 ≤ s) (x2 : (((60 * y : Nat) : Int) - (b : Int)).natAbs * 2 ^ 52 ≤ 60 * y) (x3 : (60 * s - mP) * 2 ^ 40 ≤ P) (x4 : (mP - 60 * s) * 2 ^ 40 ≤ P) (x5 : s ≤ 8 * P) : (b - mP) * 2 ^ 20 ≤ P ∧ (mP - b) * 2 ^ 20 ≤ P := by omega
theorem ap_core2 (Q s y : Nat) (x1 : ((s : Int) - (y : Int)).natAbs * 2 ^ 52 ≤ s) (h : Q ≤ s) : 16 * Q ≤ 60 * y * 2 ^ 100 := by omega
theorem ap_core3 (P s y : Nat) (x1 : ((s : Int) - (y : Int)).natAbs * 2 ^ 52 ≤ s) (h : s ≤ 8 * P) : 60 * y ≤ 2 ^ 63 * P := by omega
theorem zero_rel {A B c : Nat} {q : Int} (hB : 0 < B) (hR : rr A B = .fin false c q) (hA : A = 0) : zmag b64 (.fin false c q) = 0 := by
  have h := rr_le (A := A) (B := B) (V := 0) hB (by decide +kernel) (by rw [hA, Nat.zero_mul]; exact Nat.zero_le _)
  rw [zm_zero, hR] at h; exact Nat.le_zero.mp h
theorem i2d_zm (r : Int32) : zm (FP.i2d r) = r.toInt.natAbs * 2 ^ 1074 := by
  rw [zm_dy (db_i2d r).1 (by decide)]; exact congrArg (fun z => r.toInt.natAbs * 2 ^ z) (show ((0 : Int) + 1074).toNat = 1074 from rfl)
theorem i2d_finR {r : Int32} (h : 0 ≤ r.toInt) : ∃ c q, val64 (FP.i2d r) = .fin false c q := by
  rw [show FP.i2d r = FP.l2d r.toInt64 from Core.i2d_l2d r]
  exact l2d_finR (by rw [Int32.toInt_toInt64]; exact h)
theorem db_60 : DB 0 60 60 4633641066610819072 := ⟨by rw [show val64 4633641066610819072 = .fin false 8444249301319680 (-47) by decide +kernel]; exact dy_mk (by decide +kernel) rfl, by decide⟩
theorem t60_zm (r : Int32) : zm (FP.dmul 4633641066610819072 (FP.i2d r)) = 60 * r.toInt.natAbs * 2 ^ 1074 := by
  rw [zm_dy (db_mul db_60 (db_i2d r) (by decide) (by decide) (by decide)).1 (by decide), Int.natAbs_mul]; exact congrArg (fun z => 60 * r.toInt.natAbs * 2 ^ z) (show ((0 : Int) + 0 + 1074).toNat = 1074 from rfl)
theorem top_lt : 2 ^ 63 * 2 ^ 1074 < 2 ^ 2098 := by decide +kernel
theorem fin_of_zm {A B : Nat} {x : UInt64} (h : val64 x = rr A B) (hz : zm x ≤ 2 ^ 63 * 2 ^ 1074) : ∃ c q, val64 x = .fin false c q := by
  rw [h]; refine rr_fin (Nat.lt_of_le_of_lt ?_ top_lt); rw [← h]; exact hz
theorem t60_fin {r : Int32} (h : 0 ≤ r.toInt) : ∃ c q, val64 (FP.dmul 4633641066610819072 (FP.i2d r)) = .fin false c q := by
  obtain ⟨c, q, e⟩ := i2d_finR h
  refine fin_of_zm (mul_rr (show val64 4633641066610819072 = .fin false 8444249301319680 (-47) by decide +kernel) e) ?_
  rw [t60_zm]; exact Nat.mul_le_mul_right _ (by have := Int32.toInt_lt r; omega)
end OwnAp2
section OwnAp3
open Jvm.FP Jvm.FP.Core
theorem pp_pos : 0 < 2 ^ 1074 := Nat.two_pow_pos _
theorem big_ok : 2147483648 * 2 ^ 1074 ≤ 2 ^ 1070 * 2 ^ 100 := by decide +kernel
theorem p_16 : 2 ^ 1074 = 16 * 2 ^ 1070 := by decide +kernel
theorem p_20 : 2 ^ 1074 = 2 ^ 1054 * 2 ^ 20 := by decide +kernel
theorem p_pp : 2 ^ 2148 = 2 ^ 1074 * 2 ^ 1074 := by rw [← Nat.pow_add]
theorem zm_63 : zm 4890909195324358656 = 2 ^ 63 * 2 ^ 1074 := by
  unfold zm; rw [show val64 4890909195324358656 = .fin false (2 ^ 52) 11 by decide +kernel, zmag_fin]; decide +kernel
theorem ap_div {S : UInt64} {r : Int32} {c : Nat} {q : Int} (hS : val64 S = .fin false c q) (h0 : zm S = 0 ∨ 2 ^ 1070 ≤ zm S) (h8 : zm S ≤ 8 * 2 ^ 1074) (hr : 1 ≤ r.toInt) :
    (∃ c q, val64 (FP.ddiv S (FP.i2d r)) = .fin false c q) ∧ ((zm S : Int) - ((zm (FP.ddiv S (FP.i2d r)) * r.toInt.natAbs : Nat) : Int)).natAbs * 2 ^ 52 ≤ zm S := by
  obtain ⟨d, w, er⟩ := i2d_finR (r := r) (by omega)
  have hR : 1 ≤ r.toInt.natAbs := by omega
  have hR2 : r.toInt.natAbs ≤ 2147483648 := by have := Int32.toInt_lt r; omega
  have hz : 0 < zm (FP.i2d r) := by rw [i2d_zm]; exact Nat.mul_pos hR pp_pos
  have e := div_rr hS er (zm_pos er hz)
  have hle : zm (FP.ddiv S (FP.i2d r)) ≤ zm S := by
    rw [show zm (FP.ddiv S (FP.i2d r)) = zmag b64 (rr (zm S) (zm (FP.i2d r))) from congrArg _ e]
    refine rr_le hz (by rw [hS]; exact fun z => by cases z) ?_
    rw [i2d_zm]; exact Nat.mul_le_mul_left _ (Nat.le_mul_of_pos_left _ hR)
  have hf := fin_of_zm e (Nat.le_trans hle (Nat.le_trans h8 (Nat.mul_le_mul_right _ (by decide))))
  refine ⟨hf, ?_⟩
  obtain ⟨c', q', e'⟩ := hf
  have eR : rr (zm S) (zm (FP.i2d r)) = .fin false c' q' := e.symm.trans e'
  have ez : zm (FP.ddiv S (FP.i2d r)) = zmag b64 (.fin false c' q') := congrArg _ e'
  rcases h0 with h0 | h0
  · rw [h0] at hle ⊢; rw [Nat.le_zero.mp hle, Nat.zero_mul]; decide
  · have h := rr_rel hz eR (by
      rw [i2d_zm]
      exact Nat.le_trans (Nat.mul_le_mul_right _ hR2) (Nat.le_trans big_ok (Nat.mul_le_mul_right _ h0)))
    rw [← ez, i2d_zm, ← Nat.mul_assoc] at h
    exact rel_cancel pp_pos h
theorem ap_mul {A : UInt64} {r : Int32} {s : Nat} (hA : ∃ c q, val64 A = .fin false c q) (h0 : s = 0 ∨ 2 ^ 1070 ≤ s) (h8 : s ≤ 8 * 2 ^ 1074) (hr : 1 ≤ r.toInt) (x1 : ((s : Int) - ((zm A * r.toInt.natAbs : Nat) : Int)).natAbs * 2 ^ 52 ≤ s) :
    (∃ c q, val64 (FP.dmul A (FP.dmul 4633641066610819072 (FP.i2d r))) = .fin false c q) ∧ (((60 * (zm A * r.toInt.natAbs) : Nat) : Int) - (zm (FP.dmul A (FP.dmul 4633641066610819072 (FP.i2d r))) : Int)).natAbs * 2 ^ 52 ≤ 60 * (zm A * r.toInt.natAbs) := by
  obtain ⟨c, q, eA⟩ := hA
  obtain ⟨d, w, et⟩ := t60_fin (r := r) (by omega)
  have e := mul_rr eA et
  have eq : rr (zm A * zm (FP.dmul 4633641066610819072 (FP.i2d r))) (2 ^ 2148) = rr (60 * (zm A * r.toInt.natAbs)) (2 ^ 1074) := by
    refine rr_congr (Nat.two_pow_pos _) pp_pos ?_
    rw [t60_zm, p_pp]
    generalize zm A = a
    generalize r.toInt.natAbs = R
    generalize 2 ^ 1074 = P
    ac_rfl
  rw [eq] at e
  have g3 := ap_core3 _ _ _ x1 h8
  have hle : zm (FP.dmul A (FP.dmul 4633641066610819072 (FP.i2d r))) ≤ 2 ^ 63 * 2 ^ 1074 := by
    rw [show zm (FP.dmul A (FP.dmul 4633641066610819072 (FP.i2d r))) = zmag b64 (rr (60 * (zm A * r.toInt.natAbs)) (2 ^ 1074)) from congrArg _ e]
    rw [← zm_63]
    refine rr_le pp_pos (by decide +kernel) ?_
    rw [zm_63]; exact Nat.mul_le_mul_right _ g3
  have hf := fin_of_zm e hle
  refine ⟨hf, ?_⟩
  obtain ⟨c', q', e'⟩ := hf
  have eR : rr (60 * (zm A * r.toInt.natAbs)) (2 ^ 1074) = .fin false c' q' := e.symm.trans e'
  have ez : zm (FP.dmul A (FP.dmul 4633641066610819072 (FP.i2d r))) = zmag b64 (.fin false c' q') := congrArg _ e'
  rw [ez]
  rcases h0 with h0 | h0
  · have hy : zm A * r.toInt.natAbs = 0 := by rw [h0] at x1; revert x1; generalize zm A * r.toInt.natAbs = y; intro x1; omega
    rw [zero_rel pp_pos eR (by rw [hy]), hy]; decide
  · have h := rr_rel pp_pos eR (by rw [p_16]; exact ap_core2 _ _ _ x1 h0)
    exact rel_cancel pp_pos h
end OwnAp3
section OwnAp4
open Jvm.FP Jvm.FP.Core
theorem v20 : val64 4517110426252607488 = .fin false (2 ^ 52) (-72) := by decide +kernel
theorem v20n : val64 13740482463107383296 = .fin true (2 ^ 52) (-72) := by decide +kernel
theorem z20 : zval b64 (val64 4517110426252607488) = ((2 ^ 1054 : Nat) : Int) := by rw [v20]; decide +kernel
theorem z20n : zval b64 (val64 13740482463107383296) = -((2 ^ 1054 : Nat) : Int) := by rw [v20n]; decide +kernel
theorem sub_abs (P E u w : Nat) (hP : P = E * 2 ^ 20) (h1 : (u - w) * 2 ^ 20 ≤ P) (h2 : (w - u) * 2 ^ 20 ≤ P) : (u : Int) + -(w : Int) ≤ E ∧ -(E : Int) ≤ (u : Int) + -(w : Int) := by omega
theorem ap_sub {U : UInt64} {m : Int32} (hU : ∃ c q, val64 U = .fin false c q) (hm : 0 ≤ m.toInt) (h1 : (zm U - m.toInt.natAbs * 2 ^ 1074) * 2 ^ 20 ≤ 2 ^ 1074) (h2 : (m.toInt.natAbs * 2 ^ 1074 - zm U) * 2 ^ 20 ≤ 2 ^ 1074) :
    zval b64 (val64 (FP.dsub U (FP.i2d m))) ≤ ((2 ^ 1054 : Nat) : Int) ∧ -((2 ^ 1054 : Nat) : Int) ≤ zval b64 (val64 (FP.dsub U (FP.i2d m))) := by
  obtain ⟨c, q, eU⟩ := hU
  obtain ⟨d, r, em⟩ := i2d_finR hm
  have fU : Core.fits b64 (.fin false c q) := eU ▸ val64_fits U
  have fm : Core.fits b64 (.fin true d r) := negate_fits (em ▸ val64_fits (FP.i2d m) : Core.fits b64 (.fin false d r))
  obtain ⟨sg, n, e, k1, k2, k3⟩ := sum_units fU fm
  have ev : val64 (FP.dsub U (FP.i2d m)) = round b64 (.fin sg n e) := by
    rw [show val64 (FP.dsub U (FP.i2d m)) = _ from val64_dsub U (FP.i2d m), eU, em]
    exact congrArg _ k1
  have z1 : zval b64 (.fin false c q) = (zm U : Int) := by unfold zval zm; rw [eU]; rfl
  have z2 : zval b64 (.fin true d r) = -((m.toInt.natAbs * 2 ^ 1074 : Nat) : Int) := by
    rw [← i2d_zm]; unfold zval zm; rw [em]; rfl
  rw [z1, z2] at k3
  obtain ⟨b1, b2⟩ := sub_abs _ _ _ _ p_20 h1 h2
  rw [ev]
  have e0 : ∀ z : Int, z * ((2 ^ (b64.qmin - b64.qmin).toNat : Nat) : Int) = z := fun z => by rw [Int.sub_self]; exact Int.mul_one z
  constructor
  · rw [← z20]
    refine zval_round_le good_b64 (val64_fits _) (by rw [v20]; exact fun z => by cases z) (Int.le_refl _) k2 ?_
    rw [k3, e0, z20]; exact b1
  · rw [← z20n]
    refine zval_round_ge good_b64 (val64_fits _) (by rw [v20n]; exact fun z => by cases z) (Int.le_refl _) k2 ?_
    rw [k3, e0, z20n]; exact b2
theorem zC : ((2 ^ 1054 : Nat) : Int) < zval b64 (val64 4517329193108106637) := by decide +kernel
theorem zCn : zval b64 (val64 13740701229962882445) < -((2 ^ 1054 : Nat) : Int) := by decide +kernel
theorem ap_cmp {d : UInt64} (hn : Core.dIsNaN d = false) (h1 : zval b64 (val64 d) ≤ ((2 ^ 1054 : Nat) : Int)) (h2 : -((2 ^ 1054 : Nat) : Int) ≤ zval b64 (val64 d)) :
    cmpValue (FP.dcmp d 4517329193108106637) .g < 0 ∧ 0 < cmpValue (FP.dcmp d 13740701229962882445) .l := by
  have nd : val64 d ≠ .nan := (notNaN_iff d).mp hn
  have a1 := Core.dcmp_zval (b := 4517329193108106637) nd (by decide +kernel)
  have a2 := Core.dcmp_zval (b := 13740701229962882445) nd (by decide +kernel)
  have l1 := Int.lt_of_le_of_lt h1 zC
  have l2 := Int.lt_of_lt_of_le zCn h2
  constructor
  · rw [show FP.dcmp d 4517329193108106637 = _ from a1, compare_ite, if_pos l1]; decide
  · rw [show FP.dcmp d 13740701229962882445 = _ from a2, compare_ite, if_neg (Int.lt_asymm l2), if_neg (Ne.symm (Int.ne_of_lt l2))]; decide
theorem ap_law {S : UInt64} {m r : Int32} (hS : okS S m = true) (hr : ¬ r < 1) :
    Jvm.Free.Fl.NoNaN64 (FP.ddiv S (FP.i2d r)) ∧ Jvm.Free.Fl.NoNaN64 (FP.dmul 4633641066610819072 (FP.i2d r)) ∧ Jvm.Free.Fl.NoNaN64 (FP.dmul (FP.ddiv S (FP.i2d r)) (FP.dmul 4633641066610819072 (FP.i2d r))) ∧ Jvm.Free.Fl.NoNaN64 (FP.dsub (FP.dmul (FP.ddiv S (FP.i2d r)) (FP.dmul 4633641066610819072 (FP.i2d r))) (FP.i2d m)) ∧
    cmpValue (FP.dcmp (FP.dsub (FP.dmul (FP.ddiv S (FP.i2d r)) (FP.dmul 4633641066610819072 (FP.i2d r))) (FP.i2d m)) 4517329193108106637) .g < 0 ∧ 0 < cmpValue (FP.dcmp (FP.dsub (FP.dmul (FP.ddiv S (FP.i2d r)) (FP.dmul 4633641066610819072 (FP.i2d r))) (FP.i2d m)) 13740701229962882445) .l := by
  have hr1 : 1 ≤ r.toInt := by rw [Int32.lt_iff_toInt_lt] at hr; have e1 : (1 : Int32).toInt = 1 := rfl; omega
  obtain ⟨c, q, eS, k0, k8, km, km2, kx, ky⟩ := ok_open hS
  obtain ⟨f1, x1⟩ := ap_div eS k0 k8 hr1
  obtain ⟨f2, x2⟩ := ap_mul f1 k0 k8 hr1 x1
  obtain ⟨y1, y2⟩ := ap_core _ _ _ _ _ x1 x2 kx ky k8
  obtain ⟨w1, w2⟩ := ap_sub f2 km y1 y2
  have g : ∀ {x : UInt64}, (∃ c q, val64 x = .fin false c q) → DFin x := fun h => by obtain ⟨c, q, e⟩ := h; exact ⟨_, c, q, e⟩
  have hn : Core.dIsNaN (FP.dsub (FP.dmul (FP.ddiv S (FP.i2d r)) (FP.dmul 4633641066610819072 (FP.i2d r))) (FP.i2d m)) = false := dsub_out (g f2).notNaN (i2d_fin m)
  exact ⟨Jvm.Free.Fl.noNaN64_no.mpr (g f1).notNaN, Jvm.Free.Fl.noNaN64_no.mpr (g (t60_fin (by omega))).notNaN, Jvm.Free.Fl.noNaN64_no.mpr (g f2).notNaN, Jvm.Free.Fl.noNaN64_no.mpr hn, ap_cmp hn w1 w2⟩
end OwnAp4

theorem st0 {x : Int32 × UInt64} {c k : Int32} (h : c = 0) : st x c k = x := if_pos h
theorem st0z {x : Int32 × UInt64} {k : Int32} : st x 0 k = x := if_pos rfl
theorem st1 {f : Int32} {S : UInt64} {c k : Int32} (h : ¬ c = 0) : st (f, S) c k = (f + 1, FP.dadd S (FP.ddiv (FP.i2d (f + 1)) (FP.i2d k))) := if_neg h
theorem nt0 {x : Int32 × Int32} {c k : Int32} (h : c = 0) : nt x c k = x := if_pos h
theorem nt0z {x : Int32 × Int32} {k : Int32} : nt x 0 k = x := if_pos rfl
theorem nt1 {f m : Int32} {c k : Int32} (h : ¬ c = 0) : nt (f, m) c k = (f + 1, m + (f + 1) * k) := if_neg h
theorem own_ib {c : Int32} (h : c = 0 ∨ c = 1) : ∃ b, c = ib b := by
  rcases h with rfl | rfl
  · exact ⟨false, rfl⟩
  · exact ⟨true, rfl⟩
theorem ok_bits {c0 c1 c2 c3 c4 c5 : Int32} (h0 : c0 = 0 ∨ c0 = 1) (h1 : c1 = 0 ∨ c1 = 1) (h2 : c2 = 0 ∨ c2 = 1) (h3 : c3 = 0 ∨ c3 = 1) (h4 : c4 = 0 ∨ c4 = 1) (h5 : c5 = 0 ∨ c5 = 1) : okS (a6 c0 c1 c2 c3 c4 c5).2 (n6 c0 c1 c2 c3 c4 c5).2 = true := by
  obtain ⟨b0, rfl⟩ := own_ib h0; obtain ⟨b1, rfl⟩ := own_ib h1; obtain ⟨b2, rfl⟩ := own_ib h2; obtain ⟨b3, rfl⟩ := own_ib h3; obtain ⟨b4, rfl⟩ := own_ib h4; obtain ⟨b5, rfl⟩ := own_ib h5
  exact ok_all b0 b1 b2 b3 b4 b5
theorem own_nz {c : Int32} (h : ¬ c < 1) : c ≠ 0 := fun q => h (by rw [q]; decide)
theorem own_dv {S : UInt64} {c : Int32} (hS : FP.Core.dIsNaN S = false) (h : ¬ c < 1) : Jvm.Free.Fl.NoNaN64 (FP.ddiv S (FP.i2d c)) :=
  Jvm.Free.Fl.noNaN64_no.mpr (FP.Core.ddiv_out hS (FP.Core.i2d_fin c) (fun q => FP.Core.i2d_ne_zero (own_nz h) ((FP.Core.zero_bits2 _).mp q)))
theorem own_dn {c : Int32} (h : ¬ c < 1) (f : Int32) : Jvm.Free.Fl.NoNaN64 (FP.ddiv (FP.i2d f) (FP.i2d c)) := own_dv (FP.Core.i2d_fin f).notNaN h
theorem own_db {S : UInt64} {f c : Int32} (hS : FP.Core.dIsNaN S = false) (h : ¬ c < 1) : FP.Core.dIsNaN (FP.dadd S (FP.ddiv (FP.i2d f) (FP.i2d c))) = false := by
  refine FP.Core.dadd_out hS (FP.Core.fin_of_lt (K := 1057) (FP.Core.ddiv_mag (K := 1056) (L := 1023) (FP.Core.i2d_mag f) ?_ ?_ (by decide) (by decide)) (by decide))
  · exact FP.Core.fromInt_ge (FP.Core.toNat_i2d c) (fun q => own_nz h (Int32.toInt_inj.mp q))
  · have h := FP.Core.i2d_mag c; exact Nat.lt_trans h (by decide)
theorem own_da {S : UInt64} {f c : Int32} (hS : FP.Core.dIsNaN S = false) (h : ¬ c < 1) : Jvm.Free.Fl.NoNaN64 (FP.dadd S (FP.ddiv (FP.i2d f) (FP.i2d c))) := Jvm.Free.Fl.noNaN64_no.mpr (own_db hS h)
theorem own_nar {b : Int32} (h : b = 0 ∨ b = 1) : nar .boolean b = b := by rcases h with rfl | rfl <;> rfl
theorem own_max (y : Int32) : ¬ (if (1 : Int32) < y then y else (1 : Int32)) < 1 := by
  by_cases h : (1 : Int32) < y
  · rw [if_pos h]; rw [Int32.lt_iff_toInt_lt] at h ⊢; omega
  · rw [if_neg h]; decide
theorem own_len (y : Int32) : (y &&& (7 : Int32)) % (7 : Int32) = 0 ∨ (y &&& (7 : Int32)) % (7 : Int32) = 1 ∨ (y &&& (7 : Int32)) % (7 : Int32) = 2 ∨ (y &&& (7 : Int32)) % (7 : Int32) = 3 ∨ (y &&& (7 : Int32)) % (7 : Int32) = 4 ∨ (y &&& (7 : Int32)) % (7 : Int32) = 5 ∨ (y &&& (7 : Int32)) % (7 : Int32) = 6 := by
  have h1 := c_and y 7 (by decide)
  generalize y &&& (7 : Int32) = w at *
  have h0 : 0 ≤ w.toInt := by omega
  have h2 := (c_irem w 7 7 rfl).1 h0
  simp only [← Int32.toInt_inj]
  show (w % 7).toInt = 0 ∨ (w % 7).toInt = 1 ∨ (w % 7).toInt = 2 ∨ (w % 7).toInt = 3 ∨ (w % 7).toInt = 4 ∨ (w % 7).toInt = 5 ∨ (w % 7).toInt = 6
  omega

theorem pd_0 : parseMethodDescriptor "(II)I" = some ⟨[.int, .int], some .int⟩ := by decide +kernel
theorem pd_1 : parseMethodDescriptor "([ZI)V" = some ⟨[(.array .boolean), .int], none⟩ := by decide +kernel
theorem pd_2 : parseMethodDescriptor "()D" = some ⟨[], some .double⟩ := by decide +kernel
theorem d1_0 : decode jdk_29_method_65_code 0 = .ok (.iload_n 0, 1) := by decide +kernel
theorem d1_1 : decode jdk_29_method_65_code 1 = .ok (.iload_n 1, 1) := by decide +kernel
theorem d1_2 : decode jdk_29_method_65_code 2 = .ok (.if_icmp .lt 7, 3) := by decide +kernel
theorem d1_5 : decode jdk_29_method_65_code 5 = .ok (.iload_n 0, 1) := by decide +kernel
theorem d1_6 : decode jdk_29_method_65_code 6 = .ok (.goto 4, 3) := by decide +kernel
theorem d1_9 : decode jdk_29_method_65_code 9 = .ok (.iload_n 1, 1) := by decide +kernel
theorem d1_10 : decode jdk_29_method_65_code 10 = .ok (.ireturn, 1) := by decide +kernel
theorem ef_1 (m : MethodId) (x0 : Int32) (x1 : Int32) : entryFrame m #[(.int x0), (.int x1)] 2 = mkF m 0 #[.val (.int x0), .val (.int x1)] [] := by first | (simp [entryFrame, mkF, argsToLocals, Value.category]; done) | rfl
set_option maxRecDepth 65536 in
set_option maxHeartbeats 40000000 in
theorem rm1 (l : Launch) (Z : State) (a0 : Array Value) (hw : ∀ d ∈ tables_1, d.before a0 Z = true) (ws : List Jvm.Cond) (p_ : Int32) (q_ : Int32)  (h0 : Heap)  :
    Con l (⟨"java/lang/Math", "max", "(II)I"⟩ : MethodName) jdk_29_method_65_code 2 (some .int) ws ({ frames := 0, cells := 0, slots := 0, locals := 0 } : Room) Z #[(.int p_), (.int q_)] h0 (fun v h L => (∀ n, Fr n L) ∧ v = some (.int (if p_ < q_ then q_ else p_)) ∧ h = h0) := by
  refine con_of (Jvm.Free.JP.mathPlain rfl (by decide +kernel)) ?_
  intro p e s m below meth c s₁ X0 hx hby hml hret hlk hown hnm hZ e0
  refine Go.cast (ef_1 m p_ q_) ?_
  refine go_iloadN (q := 1) X0 hx (hb hby d1_0) rfl rfl ?_
  refine go_iloadN (q := 2) X0 hx (hb hby d1_1) rfl rfl ?_
  refine go_icmp_lt (q := 5) (q' := 9) X0 hx (hb hby d1_2) rfl (by decide) rfl (fun hc2 => ?_) (fun hc2 => ?_)
  · refine go_iloadN (q := 10) X0 hx (hb hby d1_9) rfl rfl ?_
    exact go_retI X0 hx hret hlk (hb hby d1_10) (by decide) (by decide) ⟨fun _ => Fr.nil _, by rw [if_pos hc2], e0⟩
  · refine go_iloadN (q := 6) X0 hx (hb hby d1_5) rfl rfl ?_
    refine go_goto (q := 10) X0 hx (hb hby d1_6) (by decide) rfl ?_
    exact go_retI X0 hx hret hlk (hb hby d1_10) (by decide) (by decide) ⟨fun _ => Fr.nil _, by rw [if_neg hc2], e0⟩
theorem d2_0 : decode prog_3_method_1_code 0 = .ok (.aload_n 0, 1) := by decide +kernel
theorem d2_1 : decode prog_3_method_1_code 1 = .ok (.invokespecial 1, 3) := by decide +kernel
theorem d2_4 : decode prog_3_method_1_code 4 = .ok (.aload_n 1, 1) := by decide +kernel
theorem d2_5 : decode prog_3_method_1_code 5 = .ok (.ifnull 8, 3) := by decide +kernel
theorem d2_8 : decode prog_3_method_1_code 8 = .ok (.iload_n 2, 1) := by decide +kernel
theorem d2_9 : decode prog_3_method_1_code 9 = .ok (.iconst 1, 1) := by decide +kernel
theorem d2_10 : decode prog_3_method_1_code 10 = .ok (.if_icmp .ge 11, 3) := by decide +kernel
theorem d2_21 : decode prog_3_method_1_code 21 = .ok (.aload_n 0, 1) := by decide +kernel
theorem d2_22 : decode prog_3_method_1_code 22 = .ok (.aload_n 1, 1) := by decide +kernel
theorem d2_23 : decode prog_3_method_1_code 23 = .ok (.putfield 10, 3) := by decide +kernel
theorem d2_26 : decode prog_3_method_1_code 26 = .ok (.aload_n 0, 1) := by decide +kernel
theorem d2_27 : decode prog_3_method_1_code 27 = .ok (.iload_n 2, 1) := by decide +kernel
theorem d2_28 : decode prog_3_method_1_code 28 = .ok (.putfield 16, 3) := by decide +kernel
theorem d2_31 : decode prog_3_method_1_code 31 = .ok (.return_, 1) := by decide +kernel
theorem pn_2 : plainName "com/example/forager/forager/eval/Ranking" = true := by first | (simp [plainName, overriddenIn]; done) | decide +kernel
theorem ef_2 (m : MethodId) (x0 : Addr) (x1 : Addr) (x2 : Int32) : entryFrame m #[(.ref x0), (.ref x1), (.int x2)] 3 = mkF m 0 #[.val (.ref x0), .val (.ref x1), .val (.int x2)] [] := by first | (simp [entryFrame, mkF, argsToLocals, Value.category]; done) | rfl
set_option maxRecDepth 65536 in
set_option maxHeartbeats 40000000 in
theorem rm2 (l : Launch) (Z : State) (a0 : Array Value) (hw : ∀ d ∈ tables_1, d.before a0 Z = true) (ws : List Jvm.Cond) (ao : Addr) (ar : Addr) (n_ : Int32) (n0 : Nat) (u1 u2 : Value) (h0 : Heap) (hs0 : n0 ≤ h0.size) (g_ao : n0 ≤ ao) (E_ao : Exa Z h0 ao "com/example/forager/forager/eval/Ranking") (F1 : Fld Z h0 ao "com/example/forager/forager/eval/Ranking" "relevant" "[Z" u1) (F2 : Fld Z h0 ao "com/example/forager/forager/eval/Ranking" "relevantCount" "I" u2) (p1 : ¬ n_ < 1) :
    Con l (⟨"com/example/forager/forager/eval/Ranking", "<init>", "([ZI)V"⟩ : MethodName) prog_3_method_1_code 3 none ws ({ frames := 1, cells := 0, slots := 0, locals := 12 } : Room) Z #[(.ref ao), (.ref ar), (.int n_)] h0 (fun v h L => Fr n0 L ∧ v = none ∧ Keep h0 h [ao] ∧ Fld Z h ao "com/example/forager/forager/eval/Ranking" "relevant" "[Z" (.ref ar) ∧ Fld Z h ao "com/example/forager/forager/eval/Ranking" "relevantCount" "I" (.int n_)) := by
  refine con_of (plainFor_of_name pn_2) ?_
  intro p e s m below meth c s₁ X0 hx hby hml hret hlk hown hnm hZ e0
  refine Go.cast (ef_2 m ao ar n_) ?_
  have N0 := Fr.nil n0
  have hsz : n0 ≤ h0.size := hs0
  have K0 := Keep.refl h0 [ao]
  refine go_aloadN (q := 1) X0 hx (hb hby d2_0) rfl rfl rfl ?_
  refine go_initO (q := 4) (W := 0) X0 hx hZ hown (hw _ (List.mem_of_getElem? (i := 12) rfl)) (hw _ (List.mem_of_getElem? (i := 13) rfl)) (hw _ (List.mem_of_getElem? (i := 14) rfl)) e0 (by rw [hml]; rfl) (hb hby d2_1) rfl (by decide) (Nat.le_of_eq rfl) (by decide) (fun T1 X1 e1 => ?_)
  refine go_aloadN (q := 5) X1 hx (hb hby d2_4) rfl rfl rfl ?_
  refine go_ifnullR (q := 8) X1 hx (hb hby d2_5) rfl ?_
  refine go_iloadN (q := 9) X1 hx (hb hby d2_8) rfl rfl ?_
  refine go_iconst (q := 10) (v := (1 : Int32)) X1 hx (hb hby d2_9) rfl rfl ?_
  refine go_icmp_ge (q := 13) (q' := 21) X1 hx (hb hby d2_10) rfl (by decide) rfl (fun hc10 => ?_) (fun hc10 => ?_)
  · refine go_aloadN (q := 22) X1 hx (hb hby d2_21) rfl rfl rfl ?_
    refine go_aloadN (q := 23) X1 hx (hb hby d2_22) rfl rfl rfl ?_
    refine go_putF (q := 26) X1 hx hZ (host := "") hown (Or.inl (hw _ (List.mem_of_getElem? (i := 15) rfl))) Via.refl e1 F1 E_ao (Or.inr ⟨(hw _ (List.mem_of_getElem? (i := 16) rfl)), rfl, hnm⟩) (hw _ (List.mem_of_getElem? (i := 7) rfl)) (ty := (.array .boolean)) (by decide) rfl rfl N0 g_ao (hb hby d2_23) rfl (fun T2 h2 l2 X2 N2 e2 W2 => ?_)
    replace F1 := F1.same W2
    replace E_ao := E_ao.wr W2
    replace F2 := F2.other W2 (Or.inr (slot_ne (Or.inr (hw _ (List.mem_of_getElem? (i := 18) rfl))) (Or.inr (hw _ (List.mem_of_getElem? (i := 16) rfl))) (by decide) (t := .int) (t' := (.array .boolean)) (by decide) (by decide)))
    replace hsz := Nat.le_trans hsz (Nat.le_of_eq W2.size.symm)
    have KW2 : Keep h0 h2 [ao] := K0.wr W2 (Or.inl (by simp))
    refine go_aloadN (q := 27) X2 hx (hb hby d2_26) rfl rfl rfl ?_
    refine go_iloadN (q := 28) X2 hx (hb hby d2_27) rfl rfl ?_
    refine go_putF (q := 31) X2 hx hZ (host := "") hown (Or.inl (hw _ (List.mem_of_getElem? (i := 17) rfl))) Via.refl e2 F2 E_ao (Or.inr ⟨(hw _ (List.mem_of_getElem? (i := 18) rfl)), rfl, hnm⟩) (hw _ (List.mem_of_getElem? (i := 7) rfl)) (ty := .int) (by decide) rfl rfl N2 g_ao (hb hby d2_28) rfl (fun T3 h3 l3 X3 N3 e3 W3 => ?_)
    replace F2 := F2.same W3
    replace E_ao := E_ao.wr W3
    replace F1 := F1.other W3 (Or.inr (slot_ne (Or.inr (hw _ (List.mem_of_getElem? (i := 16) rfl))) (Or.inr (hw _ (List.mem_of_getElem? (i := 18) rfl))) (by decide) (t := (.array .boolean)) (t' := .int) (by decide) (by decide)))
    replace hsz := Nat.le_trans hsz (Nat.le_of_eq W3.size.symm)
    have KW3 : Keep h0 h3 [ao] := KW2.wr W3 (Or.inl (by simp))
    exact go_retV X3 hx hret hlk (hb hby d2_31) (by decide) (by decide) ⟨N3, rfl, by rw [e3]; exact ⟨KW3, F1, F2⟩⟩
  · exact absurd hc10 p1
theorem d4_0 : decode prog_3_method_3_code 0 = .ok (.dconst 0, 1) := by decide +kernel
theorem d4_1 : decode prog_3_method_3_code 1 = .ok (.dstore_n 1, 1) := by decide +kernel
theorem d4_2 : decode prog_3_method_3_code 2 = .ok (.iconst 0, 1) := by decide +kernel
theorem d4_3 : decode prog_3_method_3_code 3 = .ok (.istore_n 3, 1) := by decide +kernel
theorem d4_4 : decode prog_3_method_3_code 4 = .ok (.iconst 0, 1) := by decide +kernel
theorem d4_5 : decode prog_3_method_3_code 5 = .ok (.istore 4, 2) := by decide +kernel
theorem d4_7 : decode prog_3_method_3_code 7 = .ok (.iload 4, 2) := by decide +kernel
theorem d4_9 : decode prog_3_method_3_code 9 = .ok (.aload_n 0, 1) := by decide +kernel
theorem d4_10 : decode prog_3_method_3_code 10 = .ok (.getfield 10, 3) := by decide +kernel
theorem d4_13 : decode prog_3_method_3_code 13 = .ok (.arraylength, 1) := by decide +kernel
theorem d4_14 : decode prog_3_method_3_code 14 = .ok (.if_icmp .ge 33, 3) := by decide +kernel
theorem d4_47 : decode prog_3_method_3_code 47 = .ok (.dload_n 1, 1) := by decide +kernel
theorem d4_48 : decode prog_3_method_3_code 48 = .ok (.aload_n 0, 1) := by decide +kernel
theorem d4_49 : decode prog_3_method_3_code 49 = .ok (.getfield 16, 3) := by decide +kernel
theorem d4_52 : decode prog_3_method_3_code 52 = .ok (.i2d, 1) := by decide +kernel
theorem d4_53 : decode prog_3_method_3_code 53 = .ok (.ddiv, 1) := by decide +kernel
theorem d4_54 : decode prog_3_method_3_code 54 = .ok (.dreturn, 1) := by decide +kernel
theorem pn_4 : plainName "com/example/forager/forager/eval/Ranking" = true := by first | (simp [plainName, overriddenIn]; done) | decide +kernel
theorem ef_4 (m : MethodId) (x0 : Addr) : entryFrame m #[(.ref x0)] 5 = mkF m 0 #[.val (.ref x0), .unset, .unset, .unset, .unset] [] := by first | (simp [entryFrame, mkF, argsToLocals, Value.category]; done) | rfl
set_option maxRecDepth 65536 in
set_option maxHeartbeats 40000000 in
theorem rm4_0 (l : Launch) (Z : State) (a0 : Array Value) (hw : ∀ d ∈ tables_1, d.before a0 Z = true) (ws : List Jvm.Cond) (ao : Addr) (n0 : Nat) (ar : Addr) (kr : ClassId) (dr : Value) (rc : Int32) (h0 : Heap) (F1 : Fld Z h0 ao "com/example/forager/forager/eval/Ranking" "relevant" "[Z" (.ref ar)) (F2 : Fld Z h0 ao "com/example/forager/forager/eval/Ranking" "relevantCount" "I" (.int rc)) (V_ar : Arv Z h0 ar kr .boolean (0 : Int32) [] dr) (hrc : ¬ rc < 1) :
    Con l (⟨"com/example/forager/forager/eval/Ranking", "averagePrecision", "()D"⟩ : MethodName) prog_3_method_3_code 5 (some .double) ws ({ frames := 0, cells := 0, slots := 0, locals := 0 } : Room) Z #[(.ref ao)] h0 (fun v h L => Fr n0 L ∧ v = some (.double (FP.ddiv (a6 (0 : Int32) (0 : Int32) (0 : Int32) (0 : Int32) (0 : Int32) (0 : Int32)).2 (FP.i2d rc))) ∧ h = h0) := by
  refine con_of (plainFor_of_name pn_4) ?_
  intro p e s m below meth c s₁ X0 hx hby hml hret hlk hown hnm hZ e0
  refine Go.cast (ef_4 m ao) ?_
  have N0 := Fr.nil n0
  have hN0 : FP.Core.dIsNaN (0 : UInt64) = false := by decide +kernel
  refine go_dconst0 (q := 1) (v := (0 : UInt64)) X0 hx (hb hby d4_0) rfl rfl ?_
  refine go_dstoreN (q := 2) (l' := #[.val (.ref ao), .val (.double (0 : UInt64)), .second, .unset, .unset]) X0 hx (hb hby d4_1) rfl rfl ?_
  refine go_iconst (q := 3) (v := (0 : Int32)) X0 hx (hb hby d4_2) rfl rfl ?_
  refine go_istoreN (q := 4) (l' := #[.val (.ref ao), .val (.double (0 : UInt64)), .second, .val (.int (0 : Int32)), .unset]) X0 hx (hb hby d4_3) rfl rfl ?_
  refine go_iconst (q := 5) (v := (0 : Int32)) X0 hx (hb hby d4_4) rfl rfl ?_
  refine go_istore (q := 7) (l' := #[.val (.ref ao), .val (.double (0 : UInt64)), .second, .val (.int (0 : Int32)), .val (.int (0 : Int32))]) X0 hx (hb hby d4_5) rfl rfl ?_
  refine go_iload (q := 9) X0 hx (hb hby d4_7) rfl rfl ?_
  refine go_aloadN (q := 10) X0 hx (hb hby d4_9) rfl rfl rfl ?_
  refine go_getF (q := 13) X0 hx hZ (host := "") hown (Or.inl (hw _ (List.mem_of_getElem? (i := 15) rfl))) Via.refl e0 F1 (hb hby d4_10) rfl (fun T1 X1 e1 => ?_)
  refine go_alen (q := 14) X1 hx hZ e1 V_ar (hb hby d4_13) rfl ?_
  refine go_icmp_ge (q := 17) (q' := 47) X1 hx (hb hby d4_14) rfl (by decide) rfl (fun hl0 => ?_) (fun hl0 => ?_)
  · refine go_dloadN (q := 48) X1 hx (hb hby d4_47) rfl rfl ?_
    refine go_aloadN (q := 49) X1 hx (hb hby d4_48) rfl rfl rfl ?_
    refine go_getF (q := 52) X1 hx hZ (host := "") hown (Or.inl (hw _ (List.mem_of_getElem? (i := 17) rfl))) Via.refl e1 F2 (hb hby d4_49) rfl (fun T2 X2 e2 => ?_)
    refine go_i2d (q := 53) X2 hx (hb hby d4_52) rfl rfl ?_
    refine go_ddiv (q := 54) X2 hx (hb hby d4_53) rfl (own_dv hN0 hrc) rfl ?_
    have hA : ((0 : Int32), (0 : UInt64)) = (a6 (0 : Int32) (0 : Int32) (0 : Int32) (0 : Int32) (0 : Int32) (0 : Int32)) := by simp only [a6, st0z]
    exact go_retD X2 hx hret hlk (hb hby d4_54) (by decide) (by decide) ⟨N0, by rw [← hA], e2⟩
  · exact absurd hl0 (by decide)
theorem d4_17 : decode prog_3_method_3_code 17 = .ok (.aload_n 0, 1) := by decide +kernel
theorem d4_18 : decode prog_3_method_3_code 18 = .ok (.getfield 10, 3) := by decide +kernel
theorem d4_21 : decode prog_3_method_3_code 21 = .ok (.iload 4, 2) := by decide +kernel
theorem d4_23 : decode prog_3_method_3_code 23 = .ok (.baload, 1) := by decide +kernel
theorem d4_24 : decode prog_3_method_3_code 24 = .ok (.ifCond .eq 17, 3) := by decide +kernel
theorem d4_27 : decode prog_3_method_3_code 27 = .ok (.iinc 3 1, 3) := by decide +kernel
theorem d4_30 : decode prog_3_method_3_code 30 = .ok (.dload_n 1, 1) := by decide +kernel
theorem d4_31 : decode prog_3_method_3_code 31 = .ok (.iload_n 3, 1) := by decide +kernel
theorem d4_32 : decode prog_3_method_3_code 32 = .ok (.i2d, 1) := by decide +kernel
theorem d4_33 : decode prog_3_method_3_code 33 = .ok (.iload 4, 2) := by decide +kernel
theorem d4_35 : decode prog_3_method_3_code 35 = .ok (.iconst 1, 1) := by decide +kernel
theorem d4_36 : decode prog_3_method_3_code 36 = .ok (.iadd, 1) := by decide +kernel
theorem d4_37 : decode prog_3_method_3_code 37 = .ok (.i2d, 1) := by decide +kernel
theorem d4_38 : decode prog_3_method_3_code 38 = .ok (.ddiv, 1) := by decide +kernel
theorem d4_39 : decode prog_3_method_3_code 39 = .ok (.dadd, 1) := by decide +kernel
theorem d4_40 : decode prog_3_method_3_code 40 = .ok (.dstore_n 1, 1) := by decide +kernel
theorem d4_41 : decode prog_3_method_3_code 41 = .ok (.iinc 4 1, 3) := by decide +kernel
theorem d4_44 : decode prog_3_method_3_code 44 = .ok (.goto (-37), 3) := by decide +kernel
set_option maxRecDepth 65536 in
set_option maxHeartbeats 40000000 in
theorem rm4_1 (l : Launch) (Z : State) (a0 : Array Value) (hw : ∀ d ∈ tables_1, d.before a0 Z = true) (ws : List Jvm.Cond) (ao : Addr) (n0 : Nat) (ar : Addr) (kr : ClassId) (dr : Value) (rc : Int32) (c0 : Int32) (h0 : Heap) (F1 : Fld Z h0 ao "com/example/forager/forager/eval/Ranking" "relevant" "[Z" (.ref ar)) (F2 : Fld Z h0 ao "com/example/forager/forager/eval/Ranking" "relevantCount" "I" (.int rc)) (V_ar : Arv Z h0 ar kr .boolean (1 : Int32) [.int c0] dr) (hrc : ¬ rc < 1) :
    Con l (⟨"com/example/forager/forager/eval/Ranking", "averagePrecision", "()D"⟩ : MethodName) prog_3_method_3_code 5 (some .double) ws ({ frames := 0, cells := 0, slots := 0, locals := 0 } : Room) Z #[(.ref ao)] h0 (fun v h L => Fr n0 L ∧ v = some (.double (FP.ddiv (a6 c0 (0 : Int32) (0 : Int32) (0 : Int32) (0 : Int32) (0 : Int32)).2 (FP.i2d rc))) ∧ h = h0) := by
  refine con_of (plainFor_of_name pn_4) ?_
  intro p e s m below meth c s₁ X0 hx hby hml hret hlk hown hnm hZ e0
  refine Go.cast (ef_4 m ao) ?_
  have N0 := Fr.nil n0
  have hN0 : FP.Core.dIsNaN (0 : UInt64) = false := by decide +kernel
  refine go_dconst0 (q := 1) (v := (0 : UInt64)) X0 hx (hb hby d4_0) rfl rfl ?_
  refine go_dstoreN (q := 2) (l' := #[.val (.ref ao), .val (.double (0 : UInt64)), .second, .unset, .unset]) X0 hx (hb hby d4_1) rfl rfl ?_
  refine go_iconst (q := 3) (v := (0 : Int32)) X0 hx (hb hby d4_2) rfl rfl ?_
  refine go_istoreN (q := 4) (l' := #[.val (.ref ao), .val (.double (0 : UInt64)), .second, .val (.int (0 : Int32)), .unset]) X0 hx (hb hby d4_3) rfl rfl ?_
  refine go_iconst (q := 5) (v := (0 : Int32)) X0 hx (hb hby d4_4) rfl rfl ?_
  refine go_istore (q := 7) (l' := #[.val (.ref ao), .val (.double (0 : UInt64)), .second, .val (.int (0 : Int32)), .val (.int (0 : Int32))]) X0 hx (hb hby d4_5) rfl rfl ?_
  refine go_iload (q := 9) X0 hx (hb hby d4_7) rfl rfl ?_
  refine go_aloadN (q := 10) X0 hx (hb hby d4_9) rfl rfl rfl ?_
  refine go_getF (q := 13) X0 hx hZ (host := "") hown (Or.inl (hw _ (List.mem_of_getElem? (i := 15) rfl))) Via.refl e0 F1 (hb hby d4_10) rfl (fun T1 X1 e1 => ?_)
  refine go_alen (q := 14) X1 hx hZ e1 V_ar (hb hby d4_13) rfl ?_
  refine go_icmp_ge (q := 17) (q' := 47) X1 hx (hb hby d4_14) rfl (by decide) rfl (fun hl0 => ?_) (fun hl0 => ?_)
  · exact absurd (by decide) hl0
  · refine go_aloadN (q := 18) X1 hx (hb hby d4_17) rfl rfl rfl ?_
    refine go_getF (q := 21) X1 hx hZ (host := "") hown (Or.inl (hw _ (List.mem_of_getElem? (i := 15) rfl))) Via.refl e1 F1 (hb hby d4_18) rfl (fun T2 X2 e2 => ?_)
    refine go_iload (q := 23) X2 hx (hb hby d4_21) rfl rfl ?_
    refine go_baload (q := 24) (v := (.int c0)) X2 hx hZ e2 V_ar ⟨by decide, by decide⟩ rfl (hb hby d4_23) rfl ?_
    suffices J0 : ∀ (f1 : Int32) (s1 : UInt64), (f1, s1) = st ((0 : Int32), (0 : UInt64)) c0 (1 : Int32) → FP.Core.dIsNaN s1 = false → Go p e below s (fun v h L => Fr n0 L ∧ v = some (.double (FP.ddiv (a6 c0 (0 : Int32) (0 : Int32) (0 : Int32) (0 : Int32) (0 : Int32)).2 (FP.i2d rc))) ∧ h = h0) ({ frames := 0, cells := 0, slots := 0, locals := 0 } : Room).cells ({ frames := 0, cells := 0, slots := 0, locals := 0 } : Room).slots T2 (mkF m 41 #[.val (.ref ao), .val (.double s1), .second, .val (.int f1), .val (.int (0 : Int32))] []) by
      refine go_if_eq (q := 27) (q' := 41) X2 hx (hb hby d4_24) rfl (by decide) rfl (fun hz0 => ?_) (fun hz0 => ?_)
      · exact J0 _ _ (st0 hz0).symm hN0
      · refine go_iinc (q := 30) (l' := #[.val (.ref ao), .val (.double (0 : UInt64)), .second, .val (.int (1 : Int32)), .val (.int (0 : Int32))]) X2 hx (hb hby d4_27) rfl rfl rfl ?_
        refine go_dloadN (q := 31) X2 hx (hb hby d4_30) rfl rfl ?_
        refine go_iloadN (q := 32) X2 hx (hb hby d4_31) rfl rfl ?_
        refine go_i2d (q := 33) X2 hx (hb hby d4_32) rfl rfl ?_
        refine go_iload (q := 35) X2 hx (hb hby d4_33) rfl rfl ?_
        refine go_iconst (q := 36) (v := (1 : Int32)) X2 hx (hb hby d4_35) rfl rfl ?_
        refine go_iadd (q := 37) (v := (1 : Int32)) X2 hx (hb hby d4_36) rfl rfl ?_
        refine go_i2d (q := 38) X2 hx (hb hby d4_37) rfl rfl ?_
        refine go_ddiv (q := 39) X2 hx (hb hby d4_38) rfl (own_dn (c := (1 : Int32)) (by decide) _) rfl ?_
        refine go_dadd (q := 40) X2 hx (hb hby d4_39) rfl (own_da hN0 (by decide)) rfl ?_
        refine go_dstoreN (q := 41) (l' := #[.val (.ref ao), .val (.double (FP.dadd (0 : UInt64) (FP.ddiv (FP.i2d (1 : Int32)) (FP.i2d (1 : Int32))))), .second, .val (.int (1 : Int32)), .val (.int (0 : Int32))]) X2 hx (hb hby d4_40) rfl rfl ?_
        exact J0 _ _ (st1 (f := (0 : Int32)) (S := (0 : UInt64)) (k := (1 : Int32)) hz0).symm (own_db hN0 (by decide))
    intro f1 s1 eS1 hN1
    refine go_iinc (q := 44) (l' := #[.val (.ref ao), .val (.double s1), .second, .val (.int f1), .val (.int (1 : Int32))]) X2 hx (hb hby d4_41) rfl rfl rfl ?_
    refine go_goto (q := 7) X2 hx (hb hby d4_44) (by decide) rfl ?_
    refine go_iload (q := 9) X2 hx (hb hby d4_7) rfl rfl ?_
    refine go_aloadN (q := 10) X2 hx (hb hby d4_9) rfl rfl rfl ?_
    refine go_getF (q := 13) X2 hx hZ (host := "") hown (Or.inl (hw _ (List.mem_of_getElem? (i := 15) rfl))) Via.refl e2 F1 (hb hby d4_10) rfl (fun T3 X3 e3 => ?_)
    refine go_alen (q := 14) X3 hx hZ e3 V_ar (hb hby d4_13) rfl ?_
    refine go_icmp_ge (q := 17) (q' := 47) X3 hx (hb hby d4_14) rfl (by decide) rfl (fun hl1 => ?_) (fun hl1 => ?_)
    · refine go_dloadN (q := 48) X3 hx (hb hby d4_47) rfl rfl ?_
      refine go_aloadN (q := 49) X3 hx (hb hby d4_48) rfl rfl rfl ?_
      refine go_getF (q := 52) X3 hx hZ (host := "") hown (Or.inl (hw _ (List.mem_of_getElem? (i := 17) rfl))) Via.refl e3 F2 (hb hby d4_49) rfl (fun T4 X4 e4 => ?_)
      refine go_i2d (q := 53) X4 hx (hb hby d4_52) rfl rfl ?_
      refine go_ddiv (q := 54) X4 hx (hb hby d4_53) rfl (own_dv hN1 hrc) rfl ?_
      have hA : (f1, s1) = (a6 c0 (0 : Int32) (0 : Int32) (0 : Int32) (0 : Int32) (0 : Int32)) := by rw [eS1]; simp only [a6, st0z]
      exact go_retD X4 hx hret hlk (hb hby d4_54) (by decide) (by decide) ⟨N0, by rw [← hA], e4⟩
    · exact absurd hl1 (by decide)
set_option maxRecDepth 65536 in
set_option maxHeartbeats 40000000 in
theorem rm4_2 (l : Launch) (Z : State) (a0 : Array Value) (hw : ∀ d ∈ tables_1, d.before a0 Z = true) (ws : List Jvm.Cond) (ao : Addr) (n0 : Nat) (ar : Addr) (kr : ClassId) (dr : Value) (rc : Int32) (c0 : Int32) (c1 : Int32) (h0 : Heap) (F1 : Fld Z h0 ao "com/example/forager/forager/eval/Ranking" "relevant" "[Z" (.ref ar)) (F2 : Fld Z h0 ao "com/example/forager/forager/eval/Ranking" "relevantCount" "I" (.int rc)) (V_ar : Arv Z h0 ar kr .boolean (2 : Int32) [.int c0, .int c1] dr) (hrc : ¬ rc < 1) :
    Con l (⟨"com/example/forager/forager/eval/Ranking", "averagePrecision", "()D"⟩ : MethodName) prog_3_method_3_code 5 (some .double) ws ({ frames := 0, cells := 0, slots := 0, locals := 0 } : Room) Z #[(.ref ao)] h0 (fun v h L => Fr n0 L ∧ v = some (.double (FP.ddiv (a6 c0 c1 (0 : Int32) (0 : Int32) (0 : Int32) (0 : Int32)).2 (FP.i2d rc))) ∧ h = h0) := by
  refine con_of (plainFor_of_name pn_4) ?_
  intro p e s m below meth c s₁ X0 hx hby hml hret hlk hown hnm hZ e0
  refine Go.cast (ef_4 m ao) ?_
  have N0 := Fr.nil n0
  have hN0 : FP.Core.dIsNaN (0 : UInt64) = false := by decide +kernel
  refine go_dconst0 (q := 1) (v := (0 : UInt64)) X0 hx (hb hby d4_0) rfl rfl ?_
  refine go_dstoreN (q := 2) (l' := #[.val (.ref ao), .val (.double (0 : UInt64)), .second, .unset, .unset]) X0 hx (hb hby d4_1) rfl rfl ?_
  refine go_iconst (q := 3) (v := (0 : Int32)) X0 hx (hb hby d4_2) rfl rfl ?_
  refine go_istoreN (q := 4) (l' := #[.val (.ref ao), .val (.double (0 : UInt64)), .second, .val (.int (0 : Int32)), .unset]) X0 hx (hb hby d4_3) rfl rfl ?_
  refine go_iconst (q := 5) (v := (0 : Int32)) X0 hx (hb hby d4_4) rfl rfl ?_
  refine go_istore (q := 7) (l' := #[.val (.ref ao), .val (.double (0 : UInt64)), .second, .val (.int (0 : Int32)), .val (.int (0 : Int32))]) X0 hx (hb hby d4_5) rfl rfl ?_
  refine go_iload (q := 9) X0 hx (hb hby d4_7) rfl rfl ?_
  refine go_aloadN (q := 10) X0 hx (hb hby d4_9) rfl rfl rfl ?_
  refine go_getF (q := 13) X0 hx hZ (host := "") hown (Or.inl (hw _ (List.mem_of_getElem? (i := 15) rfl))) Via.refl e0 F1 (hb hby d4_10) rfl (fun T1 X1 e1 => ?_)
  refine go_alen (q := 14) X1 hx hZ e1 V_ar (hb hby d4_13) rfl ?_
  refine go_icmp_ge (q := 17) (q' := 47) X1 hx (hb hby d4_14) rfl (by decide) rfl (fun hl0 => ?_) (fun hl0 => ?_)
  · exact absurd (by decide) hl0
  · refine go_aloadN (q := 18) X1 hx (hb hby d4_17) rfl rfl rfl ?_
    refine go_getF (q := 21) X1 hx hZ (host := "") hown (Or.inl (hw _ (List.mem_of_getElem? (i := 15) rfl))) Via.refl e1 F1 (hb hby d4_18) rfl (fun T2 X2 e2 => ?_)
    refine go_iload (q := 23) X2 hx (hb hby d4_21) rfl rfl ?_
    refine go_baload (q := 24) (v := (.int c0)) X2 hx hZ e2 V_ar ⟨by decide, by decide⟩ rfl (hb hby d4_23) rfl ?_
    suffices J0 : ∀ (f1 : Int32) (s1 : UInt64), (f1, s1) = st ((0 : Int32), (0 : UInt64)) c0 (1 : Int32) → FP.Core.dIsNaN s1 = false → Go p e below s (fun v h L => Fr n0 L ∧ v = some (.double (FP.ddiv (a6 c0 c1 (0 : Int32) (0 : Int32) (0 : Int32) (0 : Int32)).2 (FP.i2d rc))) ∧ h = h0) ({ frames := 0, cells := 0, slots := 0, locals := 0 } : Room).cells ({ frames := 0, cells := 0, slots := 0, locals := 0 } : Room).slots T2 (mkF m 41 #[.val (.ref ao), .val (.double s1), .second, .val (.int f1), .val (.int (0 : Int32))] []) by
      refine go_if_eq (q := 27) (q' := 41) X2 hx (hb hby d4_24) rfl (by decide) rfl (fun hz0 => ?_) (fun hz0 => ?_)
      · exact J0 _ _ (st0 hz0).symm hN0
      · refine go_iinc (q := 30) (l' := #[.val (.ref ao), .val (.double (0 : UInt64)), .second, .val (.int (1 : Int32)), .val (.int (0 : Int32))]) X2 hx (hb hby d4_27) rfl rfl rfl ?_
        refine go_dloadN (q := 31) X2 hx (hb hby d4_30) rfl rfl ?_
        refine go_iloadN (q := 32) X2 hx (hb hby d4_31) rfl rfl ?_
        refine go_i2d (q := 33) X2 hx (hb hby d4_32) rfl rfl ?_
        refine go_iload (q := 35) X2 hx (hb hby d4_33) rfl rfl ?_
        refine go_iconst (q := 36) (v := (1 : Int32)) X2 hx (hb hby d4_35) rfl rfl ?_
        refine go_iadd (q := 37) (v := (1 : Int32)) X2 hx (hb hby d4_36) rfl rfl ?_
        refine go_i2d (q := 38) X2 hx (hb hby d4_37) rfl rfl ?_
        refine go_ddiv (q := 39) X2 hx (hb hby d4_38) rfl (own_dn (c := (1 : Int32)) (by decide) _) rfl ?_
        refine go_dadd (q := 40) X2 hx (hb hby d4_39) rfl (own_da hN0 (by decide)) rfl ?_
        refine go_dstoreN (q := 41) (l' := #[.val (.ref ao), .val (.double (FP.dadd (0 : UInt64) (FP.ddiv (FP.i2d (1 : Int32)) (FP.i2d (1 : Int32))))), .second, .val (.int (1 : Int32)), .val (.int (0 : Int32))]) X2 hx (hb hby d4_40) rfl rfl ?_
        exact J0 _ _ (st1 (f := (0 : Int32)) (S := (0 : UInt64)) (k := (1 : Int32)) hz0).symm (own_db hN0 (by decide))
    intro f1 s1 eS1 hN1
    refine go_iinc (q := 44) (l' := #[.val (.ref ao), .val (.double s1), .second, .val (.int f1), .val (.int (1 : Int32))]) X2 hx (hb hby d4_41) rfl rfl rfl ?_
    refine go_goto (q := 7) X2 hx (hb hby d4_44) (by decide) rfl ?_
    refine go_iload (q := 9) X2 hx (hb hby d4_7) rfl rfl ?_
    refine go_aloadN (q := 10) X2 hx (hb hby d4_9) rfl rfl rfl ?_
    refine go_getF (q := 13) X2 hx hZ (host := "") hown (Or.inl (hw _ (List.mem_of_getElem? (i := 15) rfl))) Via.refl e2 F1 (hb hby d4_10) rfl (fun T3 X3 e3 => ?_)
    refine go_alen (q := 14) X3 hx hZ e3 V_ar (hb hby d4_13) rfl ?_
    refine go_icmp_ge (q := 17) (q' := 47) X3 hx (hb hby d4_14) rfl (by decide) rfl (fun hl1 => ?_) (fun hl1 => ?_)
    · exact absurd (by decide) hl1
    · refine go_aloadN (q := 18) X3 hx (hb hby d4_17) rfl rfl rfl ?_
      refine go_getF (q := 21) X3 hx hZ (host := "") hown (Or.inl (hw _ (List.mem_of_getElem? (i := 15) rfl))) Via.refl e3 F1 (hb hby d4_18) rfl (fun T4 X4 e4 => ?_)
      refine go_iload (q := 23) X4 hx (hb hby d4_21) rfl rfl ?_
      refine go_baload (q := 24) (v := (.int c1)) X4 hx hZ e4 V_ar ⟨by decide, by decide⟩ rfl (hb hby d4_23) rfl ?_
      suffices J1 : ∀ (f2 : Int32) (s2 : UInt64), (f2, s2) = st (f1, s1) c1 (2 : Int32) → FP.Core.dIsNaN s2 = false → Go p e below s (fun v h L => Fr n0 L ∧ v = some (.double (FP.ddiv (a6 c0 c1 (0 : Int32) (0 : Int32) (0 : Int32) (0 : Int32)).2 (FP.i2d rc))) ∧ h = h0) ({ frames := 0, cells := 0, slots := 0, locals := 0 } : Room).cells ({ frames := 0, cells := 0, slots := 0, locals := 0 } : Room).slots T4 (mkF m 41 #[.val (.ref ao), .val (.double s2), .second, .val (.int f2), .val (.int (1 : Int32))] []) by
        refine go_if_eq (q := 27) (q' := 41) X4 hx (hb hby d4_24) rfl (by decide) rfl (fun hz1 => ?_) (fun hz1 => ?_)
        · exact J1 _ _ (st0 hz1).symm hN1
        · refine go_iinc (q := 30) (l' := #[.val (.ref ao), .val (.double s1), .second, .val (.int (f1 + (1 : Int32))), .val (.int (1 : Int32))]) X4 hx (hb hby d4_27) rfl rfl rfl ?_
          refine go_dloadN (q := 31) X4 hx (hb hby d4_30) rfl rfl ?_
          refine go_iloadN (q := 32) X4 hx (hb hby d4_31) rfl rfl ?_
          refine go_i2d (q := 33) X4 hx (hb hby d4_32) rfl rfl ?_
          refine go_iload (q := 35) X4 hx (hb hby d4_33) rfl rfl ?_
          refine go_iconst (q := 36) (v := (1 : Int32)) X4 hx (hb hby d4_35) rfl rfl ?_
          refine go_iadd (q := 37) (v := (2 : Int32)) X4 hx (hb hby d4_36) rfl rfl ?_
          refine go_i2d (q := 38) X4 hx (hb hby d4_37) rfl rfl ?_
          refine go_ddiv (q := 39) X4 hx (hb hby d4_38) rfl (own_dn (c := (2 : Int32)) (by decide) _) rfl ?_
          refine go_dadd (q := 40) X4 hx (hb hby d4_39) rfl (own_da hN1 (by decide)) rfl ?_
          refine go_dstoreN (q := 41) (l' := #[.val (.ref ao), .val (.double (FP.dadd s1 (FP.ddiv (FP.i2d (f1 + (1 : Int32))) (FP.i2d (2 : Int32))))), .second, .val (.int (f1 + (1 : Int32))), .val (.int (1 : Int32))]) X4 hx (hb hby d4_40) rfl rfl ?_
          exact J1 _ _ (st1 (f := f1) (S := s1) (k := (2 : Int32)) hz1).symm (own_db hN1 (by decide))
      intro f2 s2 eS2 hN2
      refine go_iinc (q := 44) (l' := #[.val (.ref ao), .val (.double s2), .second, .val (.int f2), .val (.int (2 : Int32))]) X4 hx (hb hby d4_41) rfl rfl rfl ?_
      refine go_goto (q := 7) X4 hx (hb hby d4_44) (by decide) rfl ?_
      refine go_iload (q := 9) X4 hx (hb hby d4_7) rfl rfl ?_
      refine go_aloadN (q := 10) X4 hx (hb hby d4_9) rfl rfl rfl ?_
      refine go_getF (q := 13) X4 hx hZ (host := "") hown (Or.inl (hw _ (List.mem_of_getElem? (i := 15) rfl))) Via.refl e4 F1 (hb hby d4_10) rfl (fun T5 X5 e5 => ?_)
      refine go_alen (q := 14) X5 hx hZ e5 V_ar (hb hby d4_13) rfl ?_
      refine go_icmp_ge (q := 17) (q' := 47) X5 hx (hb hby d4_14) rfl (by decide) rfl (fun hl2 => ?_) (fun hl2 => ?_)
      · refine go_dloadN (q := 48) X5 hx (hb hby d4_47) rfl rfl ?_
        refine go_aloadN (q := 49) X5 hx (hb hby d4_48) rfl rfl rfl ?_
        refine go_getF (q := 52) X5 hx hZ (host := "") hown (Or.inl (hw _ (List.mem_of_getElem? (i := 17) rfl))) Via.refl e5 F2 (hb hby d4_49) rfl (fun T6 X6 e6 => ?_)
        refine go_i2d (q := 53) X6 hx (hb hby d4_52) rfl rfl ?_
        refine go_ddiv (q := 54) X6 hx (hb hby d4_53) rfl (own_dv hN2 hrc) rfl ?_
        have hA : (f2, s2) = (a6 c0 c1 (0 : Int32) (0 : Int32) (0 : Int32) (0 : Int32)) := by rw [eS2, eS1]; simp only [a6, st0z]
        exact go_retD X6 hx hret hlk (hb hby d4_54) (by decide) (by decide) ⟨N0, by rw [← hA], e6⟩
      · exact absurd hl2 (by decide)
set_option maxRecDepth 65536 in
set_option maxHeartbeats 40000000 in
theorem rm4_3 (l : Launch) (Z : State) (a0 : Array Value) (hw : ∀ d ∈ tables_1, d.before a0 Z = true) (ws : List Jvm.Cond) (ao : Addr) (n0 : Nat) (ar : Addr) (kr : ClassId) (dr : Value) (rc : Int32) (c0 : Int32) (c1 : Int32) (c2 : Int32) (h0 : Heap) (F1 : Fld Z h0 ao "com/example/forager/forager/eval/Ranking" "relevant" "[Z" (.ref ar)) (F2 : Fld Z h0 ao "com/example/forager/forager/eval/Ranking" "relevantCount" "I" (.int rc)) (V_ar : Arv Z h0 ar kr .boolean (3 : Int32) [.int c0, .int c1, .int c2] dr) (hrc : ¬ rc < 1) :
    Con l (⟨"com/example/forager/forager/eval/Ranking", "averagePrecision", "()D"⟩ : MethodName) prog_3_method_3_code 5 (some .double) ws ({ frames := 0, cells := 0, slots := 0, locals := 0 } : Room) Z #[(.ref ao)] h0 (fun v h L => Fr n0 L ∧ v = some (.double (FP.ddiv (a6 c0 c1 c2 (0 : Int32) (0 : Int32) (0 : Int32)).2 (FP.i2d rc))) ∧ h = h0) := by
  refine con_of (plainFor_of_name pn_4) ?_
  intro p e s m below meth c s₁ X0 hx hby hml hret hlk hown hnm hZ e0
  refine Go.cast (ef_4 m ao) ?_
  have N0 := Fr.nil n0
  have hN0 : FP.Core.dIsNaN (0 : UInt64) = false := by decide +kernel
  refine go_dconst0 (q := 1) (v := (0 : UInt64)) X0 hx (hb hby d4_0) rfl rfl ?_
  refine go_dstoreN (q := 2) (l' := #[.val (.ref ao), .val (.double (0 : UInt64)), .second, .unset, .unset]) X0 hx (hb hby d4_1) rfl rfl ?_
  refine go_iconst (q := 3) (v := (0 : Int32)) X0 hx (hb hby d4_2) rfl rfl ?_
  refine go_istoreN (q := 4) (l' := #[.val (.ref ao), .val (.double (0 : UInt64)), .second, .val (.int (0 : Int32)), .unset]) X0 hx (hb hby d4_3) rfl rfl ?_
  refine go_iconst (q := 5) (v := (0 : Int32)) X0 hx (hb hby d4_4) rfl rfl ?_
  refine go_istore (q := 7) (l' := #[.val (.ref ao), .val (.double (0 : UInt64)), .second, .val (.int (0 : Int32)), .val (.int (0 : Int32))]) X0 hx (hb hby d4_5) rfl rfl ?_
  refine go_iload (q := 9) X0 hx (hb hby d4_7) rfl rfl ?_
  refine go_aloadN (q := 10) X0 hx (hb hby d4_9) rfl rfl rfl ?_
  refine go_getF (q := 13) X0 hx hZ (host := "") hown (Or.inl (hw _ (List.mem_of_getElem? (i := 15) rfl))) Via.refl e0 F1 (hb hby d4_10) rfl (fun T1 X1 e1 => ?_)
  refine go_alen (q := 14) X1 hx hZ e1 V_ar (hb hby d4_13) rfl ?_
  refine go_icmp_ge (q := 17) (q' := 47) X1 hx (hb hby d4_14) rfl (by decide) rfl (fun hl0 => ?_) (fun hl0 => ?_)
  · exact absurd (by decide) hl0
  · refine go_aloadN (q := 18) X1 hx (hb hby d4_17) rfl rfl rfl ?_
    refine go_getF (q := 21) X1 hx hZ (host := "") hown (Or.inl (hw _ (List.mem_of_getElem? (i := 15) rfl))) Via.refl e1 F1 (hb hby d4_18) rfl (fun T2 X2 e2 => ?_)
    refine go_iload (q := 23) X2 hx (hb hby d4_21) rfl rfl ?_
    refine go_baload (q := 24) (v := (.int c0)) X2 hx hZ e2 V_ar ⟨by decide, by decide⟩ rfl (hb hby d4_23) rfl ?_
    suffices J0 : ∀ (f1 : Int32) (s1 : UInt64), (f1, s1) = st ((0 : Int32), (0 : UInt64)) c0 (1 : Int32) → FP.Core.dIsNaN s1 = false → Go p e below s (fun v h L => Fr n0 L ∧ v = some (.double (FP.ddiv (a6 c0 c1 c2 (0 : Int32) (0 : Int32) (0 : Int32)).2 (FP.i2d rc))) ∧ h = h0) ({ frames := 0, cells := 0, slots := 0, locals := 0 } : Room).cells ({ frames := 0, cells := 0, slots := 0, locals := 0 } : Room).slots T2 (mkF m 41 #[.val (.ref ao), .val (.double s1), .second, .val (.int f1), .val (.int (0 : Int32))] []) by
      refine go_if_eq (q := 27) (q' := 41) X2 hx (hb hby d4_24) rfl (by decide) rfl (fun hz0 => ?_) (fun hz0 => ?_)
      · exact J0 _ _ (st0 hz0).symm hN0
      · refine go_iinc (q := 30) (l' := #[.val (.ref ao), .val (.double (0 : UInt64)), .second, .val (.int (1 : Int32)), .val (.int (0 : Int32))]) X2 hx (hb hby d4_27) rfl rfl rfl ?_
        refine go_dloadN (q := 31) X2 hx (hb hby d4_30) rfl rfl ?_
        refine go_iloadN (q := 32) X2 hx (hb hby d4_31) rfl rfl ?_
        refine go_i2d (q := 33) X2 hx (hb hby d4_32) rfl rfl ?_
        refine go_iload (q := 35) X2 hx (hb hby d4_33) rfl rfl ?_
        refine go_iconst (q := 36) (v := (1 : Int32)) X2 hx (hb hby d4_35) rfl rfl ?_
        refine go_iadd (q := 37) (v := (1 : Int32)) X2 hx (hb hby d4_36) rfl rfl ?_
        refine go_i2d (q := 38) X2 hx (hb hby d4_37) rfl rfl ?_
        refine go_ddiv (q := 39) X2 hx (hb hby d4_38) rfl (own_dn (c := (1 : Int32)) (by decide) _) rfl ?_
        refine go_dadd (q := 40) X2 hx (hb hby d4_39) rfl (own_da hN0 (by decide)) rfl ?_
        refine go_dstoreN (q := 41) (l' := #[.val (.ref ao), .val (.double (FP.dadd (0 : UInt64) (FP.ddiv (FP.i2d (1 : Int32)) (FP.i2d (1 : Int32))))), .second, .val (.int (1 : Int32)), .val (.int (0 : Int32))]) X2 hx (hb hby d4_40) rfl rfl ?_
        exact J0 _ _ (st1 (f := (0 : Int32)) (S := (0 : UInt64)) (k := (1 : Int32)) hz0).symm (own_db hN0 (by decide))
    intro f1 s1 eS1 hN1
    refine go_iinc (q := 44) (l' := #[.val (.ref ao), .val (.double s1), .second, .val (.int f1), .val (.int (1 : Int32))]) X2 hx (hb hby d4_41) rfl rfl rfl ?_
    refine go_goto (q := 7) X2 hx (hb hby d4_44) (by decide) rfl ?_
    refine go_iload (q := 9) X2 hx (hb hby d4_7) rfl rfl ?_
    refine go_aloadN (q := 10) X2 hx (hb hby d4_9) rfl rfl rfl ?_
    refine go_getF (q := 13) X2 hx hZ (host := "") hown (Or.inl (hw _ (List.mem_of_getElem? (i := 15) rfl))) Via.refl e2 F1 (hb hby d4_10) rfl (fun T3 X3 e3 => ?_)
    refine go_alen (q := 14) X3 hx hZ e3 V_ar (hb hby d4_13) rfl ?_
    refine go_icmp_ge (q := 17) (q' := 47) X3 hx (hb hby d4_14) rfl (by decide) rfl (fun hl1 => ?_) (fun hl1 => ?_)
    · exact absurd (by decide) hl1
    · refine go_aloadN (q := 18) X3 hx (hb hby d4_17) rfl rfl rfl ?_
      refine go_getF (q := 21) X3 hx hZ (host := "") hown (Or.inl (hw _ (List.mem_of_getElem? (i := 15) rfl))) Via.refl e3 F1 (hb hby d4_18) rfl (fun T4 X4 e4 => ?_)
      refine go_iload (q := 23) X4 hx (hb hby d4_21) rfl rfl ?_
      refine go_baload (q := 24) (v := (.int c1)) X4 hx hZ e4 V_ar ⟨by decide, by decide⟩ rfl (hb hby d4_23) rfl ?_
      suffices J1 : ∀ (f2 : Int32) (s2 : UInt64), (f2, s2) = st (f1, s1) c1 (2 : Int32) → FP.Core.dIsNaN s2 = false → Go p e below s (fun v h L => Fr n0 L ∧ v = some (.double (FP.ddiv (a6 c0 c1 c2 (0 : Int32) (0 : Int32) (0 : Int32)).2 (FP.i2d rc))) ∧ h = h0) ({ frames := 0, cells := 0, slots := 0, locals := 0 } : Room).cells ({ frames := 0, cells := 0, slots := 0, locals := 0 } : Room).slots T4 (mkF m 41 #[.val (.ref ao), .val (.double s2), .second, .val (.int f2), .val (.int (1 : Int32))] []) by
        refine go_if_eq (q := 27) (q' := 41) X4 hx (hb hby d4_24) rfl (by decide) rfl (fun hz1 => ?_) (fun hz1 => ?_)
        · exact J1 _ _ (st0 hz1).symm hN1
        · refine go_iinc (q := 30) (l' := #[.val (.ref ao), .val (.double s1), .second, .val (.int (f1 + (1 : Int32))), .val (.int (1 : Int32))]) X4 hx (hb hby d4_27) rfl rfl rfl ?_
          refine go_dloadN (q := 31) X4 hx (hb hby d4_30) rfl rfl ?_
          refine go_iloadN (q := 32) X4 hx (hb hby d4_31) rfl rfl ?_
          refine go_i2d (q := 33) X4 hx (hb hby d4_32) rfl rfl ?_
          refine go_iload (q := 35) X4 hx (hb hby d4_33) rfl rfl ?_
          refine go_iconst (q := 36) (v := (1 : Int32)) X4 hx (hb hby d4_35) rfl rfl ?_
          refine go_iadd (q := 37) (v := (2 : Int32)) X4 hx (hb hby d4_36) rfl rfl ?_
          refine go_i2d (q := 38) X4 hx (hb hby d4_37) rfl rfl ?_
          refine go_ddiv (q := 39) X4 hx (hb hby d4_38) rfl (own_dn (c := (2 : Int32)) (by decide) _) rfl ?_
          refine go_dadd (q := 40) X4 hx (hb hby d4_39) rfl (own_da hN1 (by decide)) rfl ?_
          refine go_dstoreN (q := 41) (l' := #[.val (.ref ao), .val (.double (FP.dadd s1 (FP.ddiv (FP.i2d (f1 + (1 : Int32))) (FP.i2d (2 : Int32))))), .second, .val (.int (f1 + (1 : Int32))), .val (.int (1 : Int32))]) X4 hx (hb hby d4_40) rfl rfl ?_
          exact J1 _ _ (st1 (f := f1) (S := s1) (k := (2 : Int32)) hz1).symm (own_db hN1 (by decide))
      intro f2 s2 eS2 hN2
      refine go_iinc (q := 44) (l' := #[.val (.ref ao), .val (.double s2), .second, .val (.int f2), .val (.int (2 : Int32))]) X4 hx (hb hby d4_41) rfl rfl rfl ?_
      refine go_goto (q := 7) X4 hx (hb hby d4_44) (by decide) rfl ?_
      refine go_iload (q := 9) X4 hx (hb hby d4_7) rfl rfl ?_
      refine go_aloadN (q := 10) X4 hx (hb hby d4_9) rfl rfl rfl ?_
      refine go_getF (q := 13) X4 hx hZ (host := "") hown (Or.inl (hw _ (List.mem_of_getElem? (i := 15) rfl))) Via.refl e4 F1 (hb hby d4_10) rfl (fun T5 X5 e5 => ?_)
      refine go_alen (q := 14) X5 hx hZ e5 V_ar (hb hby d4_13) rfl ?_
      refine go_icmp_ge (q := 17) (q' := 47) X5 hx (hb hby d4_14) rfl (by decide) rfl (fun hl2 => ?_) (fun hl2 => ?_)
      · exact absurd (by decide) hl2
      · refine go_aloadN (q := 18) X5 hx (hb hby d4_17) rfl rfl rfl ?_
        refine go_getF (q := 21) X5 hx hZ (host := "") hown (Or.inl (hw _ (List.mem_of_getElem? (i := 15) rfl))) Via.refl e5 F1 (hb hby d4_18) rfl (fun T6 X6 e6 => ?_)
        refine go_iload (q := 23) X6 hx (hb hby d4_21) rfl rfl ?_
        refine go_baload (q := 24) (v := (.int c2)) X6 hx hZ e6 V_ar ⟨by decide, by decide⟩ rfl (hb hby d4_23) rfl ?_
        suffices J2 : ∀ (f3 : Int32) (s3 : UInt64), (f3, s3) = st (f2, s2) c2 (3 : Int32) → FP.Core.dIsNaN s3 = false → Go p e below s (fun v h L => Fr n0 L ∧ v = some (.double (FP.ddiv (a6 c0 c1 c2 (0 : Int32) (0 : Int32) (0 : Int32)).2 (FP.i2d rc))) ∧ h = h0) ({ frames := 0, cells := 0, slots := 0, locals := 0 } : Room).cells ({ frames := 0, cells := 0, slots := 0, locals := 0 } : Room).slots T6 (mkF m 41 #[.val (.ref ao), .val (.double s3), .second, .val (.int f3), .val (.int (2 : Int32))] []) by
          refine go_if_eq (q := 27) (q' := 41) X6 hx (hb hby d4_24) rfl (by decide) rfl (fun hz2 => ?_) (fun hz2 => ?_)
          · exact J2 _ _ (st0 hz2).symm hN2
          · refine go_iinc (q := 30) (l' := #[.val (.ref ao), .val (.double s2), .second, .val (.int (f2 + (1 : Int32))), .val (.int (2 : Int32))]) X6 hx (hb hby d4_27) rfl rfl rfl ?_
            refine go_dloadN (q := 31) X6 hx (hb hby d4_30) rfl rfl ?_
            refine go_iloadN (q := 32) X6 hx (hb hby d4_31) rfl rfl ?_
            refine go_i2d (q := 33) X6 hx (hb hby d4_32) rfl rfl ?_
            refine go_iload (q := 35) X6 hx (hb hby d4_33) rfl rfl ?_
            refine go_iconst (q := 36) (v := (1 : Int32)) X6 hx (hb hby d4_35) rfl rfl ?_
            refine go_iadd (q := 37) (v := (3 : Int32)) X6 hx (hb hby d4_36) rfl rfl ?_
            refine go_i2d (q := 38) X6 hx (hb hby d4_37) rfl rfl ?_
            refine go_ddiv (q := 39) X6 hx (hb hby d4_38) rfl (own_dn (c := (3 : Int32)) (by decide) _) rfl ?_
            refine go_dadd (q := 40) X6 hx (hb hby d4_39) rfl (own_da hN2 (by decide)) rfl ?_
            refine go_dstoreN (q := 41) (l' := #[.val (.ref ao), .val (.double (FP.dadd s2 (FP.ddiv (FP.i2d (f2 + (1 : Int32))) (FP.i2d (3 : Int32))))), .second, .val (.int (f2 + (1 : Int32))), .val (.int (2 : Int32))]) X6 hx (hb hby d4_40) rfl rfl ?_
            exact J2 _ _ (st1 (f := f2) (S := s2) (k := (3 : Int32)) hz2).symm (own_db hN2 (by decide))
        intro f3 s3 eS3 hN3
        refine go_iinc (q := 44) (l' := #[.val (.ref ao), .val (.double s3), .second, .val (.int f3), .val (.int (3 : Int32))]) X6 hx (hb hby d4_41) rfl rfl rfl ?_
        refine go_goto (q := 7) X6 hx (hb hby d4_44) (by decide) rfl ?_
        refine go_iload (q := 9) X6 hx (hb hby d4_7) rfl rfl ?_
        refine go_aloadN (q := 10) X6 hx (hb hby d4_9) rfl rfl rfl ?_
        refine go_getF (q := 13) X6 hx hZ (host := "") hown (Or.inl (hw _ (List.mem_of_getElem? (i := 15) rfl))) Via.refl e6 F1 (hb hby d4_10) rfl (fun T7 X7 e7 => ?_)
        refine go_alen (q := 14) X7 hx hZ e7 V_ar (hb hby d4_13) rfl ?_
        refine go_icmp_ge (q := 17) (q' := 47) X7 hx (hb hby d4_14) rfl (by decide) rfl (fun hl3 => ?_) (fun hl3 => ?_)
        · refine go_dloadN (q := 48) X7 hx (hb hby d4_47) rfl rfl ?_
          refine go_aloadN (q := 49) X7 hx (hb hby d4_48) rfl rfl rfl ?_
          refine go_getF (q := 52) X7 hx hZ (host := "") hown (Or.inl (hw _ (List.mem_of_getElem? (i := 17) rfl))) Via.refl e7 F2 (hb hby d4_49) rfl (fun T8 X8 e8 => ?_)
          refine go_i2d (q := 53) X8 hx (hb hby d4_52) rfl rfl ?_
          refine go_ddiv (q := 54) X8 hx (hb hby d4_53) rfl (own_dv hN3 hrc) rfl ?_
          have hA : (f3, s3) = (a6 c0 c1 c2 (0 : Int32) (0 : Int32) (0 : Int32)) := by rw [eS3, eS2, eS1]; simp only [a6, st0z]
          exact go_retD X8 hx hret hlk (hb hby d4_54) (by decide) (by decide) ⟨N0, by rw [← hA], e8⟩
        · exact absurd hl3 (by decide)
set_option maxRecDepth 65536 in
set_option maxHeartbeats 40000000 in
theorem rm4_4 (l : Launch) (Z : State) (a0 : Array Value) (hw : ∀ d ∈ tables_1, d.before a0 Z = true) (ws : List Jvm.Cond) (ao : Addr) (n0 : Nat) (ar : Addr) (kr : ClassId) (dr : Value) (rc : Int32) (c0 : Int32) (c1 : Int32) (c2 : Int32) (c3 : Int32) (h0 : Heap) (F1 : Fld Z h0 ao "com/example/forager/forager/eval/Ranking" "relevant" "[Z" (.ref ar)) (F2 : Fld Z h0 ao "com/example/forager/forager/eval/Ranking" "relevantCount" "I" (.int rc)) (V_ar : Arv Z h0 ar kr .boolean (4 : Int32) [.int c0, .int c1, .int c2, .int c3] dr) (hrc : ¬ rc < 1) :
    Con l (⟨"com/example/forager/forager/eval/Ranking", "averagePrecision", "()D"⟩ : MethodName) prog_3_method_3_code 5 (some .double) ws ({ frames := 0, cells := 0, slots := 0, locals := 0 } : Room) Z #[(.ref ao)] h0 (fun v h L => Fr n0 L ∧ v = some (.double (FP.ddiv (a6 c0 c1 c2 c3 (0 : Int32) (0 : Int32)).2 (FP.i2d rc))) ∧ h = h0) := by
  refine con_of (plainFor_of_name pn_4) ?_
  intro p e s m below meth c s₁ X0 hx hby hml hret hlk hown hnm hZ e0
  refine Go.cast (ef_4 m ao) ?_
  have N0 := Fr.nil n0
  have hN0 : FP.Core.dIsNaN (0 : UInt64) = false := by decide +kernel
  refine go_dconst0 (q := 1) (v := (0 : UInt64)) X0 hx (hb hby d4_0) rfl rfl ?_
  refine go_dstoreN (q := 2) (l' := #[.val (.ref ao), .val (.double (0 : UInt64)), .second, .unset, .unset]) X0 hx (hb hby d4_1) rfl rfl ?_
  refine go_iconst (q := 3) (v := (0 : Int32)) X0 hx (hb hby d4_2) rfl rfl ?_
  refine go_istoreN (q := 4) (l' := #[.val (.ref ao), .val (.double (0 : UInt64)), .second, .val (.int (0 : Int32)), .unset]) X0 hx (hb hby d4_3) rfl rfl ?_
  refine go_iconst (q := 5) (v := (0 : Int32)) X0 hx (hb hby d4_4) rfl rfl ?_
  refine go_istore (q := 7) (l' := #[.val (.ref ao), .val (.double (0 : UInt64)), .second, .val (.int (0 : Int32)), .val (.int (0 : Int32))]) X0 hx (hb hby d4_5) rfl rfl ?_
  refine go_iload (q := 9) X0 hx (hb hby d4_7) rfl rfl ?_
  refine go_aloadN (q := 10) X0 hx (hb hby d4_9) rfl rfl rfl ?_
  refine go_getF (q := 13) X0 hx hZ (host := "") hown (Or.inl (hw _ (List.mem_of_getElem? (i := 15) rfl))) Via.refl e0 F1 (hb hby d4_10) rfl (fun T1 X1 e1 => ?_)
  refine go_alen (q := 14) X1 hx hZ e1 V_ar (hb hby d4_13) rfl ?_
  refine go_icmp_ge (q := 17) (q' := 47) X1 hx (hb hby d4_14) rfl (by decide) rfl (fun hl0 => ?_) (fun hl0 => ?_)
  · exact absurd (by decide) hl0
  · refine go_aloadN (q := 18) X1 hx (hb hby d4_17) rfl rfl rfl ?_
    refine go_getF (q := 21) X1 hx hZ (host := "") hown (Or.inl (hw _ (List.mem_of_getElem? (i := 15) rfl))) Via.refl e1 F1 (hb hby d4_18) rfl (fun T2 X2 e2 => ?_)
    refine go_iload (q := 23) X2 hx (hb hby d4_21) rfl rfl ?_
    refine go_baload (q := 24) (v := (.int c0)) X2 hx hZ e2 V_ar ⟨by decide, by decide⟩ rfl (hb hby d4_23) rfl ?_
    suffices J0 : ∀ (f1 : Int32) (s1 : UInt64), (f1, s1) = st ((0 : Int32), (0 : UInt64)) c0 (1 : Int32) → FP.Core.dIsNaN s1 = false → Go p e below s (fun v h L => Fr n0 L ∧ v = some (.double (FP.ddiv (a6 c0 c1 c2 c3 (0 : Int32) (0 : Int32)).2 (FP.i2d rc))) ∧ h = h0) ({ frames := 0, cells := 0, slots := 0, locals := 0 } : Room).cells ({ frames := 0, cells := 0, slots := 0, locals := 0 } : Room).slots T2 (mkF m 41 #[.val (.ref ao), .val (.double s1), .second, .val (.int f1), .val (.int (0 : Int32))] []) by
      refine go_if_eq (q := 27) (q' := 41) X2 hx (hb hby d4_24) rfl (by decide) rfl (fun hz0 => ?_) (fun hz0 => ?_)
      · exact J0 _ _ (st0 hz0).symm hN0
      · refine go_iinc (q := 30) (l' := #[.val (.ref ao), .val (.double (0 : UInt64)), .second, .val (.int (1 : Int32)), .val (.int (0 : Int32))]) X2 hx (hb hby d4_27) rfl rfl rfl ?_
        refine go_dloadN (q := 31) X2 hx (hb hby d4_30) rfl rfl ?_
        refine go_iloadN (q := 32) X2 hx (hb hby d4_31) rfl rfl ?_
        refine go_i2d (q := 33) X2 hx (hb hby d4_32) rfl rfl ?_
        refine go_iload (q := 35) X2 hx (hb hby d4_33) rfl rfl ?_
        refine go_iconst (q := 36) (v := (1 : Int32)) X2 hx (hb hby d4_35) rfl rfl ?_
        refine go_iadd (q := 37) (v := (1 : Int32)) X2 hx (hb hby d4_36) rfl rfl ?_
        refine go_i2d (q := 38) X2 hx (hb hby d4_37) rfl rfl ?_
        refine go_ddiv (q := 39) X2 hx (hb hby d4_38) rfl (own_dn (c := (1 : Int32)) (by decide) _) rfl ?_
        refine go_dadd (q := 40) X2 hx (hb hby d4_39) rfl (own_da hN0 (by decide)) rfl ?_
        refine go_dstoreN (q := 41) (l' := #[.val (.ref ao), .val (.double (FP.dadd (0 : UInt64) (FP.ddiv (FP.i2d (1 : Int32)) (FP.i2d (1 : Int32))))), .second, .val (.int (1 : Int32)), .val (.int (0 : Int32))]) X2 hx (hb hby d4_40) rfl rfl ?_
        exact J0 _ _ (st1 (f := (0 : Int32)) (S := (0 : UInt64)) (k := (1 : Int32)) hz0).symm (own_db hN0 (by decide))
    intro f1 s1 eS1 hN1
    refine go_iinc (q := 44) (l' := #[.val (.ref ao), .val (.double s1), .second, .val (.int f1), .val (.int (1 : Int32))]) X2 hx (hb hby d4_41) rfl rfl rfl ?_
    refine go_goto (q := 7) X2 hx (hb hby d4_44) (by decide) rfl ?_
    refine go_iload (q := 9) X2 hx (hb hby d4_7) rfl rfl ?_
    refine go_aloadN (q := 10) X2 hx (hb hby d4_9) rfl rfl rfl ?_
    refine go_getF (q := 13) X2 hx hZ (host := "") hown (Or.inl (hw _ (List.mem_of_getElem? (i := 15) rfl))) Via.refl e2 F1 (hb hby d4_10) rfl (fun T3 X3 e3 => ?_)
    refine go_alen (q := 14) X3 hx hZ e3 V_ar (hb hby d4_13) rfl ?_
    refine go_icmp_ge (q := 17) (q' := 47) X3 hx (hb hby d4_14) rfl (by decide) rfl (fun hl1 => ?_) (fun hl1 => ?_)
    · exact absurd (by decide) hl1
    · refine go_aloadN (q := 18) X3 hx (hb hby d4_17) rfl rfl rfl ?_
      refine go_getF (q := 21) X3 hx hZ (host := "") hown (Or.inl (hw _ (List.mem_of_getElem? (i := 15) rfl))) Via.refl e3 F1 (hb hby d4_18) rfl (fun T4 X4 e4 => ?_)
      refine go_iload (q := 23) X4 hx (hb hby d4_21) rfl rfl ?_
      refine go_baload (q := 24) (v := (.int c1)) X4 hx hZ e4 V_ar ⟨by decide, by decide⟩ rfl (hb hby d4_23) rfl ?_
      suffices J1 : ∀ (f2 : Int32) (s2 : UInt64), (f2, s2) = st (f1, s1) c1 (2 : Int32) → FP.Core.dIsNaN s2 = false → Go p e below s (fun v h L => Fr n0 L ∧ v = some (.double (FP.ddiv (a6 c0 c1 c2 c3 (0 : Int32) (0 : Int32)).2 (FP.i2d rc))) ∧ h = h0) ({ frames := 0, cells := 0, slots := 0, locals := 0 } : Room).cells ({ frames := 0, cells := 0, slots := 0, locals := 0 } : Room).slots T4 (mkF m 41 #[.val (.ref ao), .val (.double s2), .second, .val (.int f2), .val (.int (1 : Int32))] []) by
        refine go_if_eq (q := 27) (q' := 41) X4 hx (hb hby d4_24) rfl (by decide) rfl (fun hz1 => ?_) (fun hz1 => ?_)
        · exact J1 _ _ (st0 hz1).symm hN1
        · refine go_iinc (q := 30) (l' := #[.val (.ref ao), .val (.double s1), .second, .val (.int (f1 + (1 : Int32))), .val (.int (1 : Int32))]) X4 hx (hb hby d4_27) rfl rfl rfl ?_
          refine go_dloadN (q := 31) X4 hx (hb hby d4_30) rfl rfl ?_
          refine go_iloadN (q := 32) X4 hx (hb hby d4_31) rfl rfl ?_
          refine go_i2d (q := 33) X4 hx (hb hby d4_32) rfl rfl ?_
          refine go_iload (q := 35) X4 hx (hb hby d4_33) rfl rfl ?_
          refine go_iconst (q := 36) (v := (1 : Int32)) X4 hx (hb hby d4_35) rfl rfl ?_
          refine go_iadd (q := 37) (v := (2 : Int32)) X4 hx (hb hby d4_36) rfl rfl ?_
          refine go_i2d (q := 38) X4 hx (hb hby d4_37) rfl rfl ?_
          refine go_ddiv (q := 39) X4 hx (hb hby d4_38) rfl (own_dn (c := (2 : Int32)) (by decide) _) rfl ?_
          refine go_dadd (q := 40) X4 hx (hb hby d4_39) rfl (own_da hN1 (by decide)) rfl ?_
          refine go_dstoreN (q := 41) (l' := #[.val (.ref ao), .val (.double (FP.dadd s1 (FP.ddiv (FP.i2d (f1 + (1 : Int32))) (FP.i2d (2 : Int32))))), .second, .val (.int (f1 + (1 : Int32))), .val (.int (1 : Int32))]) X4 hx (hb hby d4_40) rfl rfl ?_
          exact J1 _ _ (st1 (f := f1) (S := s1) (k := (2 : Int32)) hz1).symm (own_db hN1 (by decide))
      intro f2 s2 eS2 hN2
      refine go_iinc (q := 44) (l' := #[.val (.ref ao), .val (.double s2), .second, .val (.int f2), .val (.int (2 : Int32))]) X4 hx (hb hby d4_41) rfl rfl rfl ?_
      refine go_goto (q := 7) X4 hx (hb hby d4_44) (by decide) rfl ?_
      refine go_iload (q := 9) X4 hx (hb hby d4_7) rfl rfl ?_
      refine go_aloadN (q := 10) X4 hx (hb hby d4_9) rfl rfl rfl ?_
      refine go_getF (q := 13) X4 hx hZ (host := "") hown (Or.inl (hw _ (List.mem_of_getElem? (i := 15) rfl))) Via.refl e4 F1 (hb hby d4_10) rfl (fun T5 X5 e5 => ?_)
      refine go_alen (q := 14) X5 hx hZ e5 V_ar (hb hby d4_13) rfl ?_
      refine go_icmp_ge (q := 17) (q' := 47) X5 hx (hb hby d4_14) rfl (by decide) rfl (fun hl2 => ?_) (fun hl2 => ?_)
      · exact absurd (by decide) hl2
      · refine go_aloadN (q := 18) X5 hx (hb hby d4_17) rfl rfl rfl ?_
        refine go_getF (q := 21) X5 hx hZ (host := "") hown (Or.inl (hw _ (List.mem_of_getElem? (i := 15) rfl))) Via.refl e5 F1 (hb hby d4_18) rfl (fun T6 X6 e6 => ?_)
        refine go_iload (q := 23) X6 hx (hb hby d4_21) rfl rfl ?_
        refine go_baload (q := 24) (v := (.int c2)) X6 hx hZ e6 V_ar ⟨by decide, by decide⟩ rfl (hb hby d4_23) rfl ?_
        suffices J2 : ∀ (f3 : Int32) (s3 : UInt64), (f3, s3) = st (f2, s2) c2 (3 : Int32) → FP.Core.dIsNaN s3 = false → Go p e below s (fun v h L => Fr n0 L ∧ v = some (.double (FP.ddiv (a6 c0 c1 c2 c3 (0 : Int32) (0 : Int32)).2 (FP.i2d rc))) ∧ h = h0) ({ frames := 0, cells := 0, slots := 0, locals := 0 } : Room).cells ({ frames := 0, cells := 0, slots := 0, locals := 0 } : Room).slots T6 (mkF m 41 #[.val (.ref ao), .val (.double s3), .second, .val (.int f3), .val (.int (2 : Int32))] []) by
          refine go_if_eq (q := 27) (q' := 41) X6 hx (hb hby d4_24) rfl (by decide) rfl (fun hz2 => ?_) (fun hz2 => ?_)
          · exact J2 _ _ (st0 hz2).symm hN2
          · refine go_iinc (q := 30) (l' := #[.val (.ref ao), .val (.double s2), .second, .val (.int (f2 + (1 : Int32))), .val (.int (2 : Int32))]) X6 hx (hb hby d4_27) rfl rfl rfl ?_
            refine go_dloadN (q := 31) X6 hx (hb hby d4_30) rfl rfl ?_
            refine go_iloadN (q := 32) X6 hx (hb hby d4_31) rfl rfl ?_
            refine go_i2d (q := 33) X6 hx (hb hby d4_32) rfl rfl ?_
            refine go_iload (q := 35) X6 hx (hb hby d4_33) rfl rfl ?_
            refine go_iconst (q := 36) (v := (1 : Int32)) X6 hx (hb hby d4_35) rfl rfl ?_
            refine go_iadd (q := 37) (v := (3 : Int32)) X6 hx (hb hby d4_36) rfl rfl ?_
            refine go_i2d (q := 38) X6 hx (hb hby d4_37) rfl rfl ?_
            refine go_ddiv (q := 39) X6 hx (hb hby d4_38) rfl (own_dn (c := (3 : Int32)) (by decide) _) rfl ?_
            refine go_dadd (q := 40) X6 hx (hb hby d4_39) rfl (own_da hN2 (by decide)) rfl ?_
            refine go_dstoreN (q := 41) (l' := #[.val (.ref ao), .val (.double (FP.dadd s2 (FP.ddiv (FP.i2d (f2 + (1 : Int32))) (FP.i2d (3 : Int32))))), .second, .val (.int (f2 + (1 : Int32))), .val (.int (2 : Int32))]) X6 hx (hb hby d4_40) rfl rfl ?_
            exact J2 _ _ (st1 (f := f2) (S := s2) (k := (3 : Int32)) hz2).symm (own_db hN2 (by decide))
        intro f3 s3 eS3 hN3
        refine go_iinc (q := 44) (l' := #[.val (.ref ao), .val (.double s3), .second, .val (.int f3), .val (.int (3 : Int32))]) X6 hx (hb hby d4_41) rfl rfl rfl ?_
        refine go_goto (q := 7) X6 hx (hb hby d4_44) (by decide) rfl ?_
        refine go_iload (q := 9) X6 hx (hb hby d4_7) rfl rfl ?_
        refine go_aloadN (q := 10) X6 hx (hb hby d4_9) rfl rfl rfl ?_
        refine go_getF (q := 13) X6 hx hZ (host := "") hown (Or.inl (hw _ (List.mem_of_getElem? (i := 15) rfl))) Via.refl e6 F1 (hb hby d4_10) rfl (fun T7 X7 e7 => ?_)
        refine go_alen (q := 14) X7 hx hZ e7 V_ar (hb hby d4_13) rfl ?_
        refine go_icmp_ge (q := 17) (q' := 47) X7 hx (hb hby d4_14) rfl (by decide) rfl (fun hl3 => ?_) (fun hl3 => ?_)
        · exact absurd (by decide) hl3
        · refine go_aloadN (q := 18) X7 hx (hb hby d4_17) rfl rfl rfl ?_
          refine go_getF (q := 21) X7 hx hZ (host := "") hown (Or.inl (hw _ (List.mem_of_getElem? (i := 15) rfl))) Via.refl e7 F1 (hb hby d4_18) rfl (fun T8 X8 e8 => ?_)
          refine go_iload (q := 23) X8 hx (hb hby d4_21) rfl rfl ?_
          refine go_baload (q := 24) (v := (.int c3)) X8 hx hZ e8 V_ar ⟨by decide, by decide⟩ rfl (hb hby d4_23) rfl ?_
          suffices J3 : ∀ (f4 : Int32) (s4 : UInt64), (f4, s4) = st (f3, s3) c3 (4 : Int32) → FP.Core.dIsNaN s4 = false → Go p e below s (fun v h L => Fr n0 L ∧ v = some (.double (FP.ddiv (a6 c0 c1 c2 c3 (0 : Int32) (0 : Int32)).2 (FP.i2d rc))) ∧ h = h0) ({ frames := 0, cells := 0, slots := 0, locals := 0 } : Room).cells ({ frames := 0, cells := 0, slots := 0, locals := 0 } : Room).slots T8 (mkF m 41 #[.val (.ref ao), .val (.double s4), .second, .val (.int f4), .val (.int (3 : Int32))] []) by
            refine go_if_eq (q := 27) (q' := 41) X8 hx (hb hby d4_24) rfl (by decide) rfl (fun hz3 => ?_) (fun hz3 => ?_)
            · exact J3 _ _ (st0 hz3).symm hN3
            · refine go_iinc (q := 30) (l' := #[.val (.ref ao), .val (.double s3), .second, .val (.int (f3 + (1 : Int32))), .val (.int (3 : Int32))]) X8 hx (hb hby d4_27) rfl rfl rfl ?_
              refine go_dloadN (q := 31) X8 hx (hb hby d4_30) rfl rfl ?_
              refine go_iloadN (q := 32) X8 hx (hb hby d4_31) rfl rfl ?_
              refine go_i2d (q := 33) X8 hx (hb hby d4_32) rfl rfl ?_
              refine go_iload (q := 35) X8 hx (hb hby d4_33) rfl rfl ?_
              refine go_iconst (q := 36) (v := (1 : Int32)) X8 hx (hb hby d4_35) rfl rfl ?_
              refine go_iadd (q := 37) (v := (4 : Int32)) X8 hx (hb hby d4_36) rfl rfl ?_
              refine go_i2d (q := 38) X8 hx (hb hby d4_37) rfl rfl ?_
              refine go_ddiv (q := 39) X8 hx (hb hby d4_38) rfl (own_dn (c := (4 : Int32)) (by decide) _) rfl ?_
              refine go_dadd (q := 40) X8 hx (hb hby d4_39) rfl (own_da hN3 (by decide)) rfl ?_
              refine go_dstoreN (q := 41) (l' := #[.val (.ref ao), .val (.double (FP.dadd s3 (FP.ddiv (FP.i2d (f3 + (1 : Int32))) (FP.i2d (4 : Int32))))), .second, .val (.int (f3 + (1 : Int32))), .val (.int (3 : Int32))]) X8 hx (hb hby d4_40) rfl rfl ?_
              exact J3 _ _ (st1 (f := f3) (S := s3) (k := (4 : Int32)) hz3).symm (own_db hN3 (by decide))
          intro f4 s4 eS4 hN4
          refine go_iinc (q := 44) (l' := #[.val (.ref ao), .val (.double s4), .second, .val (.int f4), .val (.int (4 : Int32))]) X8 hx (hb hby d4_41) rfl rfl rfl ?_
          refine go_goto (q := 7) X8 hx (hb hby d4_44) (by decide) rfl ?_
          refine go_iload (q := 9) X8 hx (hb hby d4_7) rfl rfl ?_
          refine go_aloadN (q := 10) X8 hx (hb hby d4_9) rfl rfl rfl ?_
          refine go_getF (q := 13) X8 hx hZ (host := "") hown (Or.inl (hw _ (List.mem_of_getElem? (i := 15) rfl))) Via.refl e8 F1 (hb hby d4_10) rfl (fun T9 X9 e9 => ?_)
          refine go_alen (q := 14) X9 hx hZ e9 V_ar (hb hby d4_13) rfl ?_
          refine go_icmp_ge (q := 17) (q' := 47) X9 hx (hb hby d4_14) rfl (by decide) rfl (fun hl4 => ?_) (fun hl4 => ?_)
          · refine go_dloadN (q := 48) X9 hx (hb hby d4_47) rfl rfl ?_
            refine go_aloadN (q := 49) X9 hx (hb hby d4_48) rfl rfl rfl ?_
            refine go_getF (q := 52) X9 hx hZ (host := "") hown (Or.inl (hw _ (List.mem_of_getElem? (i := 17) rfl))) Via.refl e9 F2 (hb hby d4_49) rfl (fun T10 X10 e10 => ?_)
            refine go_i2d (q := 53) X10 hx (hb hby d4_52) rfl rfl ?_
            refine go_ddiv (q := 54) X10 hx (hb hby d4_53) rfl (own_dv hN4 hrc) rfl ?_
            have hA : (f4, s4) = (a6 c0 c1 c2 c3 (0 : Int32) (0 : Int32)) := by rw [eS4, eS3, eS2, eS1]; simp only [a6, st0z]
            exact go_retD X10 hx hret hlk (hb hby d4_54) (by decide) (by decide) ⟨N0, by rw [← hA], e10⟩
          · exact absurd hl4 (by decide)
set_option maxRecDepth 65536 in
set_option maxHeartbeats 40000000 in
theorem rm4_5 (l : Launch) (Z : State) (a0 : Array Value) (hw : ∀ d ∈ tables_1, d.before a0 Z = true) (ws : List Jvm.Cond) (ao : Addr) (n0 : Nat) (ar : Addr) (kr : ClassId) (dr : Value) (rc : Int32) (c0 : Int32) (c1 : Int32) (c2 : Int32) (c3 : Int32) (c4 : Int32) (h0 : Heap) (F1 : Fld Z h0 ao "com/example/forager/forager/eval/Ranking" "relevant" "[Z" (.ref ar)) (F2 : Fld Z h0 ao "com/example/forager/forager/eval/Ranking" "relevantCount" "I" (.int rc)) (V_ar : Arv Z h0 ar kr .boolean (5 : Int32) [.int c0, .int c1, .int c2, .int c3, .int c4] dr) (hrc : ¬ rc < 1) :
    Con l (⟨"com/example/forager/forager/eval/Ranking", "averagePrecision", "()D"⟩ : MethodName) prog_3_method_3_code 5 (some .double) ws ({ frames := 0, cells := 0, slots := 0, locals := 0 } : Room) Z #[(.ref ao)] h0 (fun v h L => Fr n0 L ∧ v = some (.double (FP.ddiv (a6 c0 c1 c2 c3 c4 (0 : Int32)).2 (FP.i2d rc))) ∧ h = h0) := by
  refine con_of (plainFor_of_name pn_4) ?_
  intro p e s m below meth c s₁ X0 hx hby hml hret hlk hown hnm hZ e0
  refine Go.cast (ef_4 m ao) ?_
  have N0 := Fr.nil n0
  have hN0 : FP.Core.dIsNaN (0 : UInt64) = false := by decide +kernel
  refine go_dconst0 (q := 1) (v := (0 : UInt64)) X0 hx (hb hby d4_0) rfl rfl ?_
  refine go_dstoreN (q := 2) (l' := #[.val (.ref ao), .val (.double (0 : UInt64)), .second, .unset, .unset]) X0 hx (hb hby d4_1) rfl rfl ?_
  refine go_iconst (q := 3) (v := (0 : Int32)) X0 hx (hb hby d4_2) rfl rfl ?_
  refine go_istoreN (q := 4) (l' := #[.val (.ref ao), .val (.double (0 : UInt64)), .second, .val (.int (0 : Int32)), .unset]) X0 hx (hb hby d4_3) rfl rfl ?_
  refine go_iconst (q := 5) (v := (0 : Int32)) X0 hx (hb hby d4_4) rfl rfl ?_
  refine go_istore (q := 7) (l' := #[.val (.ref ao), .val (.double (0 : UInt64)), .second, .val (.int (0 : Int32)), .val (.int (0 : Int32))]) X0 hx (hb hby d4_5) rfl rfl ?_
  refine go_iload (q := 9) X0 hx (hb hby d4_7) rfl rfl ?_
  refine go_aloadN (q := 10) X0 hx (hb hby d4_9) rfl rfl rfl ?_
  refine go_getF (q := 13) X0 hx hZ (host := "") hown (Or.inl (hw _ (List.mem_of_getElem? (i := 15) rfl))) Via.refl e0 F1 (hb hby d4_10) rfl (fun T1 X1 e1 => ?_)
  refine go_alen (q := 14) X1 hx hZ e1 V_ar (hb hby d4_13) rfl ?_
  refine go_icmp_ge (q := 17) (q' := 47) X1 hx (hb hby d4_14) rfl (by decide) rfl (fun hl0 => ?_) (fun hl0 => ?_)
  · exact absurd (by decide) hl0
  · refine go_aloadN (q := 18) X1 hx (hb hby d4_17) rfl rfl rfl ?_
    refine go_getF (q := 21) X1 hx hZ (host := "") hown (Or.inl (hw _ (List.mem_of_getElem? (i := 15) rfl))) Via.refl e1 F1 (hb hby d4_18) rfl (fun T2 X2 e2 => ?_)
    refine go_iload (q := 23) X2 hx (hb hby d4_21) rfl rfl ?_
    refine go_baload (q := 24) (v := (.int c0)) X2 hx hZ e2 V_ar ⟨by decide, by decide⟩ rfl (hb hby d4_23) rfl ?_
    suffices J0 : ∀ (f1 : Int32) (s1 : UInt64), (f1, s1) = st ((0 : Int32), (0 : UInt64)) c0 (1 : Int32) → FP.Core.dIsNaN s1 = false → Go p e below s (fun v h L => Fr n0 L ∧ v = some (.double (FP.ddiv (a6 c0 c1 c2 c3 c4 (0 : Int32)).2 (FP.i2d rc))) ∧ h = h0) ({ frames := 0, cells := 0, slots := 0, locals := 0 } : Room).cells ({ frames := 0, cells := 0, slots := 0, locals := 0 } : Room).slots T2 (mkF m 41 #[.val (.ref ao), .val (.double s1), .second, .val (.int f1), .val (.int (0 : Int32))] []) by
      refine go_if_eq (q := 27) (q' := 41) X2 hx (hb hby d4_24) rfl (by decide) rfl (fun hz0 => ?_) (fun hz0 => ?_)
      · exact J0 _ _ (st0 hz0).symm hN0
      · refine go_iinc (q := 30) (l' := #[.val (.ref ao), .val (.double (0 : UInt64)), .second, .val (.int (1 : Int32)), .val (.int (0 : Int32))]) X2 hx (hb hby d4_27) rfl rfl rfl ?_
        refine go_dloadN (q := 31) X2 hx (hb hby d4_30) rfl rfl ?_
        refine go_iloadN (q := 32) X2 hx (hb hby d4_31) rfl rfl ?_
        refine go_i2d (q := 33) X2 hx (hb hby d4_32) rfl rfl ?_
        refine go_iload (q := 35) X2 hx (hb hby d4_33) rfl rfl ?_
        refine go_iconst (q := 36) (v := (1 : Int32)) X2 hx (hb hby d4_35) rfl rfl ?_
        refine go_iadd (q := 37) (v := (1 : Int32)) X2 hx (hb hby d4_36) rfl rfl ?_
        refine go_i2d (q := 38) X2 hx (hb hby d4_37) rfl rfl ?_
        refine go_ddiv (q := 39) X2 hx (hb hby d4_38) rfl (own_dn (c := (1 : Int32)) (by decide) _) rfl ?_
        refine go_dadd (q := 40) X2 hx (hb hby d4_39) rfl (own_da hN0 (by decide)) rfl ?_
        refine go_dstoreN (q := 41) (l' := #[.val (.ref ao), .val (.double (FP.dadd (0 : UInt64) (FP.ddiv (FP.i2d (1 : Int32)) (FP.i2d (1 : Int32))))), .second, .val (.int (1 : Int32)), .val (.int (0 : Int32))]) X2 hx (hb hby d4_40) rfl rfl ?_
        exact J0 _ _ (st1 (f := (0 : Int32)) (S := (0 : UInt64)) (k := (1 : Int32)) hz0).symm (own_db hN0 (by decide))
    intro f1 s1 eS1 hN1
    refine go_iinc (q := 44) (l' := #[.val (.ref ao), .val (.double s1), .second, .val (.int f1), .val (.int (1 : Int32))]) X2 hx (hb hby d4_41) rfl rfl rfl ?_
    refine go_goto (q := 7) X2 hx (hb hby d4_44) (by decide) rfl ?_
    refine go_iload (q := 9) X2 hx (hb hby d4_7) rfl rfl ?_
    refine go_aloadN (q := 10) X2 hx (hb hby d4_9) rfl rfl rfl ?_
    refine go_getF (q := 13) X2 hx hZ (host := "") hown (Or.inl (hw _ (List.mem_of_getElem? (i := 15) rfl))) Via.refl e2 F1 (hb hby d4_10) rfl (fun T3 X3 e3 => ?_)
    refine go_alen (q := 14) X3 hx hZ e3 V_ar (hb hby d4_13) rfl ?_
    refine go_icmp_ge (q := 17) (q' := 47) X3 hx (hb hby d4_14) rfl (by decide) rfl (fun hl1 => ?_) (fun hl1 => ?_)
    · exact absurd (by decide) hl1
    · refine go_aloadN (q := 18) X3 hx (hb hby d4_17) rfl rfl rfl ?_
      refine go_getF (q := 21) X3 hx hZ (host := "") hown (Or.inl (hw _ (List.mem_of_getElem? (i := 15) rfl))) Via.refl e3 F1 (hb hby d4_18) rfl (fun T4 X4 e4 => ?_)
      refine go_iload (q := 23) X4 hx (hb hby d4_21) rfl rfl ?_
      refine go_baload (q := 24) (v := (.int c1)) X4 hx hZ e4 V_ar ⟨by decide, by decide⟩ rfl (hb hby d4_23) rfl ?_
      suffices J1 : ∀ (f2 : Int32) (s2 : UInt64), (f2, s2) = st (f1, s1) c1 (2 : Int32) → FP.Core.dIsNaN s2 = false → Go p e below s (fun v h L => Fr n0 L ∧ v = some (.double (FP.ddiv (a6 c0 c1 c2 c3 c4 (0 : Int32)).2 (FP.i2d rc))) ∧ h = h0) ({ frames := 0, cells := 0, slots := 0, locals := 0 } : Room).cells ({ frames := 0, cells := 0, slots := 0, locals := 0 } : Room).slots T4 (mkF m 41 #[.val (.ref ao), .val (.double s2), .second, .val (.int f2), .val (.int (1 : Int32))] []) by
        refine go_if_eq (q := 27) (q' := 41) X4 hx (hb hby d4_24) rfl (by decide) rfl (fun hz1 => ?_) (fun hz1 => ?_)
        · exact J1 _ _ (st0 hz1).symm hN1
        · refine go_iinc (q := 30) (l' := #[.val (.ref ao), .val (.double s1), .second, .val (.int (f1 + (1 : Int32))), .val (.int (1 : Int32))]) X4 hx (hb hby d4_27) rfl rfl rfl ?_
          refine go_dloadN (q := 31) X4 hx (hb hby d4_30) rfl rfl ?_
          refine go_iloadN (q := 32) X4 hx (hb hby d4_31) rfl rfl ?_
          refine go_i2d (q := 33) X4 hx (hb hby d4_32) rfl rfl ?_
          refine go_iload (q := 35) X4 hx (hb hby d4_33) rfl rfl ?_
          refine go_iconst (q := 36) (v := (1 : Int32)) X4 hx (hb hby d4_35) rfl rfl ?_
          refine go_iadd (q := 37) (v := (2 : Int32)) X4 hx (hb hby d4_36) rfl rfl ?_
          refine go_i2d (q := 38) X4 hx (hb hby d4_37) rfl rfl ?_
          refine go_ddiv (q := 39) X4 hx (hb hby d4_38) rfl (own_dn (c := (2 : Int32)) (by decide) _) rfl ?_
          refine go_dadd (q := 40) X4 hx (hb hby d4_39) rfl (own_da hN1 (by decide)) rfl ?_
          refine go_dstoreN (q := 41) (l' := #[.val (.ref ao), .val (.double (FP.dadd s1 (FP.ddiv (FP.i2d (f1 + (1 : Int32))) (FP.i2d (2 : Int32))))), .second, .val (.int (f1 + (1 : Int32))), .val (.int (1 : Int32))]) X4 hx (hb hby d4_40) rfl rfl ?_
          exact J1 _ _ (st1 (f := f1) (S := s1) (k := (2 : Int32)) hz1).symm (own_db hN1 (by decide))
      intro f2 s2 eS2 hN2
      refine go_iinc (q := 44) (l' := #[.val (.ref ao), .val (.double s2), .second, .val (.int f2), .val (.int (2 : Int32))]) X4 hx (hb hby d4_41) rfl rfl rfl ?_
      refine go_goto (q := 7) X4 hx (hb hby d4_44) (by decide) rfl ?_
      refine go_iload (q := 9) X4 hx (hb hby d4_7) rfl rfl ?_
      refine go_aloadN (q := 10) X4 hx (hb hby d4_9) rfl rfl rfl ?_
      refine go_getF (q := 13) X4 hx hZ (host := "") hown (Or.inl (hw _ (List.mem_of_getElem? (i := 15) rfl))) Via.refl e4 F1 (hb hby d4_10) rfl (fun T5 X5 e5 => ?_)
      refine go_alen (q := 14) X5 hx hZ e5 V_ar (hb hby d4_13) rfl ?_
      refine go_icmp_ge (q := 17) (q' := 47) X5 hx (hb hby d4_14) rfl (by decide) rfl (fun hl2 => ?_) (fun hl2 => ?_)
      · exact absurd (by decide) hl2
      · refine go_aloadN (q := 18) X5 hx (hb hby d4_17) rfl rfl rfl ?_
        refine go_getF (q := 21) X5 hx hZ (host := "") hown (Or.inl (hw _ (List.mem_of_getElem? (i := 15) rfl))) Via.refl e5 F1 (hb hby d4_18) rfl (fun T6 X6 e6 => ?_)
        refine go_iload (q := 23) X6 hx (hb hby d4_21) rfl rfl ?_
        refine go_baload (q := 24) (v := (.int c2)) X6 hx hZ e6 V_ar ⟨by decide, by decide⟩ rfl (hb hby d4_23) rfl ?_
        suffices J2 : ∀ (f3 : Int32) (s3 : UInt64), (f3, s3) = st (f2, s2) c2 (3 : Int32) → FP.Core.dIsNaN s3 = false → Go p e below s (fun v h L => Fr n0 L ∧ v = some (.double (FP.ddiv (a6 c0 c1 c2 c3 c4 (0 : Int32)).2 (FP.i2d rc))) ∧ h = h0) ({ frames := 0, cells := 0, slots := 0, locals := 0 } : Room).cells ({ frames := 0, cells := 0, slots := 0, locals := 0 } : Room).slots T6 (mkF m 41 #[.val (.ref ao), .val (.double s3), .second, .val (.int f3), .val (.int (2 : Int32))] []) by
          refine go_if_eq (q := 27) (q' := 41) X6 hx (hb hby d4_24) rfl (by decide) rfl (fun hz2 => ?_) (fun hz2 => ?_)
          · exact J2 _ _ (st0 hz2).symm hN2
          · refine go_iinc (q := 30) (l' := #[.val (.ref ao), .val (.double s2), .second, .val (.int (f2 + (1 : Int32))), .val (.int (2 : Int32))]) X6 hx (hb hby d4_27) rfl rfl rfl ?_
            refine go_dloadN (q := 31) X6 hx (hb hby d4_30) rfl rfl ?_
            refine go_iloadN (q := 32) X6 hx (hb hby d4_31) rfl rfl ?_
            refine go_i2d (q := 33) X6 hx (hb hby d4_32) rfl rfl ?_
            refine go_iload (q := 35) X6 hx (hb hby d4_33) rfl rfl ?_
            refine go_iconst (q := 36) (v := (1 : Int32)) X6 hx (hb hby d4_35) rfl rfl ?_
            refine go_iadd (q := 37) (v := (3 : Int32)) X6 hx (hb hby d4_36) rfl rfl ?_
            refine go_i2d (q := 38) X6 hx (hb hby d4_37) rfl rfl ?_
            refine go_ddiv (q := 39) X6 hx (hb hby d4_38) rfl (own_dn (c := (3 : Int32)) (by decide) _) rfl ?_
            refine go_dadd (q := 40) X6 hx (hb hby d4_39) rfl (own_da hN2 (by decide)) rfl ?_
            refine go_dstoreN (q := 41) (l' := #[.val (.ref ao), .val (.double (FP.dadd s2 (FP.ddiv (FP.i2d (f2 + (1 : Int32))) (FP.i2d (3 : Int32))))), .second, .val (.int (f2 + (1 : Int32))), .val (.int (2 : Int32))]) X6 hx (hb hby d4_40) rfl rfl ?_
            exact J2 _ _ (st1 (f := f2) (S := s2) (k := (3 : Int32)) hz2).symm (own_db hN2 (by decide))
        intro f3 s3 eS3 hN3
        refine go_iinc (q := 44) (l' := #[.val (.ref ao), .val (.double s3), .second, .val (.int f3), .val (.int (3 : Int32))]) X6 hx (hb hby d4_41) rfl rfl rfl ?_
        refine go_goto (q := 7) X6 hx (hb hby d4_44) (by decide) rfl ?_
        refine go_iload (q := 9) X6 hx (hb hby d4_7) rfl rfl ?_
        refine go_aloadN (q := 10) X6 hx (hb hby d4_9) rfl rfl rfl ?_
        refine go_getF (q := 13) X6 hx hZ (host := "") hown (Or.inl (hw _ (List.mem_of_getElem? (i := 15) rfl))) Via.refl e6 F1 (hb hby d4_10) rfl (fun T7 X7 e7 => ?_)
        refine go_alen (q := 14) X7 hx hZ e7 V_ar (hb hby d4_13) rfl ?_
        refine go_icmp_ge (q := 17) (q' := 47) X7 hx (hb hby d4_14) rfl (by decide) rfl (fun hl3 => ?_) (fun hl3 => ?_)
        · exact absurd (by decide) hl3
        · refine go_aloadN (q := 18) X7 hx (hb hby d4_17) rfl rfl rfl ?_
          refine go_getF (q := 21) X7 hx hZ (host := "") hown (Or.inl (hw _ (List.mem_of_getElem? (i := 15) rfl))) Via.refl e7 F1 (hb hby d4_18) rfl (fun T8 X8 e8 => ?_)
          refine go_iload (q := 23) X8 hx (hb hby d4_21) rfl rfl ?_
          refine go_baload (q := 24) (v := (.int c3)) X8 hx hZ e8 V_ar ⟨by decide, by decide⟩ rfl (hb hby d4_23) rfl ?_
          suffices J3 : ∀ (f4 : Int32) (s4 : UInt64), (f4, s4) = st (f3, s3) c3 (4 : Int32) → FP.Core.dIsNaN s4 = false → Go p e below s (fun v h L => Fr n0 L ∧ v = some (.double (FP.ddiv (a6 c0 c1 c2 c3 c4 (0 : Int32)).2 (FP.i2d rc))) ∧ h = h0) ({ frames := 0, cells := 0, slots := 0, locals := 0 } : Room).cells ({ frames := 0, cells := 0, slots := 0, locals := 0 } : Room).slots T8 (mkF m 41 #[.val (.ref ao), .val (.double s4), .second, .val (.int f4), .val (.int (3 : Int32))] []) by
            refine go_if_eq (q := 27) (q' := 41) X8 hx (hb hby d4_24) rfl (by decide) rfl (fun hz3 => ?_) (fun hz3 => ?_)
            · exact J3 _ _ (st0 hz3).symm hN3
            · refine go_iinc (q := 30) (l' := #[.val (.ref ao), .val (.double s3), .second, .val (.int (f3 + (1 : Int32))), .val (.int (3 : Int32))]) X8 hx (hb hby d4_27) rfl rfl rfl ?_
              refine go_dloadN (q := 31) X8 hx (hb hby d4_30) rfl rfl ?_
              refine go_iloadN (q := 32) X8 hx (hb hby d4_31) rfl rfl ?_
              refine go_i2d (q := 33) X8 hx (hb hby d4_32) rfl rfl ?_
              refine go_iload (q := 35) X8 hx (hb hby d4_33) rfl rfl ?_
              refine go_iconst (q := 36) (v := (1 : Int32)) X8 hx (hb hby d4_35) rfl rfl ?_
              refine go_iadd (q := 37) (v := (4 : Int32)) X8 hx (hb hby d4_36) rfl rfl ?_
              refine go_i2d (q := 38) X8 hx (hb hby d4_37) rfl rfl ?_
              refine go_ddiv (q := 39) X8 hx (hb hby d4_38) rfl (own_dn (c := (4 : Int32)) (by decide) _) rfl ?_
              refine go_dadd (q := 40) X8 hx (hb hby d4_39) rfl (own_da hN3 (by decide)) rfl ?_
              refine go_dstoreN (q := 41) (l' := #[.val (.ref ao), .val (.double (FP.dadd s3 (FP.ddiv (FP.i2d (f3 + (1 : Int32))) (FP.i2d (4 : Int32))))), .second, .val (.int (f3 + (1 : Int32))), .val (.int (3 : Int32))]) X8 hx (hb hby d4_40) rfl rfl ?_
              exact J3 _ _ (st1 (f := f3) (S := s3) (k := (4 : Int32)) hz3).symm (own_db hN3 (by decide))
          intro f4 s4 eS4 hN4
          refine go_iinc (q := 44) (l' := #[.val (.ref ao), .val (.double s4), .second, .val (.int f4), .val (.int (4 : Int32))]) X8 hx (hb hby d4_41) rfl rfl rfl ?_
          refine go_goto (q := 7) X8 hx (hb hby d4_44) (by decide) rfl ?_
          refine go_iload (q := 9) X8 hx (hb hby d4_7) rfl rfl ?_
          refine go_aloadN (q := 10) X8 hx (hb hby d4_9) rfl rfl rfl ?_
          refine go_getF (q := 13) X8 hx hZ (host := "") hown (Or.inl (hw _ (List.mem_of_getElem? (i := 15) rfl))) Via.refl e8 F1 (hb hby d4_10) rfl (fun T9 X9 e9 => ?_)
          refine go_alen (q := 14) X9 hx hZ e9 V_ar (hb hby d4_13) rfl ?_
          refine go_icmp_ge (q := 17) (q' := 47) X9 hx (hb hby d4_14) rfl (by decide) rfl (fun hl4 => ?_) (fun hl4 => ?_)
          · exact absurd (by decide) hl4
          · refine go_aloadN (q := 18) X9 hx (hb hby d4_17) rfl rfl rfl ?_
            refine go_getF (q := 21) X9 hx hZ (host := "") hown (Or.inl (hw _ (List.mem_of_getElem? (i := 15) rfl))) Via.refl e9 F1 (hb hby d4_18) rfl (fun T10 X10 e10 => ?_)
            refine go_iload (q := 23) X10 hx (hb hby d4_21) rfl rfl ?_
            refine go_baload (q := 24) (v := (.int c4)) X10 hx hZ e10 V_ar ⟨by decide, by decide⟩ rfl (hb hby d4_23) rfl ?_
            suffices J4 : ∀ (f5 : Int32) (s5 : UInt64), (f5, s5) = st (f4, s4) c4 (5 : Int32) → FP.Core.dIsNaN s5 = false → Go p e below s (fun v h L => Fr n0 L ∧ v = some (.double (FP.ddiv (a6 c0 c1 c2 c3 c4 (0 : Int32)).2 (FP.i2d rc))) ∧ h = h0) ({ frames := 0, cells := 0, slots := 0, locals := 0 } : Room).cells ({ frames := 0, cells := 0, slots := 0, locals := 0 } : Room).slots T10 (mkF m 41 #[.val (.ref ao), .val (.double s5), .second, .val (.int f5), .val (.int (4 : Int32))] []) by
              refine go_if_eq (q := 27) (q' := 41) X10 hx (hb hby d4_24) rfl (by decide) rfl (fun hz4 => ?_) (fun hz4 => ?_)
              · exact J4 _ _ (st0 hz4).symm hN4
              · refine go_iinc (q := 30) (l' := #[.val (.ref ao), .val (.double s4), .second, .val (.int (f4 + (1 : Int32))), .val (.int (4 : Int32))]) X10 hx (hb hby d4_27) rfl rfl rfl ?_
                refine go_dloadN (q := 31) X10 hx (hb hby d4_30) rfl rfl ?_
                refine go_iloadN (q := 32) X10 hx (hb hby d4_31) rfl rfl ?_
                refine go_i2d (q := 33) X10 hx (hb hby d4_32) rfl rfl ?_
                refine go_iload (q := 35) X10 hx (hb hby d4_33) rfl rfl ?_
                refine go_iconst (q := 36) (v := (1 : Int32)) X10 hx (hb hby d4_35) rfl rfl ?_
                refine go_iadd (q := 37) (v := (5 : Int32)) X10 hx (hb hby d4_36) rfl rfl ?_
                refine go_i2d (q := 38) X10 hx (hb hby d4_37) rfl rfl ?_
                refine go_ddiv (q := 39) X10 hx (hb hby d4_38) rfl (own_dn (c := (5 : Int32)) (by decide) _) rfl ?_
                refine go_dadd (q := 40) X10 hx (hb hby d4_39) rfl (own_da hN4 (by decide)) rfl ?_
                refine go_dstoreN (q := 41) (l' := #[.val (.ref ao), .val (.double (FP.dadd s4 (FP.ddiv (FP.i2d (f4 + (1 : Int32))) (FP.i2d (5 : Int32))))), .second, .val (.int (f4 + (1 : Int32))), .val (.int (4 : Int32))]) X10 hx (hb hby d4_40) rfl rfl ?_
                exact J4 _ _ (st1 (f := f4) (S := s4) (k := (5 : Int32)) hz4).symm (own_db hN4 (by decide))
            intro f5 s5 eS5 hN5
            refine go_iinc (q := 44) (l' := #[.val (.ref ao), .val (.double s5), .second, .val (.int f5), .val (.int (5 : Int32))]) X10 hx (hb hby d4_41) rfl rfl rfl ?_
            refine go_goto (q := 7) X10 hx (hb hby d4_44) (by decide) rfl ?_
            refine go_iload (q := 9) X10 hx (hb hby d4_7) rfl rfl ?_
            refine go_aloadN (q := 10) X10 hx (hb hby d4_9) rfl rfl rfl ?_
            refine go_getF (q := 13) X10 hx hZ (host := "") hown (Or.inl (hw _ (List.mem_of_getElem? (i := 15) rfl))) Via.refl e10 F1 (hb hby d4_10) rfl (fun T11 X11 e11 => ?_)
            refine go_alen (q := 14) X11 hx hZ e11 V_ar (hb hby d4_13) rfl ?_
            refine go_icmp_ge (q := 17) (q' := 47) X11 hx (hb hby d4_14) rfl (by decide) rfl (fun hl5 => ?_) (fun hl5 => ?_)
            · refine go_dloadN (q := 48) X11 hx (hb hby d4_47) rfl rfl ?_
              refine go_aloadN (q := 49) X11 hx (hb hby d4_48) rfl rfl rfl ?_
              refine go_getF (q := 52) X11 hx hZ (host := "") hown (Or.inl (hw _ (List.mem_of_getElem? (i := 17) rfl))) Via.refl e11 F2 (hb hby d4_49) rfl (fun T12 X12 e12 => ?_)
              refine go_i2d (q := 53) X12 hx (hb hby d4_52) rfl rfl ?_
              refine go_ddiv (q := 54) X12 hx (hb hby d4_53) rfl (own_dv hN5 hrc) rfl ?_
              have hA : (f5, s5) = (a6 c0 c1 c2 c3 c4 (0 : Int32)) := by rw [eS5, eS4, eS3, eS2, eS1]; simp only [a6, st0z]
              exact go_retD X12 hx hret hlk (hb hby d4_54) (by decide) (by decide) ⟨N0, by rw [← hA], e12⟩
            · exact absurd hl5 (by decide)
set_option maxRecDepth 65536 in
set_option maxHeartbeats 40000000 in
theorem rm4_6 (l : Launch) (Z : State) (a0 : Array Value) (hw : ∀ d ∈ tables_1, d.before a0 Z = true) (ws : List Jvm.Cond) (ao : Addr) (n0 : Nat) (ar : Addr) (kr : ClassId) (dr : Value) (rc : Int32) (c0 : Int32) (c1 : Int32) (c2 : Int32) (c3 : Int32) (c4 : Int32) (c5 : Int32) (h0 : Heap) (F1 : Fld Z h0 ao "com/example/forager/forager/eval/Ranking" "relevant" "[Z" (.ref ar)) (F2 : Fld Z h0 ao "com/example/forager/forager/eval/Ranking" "relevantCount" "I" (.int rc)) (V_ar : Arv Z h0 ar kr .boolean (6 : Int32) [.int c0, .int c1, .int c2, .int c3, .int c4, .int c5] dr) (hrc : ¬ rc < 1) :
    Con l (⟨"com/example/forager/forager/eval/Ranking", "averagePrecision", "()D"⟩ : MethodName) prog_3_method_3_code 5 (some .double) ws ({ frames := 0, cells := 0, slots := 0, locals := 0 } : Room) Z #[(.ref ao)] h0 (fun v h L => Fr n0 L ∧ v = some (.double (FP.ddiv (a6 c0 c1 c2 c3 c4 c5).2 (FP.i2d rc))) ∧ h = h0) := by
  refine con_of (plainFor_of_name pn_4) ?_
  intro p e s m below meth c s₁ X0 hx hby hml hret hlk hown hnm hZ e0
  refine Go.cast (ef_4 m ao) ?_
  have N0 := Fr.nil n0
  have hN0 : FP.Core.dIsNaN (0 : UInt64) = false := by decide +kernel
  refine go_dconst0 (q := 1) (v := (0 : UInt64)) X0 hx (hb hby d4_0) rfl rfl ?_
  refine go_dstoreN (q := 2) (l' := #[.val (.ref ao), .val (.double (0 : UInt64)), .second, .unset, .unset]) X0 hx (hb hby d4_1) rfl rfl ?_
  refine go_iconst (q := 3) (v := (0 : Int32)) X0 hx (hb hby d4_2) rfl rfl ?_
  refine go_istoreN (q := 4) (l' := #[.val (.ref ao), .val (.double (0 : UInt64)), .second, .val (.int (0 : Int32)), .unset]) X0 hx (hb hby d4_3) rfl rfl ?_
  refine go_iconst (q := 5) (v := (0 : Int32)) X0 hx (hb hby d4_4) rfl rfl ?_
  refine go_istore (q := 7) (l' := #[.val (.ref ao), .val (.double (0 : UInt64)), .second, .val (.int (0 : Int32)), .val (.int (0 : Int32))]) X0 hx (hb hby d4_5) rfl rfl ?_
  refine go_iload (q := 9) X0 hx (hb hby d4_7) rfl rfl ?_
  refine go_aloadN (q := 10) X0 hx (hb hby d4_9) rfl rfl rfl ?_
  refine go_getF (q := 13) X0 hx hZ (host := "") hown (Or.inl (hw _ (List.mem_of_getElem? (i := 15) rfl))) Via.refl e0 F1 (hb hby d4_10) rfl (fun T1 X1 e1 => ?_)
  refine go_alen (q := 14) X1 hx hZ e1 V_ar (hb hby d4_13) rfl ?_
  refine go_icmp_ge (q := 17) (q' := 47) X1 hx (hb hby d4_14) rfl (by decide) rfl (fun hl0 => ?_) (fun hl0 => ?_)
  · exact absurd (by decide) hl0
  · refine go_aloadN (q := 18) X1 hx (hb hby d4_17) rfl rfl rfl ?_
    refine go_getF (q := 21) X1 hx hZ (host := "") hown (Or.inl (hw _ (List.mem_of_getElem? (i := 15) rfl))) Via.refl e1 F1 (hb hby d4_18) rfl (fun T2 X2 e2 => ?_)
    refine go_iload (q := 23) X2 hx (hb hby d4_21) rfl rfl ?_
    refine go_baload (q := 24) (v := (.int c0)) X2 hx hZ e2 V_ar ⟨by decide, by decide⟩ rfl (hb hby d4_23) rfl ?_
    suffices J0 : ∀ (f1 : Int32) (s1 : UInt64), (f1, s1) = st ((0 : Int32), (0 : UInt64)) c0 (1 : Int32) → FP.Core.dIsNaN s1 = false → Go p e below s (fun v h L => Fr n0 L ∧ v = some (.double (FP.ddiv (a6 c0 c1 c2 c3 c4 c5).2 (FP.i2d rc))) ∧ h = h0) ({ frames := 0, cells := 0, slots := 0, locals := 0 } : Room).cells ({ frames := 0, cells := 0, slots := 0, locals := 0 } : Room).slots T2 (mkF m 41 #[.val (.ref ao), .val (.double s1), .second, .val (.int f1), .val (.int (0 : Int32))] []) by
      refine go_if_eq (q := 27) (q' := 41) X2 hx (hb hby d4_24) rfl (by decide) rfl (fun hz0 => ?_) (fun hz0 => ?_)
      · exact J0 _ _ (st0 hz0).symm hN0
      · refine go_iinc (q := 30) (l' := #[.val (.ref ao), .val (.double (0 : UInt64)), .second, .val (.int (1 : Int32)), .val (.int (0 : Int32))]) X2 hx (hb hby d4_27) rfl rfl rfl ?_
        refine go_dloadN (q := 31) X2 hx (hb hby d4_30) rfl rfl ?_
        refine go_iloadN (q := 32) X2 hx (hb hby d4_31) rfl rfl ?_
        refine go_i2d (q := 33) X2 hx (hb hby d4_32) rfl rfl ?_
        refine go_iload (q := 35) X2 hx (hb hby d4_33) rfl rfl ?_
        refine go_iconst (q := 36) (v := (1 : Int32)) X2 hx (hb hby d4_35) rfl rfl ?_
        refine go_iadd (q := 37) (v := (1 : Int32)) X2 hx (hb hby d4_36) rfl rfl ?_
        refine go_i2d (q := 38) X2 hx (hb hby d4_37) rfl rfl ?_
        refine go_ddiv (q := 39) X2 hx (hb hby d4_38) rfl (own_dn (c := (1 : Int32)) (by decide) _) rfl ?_
        refine go_dadd (q := 40) X2 hx (hb hby d4_39) rfl (own_da hN0 (by decide)) rfl ?_
        refine go_dstoreN (q := 41) (l' := #[.val (.ref ao), .val (.double (FP.dadd (0 : UInt64) (FP.ddiv (FP.i2d (1 : Int32)) (FP.i2d (1 : Int32))))), .second, .val (.int (1 : Int32)), .val (.int (0 : Int32))]) X2 hx (hb hby d4_40) rfl rfl ?_
        exact J0 _ _ (st1 (f := (0 : Int32)) (S := (0 : UInt64)) (k := (1 : Int32)) hz0).symm (own_db hN0 (by decide))
    intro f1 s1 eS1 hN1
    refine go_iinc (q := 44) (l' := #[.val (.ref ao), .val (.double s1), .second, .val (.int f1), .val (.int (1 : Int32))]) X2 hx (hb hby d4_41) rfl rfl rfl ?_
    refine go_goto (q := 7) X2 hx (hb hby d4_44) (by decide) rfl ?_
    refine go_iload (q := 9) X2 hx (hb hby d4_7) rfl rfl ?_
    refine go_aloadN (q := 10) X2 hx (hb hby d4_9) rfl rfl rfl ?_
    refine go_getF (q := 13) X2 hx hZ (host := "") hown (Or.inl (hw _ (List.mem_of_getElem? (i := 15) rfl))) Via.refl e2 F1 (hb hby d4_10) rfl (fun T3 X3 e3 => ?_)
    refine go_alen (q := 14) X3 hx hZ e3 V_ar (hb hby d4_13) rfl ?_
    refine go_icmp_ge (q := 17) (q' := 47) X3 hx (hb hby d4_14) rfl (by decide) rfl (fun hl1 => ?_) (fun hl1 => ?_)
    · exact absurd (by decide) hl1
    · refine go_aloadN (q := 18) X3 hx (hb hby d4_17) rfl rfl rfl ?_
      refine go_getF (q := 21) X3 hx hZ (host := "") hown (Or.inl (hw _ (List.mem_of_getElem? (i := 15) rfl))) Via.refl e3 F1 (hb hby d4_18) rfl (fun T4 X4 e4 => ?_)
      refine go_iload (q := 23) X4 hx (hb hby d4_21) rfl rfl ?_
      refine go_baload (q := 24) (v := (.int c1)) X4 hx hZ e4 V_ar ⟨by decide, by decide⟩ rfl (hb hby d4_23) rfl ?_
      suffices J1 : ∀ (f2 : Int32) (s2 : UInt64), (f2, s2) = st (f1, s1) c1 (2 : Int32) → FP.Core.dIsNaN s2 = false → Go p e below s (fun v h L => Fr n0 L ∧ v = some (.double (FP.ddiv (a6 c0 c1 c2 c3 c4 c5).2 (FP.i2d rc))) ∧ h = h0) ({ frames := 0, cells := 0, slots := 0, locals := 0 } : Room).cells ({ frames := 0, cells := 0, slots := 0, locals := 0 } : Room).slots T4 (mkF m 41 #[.val (.ref ao), .val (.double s2), .second, .val (.int f2), .val (.int (1 : Int32))] []) by
        refine go_if_eq (q := 27) (q' := 41) X4 hx (hb hby d4_24) rfl (by decide) rfl (fun hz1 => ?_) (fun hz1 => ?_)
        · exact J1 _ _ (st0 hz1).symm hN1
        · refine go_iinc (q := 30) (l' := #[.val (.ref ao), .val (.double s1), .second, .val (.int (f1 + (1 : Int32))), .val (.int (1 : Int32))]) X4 hx (hb hby d4_27) rfl rfl rfl ?_
          refine go_dloadN (q := 31) X4 hx (hb hby d4_30) rfl rfl ?_
          refine go_iloadN (q := 32) X4 hx (hb hby d4_31) rfl rfl ?_
          refine go_i2d (q := 33) X4 hx (hb hby d4_32) rfl rfl ?_
          refine go_iload (q := 35) X4 hx (hb hby d4_33) rfl rfl ?_
          refine go_iconst (q := 36) (v := (1 : Int32)) X4 hx (hb hby d4_35) rfl rfl ?_
          refine go_iadd (q := 37) (v := (2 : Int32)) X4 hx (hb hby d4_36) rfl rfl ?_
          refine go_i2d (q := 38) X4 hx (hb hby d4_37) rfl rfl ?_
          refine go_ddiv (q := 39) X4 hx (hb hby d4_38) rfl (own_dn (c := (2 : Int32)) (by decide) _) rfl ?_
          refine go_dadd (q := 40) X4 hx (hb hby d4_39) rfl (own_da hN1 (by decide)) rfl ?_
          refine go_dstoreN (q := 41) (l' := #[.val (.ref ao), .val (.double (FP.dadd s1 (FP.ddiv (FP.i2d (f1 + (1 : Int32))) (FP.i2d (2 : Int32))))), .second, .val (.int (f1 + (1 : Int32))), .val (.int (1 : Int32))]) X4 hx (hb hby d4_40) rfl rfl ?_
          exact J1 _ _ (st1 (f := f1) (S := s1) (k := (2 : Int32)) hz1).symm (own_db hN1 (by decide))
      intro f2 s2 eS2 hN2
      refine go_iinc (q := 44) (l' := #[.val (.ref ao), .val (.double s2), .second, .val (.int f2), .val (.int (2 : Int32))]) X4 hx (hb hby d4_41) rfl rfl rfl ?_
      refine go_goto (q := 7) X4 hx (hb hby d4_44) (by decide) rfl ?_
      refine go_iload (q := 9) X4 hx (hb hby d4_7) rfl rfl ?_
      refine go_aloadN (q := 10) X4 hx (hb hby d4_9) rfl rfl rfl ?_
      refine go_getF (q := 13) X4 hx hZ (host := "") hown (Or.inl (hw _ (List.mem_of_getElem? (i := 15) rfl))) Via.refl e4 F1 (hb hby d4_10) rfl (fun T5 X5 e5 => ?_)
      refine go_alen (q := 14) X5 hx hZ e5 V_ar (hb hby d4_13) rfl ?_
      refine go_icmp_ge (q := 17) (q' := 47) X5 hx (hb hby d4_14) rfl (by decide) rfl (fun hl2 => ?_) (fun hl2 => ?_)
      · exact absurd (by decide) hl2
      · refine go_aloadN (q := 18) X5 hx (hb hby d4_17) rfl rfl rfl ?_
        refine go_getF (q := 21) X5 hx hZ (host := "") hown (Or.inl (hw _ (List.mem_of_getElem? (i := 15) rfl))) Via.refl e5 F1 (hb hby d4_18) rfl (fun T6 X6 e6 => ?_)
        refine go_iload (q := 23) X6 hx (hb hby d4_21) rfl rfl ?_
        refine go_baload (q := 24) (v := (.int c2)) X6 hx hZ e6 V_ar ⟨by decide, by decide⟩ rfl (hb hby d4_23) rfl ?_
        suffices J2 : ∀ (f3 : Int32) (s3 : UInt64), (f3, s3) = st (f2, s2) c2 (3 : Int32) → FP.Core.dIsNaN s3 = false → Go p e below s (fun v h L => Fr n0 L ∧ v = some (.double (FP.ddiv (a6 c0 c1 c2 c3 c4 c5).2 (FP.i2d rc))) ∧ h = h0) ({ frames := 0, cells := 0, slots := 0, locals := 0 } : Room).cells ({ frames := 0, cells := 0, slots := 0, locals := 0 } : Room).slots T6 (mkF m 41 #[.val (.ref ao), .val (.double s3), .second, .val (.int f3), .val (.int (2 : Int32))] []) by
          refine go_if_eq (q := 27) (q' := 41) X6 hx (hb hby d4_24) rfl (by decide) rfl (fun hz2 => ?_) (fun hz2 => ?_)
          · exact J2 _ _ (st0 hz2).symm hN2
          · refine go_iinc (q := 30) (l' := #[.val (.ref ao), .val (.double s2), .second, .val (.int (f2 + (1 : Int32))), .val (.int (2 : Int32))]) X6 hx (hb hby d4_27) rfl rfl rfl ?_
            refine go_dloadN (q := 31) X6 hx (hb hby d4_30) rfl rfl ?_
            refine go_iloadN (q := 32) X6 hx (hb hby d4_31) rfl rfl ?_
            refine go_i2d (q := 33) X6 hx (hb hby d4_32) rfl rfl ?_
            refine go_iload (q := 35) X6 hx (hb hby d4_33) rfl rfl ?_
            refine go_iconst (q := 36) (v := (1 : Int32)) X6 hx (hb hby d4_35) rfl rfl ?_
            refine go_iadd (q := 37) (v := (3 : Int32)) X6 hx (hb hby d4_36) rfl rfl ?_
            refine go_i2d (q := 38) X6 hx (hb hby d4_37) rfl rfl ?_
            refine go_ddiv (q := 39) X6 hx (hb hby d4_38) rfl (own_dn (c := (3 : Int32)) (by decide) _) rfl ?_
            refine go_dadd (q := 40) X6 hx (hb hby d4_39) rfl (own_da hN2 (by decide)) rfl ?_
            refine go_dstoreN (q := 41) (l' := #[.val (.ref ao), .val (.double (FP.dadd s2 (FP.ddiv (FP.i2d (f2 + (1 : Int32))) (FP.i2d (3 : Int32))))), .second, .val (.int (f2 + (1 : Int32))), .val (.int (2 : Int32))]) X6 hx (hb hby d4_40) rfl rfl ?_
            exact J2 _ _ (st1 (f := f2) (S := s2) (k := (3 : Int32)) hz2).symm (own_db hN2 (by decide))
        intro f3 s3 eS3 hN3
        refine go_iinc (q := 44) (l' := #[.val (.ref ao), .val (.double s3), .second, .val (.int f3), .val (.int (3 : Int32))]) X6 hx (hb hby d4_41) rfl rfl rfl ?_
        refine go_goto (q := 7) X6 hx (hb hby d4_44) (by decide) rfl ?_
        refine go_iload (q := 9) X6 hx (hb hby d4_7) rfl rfl ?_
        refine go_aloadN (q := 10) X6 hx (hb hby d4_9) rfl rfl rfl ?_
        refine go_getF (q := 13) X6 hx hZ (host := "") hown (Or.inl (hw _ (List.mem_of_getElem? (i := 15) rfl))) Via.refl e6 F1 (hb hby d4_10) rfl (fun T7 X7 e7 => ?_)
        refine go_alen (q := 14) X7 hx hZ e7 V_ar (hb hby d4_13) rfl ?_
        refine go_icmp_ge (q := 17) (q' := 47) X7 hx (hb hby d4_14) rfl (by decide) rfl (fun hl3 => ?_) (fun hl3 => ?_)
        · exact absurd (by decide) hl3
        · refine go_aloadN (q := 18) X7 hx (hb hby d4_17) rfl rfl rfl ?_
          refine go_getF (q := 21) X7 hx hZ (host := "") hown (Or.inl (hw _ (List.mem_of_getElem? (i := 15) rfl))) Via.refl e7 F1 (hb hby d4_18) rfl (fun T8 X8 e8 => ?_)
          refine go_iload (q := 23) X8 hx (hb hby d4_21) rfl rfl ?_
          refine go_baload (q := 24) (v := (.int c3)) X8 hx hZ e8 V_ar ⟨by decide, by decide⟩ rfl (hb hby d4_23) rfl ?_
          suffices J3 : ∀ (f4 : Int32) (s4 : UInt64), (f4, s4) = st (f3, s3) c3 (4 : Int32) → FP.Core.dIsNaN s4 = false → Go p e below s (fun v h L => Fr n0 L ∧ v = some (.double (FP.ddiv (a6 c0 c1 c2 c3 c4 c5).2 (FP.i2d rc))) ∧ h = h0) ({ frames := 0, cells := 0, slots := 0, locals := 0 } : Room).cells ({ frames := 0, cells := 0, slots := 0, locals := 0 } : Room).slots T8 (mkF m 41 #[.val (.ref ao), .val (.double s4), .second, .val (.int f4), .val (.int (3 : Int32))] []) by
            refine go_if_eq (q := 27) (q' := 41) X8 hx (hb hby d4_24) rfl (by decide) rfl (fun hz3 => ?_) (fun hz3 => ?_)
            · exact J3 _ _ (st0 hz3).symm hN3
            · refine go_iinc (q := 30) (l' := #[.val (.ref ao), .val (.double s3), .second, .val (.int (f3 + (1 : Int32))), .val (.int (3 : Int32))]) X8 hx (hb hby d4_27) rfl rfl rfl ?_
              refine go_dloadN (q := 31) X8 hx (hb hby d4_30) rfl rfl ?_
              refine go_iloadN (q := 32) X8 hx (hb hby d4_31) rfl rfl ?_
              refine go_i2d (q := 33) X8 hx (hb hby d4_32) rfl rfl ?_
              refine go_iload (q := 35) X8 hx (hb hby d4_33) rfl rfl ?_
              refine go_iconst (q := 36) (v := (1 : Int32)) X8 hx (hb hby d4_35) rfl rfl ?_
              refine go_iadd (q := 37) (v := (4 : Int32)) X8 hx (hb hby d4_36) rfl rfl ?_
              refine go_i2d (q := 38) X8 hx (hb hby d4_37) rfl rfl ?_
              refine go_ddiv (q := 39) X8 hx (hb hby d4_38) rfl (own_dn (c := (4 : Int32)) (by decide) _) rfl ?_
              refine go_dadd (q := 40) X8 hx (hb hby d4_39) rfl (own_da hN3 (by decide)) rfl ?_
              refine go_dstoreN (q := 41) (l' := #[.val (.ref ao), .val (.double (FP.dadd s3 (FP.ddiv (FP.i2d (f3 + (1 : Int32))) (FP.i2d (4 : Int32))))), .second, .val (.int (f3 + (1 : Int32))), .val (.int (3 : Int32))]) X8 hx (hb hby d4_40) rfl rfl ?_
              exact J3 _ _ (st1 (f := f3) (S := s3) (k := (4 : Int32)) hz3).symm (own_db hN3 (by decide))
          intro f4 s4 eS4 hN4
          refine go_iinc (q := 44) (l' := #[.val (.ref ao), .val (.double s4), .second, .val (.int f4), .val (.int (4 : Int32))]) X8 hx (hb hby d4_41) rfl rfl rfl ?_
          refine go_goto (q := 7) X8 hx (hb hby d4_44) (by decide) rfl ?_
          refine go_iload (q := 9) X8 hx (hb hby d4_7) rfl rfl ?_
          refine go_aloadN (q := 10) X8 hx (hb hby d4_9) rfl rfl rfl ?_
          refine go_getF (q := 13) X8 hx hZ (host := "") hown (Or.inl (hw _ (List.mem_of_getElem? (i := 15) rfl))) Via.refl e8 F1 (hb hby d4_10) rfl (fun T9 X9 e9 => ?_)
          refine go_alen (q := 14) X9 hx hZ e9 V_ar (hb hby d4_13) rfl ?_
          refine go_icmp_ge (q := 17) (q' := 47) X9 hx (hb hby d4_14) rfl (by decide) rfl (fun hl4 => ?_) (fun hl4 => ?_)
          · exact absurd (by decide) hl4
          · refine go_aloadN (q := 18) X9 hx (hb hby d4_17) rfl rfl rfl ?_
            refine go_getF (q := 21) X9 hx hZ (host := "") hown (Or.inl (hw _ (List.mem_of_getElem? (i := 15) rfl))) Via.refl e9 F1 (hb hby d4_18) rfl (fun T10 X10 e10 => ?_)
            refine go_iload (q := 23) X10 hx (hb hby d4_21) rfl rfl ?_
            refine go_baload (q := 24) (v := (.int c4)) X10 hx hZ e10 V_ar ⟨by decide, by decide⟩ rfl (hb hby d4_23) rfl ?_
            suffices J4 : ∀ (f5 : Int32) (s5 : UInt64), (f5, s5) = st (f4, s4) c4 (5 : Int32) → FP.Core.dIsNaN s5 = false → Go p e below s (fun v h L => Fr n0 L ∧ v = some (.double (FP.ddiv (a6 c0 c1 c2 c3 c4 c5).2 (FP.i2d rc))) ∧ h = h0) ({ frames := 0, cells := 0, slots := 0, locals := 0 } : Room).cells ({ frames := 0, cells := 0, slots := 0, locals := 0 } : Room).slots T10 (mkF m 41 #[.val (.ref ao), .val (.double s5), .second, .val (.int f5), .val (.int (4 : Int32))] []) by
              refine go_if_eq (q := 27) (q' := 41) X10 hx (hb hby d4_24) rfl (by decide) rfl (fun hz4 => ?_) (fun hz4 => ?_)
              · exact J4 _ _ (st0 hz4).symm hN4
              · refine go_iinc (q := 30) (l' := #[.val (.ref ao), .val (.double s4), .second, .val (.int (f4 + (1 : Int32))), .val (.int (4 : Int32))]) X10 hx (hb hby d4_27) rfl rfl rfl ?_
                refine go_dloadN (q := 31) X10 hx (hb hby d4_30) rfl rfl ?_
                refine go_iloadN (q := 32) X10 hx (hb hby d4_31) rfl rfl ?_
                refine go_i2d (q := 33) X10 hx (hb hby d4_32) rfl rfl ?_
                refine go_iload (q := 35) X10 hx (hb hby d4_33) rfl rfl ?_
                refine go_iconst (q := 36) (v := (1 : Int32)) X10 hx (hb hby d4_35) rfl rfl ?_
                refine go_iadd (q := 37) (v := (5 : Int32)) X10 hx (hb hby d4_36) rfl rfl ?_
                refine go_i2d (q := 38) X10 hx (hb hby d4_37) rfl rfl ?_
                refine go_ddiv (q := 39) X10 hx (hb hby d4_38) rfl (own_dn (c := (5 : Int32)) (by decide) _) rfl ?_
                refine go_dadd (q := 40) X10 hx (hb hby d4_39) rfl (own_da hN4 (by decide)) rfl ?_
                refine go_dstoreN (q := 41) (l' := #[.val (.ref ao), .val (.double (FP.dadd s4 (FP.ddiv (FP.i2d (f4 + (1 : Int32))) (FP.i2d (5 : Int32))))), .second, .val (.int (f4 + (1 : Int32))), .val (.int (4 : Int32))]) X10 hx (hb hby d4_40) rfl rfl ?_
                exact J4 _ _ (st1 (f := f4) (S := s4) (k := (5 : Int32)) hz4).symm (own_db hN4 (by decide))
            intro f5 s5 eS5 hN5
            refine go_iinc (q := 44) (l' := #[.val (.ref ao), .val (.double s5), .second, .val (.int f5), .val (.int (5 : Int32))]) X10 hx (hb hby d4_41) rfl rfl rfl ?_
            refine go_goto (q := 7) X10 hx (hb hby d4_44) (by decide) rfl ?_
            refine go_iload (q := 9) X10 hx (hb hby d4_7) rfl rfl ?_
            refine go_aloadN (q := 10) X10 hx (hb hby d4_9) rfl rfl rfl ?_
            refine go_getF (q := 13) X10 hx hZ (host := "") hown (Or.inl (hw _ (List.mem_of_getElem? (i := 15) rfl))) Via.refl e10 F1 (hb hby d4_10) rfl (fun T11 X11 e11 => ?_)
            refine go_alen (q := 14) X11 hx hZ e11 V_ar (hb hby d4_13) rfl ?_
            refine go_icmp_ge (q := 17) (q' := 47) X11 hx (hb hby d4_14) rfl (by decide) rfl (fun hl5 => ?_) (fun hl5 => ?_)
            · exact absurd (by decide) hl5
            · refine go_aloadN (q := 18) X11 hx (hb hby d4_17) rfl rfl rfl ?_
              refine go_getF (q := 21) X11 hx hZ (host := "") hown (Or.inl (hw _ (List.mem_of_getElem? (i := 15) rfl))) Via.refl e11 F1 (hb hby d4_18) rfl (fun T12 X12 e12 => ?_)
              refine go_iload (q := 23) X12 hx (hb hby d4_21) rfl rfl ?_
              refine go_baload (q := 24) (v := (.int c5)) X12 hx hZ e12 V_ar ⟨by decide, by decide⟩ rfl (hb hby d4_23) rfl ?_
              suffices J5 : ∀ (f6 : Int32) (s6 : UInt64), (f6, s6) = st (f5, s5) c5 (6 : Int32) → FP.Core.dIsNaN s6 = false → Go p e below s (fun v h L => Fr n0 L ∧ v = some (.double (FP.ddiv (a6 c0 c1 c2 c3 c4 c5).2 (FP.i2d rc))) ∧ h = h0) ({ frames := 0, cells := 0, slots := 0, locals := 0 } : Room).cells ({ frames := 0, cells := 0, slots := 0, locals := 0 } : Room).slots T12 (mkF m 41 #[.val (.ref ao), .val (.double s6), .second, .val (.int f6), .val (.int (5 : Int32))] []) by
                refine go_if_eq (q := 27) (q' := 41) X12 hx (hb hby d4_24) rfl (by decide) rfl (fun hz5 => ?_) (fun hz5 => ?_)
                · exact J5 _ _ (st0 hz5).symm hN5
                · refine go_iinc (q := 30) (l' := #[.val (.ref ao), .val (.double s5), .second, .val (.int (f5 + (1 : Int32))), .val (.int (5 : Int32))]) X12 hx (hb hby d4_27) rfl rfl rfl ?_
                  refine go_dloadN (q := 31) X12 hx (hb hby d4_30) rfl rfl ?_
                  refine go_iloadN (q := 32) X12 hx (hb hby d4_31) rfl rfl ?_
                  refine go_i2d (q := 33) X12 hx (hb hby d4_32) rfl rfl ?_
                  refine go_iload (q := 35) X12 hx (hb hby d4_33) rfl rfl ?_
                  refine go_iconst (q := 36) (v := (1 : Int32)) X12 hx (hb hby d4_35) rfl rfl ?_
                  refine go_iadd (q := 37) (v := (6 : Int32)) X12 hx (hb hby d4_36) rfl rfl ?_
                  refine go_i2d (q := 38) X12 hx (hb hby d4_37) rfl rfl ?_
                  refine go_ddiv (q := 39) X12 hx (hb hby d4_38) rfl (own_dn (c := (6 : Int32)) (by decide) _) rfl ?_
                  refine go_dadd (q := 40) X12 hx (hb hby d4_39) rfl (own_da hN5 (by decide)) rfl ?_
                  refine go_dstoreN (q := 41) (l' := #[.val (.ref ao), .val (.double (FP.dadd s5 (FP.ddiv (FP.i2d (f5 + (1 : Int32))) (FP.i2d (6 : Int32))))), .second, .val (.int (f5 + (1 : Int32))), .val (.int (5 : Int32))]) X12 hx (hb hby d4_40) rfl rfl ?_
                  exact J5 _ _ (st1 (f := f5) (S := s5) (k := (6 : Int32)) hz5).symm (own_db hN5 (by decide))
              intro f6 s6 eS6 hN6
              refine go_iinc (q := 44) (l' := #[.val (.ref ao), .val (.double s6), .second, .val (.int f6), .val (.int (6 : Int32))]) X12 hx (hb hby d4_41) rfl rfl rfl ?_
              refine go_goto (q := 7) X12 hx (hb hby d4_44) (by decide) rfl ?_
              refine go_iload (q := 9) X12 hx (hb hby d4_7) rfl rfl ?_
              refine go_aloadN (q := 10) X12 hx (hb hby d4_9) rfl rfl rfl ?_
              refine go_getF (q := 13) X12 hx hZ (host := "") hown (Or.inl (hw _ (List.mem_of_getElem? (i := 15) rfl))) Via.refl e12 F1 (hb hby d4_10) rfl (fun T13 X13 e13 => ?_)
              refine go_alen (q := 14) X13 hx hZ e13 V_ar (hb hby d4_13) rfl ?_
              refine go_icmp_ge (q := 17) (q' := 47) X13 hx (hb hby d4_14) rfl (by decide) rfl (fun hl6 => ?_) (fun hl6 => ?_)
              · refine go_dloadN (q := 48) X13 hx (hb hby d4_47) rfl rfl ?_
                refine go_aloadN (q := 49) X13 hx (hb hby d4_48) rfl rfl rfl ?_
                refine go_getF (q := 52) X13 hx hZ (host := "") hown (Or.inl (hw _ (List.mem_of_getElem? (i := 17) rfl))) Via.refl e13 F2 (hb hby d4_49) rfl (fun T14 X14 e14 => ?_)
                refine go_i2d (q := 53) X14 hx (hb hby d4_52) rfl rfl ?_
                refine go_ddiv (q := 54) X14 hx (hb hby d4_53) rfl (own_dv hN6 hrc) rfl ?_
                have hA : (f6, s6) = (a6 c0 c1 c2 c3 c4 c5) := by rw [eS6, eS5, eS4, eS3, eS2, eS1]; simp only [a6, st0z]
                exact go_retD X14 hx hret hlk (hb hby d4_54) (by decide) (by decide) ⟨N0, by rw [← hA], e14⟩
              · exact absurd hl6 (by decide)
theorem pn_0 : plainName "com/example/forager/forager/eval/RankingAveragePrecisionPinLaw" = true := by first | (simp [plainName, overriddenIn]; done) | decide +kernel
theorem ef_0 (m : MethodId) (x0 : Int32) (x1 : Int32) (x2 : Int32) : entryFrame m #[(.int x0), (.int x1), (.int x2)] maxLocals = mkF m 0 #[.val (.int x0), .val (.int x1), .val (.int x2), .unset, .unset, .unset, .unset, .unset, .unset, .unset, .unset, .unset, .unset, .unset, .unset, .unset, .unset, .unset, .unset] [] := by first | (simp [entryFrame, mkF, argsToLocals, Value.category, maxLocals]; done) | rfl
set_option maxRecDepth 65536 in
set_option maxHeartbeats 40000000 in
theorem rm0 (l : Launch) (Z : State) (a0 : Array Value) (hw : ∀ d ∈ tables_1, d.before a0 Z = true) (ws : List Jvm.Cond) (ln : Int32) (bt : Int32) (cn : Int32)  (h0 : Heap)  :
    Con l x code maxLocals ret ws room_1 Z #[(.int ln), (.int bt), (.int cn)] h0 (fun v h L => v = some (.int (1 : Int32)) ∧ Fr h0.size L) := by
  refine con_of (plainFor_of_name pn_0) ?_
  intro p e s m below meth c s₁ X0 hx hby hml hret hlk hown hnm hZ e0
  refine Go.cast (ef_0 m ln bt cn) ?_
  have N0 := Fr.nil h0.size
  have hsz : h0.size ≤ h0.size := (Nat.le_refl _)
  refine go_iloadN (q := 1) X0 hx (hb hby at_0) rfl rfl ?_
  refine go_bipush (q := 3) (v := (7 : Int32)) X0 hx (hb hby at_1) rfl rfl ?_
  refine go_iand (q := 4) (v := (ln &&& (7 : Int32))) X0 hx (hb hby at_3) rfl rfl ?_
  refine go_bipush (q := 6) (v := (7 : Int32)) X0 hx (hb hby at_4) rfl rfl ?_
  refine go_irem (q := 7) (v := ((ln &&& (7 : Int32)) % (7 : Int32))) X0 hx (hb hby at_6) rfl (by decide) rfl ?_
  refine go_istoreN (q := 8) (l' := #[.val (.int ln), .val (.int bt), .val (.int cn), .val (.int ((ln &&& (7 : Int32)) % (7 : Int32))), .unset, .unset, .unset, .unset, .unset, .unset, .unset, .unset, .unset, .unset, .unset, .unset, .unset, .unset, .unset]) X0 hx (hb hby at_7) rfl rfl ?_
  suffices Hlen : ∀ len : Int32, len = ((ln &&& (7 : Int32)) % (7 : Int32)) → Go p e below s (fun v h L => v = some (.int (1 : Int32)) ∧ Fr h0.size L) room_1.cells room_1.slots s₁ (mkF m 8 #[.val (.int ln), .val (.int bt), .val (.int cn), .val (.int len), .unset, .unset, .unset, .unset, .unset, .unset, .unset, .unset, .unset, .unset, .unset, .unset, .unset, .unset, .unset] []) from Hlen _ rfl
  intro len elen
  have hlen : len = 0 ∨ len = 1 ∨ len = 2 ∨ len = 3 ∨ len = 4 ∨ len = 5 ∨ len = 6 := by rw [elen]; exact own_len _
  refine go_iloadN (q := 9) X0 hx (hb hby at_8) rfl rfl ?_
  refine go_iconst (q := 10) (v := (1 : Int32)) X0 hx (hb hby at_9) rfl rfl ?_
  refine go_iand (q := 11) (v := (bt &&& (1 : Int32))) X0 hx (hb hby at_10) rfl rfl ?_
  suffices JB0 : ∀ b0 : Int32, b0 = 0 ∨ b0 = 1 → Go p e below s (fun v h L => v = some (.int (1 : Int32)) ∧ Fr h0.size L) room_1.cells room_1.slots s₁ (mkF m 21 #[.val (.int ln), .val (.int bt), .val (.int cn), .val (.int len), .val (.int b0), .unset, .unset, .unset, .unset, .unset, .unset, .unset, .unset, .unset, .unset, .unset, .unset, .unset, .unset] []) by
    refine go_if_eq (q := 14) (q' := 18) X0 hx (hb hby at_11) rfl (by decide) rfl (fun hc11 => ?_) (fun hc11 => ?_)
    · refine go_iconst (q := 19) (v := (0 : Int32)) X0 hx (hb hby at_18) rfl rfl ?_
      refine go_istore (q := 21) (l' := #[.val (.int ln), .val (.int bt), .val (.int cn), .val (.int len), .val (.int (0 : Int32)), .unset, .unset, .unset, .unset, .unset, .unset, .unset, .unset, .unset, .unset, .unset, .unset, .unset, .unset]) X0 hx (hb hby at_19) rfl rfl ?_
      exact JB0 _ (Or.inl rfl)
    · refine go_iconst (q := 15) (v := (1 : Int32)) X0 hx (hb hby at_14) rfl rfl ?_
      refine go_goto (q := 19) X0 hx (hb hby at_15) (by decide) rfl ?_
      refine go_istore (q := 21) (l' := #[.val (.int ln), .val (.int bt), .val (.int cn), .val (.int len), .val (.int (1 : Int32)), .unset, .unset, .unset, .unset, .unset, .unset, .unset, .unset, .unset, .unset, .unset, .unset, .unset, .unset]) X0 hx (hb hby at_19) rfl rfl ?_
      exact JB0 _ (Or.inr rfl)
  intro b0 hb0
  refine go_iloadN (q := 22) X0 hx (hb hby at_21) rfl rfl ?_
  refine go_iconst (q := 23) (v := (2 : Int32)) X0 hx (hb hby at_22) rfl rfl ?_
  refine go_iand (q := 24) (v := (bt &&& (2 : Int32))) X0 hx (hb hby at_23) rfl rfl ?_
  suffices JB1 : ∀ b1 : Int32, b1 = 0 ∨ b1 = 1 → Go p e below s (fun v h L => v = some (.int (1 : Int32)) ∧ Fr h0.size L) room_1.cells room_1.slots s₁ (mkF m 34 #[.val (.int ln), .val (.int bt), .val (.int cn), .val (.int len), .val (.int b0), .val (.int b1), .unset, .unset, .unset, .unset, .unset, .unset, .unset, .unset, .unset, .unset, .unset, .unset, .unset] []) by
    refine go_if_eq (q := 27) (q' := 31) X0 hx (hb hby at_24) rfl (by decide) rfl (fun hc24 => ?_) (fun hc24 => ?_)
    · refine go_iconst (q := 32) (v := (0 : Int32)) X0 hx (hb hby at_31) rfl rfl ?_
      refine go_istore (q := 34) (l' := #[.val (.int ln), .val (.int bt), .val (.int cn), .val (.int len), .val (.int b0), .val (.int (0 : Int32)), .unset, .unset, .unset, .unset, .unset, .unset, .unset, .unset, .unset, .unset, .unset, .unset, .unset]) X0 hx (hb hby at_32) rfl rfl ?_
      exact JB1 _ (Or.inl rfl)
    · refine go_iconst (q := 28) (v := (1 : Int32)) X0 hx (hb hby at_27) rfl rfl ?_
      refine go_goto (q := 32) X0 hx (hb hby at_28) (by decide) rfl ?_
      refine go_istore (q := 34) (l' := #[.val (.int ln), .val (.int bt), .val (.int cn), .val (.int len), .val (.int b0), .val (.int (1 : Int32)), .unset, .unset, .unset, .unset, .unset, .unset, .unset, .unset, .unset, .unset, .unset, .unset, .unset]) X0 hx (hb hby at_32) rfl rfl ?_
      exact JB1 _ (Or.inr rfl)
  intro b1 hb1
  refine go_iloadN (q := 35) X0 hx (hb hby at_34) rfl rfl ?_
  refine go_iconst (q := 36) (v := (4 : Int32)) X0 hx (hb hby at_35) rfl rfl ?_
  refine go_iand (q := 37) (v := (bt &&& (4 : Int32))) X0 hx (hb hby at_36) rfl rfl ?_
  suffices JB2 : ∀ b2 : Int32, b2 = 0 ∨ b2 = 1 → Go p e below s (fun v h L => v = some (.int (1 : Int32)) ∧ Fr h0.size L) room_1.cells room_1.slots s₁ (mkF m 47 #[.val (.int ln), .val (.int bt), .val (.int cn), .val (.int len), .val (.int b0), .val (.int b1), .val (.int b2), .unset, .unset, .unset, .unset, .unset, .unset, .unset, .unset, .unset, .unset, .unset, .unset] []) by
    refine go_if_eq (q := 40) (q' := 44) X0 hx (hb hby at_37) rfl (by decide) rfl (fun hc37 => ?_) (fun hc37 => ?_)
    · refine go_iconst (q := 45) (v := (0 : Int32)) X0 hx (hb hby at_44) rfl rfl ?_
      refine go_istore (q := 47) (l' := #[.val (.int ln), .val (.int bt), .val (.int cn), .val (.int len), .val (.int b0), .val (.int b1), .val (.int (0 : Int32)), .unset, .unset, .unset, .unset, .unset, .unset, .unset, .unset, .unset, .unset, .unset, .unset]) X0 hx (hb hby at_45) rfl rfl ?_
      exact JB2 _ (Or.inl rfl)
    · refine go_iconst (q := 41) (v := (1 : Int32)) X0 hx (hb hby at_40) rfl rfl ?_
      refine go_goto (q := 45) X0 hx (hb hby at_41) (by decide) rfl ?_
      refine go_istore (q := 47) (l' := #[.val (.int ln), .val (.int bt), .val (.int cn), .val (.int len), .val (.int b0), .val (.int b1), .val (.int (1 : Int32)), .unset, .unset, .unset, .unset, .unset, .unset, .unset, .unset, .unset, .unset, .unset, .unset]) X0 hx (hb hby at_45) rfl rfl ?_
      exact JB2 _ (Or.inr rfl)
  intro b2 hb2
  refine go_iloadN (q := 48) X0 hx (hb hby at_47) rfl rfl ?_
  refine go_bipush (q := 50) (v := (8 : Int32)) X0 hx (hb hby at_48) rfl rfl ?_
  refine go_iand (q := 51) (v := (bt &&& (8 : Int32))) X0 hx (hb hby at_50) rfl rfl ?_
  suffices JB3 : ∀ b3 : Int32, b3 = 0 ∨ b3 = 1 → Go p e below s (fun v h L => v = some (.int (1 : Int32)) ∧ Fr h0.size L) room_1.cells room_1.slots s₁ (mkF m 61 #[.val (.int ln), .val (.int bt), .val (.int cn), .val (.int len), .val (.int b0), .val (.int b1), .val (.int b2), .val (.int b3), .unset, .unset, .unset, .unset, .unset, .unset, .unset, .unset, .unset, .unset, .unset] []) by
    refine go_if_eq (q := 54) (q' := 58) X0 hx (hb hby at_51) rfl (by decide) rfl (fun hc51 => ?_) (fun hc51 => ?_)
    · refine go_iconst (q := 59) (v := (0 : Int32)) X0 hx (hb hby at_58) rfl rfl ?_
      refine go_istore (q := 61) (l' := #[.val (.int ln), .val (.int bt), .val (.int cn), .val (.int len), .val (.int b0), .val (.int b1), .val (.int b2), .val (.int (0 : Int32)), .unset, .unset, .unset, .unset, .unset, .unset, .unset, .unset, .unset, .unset, .unset]) X0 hx (hb hby at_59) rfl rfl ?_
      exact JB3 _ (Or.inl rfl)
    · refine go_iconst (q := 55) (v := (1 : Int32)) X0 hx (hb hby at_54) rfl rfl ?_
      refine go_goto (q := 59) X0 hx (hb hby at_55) (by decide) rfl ?_
      refine go_istore (q := 61) (l' := #[.val (.int ln), .val (.int bt), .val (.int cn), .val (.int len), .val (.int b0), .val (.int b1), .val (.int b2), .val (.int (1 : Int32)), .unset, .unset, .unset, .unset, .unset, .unset, .unset, .unset, .unset, .unset, .unset]) X0 hx (hb hby at_59) rfl rfl ?_
      exact JB3 _ (Or.inr rfl)
  intro b3 hb3
  refine go_iloadN (q := 62) X0 hx (hb hby at_61) rfl rfl ?_
  refine go_bipush (q := 64) (v := (16 : Int32)) X0 hx (hb hby at_62) rfl rfl ?_
  refine go_iand (q := 65) (v := (bt &&& (16 : Int32))) X0 hx (hb hby at_64) rfl rfl ?_
  suffices JB4 : ∀ b4 : Int32, b4 = 0 ∨ b4 = 1 → Go p e below s (fun v h L => v = some (.int (1 : Int32)) ∧ Fr h0.size L) room_1.cells room_1.slots s₁ (mkF m 75 #[.val (.int ln), .val (.int bt), .val (.int cn), .val (.int len), .val (.int b0), .val (.int b1), .val (.int b2), .val (.int b3), .val (.int b4), .unset, .unset, .unset, .unset, .unset, .unset, .unset, .unset, .unset, .unset] []) by
    refine go_if_eq (q := 68) (q' := 72) X0 hx (hb hby at_65) rfl (by decide) rfl (fun hc65 => ?_) (fun hc65 => ?_)
    · refine go_iconst (q := 73) (v := (0 : Int32)) X0 hx (hb hby at_72) rfl rfl ?_
      refine go_istore (q := 75) (l' := #[.val (.int ln), .val (.int bt), .val (.int cn), .val (.int len), .val (.int b0), .val (.int b1), .val (.int b2), .val (.int b3), .val (.int (0 : Int32)), .unset, .unset, .unset, .unset, .unset, .unset, .unset, .unset, .unset, .unset]) X0 hx (hb hby at_73) rfl rfl ?_
      exact JB4 _ (Or.inl rfl)
    · refine go_iconst (q := 69) (v := (1 : Int32)) X0 hx (hb hby at_68) rfl rfl ?_
      refine go_goto (q := 73) X0 hx (hb hby at_69) (by decide) rfl ?_
      refine go_istore (q := 75) (l' := #[.val (.int ln), .val (.int bt), .val (.int cn), .val (.int len), .val (.int b0), .val (.int b1), .val (.int b2), .val (.int b3), .val (.int (1 : Int32)), .unset, .unset, .unset, .unset, .unset, .unset, .unset, .unset, .unset, .unset]) X0 hx (hb hby at_73) rfl rfl ?_
      exact JB4 _ (Or.inr rfl)
  intro b4 hb4
  refine go_iloadN (q := 76) X0 hx (hb hby at_75) rfl rfl ?_
  refine go_bipush (q := 78) (v := (32 : Int32)) X0 hx (hb hby at_76) rfl rfl ?_
  refine go_iand (q := 79) (v := (bt &&& (32 : Int32))) X0 hx (hb hby at_78) rfl rfl ?_
  suffices JB5 : ∀ b5 : Int32, b5 = 0 ∨ b5 = 1 → Go p e below s (fun v h L => v = some (.int (1 : Int32)) ∧ Fr h0.size L) room_1.cells room_1.slots s₁ (mkF m 89 #[.val (.int ln), .val (.int bt), .val (.int cn), .val (.int len), .val (.int b0), .val (.int b1), .val (.int b2), .val (.int b3), .val (.int b4), .val (.int b5), .unset, .unset, .unset, .unset, .unset, .unset, .unset, .unset, .unset] []) by
    refine go_if_eq (q := 82) (q' := 86) X0 hx (hb hby at_79) rfl (by decide) rfl (fun hc79 => ?_) (fun hc79 => ?_)
    · refine go_iconst (q := 87) (v := (0 : Int32)) X0 hx (hb hby at_86) rfl rfl ?_
      refine go_istore (q := 89) (l' := #[.val (.int ln), .val (.int bt), .val (.int cn), .val (.int len), .val (.int b0), .val (.int b1), .val (.int b2), .val (.int b3), .val (.int b4), .val (.int (0 : Int32)), .unset, .unset, .unset, .unset, .unset, .unset, .unset, .unset, .unset]) X0 hx (hb hby at_87) rfl rfl ?_
      exact JB5 _ (Or.inl rfl)
    · refine go_iconst (q := 83) (v := (1 : Int32)) X0 hx (hb hby at_82) rfl rfl ?_
      refine go_goto (q := 87) X0 hx (hb hby at_83) (by decide) rfl ?_
      refine go_istore (q := 89) (l' := #[.val (.int ln), .val (.int bt), .val (.int cn), .val (.int len), .val (.int b0), .val (.int b1), .val (.int b2), .val (.int b3), .val (.int b4), .val (.int (1 : Int32)), .unset, .unset, .unset, .unset, .unset, .unset, .unset, .unset, .unset]) X0 hx (hb hby at_87) rfl rfl ?_
      exact JB5 _ (Or.inr rfl)
  intro b5 hb5
  rcases hlen with rfl | rfl | rfl | rfl | rfl | rfl | rfl
  · refine go_iloadN (q := 90) X0 hx (hb hby at_89) rfl rfl ?_
    refine go_newP (q := 92) X0 hx hZ (hw _ (List.mem_of_getElem? (i := 0) rfl)) e0 (hb hby at_90) rfl (by decide) 0 (by decide) (by decide) (by decide) (by decide) (fun T1 h1 k_br br eb1 X1 e1 E1 V_br => ?_)
    have g_br : h0.size ≤ br := Nat.le_trans hsz (Nat.le_of_eq eb1.symm)
    replace hsz := Nat.le_trans hsz E1.1
    replace V_br : Arv Z h1 br k_br .boolean (0 : Int32) [] (.int (0 : Int32)) := V_br.pad (pad_rep [] (.int (0 : Int32)) 0)
    refine go_astore (q := 94) (l' := #[.val (.int ln), .val (.int bt), .val (.int cn), .val (.int (0 : Int32)), .val (.int b0), .val (.int b1), .val (.int b2), .val (.int b3), .val (.int b4), .val (.int b5), .val (.ref br), .unset, .unset, .unset, .unset, .unset, .unset, .unset, .unset]) X1 hx (hb hby at_92) rfl rfl rfl ?_
    refine go_iloadN (q := 95) X1 hx (hb hby at_94) rfl rfl ?_
    refine go_if_le (q := 98) (q' := 104) X1 hx (hb hby at_95) rfl (by decide) rfl (fun hc95 => ?_) (fun hc95 => ?_)
    · refine go_iloadN (q := 105) X1 hx (hb hby at_104) rfl rfl ?_
      refine go_iconst (q := 106) (v := (1 : Int32)) X1 hx (hb hby at_105) rfl rfl ?_
      refine go_icmp_le (q := 109) (q' := 115) X1 hx (hb hby at_106) rfl (by decide) rfl (fun hc106 => ?_) (fun hc106 => ?_)
      · refine go_iloadN (q := 116) X1 hx (hb hby at_115) rfl rfl ?_
        refine go_iconst (q := 117) (v := (2 : Int32)) X1 hx (hb hby at_116) rfl rfl ?_
        refine go_icmp_le (q := 120) (q' := 126) X1 hx (hb hby at_117) rfl (by decide) rfl (fun hc117 => ?_) (fun hc117 => ?_)
        · refine go_iloadN (q := 127) X1 hx (hb hby at_126) rfl rfl ?_
          refine go_iconst (q := 128) (v := (3 : Int32)) X1 hx (hb hby at_127) rfl rfl ?_
          refine go_icmp_le (q := 131) (q' := 137) X1 hx (hb hby at_128) rfl (by decide) rfl (fun hc128 => ?_) (fun hc128 => ?_)
          · refine go_iloadN (q := 138) X1 hx (hb hby at_137) rfl rfl ?_
            refine go_iconst (q := 139) (v := (4 : Int32)) X1 hx (hb hby at_138) rfl rfl ?_
            refine go_icmp_le (q := 142) (q' := 148) X1 hx (hb hby at_139) rfl (by decide) rfl (fun hc139 => ?_) (fun hc139 => ?_)
            · refine go_iloadN (q := 149) X1 hx (hb hby at_148) rfl rfl ?_
              refine go_iconst (q := 150) (v := (5 : Int32)) X1 hx (hb hby at_149) rfl rfl ?_
              refine go_icmp_le (q := 153) (q' := 159) X1 hx (hb hby at_150) rfl (by decide) rfl (fun hc150 => ?_) (fun hc150 => ?_)
              · refine go_iconst (q := 160) (v := (1 : Int32)) X1 hx (hb hby at_159) rfl rfl ?_
                refine go_iloadN (q := 161) X1 hx (hb hby at_160) rfl rfl ?_
                refine go_ldcI (q := 163) (v := (2147483647 : Int32)) X1 hx hZ hown (hw _ (List.mem_of_getElem? (i := 1) rfl)) (hb hby at_161) rfl ?_
                refine go_iand (q := 164) (v := (cn &&& (2147483647 : Int32))) X1 hx (hb hby at_163) rfl rfl ?_
                refine go_callS (q := 167) (W := 0) X1 hx hZ hown e1 (hw _ (List.mem_of_getElem? (i := 2) rfl)) (hw _ (List.mem_of_getElem? (i := 3) rfl)) (hw _ (List.mem_of_getElem? (i := 4) rfl)) (hw _ (List.mem_of_getElem? (i := 5) rfl)) (by decide) [(.int (1 : Int32)), (.int (cn &&& (2147483647 : Int32)))] [] (rm1 l Z a0 hw [] (1 : Int32) (cn &&& (2147483647 : Int32)) h1) (by rw [hml]; rfl) rfl (lenOf pd_0 rfl) (Nat.le_of_eq rfl) (by decide) (by decide) (hb hby at_164) rfl (by decide) (by decide) ?_
                rintro T2 L2 v2 X2 ⟨Np2, rfl, e2⟩
                have N2 := Fr.app N0 (Np2 _)
                show Go p e below s (fun v h L => v = some (.int (1 : Int32)) ∧ Fr h0.size L) room_1.cells room_1.slots T2 (mkF m 167 #[.val (.int ln), .val (.int bt), .val (.int cn), .val (.int (0 : Int32)), .val (.int b0), .val (.int b1), .val (.int b2), .val (.int b3), .val (.int b4), .val (.int b5), .val (.ref br), .unset, .unset, .unset, .unset, .unset, .unset, .unset, .unset] [(.int (if (1 : Int32) < (cn &&& (2147483647 : Int32)) then (cn &&& (2147483647 : Int32)) else (1 : Int32)))])
                suffices Hrc : ∀ rc : Int32, rc = (if (1 : Int32) < (cn &&& (2147483647 : Int32)) then (cn &&& (2147483647 : Int32)) else (1 : Int32)) → Go p e below s (fun v h L => v = some (.int (1 : Int32)) ∧ Fr h0.size L) room_1.cells room_1.slots T2 (mkF m 167 #[.val (.int ln), .val (.int bt), .val (.int cn), .val (.int (0 : Int32)), .val (.int b0), .val (.int b1), .val (.int b2), .val (.int b3), .val (.int b4), .val (.int b5), .val (.ref br), .unset, .unset, .unset, .unset, .unset, .unset, .unset, .unset] [(.int rc)]) from Hrc _ rfl
                intro rc erc
                have hrc : ¬ rc < 1 := by rw [erc]; exact own_max _
                refine go_istore (q := 169) (l' := #[.val (.int ln), .val (.int bt), .val (.int cn), .val (.int (0 : Int32)), .val (.int b0), .val (.int b1), .val (.int b2), .val (.int b3), .val (.int b4), .val (.int b5), .val (.ref br), .val (.int rc), .unset, .unset, .unset, .unset, .unset, .unset, .unset]) X2 hx (hb hby at_167) rfl rfl ?_
                refine go_newO (q := 172) X2 hx hZ hown (hw _ (List.mem_of_getElem? (i := 6) rfl)) (hw _ (List.mem_of_getElem? (i := 7) rfl)) (hw _ (List.mem_of_getElem? (i := 8) rfl)) e2 (hb hby at_169) rfl (by decide) (by decide) (fun T3 h3 bo eb3 X3 e3 E3 A3 D3 => ?_)
                have g_bo : h0.size ≤ bo := Nat.le_trans hsz (Nat.le_of_eq eb3.symm)
                have ne_br_bo : br ≠ bo := Nat.ne_of_lt (Nat.lt_of_lt_of_eq V_br.lt eb3.symm)
                replace V_br := V_br.ext E3
                replace hsz := Nat.le_trans hsz E3.1
                have E_bo := A3
                have F_relevant_bo : Fld Z h3 bo "com/example/forager/forager/eval/Ranking" "relevant" "[Z" .null := D3 (Or.inr (hw _ (List.mem_of_getElem? (i := 16) rfl))) (ty := (.array .boolean)) (by decide)
                have F_relevantCount_bo : Fld Z h3 bo "com/example/forager/forager/eval/Ranking" "relevantCount" "I" (.int (0 : Int32)) := D3 (Or.inr (hw _ (List.mem_of_getElem? (i := 18) rfl))) (ty := .int) (by decide)
                refine go_dup (q := 173) X3 hx (hb hby at_172) rfl rfl ?_
                refine go_aload (q := 175) X3 hx (hb hby at_173) rfl rfl rfl ?_
                refine go_iload (q := 177) X3 hx (hb hby at_175) rfl rfl ?_
                refine go_callI (q := 180) (W := 1) X3 hx hZ hown e3 rfl (hw _ (List.mem_of_getElem? (i := 9) rfl)) (hw _ (List.mem_of_getElem? (i := 10) rfl)) (hw _ (List.mem_of_getElem? (i := 8) rfl)) (hw _ (List.mem_of_getElem? (i := 11) rfl)) (by decide) bo [(.ref br), (.int rc)] [(.ref bo)] (rm2 l Z a0 hw [] bo br rc h0.size _ _ h3 hsz g_bo E_bo F_relevant_bo F_relevantCount_bo hrc) (by rw [hml]; rfl) rfl (lenOf pd_1 rfl) (Nat.le_of_eq rfl) (by decide) (by decide) (hb hby at_177) rfl (by decide) (by decide) ?_
                rintro T4 L4 v4 X4 ⟨Nq4, rfl, K4, Fr_, Fc_⟩
                have N4 := Fr.app N2 Nq4
                replace V_br := V_br.keep K4 (ninS ne_br_bo nin0)
                replace E_bo := E_bo.keep K4
                replace hsz := Nat.le_trans hsz K4.1
                show Go p e below s (fun v h L => v = some (.int (1 : Int32)) ∧ Fr h0.size L) room_1.cells room_1.slots T4 (mkF m 180 #[.val (.int ln), .val (.int bt), .val (.int cn), .val (.int (0 : Int32)), .val (.int b0), .val (.int b1), .val (.int b2), .val (.int b3), .val (.int b4), .val (.int b5), .val (.ref br), .val (.int rc), .unset, .unset, .unset, .unset, .unset, .unset, .unset] [(.ref bo)])
                refine go_astore (q := 182) (l' := #[.val (.int ln), .val (.int bt), .val (.int cn), .val (.int (0 : Int32)), .val (.int b0), .val (.int b1), .val (.int b2), .val (.int b3), .val (.int b4), .val (.int b5), .val (.ref br), .val (.int rc), .val (.ref bo), .unset, .unset, .unset, .unset, .unset, .unset]) X4 hx (hb hby at_180) rfl rfl rfl ?_
                refine go_aload (q := 184) X4 hx (hb hby at_182) rfl rfl rfl ?_
                refine go_callV (q := 187) (W := 0) X4 hx hZ hown rfl (hw _ (List.mem_of_getElem? (i := 19) rfl)) (hw _ (List.mem_of_getElem? (i := 20) rfl)) (notFace_of_selects (args := #[]) (mvT hZ (hw _ (List.mem_of_getElem? (i := 22) rfl)))) (hw _ (List.mem_of_getElem? (i := 22) rfl)) (hw _ (List.mem_of_getElem? (i := 21) rfl)) (hw _ (List.mem_of_getElem? (i := 8) rfl)) (hw _ (List.mem_of_getElem? (i := 23) rfl)) (by decide) bo [] [] E_bo (rm4_0 l Z a0 hw [] bo h0.size br k_br _ rc T4.heap Fr_ Fc_ V_br hrc) (by rw [hml]; rfl) rfl (lenOf pd_2 rfl) (Nat.le_of_eq rfl) (by decide) (by decide) (hb hby at_184) rfl (by decide) (by decide) ?_
                rintro T5 L5 v5 X5 ⟨Nq5, rfl, e5⟩
                have N5 := Fr.app N4 Nq5
                show Go p e below s (fun v h L => v = some (.int (1 : Int32)) ∧ Fr h0.size L) room_1.cells room_1.slots T5 (mkF m 187 #[.val (.int ln), .val (.int bt), .val (.int cn), .val (.int (0 : Int32)), .val (.int b0), .val (.int b1), .val (.int b2), .val (.int b3), .val (.int b4), .val (.int b5), .val (.ref br), .val (.int rc), .val (.ref bo), .unset, .unset, .unset, .unset, .unset, .unset] [(.double (FP.ddiv (a6 (0 : Int32) (0 : Int32) (0 : Int32) (0 : Int32) (0 : Int32) (0 : Int32)).2 (FP.i2d rc)))])
                refine go_dstore (q := 189) (l' := #[.val (.int ln), .val (.int bt), .val (.int cn), .val (.int (0 : Int32)), .val (.int b0), .val (.int b1), .val (.int b2), .val (.int b3), .val (.int b4), .val (.int b5), .val (.ref br), .val (.int rc), .val (.ref bo), .val (.double (FP.ddiv (a6 (0 : Int32) (0 : Int32) (0 : Int32) (0 : Int32) (0 : Int32) (0 : Int32)).2 (FP.i2d rc))), .second, .unset, .unset, .unset, .unset]) X5 hx (hb hby at_187) rfl rfl ?_
                refine go_iconst (q := 190) (v := (0 : Int32)) X5 hx (hb hby at_189) rfl rfl ?_
                refine go_istore (q := 192) (l' := #[.val (.int ln), .val (.int bt), .val (.int cn), .val (.int (0 : Int32)), .val (.int b0), .val (.int b1), .val (.int b2), .val (.int b3), .val (.int b4), .val (.int b5), .val (.ref br), .val (.int rc), .val (.ref bo), .val (.double (FP.ddiv (a6 (0 : Int32) (0 : Int32) (0 : Int32) (0 : Int32) (0 : Int32) (0 : Int32)).2 (FP.i2d rc))), .second, .val (.int (0 : Int32)), .unset, .unset, .unset]) X5 hx (hb hby at_190) rfl rfl ?_
                refine go_iconst (q := 193) (v := (0 : Int32)) X5 hx (hb hby at_192) rfl rfl ?_
                refine go_istore (q := 195) (l' := #[.val (.int ln), .val (.int bt), .val (.int cn), .val (.int (0 : Int32)), .val (.int b0), .val (.int b1), .val (.int b2), .val (.int b3), .val (.int b4), .val (.int b5), .val (.ref br), .val (.int rc), .val (.ref bo), .val (.double (FP.ddiv (a6 (0 : Int32) (0 : Int32) (0 : Int32) (0 : Int32) (0 : Int32) (0 : Int32)).2 (FP.i2d rc))), .second, .val (.int (0 : Int32)), .val (.int (0 : Int32)), .unset, .unset]) X5 hx (hb hby at_193) rfl rfl ?_
                refine go_iloadN (q := 196) X5 hx (hb hby at_195) rfl rfl ?_
                refine go_if_le (q := 199) (q' := 217) X5 hx (hb hby at_196) rfl (by decide) rfl (fun hc196 => ?_) (fun hc196 => ?_)
                · refine go_iloadN (q := 218) X5 hx (hb hby at_217) rfl rfl ?_
                  refine go_iconst (q := 219) (v := (1 : Int32)) X5 hx (hb hby at_218) rfl rfl ?_
                  refine go_icmp_le (q := 222) (q' := 240) X5 hx (hb hby at_219) rfl (by decide) rfl (fun hc219 => ?_) (fun hc219 => ?_)
                  · refine go_iloadN (q := 241) X5 hx (hb hby at_240) rfl rfl ?_
                    refine go_iconst (q := 242) (v := (2 : Int32)) X5 hx (hb hby at_241) rfl rfl ?_
                    refine go_icmp_le (q := 245) (q' := 263) X5 hx (hb hby at_242) rfl (by decide) rfl (fun hc242 => ?_) (fun hc242 => ?_)
                    · refine go_iloadN (q := 264) X5 hx (hb hby at_263) rfl rfl ?_
                      refine go_iconst (q := 265) (v := (3 : Int32)) X5 hx (hb hby at_264) rfl rfl ?_
                      refine go_icmp_le (q := 268) (q' := 286) X5 hx (hb hby at_265) rfl (by decide) rfl (fun hc265 => ?_) (fun hc265 => ?_)
                      · refine go_iloadN (q := 287) X5 hx (hb hby at_286) rfl rfl ?_
                        refine go_iconst (q := 288) (v := (4 : Int32)) X5 hx (hb hby at_287) rfl rfl ?_
                        refine go_icmp_le (q := 291) (q' := 309) X5 hx (hb hby at_288) rfl (by decide) rfl (fun hc288 => ?_) (fun hc288 => ?_)
                        · refine go_iloadN (q := 310) X5 hx (hb hby at_309) rfl rfl ?_
                          refine go_iconst (q := 311) (v := (5 : Int32)) X5 hx (hb hby at_310) rfl rfl ?_
                          refine go_icmp_le (q := 314) (q' := 332) X5 hx (hb hby at_311) rfl (by decide) rfl (fun hc311 => ?_) (fun hc311 => ?_)
                          · have hM : ((0 : Int32), (0 : Int32)) = (n6 (0 : Int32) (0 : Int32) (0 : Int32) (0 : Int32) (0 : Int32) (0 : Int32)) := by simp only [n6, nt0z]
                            have hok : okS (a6 (0 : Int32) (0 : Int32) (0 : Int32) (0 : Int32) (0 : Int32) (0 : Int32)).2 (0 : Int32) = true := by rw [show (0 : Int32) = (n6 (0 : Int32) (0 : Int32) (0 : Int32) (0 : Int32) (0 : Int32) (0 : Int32)).2 from congrArg Prod.snd hM]; exact ok_bits (Or.inl rfl) (Or.inl rfl) (Or.inl rfl) (Or.inl rfl) (Or.inl rfl) (Or.inl rfl)
                            obtain ⟨w1, w2, w3, w4, w5, w6⟩ := ap_law hok hrc
                            refine go_dload (q := 334) X5 hx (hb hby at_332) rfl rfl ?_
                            refine go_ldc2D (q := 337) (v := (4633641066610819072 : UInt64)) X5 hx hZ hown (hw _ (List.mem_of_getElem? (i := 24) rfl)) (hb hby at_334) rfl ?_
                            refine go_iload (q := 339) X5 hx (hb hby at_337) rfl rfl ?_
                            refine go_i2d (q := 340) X5 hx (hb hby at_339) rfl rfl ?_
                            refine go_dmul (q := 341) X5 hx (hb hby at_340) rfl w2 rfl ?_
                            refine go_dmul (q := 342) X5 hx (hb hby at_341) rfl w3 rfl ?_
                            refine go_iload (q := 344) X5 hx (hb hby at_342) rfl rfl ?_
                            refine go_i2d (q := 345) X5 hx (hb hby at_344) rfl rfl ?_
                            refine go_dsub (q := 346) X5 hx (hb hby at_345) rfl w4 rfl ?_
                            refine go_dstore (q := 348) (l' := #[.val (.int ln), .val (.int bt), .val (.int cn), .val (.int (0 : Int32)), .val (.int b0), .val (.int b1), .val (.int b2), .val (.int b3), .val (.int b4), .val (.int b5), .val (.ref br), .val (.int rc), .val (.ref bo), .val (.double (FP.ddiv (a6 (0 : Int32) (0 : Int32) (0 : Int32) (0 : Int32) (0 : Int32) (0 : Int32)).2 (FP.i2d rc))), .second, .val (.int (0 : Int32)), .val (.int (0 : Int32)), .val (.double (FP.dsub (FP.dmul (FP.ddiv (a6 (0 : Int32) (0 : Int32) (0 : Int32) (0 : Int32) (0 : Int32) (0 : Int32)).2 (FP.i2d rc)) (FP.dmul (4633641066610819072 : UInt64) (FP.i2d rc))) (FP.i2d (0 : Int32)))), .second]) X5 hx (hb hby at_346) rfl rfl ?_
                            refine go_dload (q := 350) X5 hx (hb hby at_348) rfl rfl ?_
                            refine go_ldc2D (q := 353) (v := (4517329193108106637 : UInt64)) X5 hx hZ hown (hw _ (List.mem_of_getElem? (i := 25) rfl)) (hb hby at_350) rfl ?_
                            refine go_dcmp (q := 354) X5 hx (hb hby at_353) rfl rfl ?_
                            refine go_if_ge (q := 357) (q' := 370) X5 hx (hb hby at_354) rfl (by decide) rfl (fun hc354 => ?_) (fun hc354 => ?_)
                            · exact absurd w5 hc354
                            · refine go_dload (q := 359) X5 hx (hb hby at_357) rfl rfl ?_
                              refine go_ldc2D (q := 362) (v := (13740701229962882445 : UInt64)) X5 hx hZ hown (hw _ (List.mem_of_getElem? (i := 26) rfl)) (hb hby at_359) rfl ?_
                              refine go_dcmp (q := 363) X5 hx (hb hby at_362) rfl rfl ?_
                              refine go_if_le (q := 366) (q' := 370) X5 hx (hb hby at_363) rfl (by decide) rfl (fun hc363 => ?_) (fun hc363 => ?_)
                              · exact absurd w6 hc363
                              · refine go_iconst (q := 367) (v := (1 : Int32)) X5 hx (hb hby at_366) rfl rfl ?_
                                refine go_goto (q := 371) X5 hx (hb hby at_367) (by decide) rfl ?_
                                exact go_retN X5 hx (by simp) hret hlk (hb hby at_371) (by decide) (by decide) ⟨rfl, N5⟩
                          · exact absurd hc311 (by decide)
                        · exact absurd hc288 (by decide)
                      · exact absurd hc265 (by decide)
                    · exact absurd hc242 (by decide)
                  · exact absurd hc219 (by decide)
                · exact absurd hc196 (by decide)
              · exact absurd hc150 (by decide)
            · exact absurd hc139 (by decide)
          · exact absurd hc128 (by decide)
        · exact absurd hc117 (by decide)
      · exact absurd hc106 (by decide)
    · exact absurd hc95 (by decide)
  · refine go_iloadN (q := 90) X0 hx (hb hby at_89) rfl rfl ?_
    refine go_newP (q := 92) X0 hx hZ (hw _ (List.mem_of_getElem? (i := 0) rfl)) e0 (hb hby at_90) rfl (by decide) 1 (by decide) (by decide) (by decide) (by decide) (fun T6 h6 k_br br eb6 X6 e6 E6 V_br => ?_)
    have g_br : h0.size ≤ br := Nat.le_trans hsz (Nat.le_of_eq eb6.symm)
    replace hsz := Nat.le_trans hsz E6.1
    replace V_br : Arv Z h6 br k_br .boolean (1 : Int32) [(.int (0 : Int32))] (.int (0 : Int32)) := V_br.pad (pad_rep [] (.int (0 : Int32)) 1)
    refine go_astore (q := 94) (l' := #[.val (.int ln), .val (.int bt), .val (.int cn), .val (.int (1 : Int32)), .val (.int b0), .val (.int b1), .val (.int b2), .val (.int b3), .val (.int b4), .val (.int b5), .val (.ref br), .unset, .unset, .unset, .unset, .unset, .unset, .unset, .unset]) X6 hx (hb hby at_92) rfl rfl rfl ?_
    refine go_iloadN (q := 95) X6 hx (hb hby at_94) rfl rfl ?_
    refine go_if_le (q := 98) (q' := 104) X6 hx (hb hby at_95) rfl (by decide) rfl (fun hc95 => ?_) (fun hc95 => ?_)
    · exact absurd (by decide) hc95
    · refine go_aload (q := 100) X6 hx (hb hby at_98) rfl rfl rfl ?_
      refine go_iconst (q := 101) (v := (0 : Int32)) X6 hx (hb hby at_100) rfl rfl ?_
      refine go_iload (q := 103) X6 hx (hb hby at_101) rfl rfl ?_
      refine go_bastore (q := 104) X6 hx hZ e6 V_br ⟨by decide, by decide⟩ 0 rfl (Nat.le_of_ble_eq_true rfl) N0 g_br (hb hby at_103) rfl (fun T7 h7 l7 X7 N7 e7 W7 V7 => ?_)
      replace hsz := Nat.le_trans hsz (Nat.le_of_eq W7.size.symm)
      replace V_br : Arv Z h7 br k_br .boolean (1 : Int32) [(.int (nar .boolean b0))] (.int (0 : Int32)) := V7
      rw [own_nar hb0] at V_br
      refine go_iloadN (q := 105) X7 hx (hb hby at_104) rfl rfl ?_
      refine go_iconst (q := 106) (v := (1 : Int32)) X7 hx (hb hby at_105) rfl rfl ?_
      refine go_icmp_le (q := 109) (q' := 115) X7 hx (hb hby at_106) rfl (by decide) rfl (fun hc106 => ?_) (fun hc106 => ?_)
      · refine go_iloadN (q := 116) X7 hx (hb hby at_115) rfl rfl ?_
        refine go_iconst (q := 117) (v := (2 : Int32)) X7 hx (hb hby at_116) rfl rfl ?_
        refine go_icmp_le (q := 120) (q' := 126) X7 hx (hb hby at_117) rfl (by decide) rfl (fun hc117 => ?_) (fun hc117 => ?_)
        · refine go_iloadN (q := 127) X7 hx (hb hby at_126) rfl rfl ?_
          refine go_iconst (q := 128) (v := (3 : Int32)) X7 hx (hb hby at_127) rfl rfl ?_
          refine go_icmp_le (q := 131) (q' := 137) X7 hx (hb hby at_128) rfl (by decide) rfl (fun hc128 => ?_) (fun hc128 => ?_)
          · refine go_iloadN (q := 138) X7 hx (hb hby at_137) rfl rfl ?_
            refine go_iconst (q := 139) (v := (4 : Int32)) X7 hx (hb hby at_138) rfl rfl ?_
            refine go_icmp_le (q := 142) (q' := 148) X7 hx (hb hby at_139) rfl (by decide) rfl (fun hc139 => ?_) (fun hc139 => ?_)
            · refine go_iloadN (q := 149) X7 hx (hb hby at_148) rfl rfl ?_
              refine go_iconst (q := 150) (v := (5 : Int32)) X7 hx (hb hby at_149) rfl rfl ?_
              refine go_icmp_le (q := 153) (q' := 159) X7 hx (hb hby at_150) rfl (by decide) rfl (fun hc150 => ?_) (fun hc150 => ?_)
              · refine go_iconst (q := 160) (v := (1 : Int32)) X7 hx (hb hby at_159) rfl rfl ?_
                refine go_iloadN (q := 161) X7 hx (hb hby at_160) rfl rfl ?_
                refine go_ldcI (q := 163) (v := (2147483647 : Int32)) X7 hx hZ hown (hw _ (List.mem_of_getElem? (i := 1) rfl)) (hb hby at_161) rfl ?_
                refine go_iand (q := 164) (v := (cn &&& (2147483647 : Int32))) X7 hx (hb hby at_163) rfl rfl ?_
                refine go_callS (q := 167) (W := 0) X7 hx hZ hown e7 (hw _ (List.mem_of_getElem? (i := 2) rfl)) (hw _ (List.mem_of_getElem? (i := 3) rfl)) (hw _ (List.mem_of_getElem? (i := 4) rfl)) (hw _ (List.mem_of_getElem? (i := 5) rfl)) (by decide) [(.int (1 : Int32)), (.int (cn &&& (2147483647 : Int32)))] [] (rm1 l Z a0 hw [] (1 : Int32) (cn &&& (2147483647 : Int32)) h7) (by rw [hml]; rfl) rfl (lenOf pd_0 rfl) (Nat.le_of_eq rfl) (by decide) (by decide) (hb hby at_164) rfl (by decide) (by decide) ?_
                rintro T8 L8 v8 X8 ⟨Np8, rfl, e8⟩
                have N8 := Fr.app N7 (Np8 _)
                show Go p e below s (fun v h L => v = some (.int (1 : Int32)) ∧ Fr h0.size L) room_1.cells room_1.slots T8 (mkF m 167 #[.val (.int ln), .val (.int bt), .val (.int cn), .val (.int (1 : Int32)), .val (.int b0), .val (.int b1), .val (.int b2), .val (.int b3), .val (.int b4), .val (.int b5), .val (.ref br), .unset, .unset, .unset, .unset, .unset, .unset, .unset, .unset] [(.int (if (1 : Int32) < (cn &&& (2147483647 : Int32)) then (cn &&& (2147483647 : Int32)) else (1 : Int32)))])
                suffices Hrc : ∀ rc : Int32, rc = (if (1 : Int32) < (cn &&& (2147483647 : Int32)) then (cn &&& (2147483647 : Int32)) else (1 : Int32)) → Go p e below s (fun v h L => v = some (.int (1 : Int32)) ∧ Fr h0.size L) room_1.cells room_1.slots T8 (mkF m 167 #[.val (.int ln), .val (.int bt), .val (.int cn), .val (.int (1 : Int32)), .val (.int b0), .val (.int b1), .val (.int b2), .val (.int b3), .val (.int b4), .val (.int b5), .val (.ref br), .unset, .unset, .unset, .unset, .unset, .unset, .unset, .unset] [(.int rc)]) from Hrc _ rfl
                intro rc erc
                have hrc : ¬ rc < 1 := by rw [erc]; exact own_max _
                refine go_istore (q := 169) (l' := #[.val (.int ln), .val (.int bt), .val (.int cn), .val (.int (1 : Int32)), .val (.int b0), .val (.int b1), .val (.int b2), .val (.int b3), .val (.int b4), .val (.int b5), .val (.ref br), .val (.int rc), .unset, .unset, .unset, .unset, .unset, .unset, .unset]) X8 hx (hb hby at_167) rfl rfl ?_
                refine go_newO (q := 172) X8 hx hZ hown (hw _ (List.mem_of_getElem? (i := 6) rfl)) (hw _ (List.mem_of_getElem? (i := 7) rfl)) (hw _ (List.mem_of_getElem? (i := 8) rfl)) e8 (hb hby at_169) rfl (by decide) (by decide) (fun T9 h9 bo eb9 X9 e9 E9 A9 D9 => ?_)
                have g_bo : h0.size ≤ bo := Nat.le_trans hsz (Nat.le_of_eq eb9.symm)
                have ne_br_bo : br ≠ bo := Nat.ne_of_lt (Nat.lt_of_lt_of_eq V_br.lt eb9.symm)
                replace V_br := V_br.ext E9
                replace hsz := Nat.le_trans hsz E9.1
                have E_bo := A9
                have F_relevant_bo : Fld Z h9 bo "com/example/forager/forager/eval/Ranking" "relevant" "[Z" .null := D9 (Or.inr (hw _ (List.mem_of_getElem? (i := 16) rfl))) (ty := (.array .boolean)) (by decide)
                have F_relevantCount_bo : Fld Z h9 bo "com/example/forager/forager/eval/Ranking" "relevantCount" "I" (.int (0 : Int32)) := D9 (Or.inr (hw _ (List.mem_of_getElem? (i := 18) rfl))) (ty := .int) (by decide)
                refine go_dup (q := 173) X9 hx (hb hby at_172) rfl rfl ?_
                refine go_aload (q := 175) X9 hx (hb hby at_173) rfl rfl rfl ?_
                refine go_iload (q := 177) X9 hx (hb hby at_175) rfl rfl ?_
                refine go_callI (q := 180) (W := 1) X9 hx hZ hown e9 rfl (hw _ (List.mem_of_getElem? (i := 9) rfl)) (hw _ (List.mem_of_getElem? (i := 10) rfl)) (hw _ (List.mem_of_getElem? (i := 8) rfl)) (hw _ (List.mem_of_getElem? (i := 11) rfl)) (by decide) bo [(.ref br), (.int rc)] [(.ref bo)] (rm2 l Z a0 hw [] bo br rc h0.size _ _ h9 hsz g_bo E_bo F_relevant_bo F_relevantCount_bo hrc) (by rw [hml]; rfl) rfl (lenOf pd_1 rfl) (Nat.le_of_eq rfl) (by decide) (by decide) (hb hby at_177) rfl (by decide) (by decide) ?_
                rintro T10 L10 v10 X10 ⟨Nq10, rfl, K10, Fr_, Fc_⟩
                have N10 := Fr.app N8 Nq10
                replace V_br := V_br.keep K10 (ninS ne_br_bo nin0)
                replace E_bo := E_bo.keep K10
                replace hsz := Nat.le_trans hsz K10.1
                show Go p e below s (fun v h L => v = some (.int (1 : Int32)) ∧ Fr h0.size L) room_1.cells room_1.slots T10 (mkF m 180 #[.val (.int ln), .val (.int bt), .val (.int cn), .val (.int (1 : Int32)), .val (.int b0), .val (.int b1), .val (.int b2), .val (.int b3), .val (.int b4), .val (.int b5), .val (.ref br), .val (.int rc), .unset, .unset, .unset, .unset, .unset, .unset, .unset] [(.ref bo)])
                refine go_astore (q := 182) (l' := #[.val (.int ln), .val (.int bt), .val (.int cn), .val (.int (1 : Int32)), .val (.int b0), .val (.int b1), .val (.int b2), .val (.int b3), .val (.int b4), .val (.int b5), .val (.ref br), .val (.int rc), .val (.ref bo), .unset, .unset, .unset, .unset, .unset, .unset]) X10 hx (hb hby at_180) rfl rfl rfl ?_
                refine go_aload (q := 184) X10 hx (hb hby at_182) rfl rfl rfl ?_
                refine go_callV (q := 187) (W := 0) X10 hx hZ hown rfl (hw _ (List.mem_of_getElem? (i := 19) rfl)) (hw _ (List.mem_of_getElem? (i := 20) rfl)) (notFace_of_selects (args := #[]) (mvT hZ (hw _ (List.mem_of_getElem? (i := 22) rfl)))) (hw _ (List.mem_of_getElem? (i := 22) rfl)) (hw _ (List.mem_of_getElem? (i := 21) rfl)) (hw _ (List.mem_of_getElem? (i := 8) rfl)) (hw _ (List.mem_of_getElem? (i := 23) rfl)) (by decide) bo [] [] E_bo (rm4_1 l Z a0 hw [] bo h0.size br k_br _ rc b0 T10.heap Fr_ Fc_ V_br hrc) (by rw [hml]; rfl) rfl (lenOf pd_2 rfl) (Nat.le_of_eq rfl) (by decide) (by decide) (hb hby at_184) rfl (by decide) (by decide) ?_
                rintro T11 L11 v11 X11 ⟨Nq11, rfl, e11⟩
                have N11 := Fr.app N10 Nq11
                show Go p e below s (fun v h L => v = some (.int (1 : Int32)) ∧ Fr h0.size L) room_1.cells room_1.slots T11 (mkF m 187 #[.val (.int ln), .val (.int bt), .val (.int cn), .val (.int (1 : Int32)), .val (.int b0), .val (.int b1), .val (.int b2), .val (.int b3), .val (.int b4), .val (.int b5), .val (.ref br), .val (.int rc), .val (.ref bo), .unset, .unset, .unset, .unset, .unset, .unset] [(.double (FP.ddiv (a6 b0 (0 : Int32) (0 : Int32) (0 : Int32) (0 : Int32) (0 : Int32)).2 (FP.i2d rc)))])
                refine go_dstore (q := 189) (l' := #[.val (.int ln), .val (.int bt), .val (.int cn), .val (.int (1 : Int32)), .val (.int b0), .val (.int b1), .val (.int b2), .val (.int b3), .val (.int b4), .val (.int b5), .val (.ref br), .val (.int rc), .val (.ref bo), .val (.double (FP.ddiv (a6 b0 (0 : Int32) (0 : Int32) (0 : Int32) (0 : Int32) (0 : Int32)).2 (FP.i2d rc))), .second, .unset, .unset, .unset, .unset]) X11 hx (hb hby at_187) rfl rfl ?_
                refine go_iconst (q := 190) (v := (0 : Int32)) X11 hx (hb hby at_189) rfl rfl ?_
                refine go_istore (q := 192) (l' := #[.val (.int ln), .val (.int bt), .val (.int cn), .val (.int (1 : Int32)), .val (.int b0), .val (.int b1), .val (.int b2), .val (.int b3), .val (.int b4), .val (.int b5), .val (.ref br), .val (.int rc), .val (.ref bo), .val (.double (FP.ddiv (a6 b0 (0 : Int32) (0 : Int32) (0 : Int32) (0 : Int32) (0 : Int32)).2 (FP.i2d rc))), .second, .val (.int (0 : Int32)), .unset, .unset, .unset]) X11 hx (hb hby at_190) rfl rfl ?_
                refine go_iconst (q := 193) (v := (0 : Int32)) X11 hx (hb hby at_192) rfl rfl ?_
                refine go_istore (q := 195) (l' := #[.val (.int ln), .val (.int bt), .val (.int cn), .val (.int (1 : Int32)), .val (.int b0), .val (.int b1), .val (.int b2), .val (.int b3), .val (.int b4), .val (.int b5), .val (.ref br), .val (.int rc), .val (.ref bo), .val (.double (FP.ddiv (a6 b0 (0 : Int32) (0 : Int32) (0 : Int32) (0 : Int32) (0 : Int32)).2 (FP.i2d rc))), .second, .val (.int (0 : Int32)), .val (.int (0 : Int32)), .unset, .unset]) X11 hx (hb hby at_193) rfl rfl ?_
                refine go_iloadN (q := 196) X11 hx (hb hby at_195) rfl rfl ?_
                refine go_if_le (q := 199) (q' := 217) X11 hx (hb hby at_196) rfl (by decide) rfl (fun hc196 => ?_) (fun hc196 => ?_)
                · exact absurd (by decide) hc196
                · refine go_iload (q := 201) X11 hx (hb hby at_199) rfl rfl ?_
                  suffices JF0 : ∀ f1 m1 : Int32, (f1, m1) = nt ((0 : Int32), (0 : Int32)) b0 (60 : Int32) → Go p e below s (fun v h L => v = some (.int (1 : Int32)) ∧ Fr h0.size L) room_1.cells room_1.slots T11 (mkF m 217 #[.val (.int ln), .val (.int bt), .val (.int cn), .val (.int (1 : Int32)), .val (.int b0), .val (.int b1), .val (.int b2), .val (.int b3), .val (.int b4), .val (.int b5), .val (.ref br), .val (.int rc), .val (.ref bo), .val (.double (FP.ddiv (a6 b0 (0 : Int32) (0 : Int32) (0 : Int32) (0 : Int32) (0 : Int32)).2 (FP.i2d rc))), .second, .val (.int f1), .val (.int m1), .unset, .unset] []) by
                    refine go_if_eq (q := 204) (q' := 217) X11 hx (hb hby at_201) rfl (by decide) rfl (fun hz0 => ?_) (fun hz0 => ?_)
                    · exact JF0 _ _ (nt0 hz0).symm
                    · refine go_iinc (q := 207) (l' := #[.val (.int ln), .val (.int bt), .val (.int cn), .val (.int (1 : Int32)), .val (.int b0), .val (.int b1), .val (.int b2), .val (.int b3), .val (.int b4), .val (.int b5), .val (.ref br), .val (.int rc), .val (.ref bo), .val (.double (FP.ddiv (a6 b0 (0 : Int32) (0 : Int32) (0 : Int32) (0 : Int32) (0 : Int32)).2 (FP.i2d rc))), .second, .val (.int (1 : Int32)), .val (.int (0 : Int32)), .unset, .unset]) X11 hx (hb hby at_204) rfl rfl rfl ?_
                      refine go_iload (q := 209) X11 hx (hb hby at_207) rfl rfl ?_
                      refine go_iload (q := 211) X11 hx (hb hby at_209) rfl rfl ?_
                      refine go_bipush (q := 213) (v := (60 : Int32)) X11 hx (hb hby at_211) rfl rfl ?_
                      refine go_imul (q := 214) (v := (60 : Int32)) X11 hx (hb hby at_213) rfl rfl ?_
                      refine go_iadd (q := 215) (v := (60 : Int32)) X11 hx (hb hby at_214) rfl rfl ?_
                      refine go_istore (q := 217) (l' := #[.val (.int ln), .val (.int bt), .val (.int cn), .val (.int (1 : Int32)), .val (.int b0), .val (.int b1), .val (.int b2), .val (.int b3), .val (.int b4), .val (.int b5), .val (.ref br), .val (.int rc), .val (.ref bo), .val (.double (FP.ddiv (a6 b0 (0 : Int32) (0 : Int32) (0 : Int32) (0 : Int32) (0 : Int32)).2 (FP.i2d rc))), .second, .val (.int (1 : Int32)), .val (.int (60 : Int32)), .unset, .unset]) X11 hx (hb hby at_215) rfl rfl ?_
                      exact JF0 _ _ (nt1 (f := (0 : Int32)) (m := (0 : Int32)) (k := (60 : Int32)) hz0).symm
                  intro f1 m1 eM1
                  refine go_iloadN (q := 218) X11 hx (hb hby at_217) rfl rfl ?_
                  refine go_iconst (q := 219) (v := (1 : Int32)) X11 hx (hb hby at_218) rfl rfl ?_
                  refine go_icmp_le (q := 222) (q' := 240) X11 hx (hb hby at_219) rfl (by decide) rfl (fun hc219 => ?_) (fun hc219 => ?_)
                  · refine go_iloadN (q := 241) X11 hx (hb hby at_240) rfl rfl ?_
                    refine go_iconst (q := 242) (v := (2 : Int32)) X11 hx (hb hby at_241) rfl rfl ?_
                    refine go_icmp_le (q := 245) (q' := 263) X11 hx (hb hby at_242) rfl (by decide) rfl (fun hc242 => ?_) (fun hc242 => ?_)
                    · refine go_iloadN (q := 264) X11 hx (hb hby at_263) rfl rfl ?_
                      refine go_iconst (q := 265) (v := (3 : Int32)) X11 hx (hb hby at_264) rfl rfl ?_
                      refine go_icmp_le (q := 268) (q' := 286) X11 hx (hb hby at_265) rfl (by decide) rfl (fun hc265 => ?_) (fun hc265 => ?_)
                      · refine go_iloadN (q := 287) X11 hx (hb hby at_286) rfl rfl ?_
                        refine go_iconst (q := 288) (v := (4 : Int32)) X11 hx (hb hby at_287) rfl rfl ?_
                        refine go_icmp_le (q := 291) (q' := 309) X11 hx (hb hby at_288) rfl (by decide) rfl (fun hc288 => ?_) (fun hc288 => ?_)
                        · refine go_iloadN (q := 310) X11 hx (hb hby at_309) rfl rfl ?_
                          refine go_iconst (q := 311) (v := (5 : Int32)) X11 hx (hb hby at_310) rfl rfl ?_
                          refine go_icmp_le (q := 314) (q' := 332) X11 hx (hb hby at_311) rfl (by decide) rfl (fun hc311 => ?_) (fun hc311 => ?_)
                          · have hM : (f1, m1) = (n6 b0 (0 : Int32) (0 : Int32) (0 : Int32) (0 : Int32) (0 : Int32)) := by rw [eM1]; simp only [n6, nt0z]
                            have hok : okS (a6 b0 (0 : Int32) (0 : Int32) (0 : Int32) (0 : Int32) (0 : Int32)).2 m1 = true := by rw [show m1 = (n6 b0 (0 : Int32) (0 : Int32) (0 : Int32) (0 : Int32) (0 : Int32)).2 from congrArg Prod.snd hM]; exact ok_bits hb0 (Or.inl rfl) (Or.inl rfl) (Or.inl rfl) (Or.inl rfl) (Or.inl rfl)
                            obtain ⟨w1, w2, w3, w4, w5, w6⟩ := ap_law hok hrc
                            refine go_dload (q := 334) X11 hx (hb hby at_332) rfl rfl ?_
                            refine go_ldc2D (q := 337) (v := (4633641066610819072 : UInt64)) X11 hx hZ hown (hw _ (List.mem_of_getElem? (i := 24) rfl)) (hb hby at_334) rfl ?_
                            refine go_iload (q := 339) X11 hx (hb hby at_337) rfl rfl ?_
                            refine go_i2d (q := 340) X11 hx (hb hby at_339) rfl rfl ?_
                            refine go_dmul (q := 341) X11 hx (hb hby at_340) rfl w2 rfl ?_
                            refine go_dmul (q := 342) X11 hx (hb hby at_341) rfl w3 rfl ?_
                            refine go_iload (q := 344) X11 hx (hb hby at_342) rfl rfl ?_
                            refine go_i2d (q := 345) X11 hx (hb hby at_344) rfl rfl ?_
                            refine go_dsub (q := 346) X11 hx (hb hby at_345) rfl w4 rfl ?_
                            refine go_dstore (q := 348) (l' := #[.val (.int ln), .val (.int bt), .val (.int cn), .val (.int (1 : Int32)), .val (.int b0), .val (.int b1), .val (.int b2), .val (.int b3), .val (.int b4), .val (.int b5), .val (.ref br), .val (.int rc), .val (.ref bo), .val (.double (FP.ddiv (a6 b0 (0 : Int32) (0 : Int32) (0 : Int32) (0 : Int32) (0 : Int32)).2 (FP.i2d rc))), .second, .val (.int f1), .val (.int m1), .val (.double (FP.dsub (FP.dmul (FP.ddiv (a6 b0 (0 : Int32) (0 : Int32) (0 : Int32) (0 : Int32) (0 : Int32)).2 (FP.i2d rc)) (FP.dmul (4633641066610819072 : UInt64) (FP.i2d rc))) (FP.i2d m1))), .second]) X11 hx (hb hby at_346) rfl rfl ?_
                            refine go_dload (q := 350) X11 hx (hb hby at_348) rfl rfl ?_
                            refine go_ldc2D (q := 353) (v := (4517329193108106637 : UInt64)) X11 hx hZ hown (hw _ (List.mem_of_getElem? (i := 25) rfl)) (hb hby at_350) rfl ?_
                            refine go_dcmp (q := 354) X11 hx (hb hby at_353) rfl rfl ?_
                            refine go_if_ge (q := 357) (q' := 370) X11 hx (hb hby at_354) rfl (by decide) rfl (fun hc354 => ?_) (fun hc354 => ?_)
                            · exact absurd w5 hc354
                            · refine go_dload (q := 359) X11 hx (hb hby at_357) rfl rfl ?_
                              refine go_ldc2D (q := 362) (v := (13740701229962882445 : UInt64)) X11 hx hZ hown (hw _ (List.mem_of_getElem? (i := 26) rfl)) (hb hby at_359) rfl ?_
                              refine go_dcmp (q := 363) X11 hx (hb hby at_362) rfl rfl ?_
                              refine go_if_le (q := 366) (q' := 370) X11 hx (hb hby at_363) rfl (by decide) rfl (fun hc363 => ?_) (fun hc363 => ?_)
                              · exact absurd w6 hc363
                              · refine go_iconst (q := 367) (v := (1 : Int32)) X11 hx (hb hby at_366) rfl rfl ?_
                                refine go_goto (q := 371) X11 hx (hb hby at_367) (by decide) rfl ?_
                                exact go_retN X11 hx (by simp) hret hlk (hb hby at_371) (by decide) (by decide) ⟨rfl, N11⟩
                          · exact absurd hc311 (by decide)
                        · exact absurd hc288 (by decide)
                      · exact absurd hc265 (by decide)
                    · exact absurd hc242 (by decide)
                  · exact absurd hc219 (by decide)
              · exact absurd hc150 (by decide)
            · exact absurd hc139 (by decide)
          · exact absurd hc128 (by decide)
        · exact absurd hc117 (by decide)
      · exact absurd hc106 (by decide)
  · refine go_iloadN (q := 90) X0 hx (hb hby at_89) rfl rfl ?_
    refine go_newP (q := 92) X0 hx hZ (hw _ (List.mem_of_getElem? (i := 0) rfl)) e0 (hb hby at_90) rfl (by decide) 2 (by decide) (by decide) (by decide) (by decide) (fun T12 h12 k_br br eb12 X12 e12 E12 V_br => ?_)
    have g_br : h0.size ≤ br := Nat.le_trans hsz (Nat.le_of_eq eb12.symm)
    replace hsz := Nat.le_trans hsz E12.1
    replace V_br : Arv Z h12 br k_br .boolean (2 : Int32) [(.int (0 : Int32)), (.int (0 : Int32))] (.int (0 : Int32)) := V_br.pad (pad_rep [] (.int (0 : Int32)) 2)
    refine go_astore (q := 94) (l' := #[.val (.int ln), .val (.int bt), .val (.int cn), .val (.int (2 : Int32)), .val (.int b0), .val (.int b1), .val (.int b2), .val (.int b3), .val (.int b4), .val (.int b5), .val (.ref br), .unset, .unset, .unset, .unset, .unset, .unset, .unset, .unset]) X12 hx (hb hby at_92) rfl rfl rfl ?_
    refine go_iloadN (q := 95) X12 hx (hb hby at_94) rfl rfl ?_
    refine go_if_le (q := 98) (q' := 104) X12 hx (hb hby at_95) rfl (by decide) rfl (fun hc95 => ?_) (fun hc95 => ?_)
    · exact absurd (by decide) hc95
    · refine go_aload (q := 100) X12 hx (hb hby at_98) rfl rfl rfl ?_
      refine go_iconst (q := 101) (v := (0 : Int32)) X12 hx (hb hby at_100) rfl rfl ?_
      refine go_iload (q := 103) X12 hx (hb hby at_101) rfl rfl ?_
      refine go_bastore (q := 104) X12 hx hZ e12 V_br ⟨by decide, by decide⟩ 0 rfl (Nat.le_of_ble_eq_true rfl) N0 g_br (hb hby at_103) rfl (fun T13 h13 l13 X13 N13 e13 W13 V13 => ?_)
      replace hsz := Nat.le_trans hsz (Nat.le_of_eq W13.size.symm)
      replace V_br : Arv Z h13 br k_br .boolean (2 : Int32) [(.int (nar .boolean b0)), (.int (0 : Int32))] (.int (0 : Int32)) := V13
      rw [own_nar hb0] at V_br
      refine go_iloadN (q := 105) X13 hx (hb hby at_104) rfl rfl ?_
      refine go_iconst (q := 106) (v := (1 : Int32)) X13 hx (hb hby at_105) rfl rfl ?_
      refine go_icmp_le (q := 109) (q' := 115) X13 hx (hb hby at_106) rfl (by decide) rfl (fun hc106 => ?_) (fun hc106 => ?_)
      · exact absurd (by decide) hc106
      · refine go_aload (q := 111) X13 hx (hb hby at_109) rfl rfl rfl ?_
        refine go_iconst (q := 112) (v := (1 : Int32)) X13 hx (hb hby at_111) rfl rfl ?_
        refine go_iload (q := 114) X13 hx (hb hby at_112) rfl rfl ?_
        refine go_bastore (q := 115) X13 hx hZ e13 V_br ⟨by decide, by decide⟩ 1 rfl (Nat.le_of_ble_eq_true rfl) N13 g_br (hb hby at_114) rfl (fun T14 h14 l14 X14 N14 e14 W14 V14 => ?_)
        replace hsz := Nat.le_trans hsz (Nat.le_of_eq W14.size.symm)
        replace V_br : Arv Z h14 br k_br .boolean (2 : Int32) [(.int b0), (.int (nar .boolean b1))] (.int (0 : Int32)) := V14
        rw [own_nar hb1] at V_br
        refine go_iloadN (q := 116) X14 hx (hb hby at_115) rfl rfl ?_
        refine go_iconst (q := 117) (v := (2 : Int32)) X14 hx (hb hby at_116) rfl rfl ?_
        refine go_icmp_le (q := 120) (q' := 126) X14 hx (hb hby at_117) rfl (by decide) rfl (fun hc117 => ?_) (fun hc117 => ?_)
        · refine go_iloadN (q := 127) X14 hx (hb hby at_126) rfl rfl ?_
          refine go_iconst (q := 128) (v := (3 : Int32)) X14 hx (hb hby at_127) rfl rfl ?_
          refine go_icmp_le (q := 131) (q' := 137) X14 hx (hb hby at_128) rfl (by decide) rfl (fun hc128 => ?_) (fun hc128 => ?_)
          · refine go_iloadN (q := 138) X14 hx (hb hby at_137) rfl rfl ?_
            refine go_iconst (q := 139) (v := (4 : Int32)) X14 hx (hb hby at_138) rfl rfl ?_
            refine go_icmp_le (q := 142) (q' := 148) X14 hx (hb hby at_139) rfl (by decide) rfl (fun hc139 => ?_) (fun hc139 => ?_)
            · refine go_iloadN (q := 149) X14 hx (hb hby at_148) rfl rfl ?_
              refine go_iconst (q := 150) (v := (5 : Int32)) X14 hx (hb hby at_149) rfl rfl ?_
              refine go_icmp_le (q := 153) (q' := 159) X14 hx (hb hby at_150) rfl (by decide) rfl (fun hc150 => ?_) (fun hc150 => ?_)
              · refine go_iconst (q := 160) (v := (1 : Int32)) X14 hx (hb hby at_159) rfl rfl ?_
                refine go_iloadN (q := 161) X14 hx (hb hby at_160) rfl rfl ?_
                refine go_ldcI (q := 163) (v := (2147483647 : Int32)) X14 hx hZ hown (hw _ (List.mem_of_getElem? (i := 1) rfl)) (hb hby at_161) rfl ?_
                refine go_iand (q := 164) (v := (cn &&& (2147483647 : Int32))) X14 hx (hb hby at_163) rfl rfl ?_
                refine go_callS (q := 167) (W := 0) X14 hx hZ hown e14 (hw _ (List.mem_of_getElem? (i := 2) rfl)) (hw _ (List.mem_of_getElem? (i := 3) rfl)) (hw _ (List.mem_of_getElem? (i := 4) rfl)) (hw _ (List.mem_of_getElem? (i := 5) rfl)) (by decide) [(.int (1 : Int32)), (.int (cn &&& (2147483647 : Int32)))] [] (rm1 l Z a0 hw [] (1 : Int32) (cn &&& (2147483647 : Int32)) h14) (by rw [hml]; rfl) rfl (lenOf pd_0 rfl) (Nat.le_of_eq rfl) (by decide) (by decide) (hb hby at_164) rfl (by decide) (by decide) ?_
                rintro T15 L15 v15 X15 ⟨Np15, rfl, e15⟩
                have N15 := Fr.app N14 (Np15 _)
                show Go p e below s (fun v h L => v = some (.int (1 : Int32)) ∧ Fr h0.size L) room_1.cells room_1.slots T15 (mkF m 167 #[.val (.int ln), .val (.int bt), .val (.int cn), .val (.int (2 : Int32)), .val (.int b0), .val (.int b1), .val (.int b2), .val (.int b3), .val (.int b4), .val (.int b5), .val (.ref br), .unset, .unset, .unset, .unset, .unset, .unset, .unset, .unset] [(.int (if (1 : Int32) < (cn &&& (2147483647 : Int32)) then (cn &&& (2147483647 : Int32)) else (1 : Int32)))])
                suffices Hrc : ∀ rc : Int32, rc = (if (1 : Int32) < (cn &&& (2147483647 : Int32)) then (cn &&& (2147483647 : Int32)) else (1 : Int32)) → Go p e below s (fun v h L => v = some (.int (1 : Int32)) ∧ Fr h0.size L) room_1.cells room_1.slots T15 (mkF m 167 #[.val (.int ln), .val (.int bt), .val (.int cn), .val (.int (2 : Int32)), .val (.int b0), .val (.int b1), .val (.int b2), .val (.int b3), .val (.int b4), .val (.int b5), .val (.ref br), .unset, .unset, .unset, .unset, .unset, .unset, .unset, .unset] [(.int rc)]) from Hrc _ rfl
                intro rc erc
                have hrc : ¬ rc < 1 := by rw [erc]; exact own_max _
                refine go_istore (q := 169) (l' := #[.val (.int ln), .val (.int bt), .val (.int cn), .val (.int (2 : Int32)), .val (.int b0), .val (.int b1), .val (.int b2), .val (.int b3), .val (.int b4), .val (.int b5), .val (.ref br), .val (.int rc), .unset, .unset, .unset, .unset, .unset, .unset, .unset]) X15 hx (hb hby at_167) rfl rfl ?_
                refine go_newO (q := 172) X15 hx hZ hown (hw _ (List.mem_of_getElem? (i := 6) rfl)) (hw _ (List.mem_of_getElem? (i := 7) rfl)) (hw _ (List.mem_of_getElem? (i := 8) rfl)) e15 (hb hby at_169) rfl (by decide) (by decide) (fun T16 h16 bo eb16 X16 e16 E16 A16 D16 => ?_)
                have g_bo : h0.size ≤ bo := Nat.le_trans hsz (Nat.le_of_eq eb16.symm)
                have ne_br_bo : br ≠ bo := Nat.ne_of_lt (Nat.lt_of_lt_of_eq V_br.lt eb16.symm)
                replace V_br := V_br.ext E16
                replace hsz := Nat.le_trans hsz E16.1
                have E_bo := A16
                have F_relevant_bo : Fld Z h16 bo "com/example/forager/forager/eval/Ranking" "relevant" "[Z" .null := D16 (Or.inr (hw _ (List.mem_of_getElem? (i := 16) rfl))) (ty := (.array .boolean)) (by decide)
                have F_relevantCount_bo : Fld Z h16 bo "com/example/forager/forager/eval/Ranking" "relevantCount" "I" (.int (0 : Int32)) := D16 (Or.inr (hw _ (List.mem_of_getElem? (i := 18) rfl))) (ty := .int) (by decide)
                refine go_dup (q := 173) X16 hx (hb hby at_172) rfl rfl ?_
                refine go_aload (q := 175) X16 hx (hb hby at_173) rfl rfl rfl ?_
                refine go_iload (q := 177) X16 hx (hb hby at_175) rfl rfl ?_
                refine go_callI (q := 180) (W := 1) X16 hx hZ hown e16 rfl (hw _ (List.mem_of_getElem? (i := 9) rfl)) (hw _ (List.mem_of_getElem? (i := 10) rfl)) (hw _ (List.mem_of_getElem? (i := 8) rfl)) (hw _ (List.mem_of_getElem? (i := 11) rfl)) (by decide) bo [(.ref br), (.int rc)] [(.ref bo)] (rm2 l Z a0 hw [] bo br rc h0.size _ _ h16 hsz g_bo E_bo F_relevant_bo F_relevantCount_bo hrc) (by rw [hml]; rfl) rfl (lenOf pd_1 rfl) (Nat.le_of_eq rfl) (by decide) (by decide) (hb hby at_177) rfl (by decide) (by decide) ?_
                rintro T17 L17 v17 X17 ⟨Nq17, rfl, K17, Fr_, Fc_⟩
                have N17 := Fr.app N15 Nq17
                replace V_br := V_br.keep K17 (ninS ne_br_bo nin0)
                replace E_bo := E_bo.keep K17
                replace hsz := Nat.le_trans hsz K17.1
                show Go p e below s (fun v h L => v = some (.int (1 : Int32)) ∧ Fr h0.size L) room_1.cells room_1.slots T17 (mkF m 180 #[.val (.int ln), .val (.int bt), .val (.int cn), .val (.int (2 : Int32)), .val (.int b0), .val (.int b1), .val (.int b2), .val (.int b3), .val (.int b4), .val (.int b5), .val (.ref br), .val (.int rc), .unset, .unset, .unset, .unset, .unset, .unset, .unset] [(.ref bo)])
                refine go_astore (q := 182) (l' := #[.val (.int ln), .val (.int bt), .val (.int cn), .val (.int (2 : Int32)), .val (.int b0), .val (.int b1), .val (.int b2), .val (.int b3), .val (.int b4), .val (.int b5), .val (.ref br), .val (.int rc), .val (.ref bo), .unset, .unset, .unset, .unset, .unset, .unset]) X17 hx (hb hby at_180) rfl rfl rfl ?_
                refine go_aload (q := 184) X17 hx (hb hby at_182) rfl rfl rfl ?_
                refine go_callV (q := 187) (W := 0) X17 hx hZ hown rfl (hw _ (List.mem_of_getElem? (i := 19) rfl)) (hw _ (List.mem_of_getElem? (i := 20) rfl)) (notFace_of_selects (args := #[]) (mvT hZ (hw _ (List.mem_of_getElem? (i := 22) rfl)))) (hw _ (List.mem_of_getElem? (i := 22) rfl)) (hw _ (List.mem_of_getElem? (i := 21) rfl)) (hw _ (List.mem_of_getElem? (i := 8) rfl)) (hw _ (List.mem_of_getElem? (i := 23) rfl)) (by decide) bo [] [] E_bo (rm4_2 l Z a0 hw [] bo h0.size br k_br _ rc b0 b1 T17.heap Fr_ Fc_ V_br hrc) (by rw [hml]; rfl) rfl (lenOf pd_2 rfl) (Nat.le_of_eq rfl) (by decide) (by decide) (hb hby at_184) rfl (by decide) (by decide) ?_
                rintro T18 L18 v18 X18 ⟨Nq18, rfl, e18⟩
                have N18 := Fr.app N17 Nq18
                show Go p e below s (fun v h L => v = some (.int (1 : Int32)) ∧ Fr h0.size L) room_1.cells room_1.slots T18 (mkF m 187 #[.val (.int ln), .val (.int bt), .val (.int cn), .val (.int (2 : Int32)), .val (.int b0), .val (.int b1), .val (.int b2), .val (.int b3), .val (.int b4), .val (.int b5), .val (.ref br), .val (.int rc), .val (.ref bo), .unset, .unset, .unset, .unset, .unset, .unset] [(.double (FP.ddiv (a6 b0 b1 (0 : Int32) (0 : Int32) (0 : Int32) (0 : Int32)).2 (FP.i2d rc)))])
                refine go_dstore (q := 189) (l' := #[.val (.int ln), .val (.int bt), .val (.int cn), .val (.int (2 : Int32)), .val (.int b0), .val (.int b1), .val (.int b2), .val (.int b3), .val (.int b4), .val (.int b5), .val (.ref br), .val (.int rc), .val (.ref bo), .val (.double (FP.ddiv (a6 b0 b1 (0 : Int32) (0 : Int32) (0 : Int32) (0 : Int32)).2 (FP.i2d rc))), .second, .unset, .unset, .unset, .unset]) X18 hx (hb hby at_187) rfl rfl ?_
                refine go_iconst (q := 190) (v := (0 : Int32)) X18 hx (hb hby at_189) rfl rfl ?_
                refine go_istore (q := 192) (l' := #[.val (.int ln), .val (.int bt), .val (.int cn), .val (.int (2 : Int32)), .val (.int b0), .val (.int b1), .val (.int b2), .val (.int b3), .val (.int b4), .val (.int b5), .val (.ref br), .val (.int rc), .val (.ref bo), .val (.double (FP.ddiv (a6 b0 b1 (0 : Int32) (0 : Int32) (0 : Int32) (0 : Int32)).2 (FP.i2d rc))), .second, .val (.int (0 : Int32)), .unset, .unset, .unset]) X18 hx (hb hby at_190) rfl rfl ?_
                refine go_iconst (q := 193) (v := (0 : Int32)) X18 hx (hb hby at_192) rfl rfl ?_
                refine go_istore (q := 195) (l' := #[.val (.int ln), .val (.int bt), .val (.int cn), .val (.int (2 : Int32)), .val (.int b0), .val (.int b1), .val (.int b2), .val (.int b3), .val (.int b4), .val (.int b5), .val (.ref br), .val (.int rc), .val (.ref bo), .val (.double (FP.ddiv (a6 b0 b1 (0 : Int32) (0 : Int32) (0 : Int32) (0 : Int32)).2 (FP.i2d rc))), .second, .val (.int (0 : Int32)), .val (.int (0 : Int32)), .unset, .unset]) X18 hx (hb hby at_193) rfl rfl ?_
                refine go_iloadN (q := 196) X18 hx (hb hby at_195) rfl rfl ?_
                refine go_if_le (q := 199) (q' := 217) X18 hx (hb hby at_196) rfl (by decide) rfl (fun hc196 => ?_) (fun hc196 => ?_)
                · exact absurd (by decide) hc196
                · refine go_iload (q := 201) X18 hx (hb hby at_199) rfl rfl ?_
                  suffices JF0 : ∀ f1 m1 : Int32, (f1, m1) = nt ((0 : Int32), (0 : Int32)) b0 (60 : Int32) → Go p e below s (fun v h L => v = some (.int (1 : Int32)) ∧ Fr h0.size L) room_1.cells room_1.slots T18 (mkF m 217 #[.val (.int ln), .val (.int bt), .val (.int cn), .val (.int (2 : Int32)), .val (.int b0), .val (.int b1), .val (.int b2), .val (.int b3), .val (.int b4), .val (.int b5), .val (.ref br), .val (.int rc), .val (.ref bo), .val (.double (FP.ddiv (a6 b0 b1 (0 : Int32) (0 : Int32) (0 : Int32) (0 : Int32)).2 (FP.i2d rc))), .second, .val (.int f1), .val (.int m1), .unset, .unset] []) by
                    refine go_if_eq (q := 204) (q' := 217) X18 hx (hb hby at_201) rfl (by decide) rfl (fun hz0 => ?_) (fun hz0 => ?_)
                    · exact JF0 _ _ (nt0 hz0).symm
                    · refine go_iinc (q := 207) (l' := #[.val (.int ln), .val (.int bt), .val (.int cn), .val (.int (2 : Int32)), .val (.int b0), .val (.int b1), .val (.int b2), .val (.int b3), .val (.int b4), .val (.int b5), .val (.ref br), .val (.int rc), .val (.ref bo), .val (.double (FP.ddiv (a6 b0 b1 (0 : Int32) (0 : Int32) (0 : Int32) (0 : Int32)).2 (FP.i2d rc))), .second, .val (.int (1 : Int32)), .val (.int (0 : Int32)), .unset, .unset]) X18 hx (hb hby at_204) rfl rfl rfl ?_
                      refine go_iload (q := 209) X18 hx (hb hby at_207) rfl rfl ?_
                      refine go_iload (q := 211) X18 hx (hb hby at_209) rfl rfl ?_
                      refine go_bipush (q := 213) (v := (60 : Int32)) X18 hx (hb hby at_211) rfl rfl ?_
                      refine go_imul (q := 214) (v := (60 : Int32)) X18 hx (hb hby at_213) rfl rfl ?_
                      refine go_iadd (q := 215) (v := (60 : Int32)) X18 hx (hb hby at_214) rfl rfl ?_
                      refine go_istore (q := 217) (l' := #[.val (.int ln), .val (.int bt), .val (.int cn), .val (.int (2 : Int32)), .val (.int b0), .val (.int b1), .val (.int b2), .val (.int b3), .val (.int b4), .val (.int b5), .val (.ref br), .val (.int rc), .val (.ref bo), .val (.double (FP.ddiv (a6 b0 b1 (0 : Int32) (0 : Int32) (0 : Int32) (0 : Int32)).2 (FP.i2d rc))), .second, .val (.int (1 : Int32)), .val (.int (60 : Int32)), .unset, .unset]) X18 hx (hb hby at_215) rfl rfl ?_
                      exact JF0 _ _ (nt1 (f := (0 : Int32)) (m := (0 : Int32)) (k := (60 : Int32)) hz0).symm
                  intro f1 m1 eM1
                  refine go_iloadN (q := 218) X18 hx (hb hby at_217) rfl rfl ?_
                  refine go_iconst (q := 219) (v := (1 : Int32)) X18 hx (hb hby at_218) rfl rfl ?_
                  refine go_icmp_le (q := 222) (q' := 240) X18 hx (hb hby at_219) rfl (by decide) rfl (fun hc219 => ?_) (fun hc219 => ?_)
                  · exact absurd (by decide) hc219
                  · refine go_iload (q := 224) X18 hx (hb hby at_222) rfl rfl ?_
                    suffices JF1 : ∀ f2 m2 : Int32, (f2, m2) = nt (f1, m1) b1 (30 : Int32) → Go p e below s (fun v h L => v = some (.int (1 : Int32)) ∧ Fr h0.size L) room_1.cells room_1.slots T18 (mkF m 240 #[.val (.int ln), .val (.int bt), .val (.int cn), .val (.int (2 : Int32)), .val (.int b0), .val (.int b1), .val (.int b2), .val (.int b3), .val (.int b4), .val (.int b5), .val (.ref br), .val (.int rc), .val (.ref bo), .val (.double (FP.ddiv (a6 b0 b1 (0 : Int32) (0 : Int32) (0 : Int32) (0 : Int32)).2 (FP.i2d rc))), .second, .val (.int f2), .val (.int m2), .unset, .unset] []) by
                      refine go_if_eq (q := 227) (q' := 240) X18 hx (hb hby at_224) rfl (by decide) rfl (fun hz1 => ?_) (fun hz1 => ?_)
                      · exact JF1 _ _ (nt0 hz1).symm
                      · refine go_iinc (q := 230) (l' := #[.val (.int ln), .val (.int bt), .val (.int cn), .val (.int (2 : Int32)), .val (.int b0), .val (.int b1), .val (.int b2), .val (.int b3), .val (.int b4), .val (.int b5), .val (.ref br), .val (.int rc), .val (.ref bo), .val (.double (FP.ddiv (a6 b0 b1 (0 : Int32) (0 : Int32) (0 : Int32) (0 : Int32)).2 (FP.i2d rc))), .second, .val (.int (f1 + (1 : Int32))), .val (.int m1), .unset, .unset]) X18 hx (hb hby at_227) rfl rfl rfl ?_
                        refine go_iload (q := 232) X18 hx (hb hby at_230) rfl rfl ?_
                        refine go_iload (q := 234) X18 hx (hb hby at_232) rfl rfl ?_
                        refine go_bipush (q := 236) (v := (30 : Int32)) X18 hx (hb hby at_234) rfl rfl ?_
                        refine go_imul (q := 237) (v := ((f1 + (1 : Int32)) * (30 : Int32))) X18 hx (hb hby at_236) rfl rfl ?_
                        refine go_iadd (q := 238) (v := (m1 + ((f1 + (1 : Int32)) * (30 : Int32)))) X18 hx (hb hby at_237) rfl rfl ?_
                        refine go_istore (q := 240) (l' := #[.val (.int ln), .val (.int bt), .val (.int cn), .val (.int (2 : Int32)), .val (.int b0), .val (.int b1), .val (.int b2), .val (.int b3), .val (.int b4), .val (.int b5), .val (.ref br), .val (.int rc), .val (.ref bo), .val (.double (FP.ddiv (a6 b0 b1 (0 : Int32) (0 : Int32) (0 : Int32) (0 : Int32)).2 (FP.i2d rc))), .second, .val (.int (f1 + (1 : Int32))), .val (.int (m1 + ((f1 + (1 : Int32)) * (30 : Int32)))), .unset, .unset]) X18 hx (hb hby at_238) rfl rfl ?_
                        exact JF1 _ _ (nt1 (f := f1) (m := m1) (k := (30 : Int32)) hz1).symm
                    intro f2 m2 eM2
                    refine go_iloadN (q := 241) X18 hx (hb hby at_240) rfl rfl ?_
                    refine go_iconst (q := 242) (v := (2 : Int32)) X18 hx (hb hby at_241) rfl rfl ?_
                    refine go_icmp_le (q := 245) (q' := 263) X18 hx (hb hby at_242) rfl (by decide) rfl (fun hc242 => ?_) (fun hc242 => ?_)
                    · refine go_iloadN (q := 264) X18 hx (hb hby at_263) rfl rfl ?_
                      refine go_iconst (q := 265) (v := (3 : Int32)) X18 hx (hb hby at_264) rfl rfl ?_
                      refine go_icmp_le (q := 268) (q' := 286) X18 hx (hb hby at_265) rfl (by decide) rfl (fun hc265 => ?_) (fun hc265 => ?_)
                      · refine go_iloadN (q := 287) X18 hx (hb hby at_286) rfl rfl ?_
                        refine go_iconst (q := 288) (v := (4 : Int32)) X18 hx (hb hby at_287) rfl rfl ?_
                        refine go_icmp_le (q := 291) (q' := 309) X18 hx (hb hby at_288) rfl (by decide) rfl (fun hc288 => ?_) (fun hc288 => ?_)
                        · refine go_iloadN (q := 310) X18 hx (hb hby at_309) rfl rfl ?_
                          refine go_iconst (q := 311) (v := (5 : Int32)) X18 hx (hb hby at_310) rfl rfl ?_
                          refine go_icmp_le (q := 314) (q' := 332) X18 hx (hb hby at_311) rfl (by decide) rfl (fun hc311 => ?_) (fun hc311 => ?_)
                          · have hM : (f2, m2) = (n6 b0 b1 (0 : Int32) (0 : Int32) (0 : Int32) (0 : Int32)) := by rw [eM2, eM1]; simp only [n6, nt0z]
                            have hok : okS (a6 b0 b1 (0 : Int32) (0 : Int32) (0 : Int32) (0 : Int32)).2 m2 = true := by rw [show m2 = (n6 b0 b1 (0 : Int32) (0 : Int32) (0 : Int32) (0 : Int32)).2 from congrArg Prod.snd hM]; exact ok_bits hb0 hb1 (Or.inl rfl) (Or.inl rfl) (Or.inl rfl) (Or.inl rfl)
                            obtain ⟨w1, w2, w3, w4, w5, w6⟩ := ap_law hok hrc
                            refine go_dload (q := 334) X18 hx (hb hby at_332) rfl rfl ?_
                            refine go_ldc2D (q := 337) (v := (4633641066610819072 : UInt64)) X18 hx hZ hown (hw _ (List.mem_of_getElem? (i := 24) rfl)) (hb hby at_334) rfl ?_
                            refine go_iload (q := 339) X18 hx (hb hby at_337) rfl rfl ?_
                            refine go_i2d (q := 340) X18 hx (hb hby at_339) rfl rfl ?_
                            refine go_dmul (q := 341) X18 hx (hb hby at_340) rfl w2 rfl ?_
                            refine go_dmul (q := 342) X18 hx (hb hby at_341) rfl w3 rfl ?_
                            refine go_iload (q := 344) X18 hx (hb hby at_342) rfl rfl ?_
                            refine go_i2d (q := 345) X18 hx (hb hby at_344) rfl rfl ?_
                            refine go_dsub (q := 346) X18 hx (hb hby at_345) rfl w4 rfl ?_
                            refine go_dstore (q := 348) (l' := #[.val (.int ln), .val (.int bt), .val (.int cn), .val (.int (2 : Int32)), .val (.int b0), .val (.int b1), .val (.int b2), .val (.int b3), .val (.int b4), .val (.int b5), .val (.ref br), .val (.int rc), .val (.ref bo), .val (.double (FP.ddiv (a6 b0 b1 (0 : Int32) (0 : Int32) (0 : Int32) (0 : Int32)).2 (FP.i2d rc))), .second, .val (.int f2), .val (.int m2), .val (.double (FP.dsub (FP.dmul (FP.ddiv (a6 b0 b1 (0 : Int32) (0 : Int32) (0 : Int32) (0 : Int32)).2 (FP.i2d rc)) (FP.dmul (4633641066610819072 : UInt64) (FP.i2d rc))) (FP.i2d m2))), .second]) X18 hx (hb hby at_346) rfl rfl ?_
                            refine go_dload (q := 350) X18 hx (hb hby at_348) rfl rfl ?_
                            refine go_ldc2D (q := 353) (v := (4517329193108106637 : UInt64)) X18 hx hZ hown (hw _ (List.mem_of_getElem? (i := 25) rfl)) (hb hby at_350) rfl ?_
                            refine go_dcmp (q := 354) X18 hx (hb hby at_353) rfl rfl ?_
                            refine go_if_ge (q := 357) (q' := 370) X18 hx (hb hby at_354) rfl (by decide) rfl (fun hc354 => ?_) (fun hc354 => ?_)
                            · exact absurd w5 hc354
                            · refine go_dload (q := 359) X18 hx (hb hby at_357) rfl rfl ?_
                              refine go_ldc2D (q := 362) (v := (13740701229962882445 : UInt64)) X18 hx hZ hown (hw _ (List.mem_of_getElem? (i := 26) rfl)) (hb hby at_359) rfl ?_
                              refine go_dcmp (q := 363) X18 hx (hb hby at_362) rfl rfl ?_
                              refine go_if_le (q := 366) (q' := 370) X18 hx (hb hby at_363) rfl (by decide) rfl (fun hc363 => ?_) (fun hc363 => ?_)
                              · exact absurd w6 hc363
                              · refine go_iconst (q := 367) (v := (1 : Int32)) X18 hx (hb hby at_366) rfl rfl ?_
                                refine go_goto (q := 371) X18 hx (hb hby at_367) (by decide) rfl ?_
                                exact go_retN X18 hx (by simp) hret hlk (hb hby at_371) (by decide) (by decide) ⟨rfl, N18⟩
                          · exact absurd hc311 (by decide)
                        · exact absurd hc288 (by decide)
                      · exact absurd hc265 (by decide)
                    · exact absurd hc242 (by decide)
              · exact absurd hc150 (by decide)
            · exact absurd hc139 (by decide)
          · exact absurd hc128 (by decide)
        · exact absurd hc117 (by decide)
  · refine go_iloadN (q := 90) X0 hx (hb hby at_89) rfl rfl ?_
    refine go_newP (q := 92) X0 hx hZ (hw _ (List.mem_of_getElem? (i := 0) rfl)) e0 (hb hby at_90) rfl (by decide) 3 (by decide) (by decide) (by decide) (by decide) (fun T19 h19 k_br br eb19 X19 e19 E19 V_br => ?_)
    have g_br : h0.size ≤ br := Nat.le_trans hsz (Nat.le_of_eq eb19.symm)
    replace hsz := Nat.le_trans hsz E19.1
    replace V_br : Arv Z h19 br k_br .boolean (3 : Int32) [(.int (0 : Int32)), (.int (0 : Int32)), (.int (0 : Int32))] (.int (0 : Int32)) := V_br.pad (pad_rep [] (.int (0 : Int32)) 3)
    refine go_astore (q := 94) (l' := #[.val (.int ln), .val (.int bt), .val (.int cn), .val (.int (3 : Int32)), .val (.int b0), .val (.int b1), .val (.int b2), .val (.int b3), .val (.int b4), .val (.int b5), .val (.ref br), .unset, .unset, .unset, .unset, .unset, .unset, .unset, .unset]) X19 hx (hb hby at_92) rfl rfl rfl ?_
    refine go_iloadN (q := 95) X19 hx (hb hby at_94) rfl rfl ?_
    refine go_if_le (q := 98) (q' := 104) X19 hx (hb hby at_95) rfl (by decide) rfl (fun hc95 => ?_) (fun hc95 => ?_)
    · exact absurd (by decide) hc95
    · refine go_aload (q := 100) X19 hx (hb hby at_98) rfl rfl rfl ?_
      refine go_iconst (q := 101) (v := (0 : Int32)) X19 hx (hb hby at_100) rfl rfl ?_
      refine go_iload (q := 103) X19 hx (hb hby at_101) rfl rfl ?_
      refine go_bastore (q := 104) X19 hx hZ e19 V_br ⟨by decide, by decide⟩ 0 rfl (Nat.le_of_ble_eq_true rfl) N0 g_br (hb hby at_103) rfl (fun T20 h20 l20 X20 N20 e20 W20 V20 => ?_)
      replace hsz := Nat.le_trans hsz (Nat.le_of_eq W20.size.symm)
      replace V_br : Arv Z h20 br k_br .boolean (3 : Int32) [(.int (nar .boolean b0)), (.int (0 : Int32)), (.int (0 : Int32))] (.int (0 : Int32)) := V20
      rw [own_nar hb0] at V_br
      refine go_iloadN (q := 105) X20 hx (hb hby at_104) rfl rfl ?_
      refine go_iconst (q := 106) (v := (1 : Int32)) X20 hx (hb hby at_105) rfl rfl ?_
      refine go_icmp_le (q := 109) (q' := 115) X20 hx (hb hby at_106) rfl (by decide) rfl (fun hc106 => ?_) (fun hc106 => ?_)
      · exact absurd (by decide) hc106
      · refine go_aload (q := 111) X20 hx (hb hby at_109) rfl rfl rfl ?_
        refine go_iconst (q := 112) (v := (1 : Int32)) X20 hx (hb hby at_111) rfl rfl ?_
        refine go_iload (q := 114) X20 hx (hb hby at_112) rfl rfl ?_
        refine go_bastore (q := 115) X20 hx hZ e20 V_br ⟨by decide, by decide⟩ 1 rfl (Nat.le_of_ble_eq_true rfl) N20 g_br (hb hby at_114) rfl (fun T21 h21 l21 X21 N21 e21 W21 V21 => ?_)
        replace hsz := Nat.le_trans hsz (Nat.le_of_eq W21.size.symm)
        replace V_br : Arv Z h21 br k_br .boolean (3 : Int32) [(.int b0), (.int (nar .boolean b1)), (.int (0 : Int32))] (.int (0 : Int32)) := V21
        rw [own_nar hb1] at V_br
        refine go_iloadN (q := 116) X21 hx (hb hby at_115) rfl rfl ?_
        refine go_iconst (q := 117) (v := (2 : Int32)) X21 hx (hb hby at_116) rfl rfl ?_
        refine go_icmp_le (q := 120) (q' := 126) X21 hx (hb hby at_117) rfl (by decide) rfl (fun hc117 => ?_) (fun hc117 => ?_)
        · exact absurd (by decide) hc117
        · refine go_aload (q := 122) X21 hx (hb hby at_120) rfl rfl rfl ?_
          refine go_iconst (q := 123) (v := (2 : Int32)) X21 hx (hb hby at_122) rfl rfl ?_
          refine go_iload (q := 125) X21 hx (hb hby at_123) rfl rfl ?_
          refine go_bastore (q := 126) X21 hx hZ e21 V_br ⟨by decide, by decide⟩ 2 rfl (Nat.le_of_ble_eq_true rfl) N21 g_br (hb hby at_125) rfl (fun T22 h22 l22 X22 N22 e22 W22 V22 => ?_)
          replace hsz := Nat.le_trans hsz (Nat.le_of_eq W22.size.symm)
          replace V_br : Arv Z h22 br k_br .boolean (3 : Int32) [(.int b0), (.int b1), (.int (nar .boolean b2))] (.int (0 : Int32)) := V22
          rw [own_nar hb2] at V_br
          refine go_iloadN (q := 127) X22 hx (hb hby at_126) rfl rfl ?_
          refine go_iconst (q := 128) (v := (3 : Int32)) X22 hx (hb hby at_127) rfl rfl ?_
          refine go_icmp_le (q := 131) (q' := 137) X22 hx (hb hby at_128) rfl (by decide) rfl (fun hc128 => ?_) (fun hc128 => ?_)
          · refine go_iloadN (q := 138) X22 hx (hb hby at_137) rfl rfl ?_
            refine go_iconst (q := 139) (v := (4 : Int32)) X22 hx (hb hby at_138) rfl rfl ?_
            refine go_icmp_le (q := 142) (q' := 148) X22 hx (hb hby at_139) rfl (by decide) rfl (fun hc139 => ?_) (fun hc139 => ?_)
            · refine go_iloadN (q := 149) X22 hx (hb hby at_148) rfl rfl ?_
              refine go_iconst (q := 150) (v := (5 : Int32)) X22 hx (hb hby at_149) rfl rfl ?_
              refine go_icmp_le (q := 153) (q' := 159) X22 hx (hb hby at_150) rfl (by decide) rfl (fun hc150 => ?_) (fun hc150 => ?_)
              · refine go_iconst (q := 160) (v := (1 : Int32)) X22 hx (hb hby at_159) rfl rfl ?_
                refine go_iloadN (q := 161) X22 hx (hb hby at_160) rfl rfl ?_
                refine go_ldcI (q := 163) (v := (2147483647 : Int32)) X22 hx hZ hown (hw _ (List.mem_of_getElem? (i := 1) rfl)) (hb hby at_161) rfl ?_
                refine go_iand (q := 164) (v := (cn &&& (2147483647 : Int32))) X22 hx (hb hby at_163) rfl rfl ?_
                refine go_callS (q := 167) (W := 0) X22 hx hZ hown e22 (hw _ (List.mem_of_getElem? (i := 2) rfl)) (hw _ (List.mem_of_getElem? (i := 3) rfl)) (hw _ (List.mem_of_getElem? (i := 4) rfl)) (hw _ (List.mem_of_getElem? (i := 5) rfl)) (by decide) [(.int (1 : Int32)), (.int (cn &&& (2147483647 : Int32)))] [] (rm1 l Z a0 hw [] (1 : Int32) (cn &&& (2147483647 : Int32)) h22) (by rw [hml]; rfl) rfl (lenOf pd_0 rfl) (Nat.le_of_eq rfl) (by decide) (by decide) (hb hby at_164) rfl (by decide) (by decide) ?_
                rintro T23 L23 v23 X23 ⟨Np23, rfl, e23⟩
                have N23 := Fr.app N22 (Np23 _)
                show Go p e below s (fun v h L => v = some (.int (1 : Int32)) ∧ Fr h0.size L) room_1.cells room_1.slots T23 (mkF m 167 #[.val (.int ln), .val (.int bt), .val (.int cn), .val (.int (3 : Int32)), .val (.int b0), .val (.int b1), .val (.int b2), .val (.int b3), .val (.int b4), .val (.int b5), .val (.ref br), .unset, .unset, .unset, .unset, .unset, .unset, .unset, .unset] [(.int (if (1 : Int32) < (cn &&& (2147483647 : Int32)) then (cn &&& (2147483647 : Int32)) else (1 : Int32)))])
                suffices Hrc : ∀ rc : Int32, rc = (if (1 : Int32) < (cn &&& (2147483647 : Int32)) then (cn &&& (2147483647 : Int32)) else (1 : Int32)) → Go p e below s (fun v h L => v = some (.int (1 : Int32)) ∧ Fr h0.size L) room_1.cells room_1.slots T23 (mkF m 167 #[.val (.int ln), .val (.int bt), .val (.int cn), .val (.int (3 : Int32)), .val (.int b0), .val (.int b1), .val (.int b2), .val (.int b3), .val (.int b4), .val (.int b5), .val (.ref br), .unset, .unset, .unset, .unset, .unset, .unset, .unset, .unset] [(.int rc)]) from Hrc _ rfl
                intro rc erc
                have hrc : ¬ rc < 1 := by rw [erc]; exact own_max _
                refine go_istore (q := 169) (l' := #[.val (.int ln), .val (.int bt), .val (.int cn), .val (.int (3 : Int32)), .val (.int b0), .val (.int b1), .val (.int b2), .val (.int b3), .val (.int b4), .val (.int b5), .val (.ref br), .val (.int rc), .unset, .unset, .unset, .unset, .unset, .unset, .unset]) X23 hx (hb hby at_167) rfl rfl ?_
                refine go_newO (q := 172) X23 hx hZ hown (hw _ (List.mem_of_getElem? (i := 6) rfl)) (hw _ (List.mem_of_getElem? (i := 7) rfl)) (hw _ (List.mem_of_getElem? (i := 8) rfl)) e23 (hb hby at_169) rfl (by decide) (by decide) (fun T24 h24 bo eb24 X24 e24 E24 A24 D24 => ?_)
                have g_bo : h0.size ≤ bo := Nat.le_trans hsz (Nat.le_of_eq eb24.symm)
                have ne_br_bo : br ≠ bo := Nat.ne_of_lt (Nat.lt_of_lt_of_eq V_br.lt eb24.symm)
                replace V_br := V_br.ext E24
                replace hsz := Nat.le_trans hsz E24.1
                have E_bo := A24
                have F_relevant_bo : Fld Z h24 bo "com/example/forager/forager/eval/Ranking" "relevant" "[Z" .null := D24 (Or.inr (hw _ (List.mem_of_getElem? (i := 16) rfl))) (ty := (.array .boolean)) (by decide)
                have F_relevantCount_bo : Fld Z h24 bo "com/example/forager/forager/eval/Ranking" "relevantCount" "I" (.int (0 : Int32)) := D24 (Or.inr (hw _ (List.mem_of_getElem? (i := 18) rfl))) (ty := .int) (by decide)
                refine go_dup (q := 173) X24 hx (hb hby at_172) rfl rfl ?_
                refine go_aload (q := 175) X24 hx (hb hby at_173) rfl rfl rfl ?_
                refine go_iload (q := 177) X24 hx (hb hby at_175) rfl rfl ?_
                refine go_callI (q := 180) (W := 1) X24 hx hZ hown e24 rfl (hw _ (List.mem_of_getElem? (i := 9) rfl)) (hw _ (List.mem_of_getElem? (i := 10) rfl)) (hw _ (List.mem_of_getElem? (i := 8) rfl)) (hw _ (List.mem_of_getElem? (i := 11) rfl)) (by decide) bo [(.ref br), (.int rc)] [(.ref bo)] (rm2 l Z a0 hw [] bo br rc h0.size _ _ h24 hsz g_bo E_bo F_relevant_bo F_relevantCount_bo hrc) (by rw [hml]; rfl) rfl (lenOf pd_1 rfl) (Nat.le_of_eq rfl) (by decide) (by decide) (hb hby at_177) rfl (by decide) (by decide) ?_
                rintro T25 L25 v25 X25 ⟨Nq25, rfl, K25, Fr_, Fc_⟩
                have N25 := Fr.app N23 Nq25
                replace V_br := V_br.keep K25 (ninS ne_br_bo nin0)
                replace E_bo := E_bo.keep K25
                replace hsz := Nat.le_trans hsz K25.1
                show Go p e below s (fun v h L => v = some (.int (1 : Int32)) ∧ Fr h0.size L) room_1.cells room_1.slots T25 (mkF m 180 #[.val (.int ln), .val (.int bt), .val (.int cn), .val (.int (3 : Int32)), .val (.int b0), .val (.int b1), .val (.int b2), .val (.int b3), .val (.int b4), .val (.int b5), .val (.ref br), .val (.int rc), .unset, .unset, .unset, .unset, .unset, .unset, .unset] [(.ref bo)])
                refine go_astore (q := 182) (l' := #[.val (.int ln), .val (.int bt), .val (.int cn), .val (.int (3 : Int32)), .val (.int b0), .val (.int b1), .val (.int b2), .val (.int b3), .val (.int b4), .val (.int b5), .val (.ref br), .val (.int rc), .val (.ref bo), .unset, .unset, .unset, .unset, .unset, .unset]) X25 hx (hb hby at_180) rfl rfl rfl ?_
                refine go_aload (q := 184) X25 hx (hb hby at_182) rfl rfl rfl ?_
                refine go_callV (q := 187) (W := 0) X25 hx hZ hown rfl (hw _ (List.mem_of_getElem? (i := 19) rfl)) (hw _ (List.mem_of_getElem? (i := 20) rfl)) (notFace_of_selects (args := #[]) (mvT hZ (hw _ (List.mem_of_getElem? (i := 22) rfl)))) (hw _ (List.mem_of_getElem? (i := 22) rfl)) (hw _ (List.mem_of_getElem? (i := 21) rfl)) (hw _ (List.mem_of_getElem? (i := 8) rfl)) (hw _ (List.mem_of_getElem? (i := 23) rfl)) (by decide) bo [] [] E_bo (rm4_3 l Z a0 hw [] bo h0.size br k_br _ rc b0 b1 b2 T25.heap Fr_ Fc_ V_br hrc) (by rw [hml]; rfl) rfl (lenOf pd_2 rfl) (Nat.le_of_eq rfl) (by decide) (by decide) (hb hby at_184) rfl (by decide) (by decide) ?_
                rintro T26 L26 v26 X26 ⟨Nq26, rfl, e26⟩
                have N26 := Fr.app N25 Nq26
                show Go p e below s (fun v h L => v = some (.int (1 : Int32)) ∧ Fr h0.size L) room_1.cells room_1.slots T26 (mkF m 187 #[.val (.int ln), .val (.int bt), .val (.int cn), .val (.int (3 : Int32)), .val (.int b0), .val (.int b1), .val (.int b2), .val (.int b3), .val (.int b4), .val (.int b5), .val (.ref br), .val (.int rc), .val (.ref bo), .unset, .unset, .unset, .unset, .unset, .unset] [(.double (FP.ddiv (a6 b0 b1 b2 (0 : Int32) (0 : Int32) (0 : Int32)).2 (FP.i2d rc)))])
                refine go_dstore (q := 189) (l' := #[.val (.int ln), .val (.int bt), .val (.int cn), .val (.int (3 : Int32)), .val (.int b0), .val (.int b1), .val (.int b2), .val (.int b3), .val (.int b4), .val (.int b5), .val (.ref br), .val (.int rc), .val (.ref bo), .val (.double (FP.ddiv (a6 b0 b1 b2 (0 : Int32) (0 : Int32) (0 : Int32)).2 (FP.i2d rc))), .second, .unset, .unset, .unset, .unset]) X26 hx (hb hby at_187) rfl rfl ?_
                refine go_iconst (q := 190) (v := (0 : Int32)) X26 hx (hb hby at_189) rfl rfl ?_
                refine go_istore (q := 192) (l' := #[.val (.int ln), .val (.int bt), .val (.int cn), .val (.int (3 : Int32)), .val (.int b0), .val (.int b1), .val (.int b2), .val (.int b3), .val (.int b4), .val (.int b5), .val (.ref br), .val (.int rc), .val (.ref bo), .val (.double (FP.ddiv (a6 b0 b1 b2 (0 : Int32) (0 : Int32) (0 : Int32)).2 (FP.i2d rc))), .second, .val (.int (0 : Int32)), .unset, .unset, .unset]) X26 hx (hb hby at_190) rfl rfl ?_
                refine go_iconst (q := 193) (v := (0 : Int32)) X26 hx (hb hby at_192) rfl rfl ?_
                refine go_istore (q := 195) (l' := #[.val (.int ln), .val (.int bt), .val (.int cn), .val (.int (3 : Int32)), .val (.int b0), .val (.int b1), .val (.int b2), .val (.int b3), .val (.int b4), .val (.int b5), .val (.ref br), .val (.int rc), .val (.ref bo), .val (.double (FP.ddiv (a6 b0 b1 b2 (0 : Int32) (0 : Int32) (0 : Int32)).2 (FP.i2d rc))), .second, .val (.int (0 : Int32)), .val (.int (0 : Int32)), .unset, .unset]) X26 hx (hb hby at_193) rfl rfl ?_
                refine go_iloadN (q := 196) X26 hx (hb hby at_195) rfl rfl ?_
                refine go_if_le (q := 199) (q' := 217) X26 hx (hb hby at_196) rfl (by decide) rfl (fun hc196 => ?_) (fun hc196 => ?_)
                · exact absurd (by decide) hc196
                · refine go_iload (q := 201) X26 hx (hb hby at_199) rfl rfl ?_
                  suffices JF0 : ∀ f1 m1 : Int32, (f1, m1) = nt ((0 : Int32), (0 : Int32)) b0 (60 : Int32) → Go p e below s (fun v h L => v = some (.int (1 : Int32)) ∧ Fr h0.size L) room_1.cells room_1.slots T26 (mkF m 217 #[.val (.int ln), .val (.int bt), .val (.int cn), .val (.int (3 : Int32)), .val (.int b0), .val (.int b1), .val (.int b2), .val (.int b3), .val (.int b4), .val (.int b5), .val (.ref br), .val (.int rc), .val (.ref bo), .val (.double (FP.ddiv (a6 b0 b1 b2 (0 : Int32) (0 : Int32) (0 : Int32)).2 (FP.i2d rc))), .second, .val (.int f1), .val (.int m1), .unset, .unset] []) by
                    refine go_if_eq (q := 204) (q' := 217) X26 hx (hb hby at_201) rfl (by decide) rfl (fun hz0 => ?_) (fun hz0 => ?_)
                    · exact JF0 _ _ (nt0 hz0).symm
                    · refine go_iinc (q := 207) (l' := #[.val (.int ln), .val (.int bt), .val (.int cn), .val (.int (3 : Int32)), .val (.int b0), .val (.int b1), .val (.int b2), .val (.int b3), .val (.int b4), .val (.int b5), .val (.ref br), .val (.int rc), .val (.ref bo), .val (.double (FP.ddiv (a6 b0 b1 b2 (0 : Int32) (0 : Int32) (0 : Int32)).2 (FP.i2d rc))), .second, .val (.int (1 : Int32)), .val (.int (0 : Int32)), .unset, .unset]) X26 hx (hb hby at_204) rfl rfl rfl ?_
                      refine go_iload (q := 209) X26 hx (hb hby at_207) rfl rfl ?_
                      refine go_iload (q := 211) X26 hx (hb hby at_209) rfl rfl ?_
                      refine go_bipush (q := 213) (v := (60 : Int32)) X26 hx (hb hby at_211) rfl rfl ?_
                      refine go_imul (q := 214) (v := (60 : Int32)) X26 hx (hb hby at_213) rfl rfl ?_
                      refine go_iadd (q := 215) (v := (60 : Int32)) X26 hx (hb hby at_214) rfl rfl ?_
                      refine go_istore (q := 217) (l' := #[.val (.int ln), .val (.int bt), .val (.int cn), .val (.int (3 : Int32)), .val (.int b0), .val (.int b1), .val (.int b2), .val (.int b3), .val (.int b4), .val (.int b5), .val (.ref br), .val (.int rc), .val (.ref bo), .val (.double (FP.ddiv (a6 b0 b1 b2 (0 : Int32) (0 : Int32) (0 : Int32)).2 (FP.i2d rc))), .second, .val (.int (1 : Int32)), .val (.int (60 : Int32)), .unset, .unset]) X26 hx (hb hby at_215) rfl rfl ?_
                      exact JF0 _ _ (nt1 (f := (0 : Int32)) (m := (0 : Int32)) (k := (60 : Int32)) hz0).symm
                  intro f1 m1 eM1
                  refine go_iloadN (q := 218) X26 hx (hb hby at_217) rfl rfl ?_
                  refine go_iconst (q := 219) (v := (1 : Int32)) X26 hx (hb hby at_218) rfl rfl ?_
                  refine go_icmp_le (q := 222) (q' := 240) X26 hx (hb hby at_219) rfl (by decide) rfl (fun hc219 => ?_) (fun hc219 => ?_)
                  · exact absurd (by decide) hc219
                  · refine go_iload (q := 224) X26 hx (hb hby at_222) rfl rfl ?_
                    suffices JF1 : ∀ f2 m2 : Int32, (f2, m2) = nt (f1, m1) b1 (30 : Int32) → Go p e below s (fun v h L => v = some (.int (1 : Int32)) ∧ Fr h0.size L) room_1.cells room_1.slots T26 (mkF m 240 #[.val (.int ln), .val (.int bt), .val (.int cn), .val (.int (3 : Int32)), .val (.int b0), .val (.int b1), .val (.int b2), .val (.int b3), .val (.int b4), .val (.int b5), .val (.ref br), .val (.int rc), .val (.ref bo), .val (.double (FP.ddiv (a6 b0 b1 b2 (0 : Int32) (0 : Int32) (0 : Int32)).2 (FP.i2d rc))), .second, .val (.int f2), .val (.int m2), .unset, .unset] []) by
                      refine go_if_eq (q := 227) (q' := 240) X26 hx (hb hby at_224) rfl (by decide) rfl (fun hz1 => ?_) (fun hz1 => ?_)
                      · exact JF1 _ _ (nt0 hz1).symm
                      · refine go_iinc (q := 230) (l' := #[.val (.int ln), .val (.int bt), .val (.int cn), .val (.int (3 : Int32)), .val (.int b0), .val (.int b1), .val (.int b2), .val (.int b3), .val (.int b4), .val (.int b5), .val (.ref br), .val (.int rc), .val (.ref bo), .val (.double (FP.ddiv (a6 b0 b1 b2 (0 : Int32) (0 : Int32) (0 : Int32)).2 (FP.i2d rc))), .second, .val (.int (f1 + (1 : Int32))), .val (.int m1), .unset, .unset]) X26 hx (hb hby at_227) rfl rfl rfl ?_
                        refine go_iload (q := 232) X26 hx (hb hby at_230) rfl rfl ?_
                        refine go_iload (q := 234) X26 hx (hb hby at_232) rfl rfl ?_
                        refine go_bipush (q := 236) (v := (30 : Int32)) X26 hx (hb hby at_234) rfl rfl ?_
                        refine go_imul (q := 237) (v := ((f1 + (1 : Int32)) * (30 : Int32))) X26 hx (hb hby at_236) rfl rfl ?_
                        refine go_iadd (q := 238) (v := (m1 + ((f1 + (1 : Int32)) * (30 : Int32)))) X26 hx (hb hby at_237) rfl rfl ?_
                        refine go_istore (q := 240) (l' := #[.val (.int ln), .val (.int bt), .val (.int cn), .val (.int (3 : Int32)), .val (.int b0), .val (.int b1), .val (.int b2), .val (.int b3), .val (.int b4), .val (.int b5), .val (.ref br), .val (.int rc), .val (.ref bo), .val (.double (FP.ddiv (a6 b0 b1 b2 (0 : Int32) (0 : Int32) (0 : Int32)).2 (FP.i2d rc))), .second, .val (.int (f1 + (1 : Int32))), .val (.int (m1 + ((f1 + (1 : Int32)) * (30 : Int32)))), .unset, .unset]) X26 hx (hb hby at_238) rfl rfl ?_
                        exact JF1 _ _ (nt1 (f := f1) (m := m1) (k := (30 : Int32)) hz1).symm
                    intro f2 m2 eM2
                    refine go_iloadN (q := 241) X26 hx (hb hby at_240) rfl rfl ?_
                    refine go_iconst (q := 242) (v := (2 : Int32)) X26 hx (hb hby at_241) rfl rfl ?_
                    refine go_icmp_le (q := 245) (q' := 263) X26 hx (hb hby at_242) rfl (by decide) rfl (fun hc242 => ?_) (fun hc242 => ?_)
                    · exact absurd (by decide) hc242
                    · refine go_iload (q := 247) X26 hx (hb hby at_245) rfl rfl ?_
                      suffices JF2 : ∀ f3 m3 : Int32, (f3, m3) = nt (f2, m2) b2 (20 : Int32) → Go p e below s (fun v h L => v = some (.int (1 : Int32)) ∧ Fr h0.size L) room_1.cells room_1.slots T26 (mkF m 263 #[.val (.int ln), .val (.int bt), .val (.int cn), .val (.int (3 : Int32)), .val (.int b0), .val (.int b1), .val (.int b2), .val (.int b3), .val (.int b4), .val (.int b5), .val (.ref br), .val (.int rc), .val (.ref bo), .val (.double (FP.ddiv (a6 b0 b1 b2 (0 : Int32) (0 : Int32) (0 : Int32)).2 (FP.i2d rc))), .second, .val (.int f3), .val (.int m3), .unset, .unset] []) by
                        refine go_if_eq (q := 250) (q' := 263) X26 hx (hb hby at_247) rfl (by decide) rfl (fun hz2 => ?_) (fun hz2 => ?_)
                        · exact JF2 _ _ (nt0 hz2).symm
                        · refine go_iinc (q := 253) (l' := #[.val (.int ln), .val (.int bt), .val (.int cn), .val (.int (3 : Int32)), .val (.int b0), .val (.int b1), .val (.int b2), .val (.int b3), .val (.int b4), .val (.int b5), .val (.ref br), .val (.int rc), .val (.ref bo), .val (.double (FP.ddiv (a6 b0 b1 b2 (0 : Int32) (0 : Int32) (0 : Int32)).2 (FP.i2d rc))), .second, .val (.int (f2 + (1 : Int32))), .val (.int m2), .unset, .unset]) X26 hx (hb hby at_250) rfl rfl rfl ?_
                          refine go_iload (q := 255) X26 hx (hb hby at_253) rfl rfl ?_
                          refine go_iload (q := 257) X26 hx (hb hby at_255) rfl rfl ?_
                          refine go_bipush (q := 259) (v := (20 : Int32)) X26 hx (hb hby at_257) rfl rfl ?_
                          refine go_imul (q := 260) (v := ((f2 + (1 : Int32)) * (20 : Int32))) X26 hx (hb hby at_259) rfl rfl ?_
                          refine go_iadd (q := 261) (v := (m2 + ((f2 + (1 : Int32)) * (20 : Int32)))) X26 hx (hb hby at_260) rfl rfl ?_
                          refine go_istore (q := 263) (l' := #[.val (.int ln), .val (.int bt), .val (.int cn), .val (.int (3 : Int32)), .val (.int b0), .val (.int b1), .val (.int b2), .val (.int b3), .val (.int b4), .val (.int b5), .val (.ref br), .val (.int rc), .val (.ref bo), .val (.double (FP.ddiv (a6 b0 b1 b2 (0 : Int32) (0 : Int32) (0 : Int32)).2 (FP.i2d rc))), .second, .val (.int (f2 + (1 : Int32))), .val (.int (m2 + ((f2 + (1 : Int32)) * (20 : Int32)))), .unset, .unset]) X26 hx (hb hby at_261) rfl rfl ?_
                          exact JF2 _ _ (nt1 (f := f2) (m := m2) (k := (20 : Int32)) hz2).symm
                      intro f3 m3 eM3
                      refine go_iloadN (q := 264) X26 hx (hb hby at_263) rfl rfl ?_
                      refine go_iconst (q := 265) (v := (3 : Int32)) X26 hx (hb hby at_264) rfl rfl ?_
                      refine go_icmp_le (q := 268) (q' := 286) X26 hx (hb hby at_265) rfl (by decide) rfl (fun hc265 => ?_) (fun hc265 => ?_)
                      · refine go_iloadN (q := 287) X26 hx (hb hby at_286) rfl rfl ?_
                        refine go_iconst (q := 288) (v := (4 : Int32)) X26 hx (hb hby at_287) rfl rfl ?_
                        refine go_icmp_le (q := 291) (q' := 309) X26 hx (hb hby at_288) rfl (by decide) rfl (fun hc288 => ?_) (fun hc288 => ?_)
                        · refine go_iloadN (q := 310) X26 hx (hb hby at_309) rfl rfl ?_
                          refine go_iconst (q := 311) (v := (5 : Int32)) X26 hx (hb hby at_310) rfl rfl ?_
                          refine go_icmp_le (q := 314) (q' := 332) X26 hx (hb hby at_311) rfl (by decide) rfl (fun hc311 => ?_) (fun hc311 => ?_)
                          · have hM : (f3, m3) = (n6 b0 b1 b2 (0 : Int32) (0 : Int32) (0 : Int32)) := by rw [eM3, eM2, eM1]; simp only [n6, nt0z]
                            have hok : okS (a6 b0 b1 b2 (0 : Int32) (0 : Int32) (0 : Int32)).2 m3 = true := by rw [show m3 = (n6 b0 b1 b2 (0 : Int32) (0 : Int32) (0 : Int32)).2 from congrArg Prod.snd hM]; exact ok_bits hb0 hb1 hb2 (Or.inl rfl) (Or.inl rfl) (Or.inl rfl)
                            obtain ⟨w1, w2, w3, w4, w5, w6⟩ := ap_law hok hrc
                            refine go_dload (q := 334) X26 hx (hb hby at_332) rfl rfl ?_
                            refine go_ldc2D (q := 337) (v := (4633641066610819072 : UInt64)) X26 hx hZ hown (hw _ (List.mem_of_getElem? (i := 24) rfl)) (hb hby at_334) rfl ?_
                            refine go_iload (q := 339) X26 hx (hb hby at_337) rfl rfl ?_
                            refine go_i2d (q := 340) X26 hx (hb hby at_339) rfl rfl ?_
                            refine go_dmul (q := 341) X26 hx (hb hby at_340) rfl w2 rfl ?_
                            refine go_dmul (q := 342) X26 hx (hb hby at_341) rfl w3 rfl ?_
                            refine go_iload (q := 344) X26 hx (hb hby at_342) rfl rfl ?_
                            refine go_i2d (q := 345) X26 hx (hb hby at_344) rfl rfl ?_
                            refine go_dsub (q := 346) X26 hx (hb hby at_345) rfl w4 rfl ?_
                            refine go_dstore (q := 348) (l' := #[.val (.int ln), .val (.int bt), .val (.int cn), .val (.int (3 : Int32)), .val (.int b0), .val (.int b1), .val (.int b2), .val (.int b3), .val (.int b4), .val (.int b5), .val (.ref br), .val (.int rc), .val (.ref bo), .val (.double (FP.ddiv (a6 b0 b1 b2 (0 : Int32) (0 : Int32) (0 : Int32)).2 (FP.i2d rc))), .second, .val (.int f3), .val (.int m3), .val (.double (FP.dsub (FP.dmul (FP.ddiv (a6 b0 b1 b2 (0 : Int32) (0 : Int32) (0 : Int32)).2 (FP.i2d rc)) (FP.dmul (4633641066610819072 : UInt64) (FP.i2d rc))) (FP.i2d m3))), .second]) X26 hx (hb hby at_346) rfl rfl ?_
                            refine go_dload (q := 350) X26 hx (hb hby at_348) rfl rfl ?_
                            refine go_ldc2D (q := 353) (v := (4517329193108106637 : UInt64)) X26 hx hZ hown (hw _ (List.mem_of_getElem? (i := 25) rfl)) (hb hby at_350) rfl ?_
                            refine go_dcmp (q := 354) X26 hx (hb hby at_353) rfl rfl ?_
                            refine go_if_ge (q := 357) (q' := 370) X26 hx (hb hby at_354) rfl (by decide) rfl (fun hc354 => ?_) (fun hc354 => ?_)
                            · exact absurd w5 hc354
                            · refine go_dload (q := 359) X26 hx (hb hby at_357) rfl rfl ?_
                              refine go_ldc2D (q := 362) (v := (13740701229962882445 : UInt64)) X26 hx hZ hown (hw _ (List.mem_of_getElem? (i := 26) rfl)) (hb hby at_359) rfl ?_
                              refine go_dcmp (q := 363) X26 hx (hb hby at_362) rfl rfl ?_
                              refine go_if_le (q := 366) (q' := 370) X26 hx (hb hby at_363) rfl (by decide) rfl (fun hc363 => ?_) (fun hc363 => ?_)
                              · exact absurd w6 hc363
                              · refine go_iconst (q := 367) (v := (1 : Int32)) X26 hx (hb hby at_366) rfl rfl ?_
                                refine go_goto (q := 371) X26 hx (hb hby at_367) (by decide) rfl ?_
                                exact go_retN X26 hx (by simp) hret hlk (hb hby at_371) (by decide) (by decide) ⟨rfl, N26⟩
                          · exact absurd hc311 (by decide)
                        · exact absurd hc288 (by decide)
                      · exact absurd hc265 (by decide)
              · exact absurd hc150 (by decide)
            · exact absurd hc139 (by decide)
          · exact absurd hc128 (by decide)
  · refine go_iloadN (q := 90) X0 hx (hb hby at_89) rfl rfl ?_
    refine go_newP (q := 92) X0 hx hZ (hw _ (List.mem_of_getElem? (i := 0) rfl)) e0 (hb hby at_90) rfl (by decide) 4 (by decide) (by decide) (by decide) (by decide) (fun T27 h27 k_br br eb27 X27 e27 E27 V_br => ?_)
    have g_br : h0.size ≤ br := Nat.le_trans hsz (Nat.le_of_eq eb27.symm)
    replace hsz := Nat.le_trans hsz E27.1
    replace V_br : Arv Z h27 br k_br .boolean (4 : Int32) [(.int (0 : Int32)), (.int (0 : Int32)), (.int (0 : Int32)), (.int (0 : Int32))] (.int (0 : Int32)) := V_br.pad (pad_rep [] (.int (0 : Int32)) 4)
    refine go_astore (q := 94) (l' := #[.val (.int ln), .val (.int bt), .val (.int cn), .val (.int (4 : Int32)), .val (.int b0), .val (.int b1), .val (.int b2), .val (.int b3), .val (.int b4), .val (.int b5), .val (.ref br), .unset, .unset, .unset, .unset, .unset, .unset, .unset, .unset]) X27 hx (hb hby at_92) rfl rfl rfl ?_
    refine go_iloadN (q := 95) X27 hx (hb hby at_94) rfl rfl ?_
    refine go_if_le (q := 98) (q' := 104) X27 hx (hb hby at_95) rfl (by decide) rfl (fun hc95 => ?_) (fun hc95 => ?_)
    · exact absurd (by decide) hc95
    · refine go_aload (q := 100) X27 hx (hb hby at_98) rfl rfl rfl ?_
      refine go_iconst (q := 101) (v := (0 : Int32)) X27 hx (hb hby at_100) rfl rfl ?_
      refine go_iload (q := 103) X27 hx (hb hby at_101) rfl rfl ?_
      refine go_bastore (q := 104) X27 hx hZ e27 V_br ⟨by decide, by decide⟩ 0 rfl (Nat.le_of_ble_eq_true rfl) N0 g_br (hb hby at_103) rfl (fun T28 h28 l28 X28 N28 e28 W28 V28 => ?_)
      replace hsz := Nat.le_trans hsz (Nat.le_of_eq W28.size.symm)
      replace V_br : Arv Z h28 br k_br .boolean (4 : Int32) [(.int (nar .boolean b0)), (.int (0 : Int32)), (.int (0 : Int32)), (.int (0 : Int32))] (.int (0 : Int32)) := V28
      rw [own_nar hb0] at V_br
      refine go_iloadN (q := 105) X28 hx (hb hby at_104) rfl rfl ?_
      refine go_iconst (q := 106) (v := (1 : Int32)) X28 hx (hb hby at_105) rfl rfl ?_
      refine go_icmp_le (q := 109) (q' := 115) X28 hx (hb hby at_106) rfl (by decide) rfl (fun hc106 => ?_) (fun hc106 => ?_)
      · exact absurd (by decide) hc106
      · refine go_aload (q := 111) X28 hx (hb hby at_109) rfl rfl rfl ?_
        refine go_iconst (q := 112) (v := (1 : Int32)) X28 hx (hb hby at_111) rfl rfl ?_
        refine go_iload (q := 114) X28 hx (hb hby at_112) rfl rfl ?_
        refine go_bastore (q := 115) X28 hx hZ e28 V_br ⟨by decide, by decide⟩ 1 rfl (Nat.le_of_ble_eq_true rfl) N28 g_br (hb hby at_114) rfl (fun T29 h29 l29 X29 N29 e29 W29 V29 => ?_)
        replace hsz := Nat.le_trans hsz (Nat.le_of_eq W29.size.symm)
        replace V_br : Arv Z h29 br k_br .boolean (4 : Int32) [(.int b0), (.int (nar .boolean b1)), (.int (0 : Int32)), (.int (0 : Int32))] (.int (0 : Int32)) := V29
        rw [own_nar hb1] at V_br
        refine go_iloadN (q := 116) X29 hx (hb hby at_115) rfl rfl ?_
        refine go_iconst (q := 117) (v := (2 : Int32)) X29 hx (hb hby at_116) rfl rfl ?_
        refine go_icmp_le (q := 120) (q' := 126) X29 hx (hb hby at_117) rfl (by decide) rfl (fun hc117 => ?_) (fun hc117 => ?_)
        · exact absurd (by decide) hc117
        · refine go_aload (q := 122) X29 hx (hb hby at_120) rfl rfl rfl ?_
          refine go_iconst (q := 123) (v := (2 : Int32)) X29 hx (hb hby at_122) rfl rfl ?_
          refine go_iload (q := 125) X29 hx (hb hby at_123) rfl rfl ?_
          refine go_bastore (q := 126) X29 hx hZ e29 V_br ⟨by decide, by decide⟩ 2 rfl (Nat.le_of_ble_eq_true rfl) N29 g_br (hb hby at_125) rfl (fun T30 h30 l30 X30 N30 e30 W30 V30 => ?_)
          replace hsz := Nat.le_trans hsz (Nat.le_of_eq W30.size.symm)
          replace V_br : Arv Z h30 br k_br .boolean (4 : Int32) [(.int b0), (.int b1), (.int (nar .boolean b2)), (.int (0 : Int32))] (.int (0 : Int32)) := V30
          rw [own_nar hb2] at V_br
          refine go_iloadN (q := 127) X30 hx (hb hby at_126) rfl rfl ?_
          refine go_iconst (q := 128) (v := (3 : Int32)) X30 hx (hb hby at_127) rfl rfl ?_
          refine go_icmp_le (q := 131) (q' := 137) X30 hx (hb hby at_128) rfl (by decide) rfl (fun hc128 => ?_) (fun hc128 => ?_)
          · exact absurd (by decide) hc128
          · refine go_aload (q := 133) X30 hx (hb hby at_131) rfl rfl rfl ?_
            refine go_iconst (q := 134) (v := (3 : Int32)) X30 hx (hb hby at_133) rfl rfl ?_
            refine go_iload (q := 136) X30 hx (hb hby at_134) rfl rfl ?_
            refine go_bastore (q := 137) X30 hx hZ e30 V_br ⟨by decide, by decide⟩ 3 rfl (Nat.le_of_ble_eq_true rfl) N30 g_br (hb hby at_136) rfl (fun T31 h31 l31 X31 N31 e31 W31 V31 => ?_)
            replace hsz := Nat.le_trans hsz (Nat.le_of_eq W31.size.symm)
            replace V_br : Arv Z h31 br k_br .boolean (4 : Int32) [(.int b0), (.int b1), (.int b2), (.int (nar .boolean b3))] (.int (0 : Int32)) := V31
            rw [own_nar hb3] at V_br
            refine go_iloadN (q := 138) X31 hx (hb hby at_137) rfl rfl ?_
            refine go_iconst (q := 139) (v := (4 : Int32)) X31 hx (hb hby at_138) rfl rfl ?_
            refine go_icmp_le (q := 142) (q' := 148) X31 hx (hb hby at_139) rfl (by decide) rfl (fun hc139 => ?_) (fun hc139 => ?_)
            · refine go_iloadN (q := 149) X31 hx (hb hby at_148) rfl rfl ?_
              refine go_iconst (q := 150) (v := (5 : Int32)) X31 hx (hb hby at_149) rfl rfl ?_
              refine go_icmp_le (q := 153) (q' := 159) X31 hx (hb hby at_150) rfl (by decide) rfl (fun hc150 => ?_) (fun hc150 => ?_)
              · refine go_iconst (q := 160) (v := (1 : Int32)) X31 hx (hb hby at_159) rfl rfl ?_
                refine go_iloadN (q := 161) X31 hx (hb hby at_160) rfl rfl ?_
                refine go_ldcI (q := 163) (v := (2147483647 : Int32)) X31 hx hZ hown (hw _ (List.mem_of_getElem? (i := 1) rfl)) (hb hby at_161) rfl ?_
                refine go_iand (q := 164) (v := (cn &&& (2147483647 : Int32))) X31 hx (hb hby at_163) rfl rfl ?_
                refine go_callS (q := 167) (W := 0) X31 hx hZ hown e31 (hw _ (List.mem_of_getElem? (i := 2) rfl)) (hw _ (List.mem_of_getElem? (i := 3) rfl)) (hw _ (List.mem_of_getElem? (i := 4) rfl)) (hw _ (List.mem_of_getElem? (i := 5) rfl)) (by decide) [(.int (1 : Int32)), (.int (cn &&& (2147483647 : Int32)))] [] (rm1 l Z a0 hw [] (1 : Int32) (cn &&& (2147483647 : Int32)) h31) (by rw [hml]; rfl) rfl (lenOf pd_0 rfl) (Nat.le_of_eq rfl) (by decide) (by decide) (hb hby at_164) rfl (by decide) (by decide) ?_
                rintro T32 L32 v32 X32 ⟨Np32, rfl, e32⟩
                have N32 := Fr.app N31 (Np32 _)
                show Go p e below s (fun v h L => v = some (.int (1 : Int32)) ∧ Fr h0.size L) room_1.cells room_1.slots T32 (mkF m 167 #[.val (.int ln), .val (.int bt), .val (.int cn), .val (.int (4 : Int32)), .val (.int b0), .val (.int b1), .val (.int b2), .val (.int b3), .val (.int b4), .val (.int b5), .val (.ref br), .unset, .unset, .unset, .unset, .unset, .unset, .unset, .unset] [(.int (if (1 : Int32) < (cn &&& (2147483647 : Int32)) then (cn &&& (2147483647 : Int32)) else (1 : Int32)))])
                suffices Hrc : ∀ rc : Int32, rc = (if (1 : Int32) < (cn &&& (2147483647 : Int32)) then (cn &&& (2147483647 : Int32)) else (1 : Int32)) → Go p e below s (fun v h L => v = some (.int (1 : Int32)) ∧ Fr h0.size L) room_1.cells room_1.slots T32 (mkF m 167 #[.val (.int ln), .val (.int bt), .val (.int cn), .val (.int (4 : Int32)), .val (.int b0), .val (.int b1), .val (.int b2), .val (.int b3), .val (.int b4), .val (.int b5), .val (.ref br), .unset, .unset, .unset, .unset, .unset, .unset, .unset, .unset] [(.int rc)]) from Hrc _ rfl
                intro rc erc
                have hrc : ¬ rc < 1 := by rw [erc]; exact own_max _
                refine go_istore (q := 169) (l' := #[.val (.int ln), .val (.int bt), .val (.int cn), .val (.int (4 : Int32)), .val (.int b0), .val (.int b1), .val (.int b2), .val (.int b3), .val (.int b4), .val (.int b5), .val (.ref br), .val (.int rc), .unset, .unset, .unset, .unset, .unset, .unset, .unset]) X32 hx (hb hby at_167) rfl rfl ?_
                refine go_newO (q := 172) X32 hx hZ hown (hw _ (List.mem_of_getElem? (i := 6) rfl)) (hw _ (List.mem_of_getElem? (i := 7) rfl)) (hw _ (List.mem_of_getElem? (i := 8) rfl)) e32 (hb hby at_169) rfl (by decide) (by decide) (fun T33 h33 bo eb33 X33 e33 E33 A33 D33 => ?_)
                have g_bo : h0.size ≤ bo := Nat.le_trans hsz (Nat.le_of_eq eb33.symm)
                have ne_br_bo : br ≠ bo := Nat.ne_of_lt (Nat.lt_of_lt_of_eq V_br.lt eb33.symm)
                replace V_br := V_br.ext E33
                replace hsz := Nat.le_trans hsz E33.1
                have E_bo := A33
                have F_relevant_bo : Fld Z h33 bo "com/example/forager/forager/eval/Ranking" "relevant" "[Z" .null := D33 (Or.inr (hw _ (List.mem_of_getElem? (i := 16) rfl))) (ty := (.array .boolean)) (by decide)
                have F_relevantCount_bo : Fld Z h33 bo "com/example/forager/forager/eval/Ranking" "relevantCount" "I" (.int (0 : Int32)) := D33 (Or.inr (hw _ (List.mem_of_getElem? (i := 18) rfl))) (ty := .int) (by decide)
                refine go_dup (q := 173) X33 hx (hb hby at_172) rfl rfl ?_
                refine go_aload (q := 175) X33 hx (hb hby at_173) rfl rfl rfl ?_
                refine go_iload (q := 177) X33 hx (hb hby at_175) rfl rfl ?_
                refine go_callI (q := 180) (W := 1) X33 hx hZ hown e33 rfl (hw _ (List.mem_of_getElem? (i := 9) rfl)) (hw _ (List.mem_of_getElem? (i := 10) rfl)) (hw _ (List.mem_of_getElem? (i := 8) rfl)) (hw _ (List.mem_of_getElem? (i := 11) rfl)) (by decide) bo [(.ref br), (.int rc)] [(.ref bo)] (rm2 l Z a0 hw [] bo br rc h0.size _ _ h33 hsz g_bo E_bo F_relevant_bo F_relevantCount_bo hrc) (by rw [hml]; rfl) rfl (lenOf pd_1 rfl) (Nat.le_of_eq rfl) (by decide) (by decide) (hb hby at_177) rfl (by decide) (by decide) ?_
                rintro T34 L34 v34 X34 ⟨Nq34, rfl, K34, Fr_, Fc_⟩
                have N34 := Fr.app N32 Nq34
                replace V_br := V_br.keep K34 (ninS ne_br_bo nin0)
                replace E_bo := E_bo.keep K34
                replace hsz := Nat.le_trans hsz K34.1
                show Go p e below s (fun v h L => v = some (.int (1 : Int32)) ∧ Fr h0.size L) room_1.cells room_1.slots T34 (mkF m 180 #[.val (.int ln), .val (.int bt), .val (.int cn), .val (.int (4 : Int32)), .val (.int b0), .val (.int b1), .val (.int b2), .val (.int b3), .val (.int b4), .val (.int b5), .val (.ref br), .val (.int rc), .unset, .unset, .unset, .unset, .unset, .unset, .unset] [(.ref bo)])
                refine go_astore (q := 182) (l' := #[.val (.int ln), .val (.int bt), .val (.int cn), .val (.int (4 : Int32)), .val (.int b0), .val (.int b1), .val (.int b2), .val (.int b3), .val (.int b4), .val (.int b5), .val (.ref br), .val (.int rc), .val (.ref bo), .unset, .unset, .unset, .unset, .unset, .unset]) X34 hx (hb hby at_180) rfl rfl rfl ?_
                refine go_aload (q := 184) X34 hx (hb hby at_182) rfl rfl rfl ?_
                refine go_callV (q := 187) (W := 0) X34 hx hZ hown rfl (hw _ (List.mem_of_getElem? (i := 19) rfl)) (hw _ (List.mem_of_getElem? (i := 20) rfl)) (notFace_of_selects (args := #[]) (mvT hZ (hw _ (List.mem_of_getElem? (i := 22) rfl)))) (hw _ (List.mem_of_getElem? (i := 22) rfl)) (hw _ (List.mem_of_getElem? (i := 21) rfl)) (hw _ (List.mem_of_getElem? (i := 8) rfl)) (hw _ (List.mem_of_getElem? (i := 23) rfl)) (by decide) bo [] [] E_bo (rm4_4 l Z a0 hw [] bo h0.size br k_br _ rc b0 b1 b2 b3 T34.heap Fr_ Fc_ V_br hrc) (by rw [hml]; rfl) rfl (lenOf pd_2 rfl) (Nat.le_of_eq rfl) (by decide) (by decide) (hb hby at_184) rfl (by decide) (by decide) ?_
                rintro T35 L35 v35 X35 ⟨Nq35, rfl, e35⟩
                have N35 := Fr.app N34 Nq35
                show Go p e below s (fun v h L => v = some (.int (1 : Int32)) ∧ Fr h0.size L) room_1.cells room_1.slots T35 (mkF m 187 #[.val (.int ln), .val (.int bt), .val (.int cn), .val (.int (4 : Int32)), .val (.int b0), .val (.int b1), .val (.int b2), .val (.int b3), .val (.int b4), .val (.int b5), .val (.ref br), .val (.int rc), .val (.ref bo), .unset, .unset, .unset, .unset, .unset, .unset] [(.double (FP.ddiv (a6 b0 b1 b2 b3 (0 : Int32) (0 : Int32)).2 (FP.i2d rc)))])
                refine go_dstore (q := 189) (l' := #[.val (.int ln), .val (.int bt), .val (.int cn), .val (.int (4 : Int32)), .val (.int b0), .val (.int b1), .val (.int b2), .val (.int b3), .val (.int b4), .val (.int b5), .val (.ref br), .val (.int rc), .val (.ref bo), .val (.double (FP.ddiv (a6 b0 b1 b2 b3 (0 : Int32) (0 : Int32)).2 (FP.i2d rc))), .second, .unset, .unset, .unset, .unset]) X35 hx (hb hby at_187) rfl rfl ?_
                refine go_iconst (q := 190) (v := (0 : Int32)) X35 hx (hb hby at_189) rfl rfl ?_
                refine go_istore (q := 192) (l' := #[.val (.int ln), .val (.int bt), .val (.int cn), .val (.int (4 : Int32)), .val (.int b0), .val (.int b1), .val (.int b2), .val (.int b3), .val (.int b4), .val (.int b5), .val (.ref br), .val (.int rc), .val (.ref bo), .val (.double (FP.ddiv (a6 b0 b1 b2 b3 (0 : Int32) (0 : Int32)).2 (FP.i2d rc))), .second, .val (.int (0 : Int32)), .unset, .unset, .unset]) X35 hx (hb hby at_190) rfl rfl ?_
                refine go_iconst (q := 193) (v := (0 : Int32)) X35 hx (hb hby at_192) rfl rfl ?_
                refine go_istore (q := 195) (l' := #[.val (.int ln), .val (.int bt), .val (.int cn), .val (.int (4 : Int32)), .val (.int b0), .val (.int b1), .val (.int b2), .val (.int b3), .val (.int b4), .val (.int b5), .val (.ref br), .val (.int rc), .val (.ref bo), .val (.double (FP.ddiv (a6 b0 b1 b2 b3 (0 : Int32) (0 : Int32)).2 (FP.i2d rc))), .second, .val (.int (0 : Int32)), .val (.int (0 : Int32)), .unset, .unset]) X35 hx (hb hby at_193) rfl rfl ?_
                refine go_iloadN (q := 196) X35 hx (hb hby at_195) rfl rfl ?_
                refine go_if_le (q := 199) (q' := 217) X35 hx (hb hby at_196) rfl (by decide) rfl (fun hc196 => ?_) (fun hc196 => ?_)
                · exact absurd (by decide) hc196
                · refine go_iload (q := 201) X35 hx (hb hby at_199) rfl rfl ?_
                  suffices JF0 : ∀ f1 m1 : Int32, (f1, m1) = nt ((0 : Int32), (0 : Int32)) b0 (60 : Int32) → Go p e below s (fun v h L => v = some (.int (1 : Int32)) ∧ Fr h0.size L) room_1.cells room_1.slots T35 (mkF m 217 #[.val (.int ln), .val (.int bt), .val (.int cn), .val (.int (4 : Int32)), .val (.int b0), .val (.int b1), .val (.int b2), .val (.int b3), .val (.int b4), .val (.int b5), .val (.ref br), .val (.int rc), .val (.ref bo), .val (.double (FP.ddiv (a6 b0 b1 b2 b3 (0 : Int32) (0 : Int32)).2 (FP.i2d rc))), .second, .val (.int f1), .val (.int m1), .unset, .unset] []) by
                    refine go_if_eq (q := 204) (q' := 217) X35 hx (hb hby at_201) rfl (by decide) rfl (fun hz0 => ?_) (fun hz0 => ?_)
                    · exact JF0 _ _ (nt0 hz0).symm
                    · refine go_iinc (q := 207) (l' := #[.val (.int ln), .val (.int bt), .val (.int cn), .val (.int (4 : Int32)), .val (.int b0), .val (.int b1), .val (.int b2), .val (.int b3), .val (.int b4), .val (.int b5), .val (.ref br), .val (.int rc), .val (.ref bo), .val (.double (FP.ddiv (a6 b0 b1 b2 b3 (0 : Int32) (0 : Int32)).2 (FP.i2d rc))), .second, .val (.int (1 : Int32)), .val (.int (0 : Int32)), .unset, .unset]) X35 hx (hb hby at_204) rfl rfl rfl ?_
                      refine go_iload (q := 209) X35 hx (hb hby at_207) rfl rfl ?_
                      refine go_iload (q := 211) X35 hx (hb hby at_209) rfl rfl ?_
                      refine go_bipush (q := 213) (v := (60 : Int32)) X35 hx (hb hby at_211) rfl rfl ?_
                      refine go_imul (q := 214) (v := (60 : Int32)) X35 hx (hb hby at_213) rfl rfl ?_
                      refine go_iadd (q := 215) (v := (60 : Int32)) X35 hx (hb hby at_214) rfl rfl ?_
                      refine go_istore (q := 217) (l' := #[.val (.int ln), .val (.int bt), .val (.int cn), .val (.int (4 : Int32)), .val (.int b0), .val (.int b1), .val (.int b2), .val (.int b3), .val (.int b4), .val (.int b5), .val (.ref br), .val (.int rc), .val (.ref bo), .val (.double (FP.ddiv (a6 b0 b1 b2 b3 (0 : Int32) (0 : Int32)).2 (FP.i2d rc))), .second, .val (.int (1 : Int32)), .val (.int (60 : Int32)), .unset, .unset]) X35 hx (hb hby at_215) rfl rfl ?_
                      exact JF0 _ _ (nt1 (f := (0 : Int32)) (m := (0 : Int32)) (k := (60 : Int32)) hz0).symm
                  intro f1 m1 eM1
                  refine go_iloadN (q := 218) X35 hx (hb hby at_217) rfl rfl ?_
                  refine go_iconst (q := 219) (v := (1 : Int32)) X35 hx (hb hby at_218) rfl rfl ?_
                  refine go_icmp_le (q := 222) (q' := 240) X35 hx (hb hby at_219) rfl (by decide) rfl (fun hc219 => ?_) (fun hc219 => ?_)
                  · exact absurd (by decide) hc219
                  · refine go_iload (q := 224) X35 hx (hb hby at_222) rfl rfl ?_
                    suffices JF1 : ∀ f2 m2 : Int32, (f2, m2) = nt (f1, m1) b1 (30 : Int32) → Go p e below s (fun v h L => v = some (.int (1 : Int32)) ∧ Fr h0.size L) room_1.cells room_1.slots T35 (mkF m 240 #[.val (.int ln), .val (.int bt), .val (.int cn), .val (.int (4 : Int32)), .val (.int b0), .val (.int b1), .val (.int b2), .val (.int b3), .val (.int b4), .val (.int b5), .val (.ref br), .val (.int rc), .val (.ref bo), .val (.double (FP.ddiv (a6 b0 b1 b2 b3 (0 : Int32) (0 : Int32)).2 (FP.i2d rc))), .second, .val (.int f2), .val (.int m2), .unset, .unset] []) by
                      refine go_if_eq (q := 227) (q' := 240) X35 hx (hb hby at_224) rfl (by decide) rfl (fun hz1 => ?_) (fun hz1 => ?_)
                      · exact JF1 _ _ (nt0 hz1).symm
                      · refine go_iinc (q := 230) (l' := #[.val (.int ln), .val (.int bt), .val (.int cn), .val (.int (4 : Int32)), .val (.int b0), .val (.int b1), .val (.int b2), .val (.int b3), .val (.int b4), .val (.int b5), .val (.ref br), .val (.int rc), .val (.ref bo), .val (.double (FP.ddiv (a6 b0 b1 b2 b3 (0 : Int32) (0 : Int32)).2 (FP.i2d rc))), .second, .val (.int (f1 + (1 : Int32))), .val (.int m1), .unset, .unset]) X35 hx (hb hby at_227) rfl rfl rfl ?_
                        refine go_iload (q := 232) X35 hx (hb hby at_230) rfl rfl ?_
                        refine go_iload (q := 234) X35 hx (hb hby at_232) rfl rfl ?_
                        refine go_bipush (q := 236) (v := (30 : Int32)) X35 hx (hb hby at_234) rfl rfl ?_
                        refine go_imul (q := 237) (v := ((f1 + (1 : Int32)) * (30 : Int32))) X35 hx (hb hby at_236) rfl rfl ?_
                        refine go_iadd (q := 238) (v := (m1 + ((f1 + (1 : Int32)) * (30 : Int32)))) X35 hx (hb hby at_237) rfl rfl ?_
                        refine go_istore (q := 240) (l' := #[.val (.int ln), .val (.int bt), .val (.int cn), .val (.int (4 : Int32)), .val (.int b0), .val (.int b1), .val (.int b2), .val (.int b3), .val (.int b4), .val (.int b5), .val (.ref br), .val (.int rc), .val (.ref bo), .val (.double (FP.ddiv (a6 b0 b1 b2 b3 (0 : Int32) (0 : Int32)).2 (FP.i2d rc))), .second, .val (.int (f1 + (1 : Int32))), .val (.int (m1 + ((f1 + (1 : Int32)) * (30 : Int32)))), .unset, .unset]) X35 hx (hb hby at_238) rfl rfl ?_
                        exact JF1 _ _ (nt1 (f := f1) (m := m1) (k := (30 : Int32)) hz1).symm
                    intro f2 m2 eM2
                    refine go_iloadN (q := 241) X35 hx (hb hby at_240) rfl rfl ?_
                    refine go_iconst (q := 242) (v := (2 : Int32)) X35 hx (hb hby at_241) rfl rfl ?_
                    refine go_icmp_le (q := 245) (q' := 263) X35 hx (hb hby at_242) rfl (by decide) rfl (fun hc242 => ?_) (fun hc242 => ?_)
                    · exact absurd (by decide) hc242
                    · refine go_iload (q := 247) X35 hx (hb hby at_245) rfl rfl ?_
                      suffices JF2 : ∀ f3 m3 : Int32, (f3, m3) = nt (f2, m2) b2 (20 : Int32) → Go p e below s (fun v h L => v = some (.int (1 : Int32)) ∧ Fr h0.size L) room_1.cells room_1.slots T35 (mkF m 263 #[.val (.int ln), .val (.int bt), .val (.int cn), .val (.int (4 : Int32)), .val (.int b0), .val (.int b1), .val (.int b2), .val (.int b3), .val (.int b4), .val (.int b5), .val (.ref br), .val (.int rc), .val (.ref bo), .val (.double (FP.ddiv (a6 b0 b1 b2 b3 (0 : Int32) (0 : Int32)).2 (FP.i2d rc))), .second, .val (.int f3), .val (.int m3), .unset, .unset] []) by
                        refine go_if_eq (q := 250) (q' := 263) X35 hx (hb hby at_247) rfl (by decide) rfl (fun hz2 => ?_) (fun hz2 => ?_)
                        · exact JF2 _ _ (nt0 hz2).symm
                        · refine go_iinc (q := 253) (l' := #[.val (.int ln), .val (.int bt), .val (.int cn), .val (.int (4 : Int32)), .val (.int b0), .val (.int b1), .val (.int b2), .val (.int b3), .val (.int b4), .val (.int b5), .val (.ref br), .val (.int rc), .val (.ref bo), .val (.double (FP.ddiv (a6 b0 b1 b2 b3 (0 : Int32) (0 : Int32)).2 (FP.i2d rc))), .second, .val (.int (f2 + (1 : Int32))), .val (.int m2), .unset, .unset]) X35 hx (hb hby at_250) rfl rfl rfl ?_
                          refine go_iload (q := 255) X35 hx (hb hby at_253) rfl rfl ?_
                          refine go_iload (q := 257) X35 hx (hb hby at_255) rfl rfl ?_
                          refine go_bipush (q := 259) (v := (20 : Int32)) X35 hx (hb hby at_257) rfl rfl ?_
                          refine go_imul (q := 260) (v := ((f2 + (1 : Int32)) * (20 : Int32))) X35 hx (hb hby at_259) rfl rfl ?_
                          refine go_iadd (q := 261) (v := (m2 + ((f2 + (1 : Int32)) * (20 : Int32)))) X35 hx (hb hby at_260) rfl rfl ?_
                          refine go_istore (q := 263) (l' := #[.val (.int ln), .val (.int bt), .val (.int cn), .val (.int (4 : Int32)), .val (.int b0), .val (.int b1), .val (.int b2), .val (.int b3), .val (.int b4), .val (.int b5), .val (.ref br), .val (.int rc), .val (.ref bo), .val (.double (FP.ddiv (a6 b0 b1 b2 b3 (0 : Int32) (0 : Int32)).2 (FP.i2d rc))), .second, .val (.int (f2 + (1 : Int32))), .val (.int (m2 + ((f2 + (1 : Int32)) * (20 : Int32)))), .unset, .unset]) X35 hx (hb hby at_261) rfl rfl ?_
                          exact JF2 _ _ (nt1 (f := f2) (m := m2) (k := (20 : Int32)) hz2).symm
                      intro f3 m3 eM3
                      refine go_iloadN (q := 264) X35 hx (hb hby at_263) rfl rfl ?_
                      refine go_iconst (q := 265) (v := (3 : Int32)) X35 hx (hb hby at_264) rfl rfl ?_
                      refine go_icmp_le (q := 268) (q' := 286) X35 hx (hb hby at_265) rfl (by decide) rfl (fun hc265 => ?_) (fun hc265 => ?_)
                      · exact absurd (by decide) hc265
                      · refine go_iload (q := 270) X35 hx (hb hby at_268) rfl rfl ?_
                        suffices JF3 : ∀ f4 m4 : Int32, (f4, m4) = nt (f3, m3) b3 (15 : Int32) → Go p e below s (fun v h L => v = some (.int (1 : Int32)) ∧ Fr h0.size L) room_1.cells room_1.slots T35 (mkF m 286 #[.val (.int ln), .val (.int bt), .val (.int cn), .val (.int (4 : Int32)), .val (.int b0), .val (.int b1), .val (.int b2), .val (.int b3), .val (.int b4), .val (.int b5), .val (.ref br), .val (.int rc), .val (.ref bo), .val (.double (FP.ddiv (a6 b0 b1 b2 b3 (0 : Int32) (0 : Int32)).2 (FP.i2d rc))), .second, .val (.int f4), .val (.int m4), .unset, .unset] []) by
                          refine go_if_eq (q := 273) (q' := 286) X35 hx (hb hby at_270) rfl (by decide) rfl (fun hz3 => ?_) (fun hz3 => ?_)
                          · exact JF3 _ _ (nt0 hz3).symm
                          · refine go_iinc (q := 276) (l' := #[.val (.int ln), .val (.int bt), .val (.int cn), .val (.int (4 : Int32)), .val (.int b0), .val (.int b1), .val (.int b2), .val (.int b3), .val (.int b4), .val (.int b5), .val (.ref br), .val (.int rc), .val (.ref bo), .val (.double (FP.ddiv (a6 b0 b1 b2 b3 (0 : Int32) (0 : Int32)).2 (FP.i2d rc))), .second, .val (.int (f3 + (1 : Int32))), .val (.int m3), .unset, .unset]) X35 hx (hb hby at_273) rfl rfl rfl ?_
                            refine go_iload (q := 278) X35 hx (hb hby at_276) rfl rfl ?_
                            refine go_iload (q := 280) X35 hx (hb hby at_278) rfl rfl ?_
                            refine go_bipush (q := 282) (v := (15 : Int32)) X35 hx (hb hby at_280) rfl rfl ?_
                            refine go_imul (q := 283) (v := ((f3 + (1 : Int32)) * (15 : Int32))) X35 hx (hb hby at_282) rfl rfl ?_
                            refine go_iadd (q := 284) (v := (m3 + ((f3 + (1 : Int32)) * (15 : Int32)))) X35 hx (hb hby at_283) rfl rfl ?_
                            refine go_istore (q := 286) (l' := #[.val (.int ln), .val (.int bt), .val (.int cn), .val (.int (4 : Int32)), .val (.int b0), .val (.int b1), .val (.int b2), .val (.int b3), .val (.int b4), .val (.int b5), .val (.ref br), .val (.int rc), .val (.ref bo), .val (.double (FP.ddiv (a6 b0 b1 b2 b3 (0 : Int32) (0 : Int32)).2 (FP.i2d rc))), .second, .val (.int (f3 + (1 : Int32))), .val (.int (m3 + ((f3 + (1 : Int32)) * (15 : Int32)))), .unset, .unset]) X35 hx (hb hby at_284) rfl rfl ?_
                            exact JF3 _ _ (nt1 (f := f3) (m := m3) (k := (15 : Int32)) hz3).symm
                        intro f4 m4 eM4
                        refine go_iloadN (q := 287) X35 hx (hb hby at_286) rfl rfl ?_
                        refine go_iconst (q := 288) (v := (4 : Int32)) X35 hx (hb hby at_287) rfl rfl ?_
                        refine go_icmp_le (q := 291) (q' := 309) X35 hx (hb hby at_288) rfl (by decide) rfl (fun hc288 => ?_) (fun hc288 => ?_)
                        · refine go_iloadN (q := 310) X35 hx (hb hby at_309) rfl rfl ?_
                          refine go_iconst (q := 311) (v := (5 : Int32)) X35 hx (hb hby at_310) rfl rfl ?_
                          refine go_icmp_le (q := 314) (q' := 332) X35 hx (hb hby at_311) rfl (by decide) rfl (fun hc311 => ?_) (fun hc311 => ?_)
                          · have hM : (f4, m4) = (n6 b0 b1 b2 b3 (0 : Int32) (0 : Int32)) := by rw [eM4, eM3, eM2, eM1]; simp only [n6, nt0z]
                            have hok : okS (a6 b0 b1 b2 b3 (0 : Int32) (0 : Int32)).2 m4 = true := by rw [show m4 = (n6 b0 b1 b2 b3 (0 : Int32) (0 : Int32)).2 from congrArg Prod.snd hM]; exact ok_bits hb0 hb1 hb2 hb3 (Or.inl rfl) (Or.inl rfl)
                            obtain ⟨w1, w2, w3, w4, w5, w6⟩ := ap_law hok hrc
                            refine go_dload (q := 334) X35 hx (hb hby at_332) rfl rfl ?_
                            refine go_ldc2D (q := 337) (v := (4633641066610819072 : UInt64)) X35 hx hZ hown (hw _ (List.mem_of_getElem? (i := 24) rfl)) (hb hby at_334) rfl ?_
                            refine go_iload (q := 339) X35 hx (hb hby at_337) rfl rfl ?_
                            refine go_i2d (q := 340) X35 hx (hb hby at_339) rfl rfl ?_
                            refine go_dmul (q := 341) X35 hx (hb hby at_340) rfl w2 rfl ?_
                            refine go_dmul (q := 342) X35 hx (hb hby at_341) rfl w3 rfl ?_
                            refine go_iload (q := 344) X35 hx (hb hby at_342) rfl rfl ?_
                            refine go_i2d (q := 345) X35 hx (hb hby at_344) rfl rfl ?_
                            refine go_dsub (q := 346) X35 hx (hb hby at_345) rfl w4 rfl ?_
                            refine go_dstore (q := 348) (l' := #[.val (.int ln), .val (.int bt), .val (.int cn), .val (.int (4 : Int32)), .val (.int b0), .val (.int b1), .val (.int b2), .val (.int b3), .val (.int b4), .val (.int b5), .val (.ref br), .val (.int rc), .val (.ref bo), .val (.double (FP.ddiv (a6 b0 b1 b2 b3 (0 : Int32) (0 : Int32)).2 (FP.i2d rc))), .second, .val (.int f4), .val (.int m4), .val (.double (FP.dsub (FP.dmul (FP.ddiv (a6 b0 b1 b2 b3 (0 : Int32) (0 : Int32)).2 (FP.i2d rc)) (FP.dmul (4633641066610819072 : UInt64) (FP.i2d rc))) (FP.i2d m4))), .second]) X35 hx (hb hby at_346) rfl rfl ?_
                            refine go_dload (q := 350) X35 hx (hb hby at_348) rfl rfl ?_
                            refine go_ldc2D (q := 353) (v := (4517329193108106637 : UInt64)) X35 hx hZ hown (hw _ (List.mem_of_getElem? (i := 25) rfl)) (hb hby at_350) rfl ?_
                            refine go_dcmp (q := 354) X35 hx (hb hby at_353) rfl rfl ?_
                            refine go_if_ge (q := 357) (q' := 370) X35 hx (hb hby at_354) rfl (by decide) rfl (fun hc354 => ?_) (fun hc354 => ?_)
                            · exact absurd w5 hc354
                            · refine go_dload (q := 359) X35 hx (hb hby at_357) rfl rfl ?_
                              refine go_ldc2D (q := 362) (v := (13740701229962882445 : UInt64)) X35 hx hZ hown (hw _ (List.mem_of_getElem? (i := 26) rfl)) (hb hby at_359) rfl ?_
                              refine go_dcmp (q := 363) X35 hx (hb hby at_362) rfl rfl ?_
                              refine go_if_le (q := 366) (q' := 370) X35 hx (hb hby at_363) rfl (by decide) rfl (fun hc363 => ?_) (fun hc363 => ?_)
                              · exact absurd w6 hc363
                              · refine go_iconst (q := 367) (v := (1 : Int32)) X35 hx (hb hby at_366) rfl rfl ?_
                                refine go_goto (q := 371) X35 hx (hb hby at_367) (by decide) rfl ?_
                                exact go_retN X35 hx (by simp) hret hlk (hb hby at_371) (by decide) (by decide) ⟨rfl, N35⟩
                          · exact absurd hc311 (by decide)
                        · exact absurd hc288 (by decide)
              · exact absurd hc150 (by decide)
            · exact absurd hc139 (by decide)
  · refine go_iloadN (q := 90) X0 hx (hb hby at_89) rfl rfl ?_
    refine go_newP (q := 92) X0 hx hZ (hw _ (List.mem_of_getElem? (i := 0) rfl)) e0 (hb hby at_90) rfl (by decide) 5 (by decide) (by decide) (by decide) (by decide) (fun T36 h36 k_br br eb36 X36 e36 E36 V_br => ?_)
    have g_br : h0.size ≤ br := Nat.le_trans hsz (Nat.le_of_eq eb36.symm)
    replace hsz := Nat.le_trans hsz E36.1
    replace V_br : Arv Z h36 br k_br .boolean (5 : Int32) [(.int (0 : Int32)), (.int (0 : Int32)), (.int (0 : Int32)), (.int (0 : Int32)), (.int (0 : Int32))] (.int (0 : Int32)) := V_br.pad (pad_rep [] (.int (0 : Int32)) 5)
    refine go_astore (q := 94) (l' := #[.val (.int ln), .val (.int bt), .val (.int cn), .val (.int (5 : Int32)), .val (.int b0), .val (.int b1), .val (.int b2), .val (.int b3), .val (.int b4), .val (.int b5), .val (.ref br), .unset, .unset, .unset, .unset, .unset, .unset, .unset, .unset]) X36 hx (hb hby at_92) rfl rfl rfl ?_
    refine go_iloadN (q := 95) X36 hx (hb hby at_94) rfl rfl ?_
    refine go_if_le (q := 98) (q' := 104) X36 hx (hb hby at_95) rfl (by decide) rfl (fun hc95 => ?_) (fun hc95 => ?_)
    · exact absurd (by decide) hc95
    · refine go_aload (q := 100) X36 hx (hb hby at_98) rfl rfl rfl ?_
      refine go_iconst (q := 101) (v := (0 : Int32)) X36 hx (hb hby at_100) rfl rfl ?_
      refine go_iload (q := 103) X36 hx (hb hby at_101) rfl rfl ?_
      refine go_bastore (q := 104) X36 hx hZ e36 V_br ⟨by decide, by decide⟩ 0 rfl (Nat.le_of_ble_eq_true rfl) N0 g_br (hb hby at_103) rfl (fun T37 h37 l37 X37 N37 e37 W37 V37 => ?_)
      replace hsz := Nat.le_trans hsz (Nat.le_of_eq W37.size.symm)
      replace V_br : Arv Z h37 br k_br .boolean (5 : Int32) [(.int (nar .boolean b0)), (.int (0 : Int32)), (.int (0 : Int32)), (.int (0 : Int32)), (.int (0 : Int32))] (.int (0 : Int32)) := V37
      rw [own_nar hb0] at V_br
      refine go_iloadN (q := 105) X37 hx (hb hby at_104) rfl rfl ?_
      refine go_iconst (q := 106) (v := (1 : Int32)) X37 hx (hb hby at_105) rfl rfl ?_
      refine go_icmp_le (q := 109) (q' := 115) X37 hx (hb hby at_106) rfl (by decide) rfl (fun hc106 => ?_) (fun hc106 => ?_)
      · exact absurd (by decide) hc106
      · refine go_aload (q := 111) X37 hx (hb hby at_109) rfl rfl rfl ?_
        refine go_iconst (q := 112) (v := (1 : Int32)) X37 hx (hb hby at_111) rfl rfl ?_
        refine go_iload (q := 114) X37 hx (hb hby at_112) rfl rfl ?_
        refine go_bastore (q := 115) X37 hx hZ e37 V_br ⟨by decide, by decide⟩ 1 rfl (Nat.le_of_ble_eq_true rfl) N37 g_br (hb hby at_114) rfl (fun T38 h38 l38 X38 N38 e38 W38 V38 => ?_)
        replace hsz := Nat.le_trans hsz (Nat.le_of_eq W38.size.symm)
        replace V_br : Arv Z h38 br k_br .boolean (5 : Int32) [(.int b0), (.int (nar .boolean b1)), (.int (0 : Int32)), (.int (0 : Int32)), (.int (0 : Int32))] (.int (0 : Int32)) := V38
        rw [own_nar hb1] at V_br
        refine go_iloadN (q := 116) X38 hx (hb hby at_115) rfl rfl ?_
        refine go_iconst (q := 117) (v := (2 : Int32)) X38 hx (hb hby at_116) rfl rfl ?_
        refine go_icmp_le (q := 120) (q' := 126) X38 hx (hb hby at_117) rfl (by decide) rfl (fun hc117 => ?_) (fun hc117 => ?_)
        · exact absurd (by decide) hc117
        · refine go_aload (q := 122) X38 hx (hb hby at_120) rfl rfl rfl ?_
          refine go_iconst (q := 123) (v := (2 : Int32)) X38 hx (hb hby at_122) rfl rfl ?_
          refine go_iload (q := 125) X38 hx (hb hby at_123) rfl rfl ?_
          refine go_bastore (q := 126) X38 hx hZ e38 V_br ⟨by decide, by decide⟩ 2 rfl (Nat.le_of_ble_eq_true rfl) N38 g_br (hb hby at_125) rfl (fun T39 h39 l39 X39 N39 e39 W39 V39 => ?_)
          replace hsz := Nat.le_trans hsz (Nat.le_of_eq W39.size.symm)
          replace V_br : Arv Z h39 br k_br .boolean (5 : Int32) [(.int b0), (.int b1), (.int (nar .boolean b2)), (.int (0 : Int32)), (.int (0 : Int32))] (.int (0 : Int32)) := V39
          rw [own_nar hb2] at V_br
          refine go_iloadN (q := 127) X39 hx (hb hby at_126) rfl rfl ?_
          refine go_iconst (q := 128) (v := (3 : Int32)) X39 hx (hb hby at_127) rfl rfl ?_
          refine go_icmp_le (q := 131) (q' := 137) X39 hx (hb hby at_128) rfl (by decide) rfl (fun hc128 => ?_) (fun hc128 => ?_)
          · exact absurd (by decide) hc128
          · refine go_aload (q := 133) X39 hx (hb hby at_131) rfl rfl rfl ?_
            refine go_iconst (q := 134) (v := (3 : Int32)) X39 hx (hb hby at_133) rfl rfl ?_
            refine go_iload (q := 136) X39 hx (hb hby at_134) rfl rfl ?_
            refine go_bastore (q := 137) X39 hx hZ e39 V_br ⟨by decide, by decide⟩ 3 rfl (Nat.le_of_ble_eq_true rfl) N39 g_br (hb hby at_136) rfl (fun T40 h40 l40 X40 N40 e40 W40 V40 => ?_)
            replace hsz := Nat.le_trans hsz (Nat.le_of_eq W40.size.symm)
            replace V_br : Arv Z h40 br k_br .boolean (5 : Int32) [(.int b0), (.int b1), (.int b2), (.int (nar .boolean b3)), (.int (0 : Int32))] (.int (0 : Int32)) := V40
            rw [own_nar hb3] at V_br
            refine go_iloadN (q := 138) X40 hx (hb hby at_137) rfl rfl ?_
            refine go_iconst (q := 139) (v := (4 : Int32)) X40 hx (hb hby at_138) rfl rfl ?_
            refine go_icmp_le (q := 142) (q' := 148) X40 hx (hb hby at_139) rfl (by decide) rfl (fun hc139 => ?_) (fun hc139 => ?_)
            · exact absurd (by decide) hc139
            · refine go_aload (q := 144) X40 hx (hb hby at_142) rfl rfl rfl ?_
              refine go_iconst (q := 145) (v := (4 : Int32)) X40 hx (hb hby at_144) rfl rfl ?_
              refine go_iload (q := 147) X40 hx (hb hby at_145) rfl rfl ?_
              refine go_bastore (q := 148) X40 hx hZ e40 V_br ⟨by decide, by decide⟩ 4 rfl (Nat.le_of_ble_eq_true rfl) N40 g_br (hb hby at_147) rfl (fun T41 h41 l41 X41 N41 e41 W41 V41 => ?_)
              replace hsz := Nat.le_trans hsz (Nat.le_of_eq W41.size.symm)
              replace V_br : Arv Z h41 br k_br .boolean (5 : Int32) [(.int b0), (.int b1), (.int b2), (.int b3), (.int (nar .boolean b4))] (.int (0 : Int32)) := V41
              rw [own_nar hb4] at V_br
              refine go_iloadN (q := 149) X41 hx (hb hby at_148) rfl rfl ?_
              refine go_iconst (q := 150) (v := (5 : Int32)) X41 hx (hb hby at_149) rfl rfl ?_
              refine go_icmp_le (q := 153) (q' := 159) X41 hx (hb hby at_150) rfl (by decide) rfl (fun hc150 => ?_) (fun hc150 => ?_)
              · refine go_iconst (q := 160) (v := (1 : Int32)) X41 hx (hb hby at_159) rfl rfl ?_
                refine go_iloadN (q := 161) X41 hx (hb hby at_160) rfl rfl ?_
                refine go_ldcI (q := 163) (v := (2147483647 : Int32)) X41 hx hZ hown (hw _ (List.mem_of_getElem? (i := 1) rfl)) (hb hby at_161) rfl ?_
                refine go_iand (q := 164) (v := (cn &&& (2147483647 : Int32))) X41 hx (hb hby at_163) rfl rfl ?_
                refine go_callS (q := 167) (W := 0) X41 hx hZ hown e41 (hw _ (List.mem_of_getElem? (i := 2) rfl)) (hw _ (List.mem_of_getElem? (i := 3) rfl)) (hw _ (List.mem_of_getElem? (i := 4) rfl)) (hw _ (List.mem_of_getElem? (i := 5) rfl)) (by decide) [(.int (1 : Int32)), (.int (cn &&& (2147483647 : Int32)))] [] (rm1 l Z a0 hw [] (1 : Int32) (cn &&& (2147483647 : Int32)) h41) (by rw [hml]; rfl) rfl (lenOf pd_0 rfl) (Nat.le_of_eq rfl) (by decide) (by decide) (hb hby at_164) rfl (by decide) (by decide) ?_
                rintro T42 L42 v42 X42 ⟨Np42, rfl, e42⟩
                have N42 := Fr.app N41 (Np42 _)
                show Go p e below s (fun v h L => v = some (.int (1 : Int32)) ∧ Fr h0.size L) room_1.cells room_1.slots T42 (mkF m 167 #[.val (.int ln), .val (.int bt), .val (.int cn), .val (.int (5 : Int32)), .val (.int b0), .val (.int b1), .val (.int b2), .val (.int b3), .val (.int b4), .val (.int b5), .val (.ref br), .unset, .unset, .unset, .unset, .unset, .unset, .unset, .unset] [(.int (if (1 : Int32) < (cn &&& (2147483647 : Int32)) then (cn &&& (2147483647 : Int32)) else (1 : Int32)))])
                suffices Hrc : ∀ rc : Int32, rc = (if (1 : Int32) < (cn &&& (2147483647 : Int32)) then (cn &&& (2147483647 : Int32)) else (1 : Int32)) → Go p e below s (fun v h L => v = some (.int (1 : Int32)) ∧ Fr h0.size L) room_1.cells room_1.slots T42 (mkF m 167 #[.val (.int ln), .val (.int bt), .val (.int cn), .val (.int (5 : Int32)), .val (.int b0), .val (.int b1), .val (.int b2), .val (.int b3), .val (.int b4), .val (.int b5), .val (.ref br), .unset, .unset, .unset, .unset, .unset, .unset, .unset, .unset] [(.int rc)]) from Hrc _ rfl
                intro rc erc
                have hrc : ¬ rc < 1 := by rw [erc]; exact own_max _
                refine go_istore (q := 169) (l' := #[.val (.int ln), .val (.int bt), .val (.int cn), .val (.int (5 : Int32)), .val (.int b0), .val (.int b1), .val (.int b2), .val (.int b3), .val (.int b4), .val (.int b5), .val (.ref br), .val (.int rc), .unset, .unset, .unset, .unset, .unset, .unset, .unset]) X42 hx (hb hby at_167) rfl rfl ?_
                refine go_newO (q := 172) X42 hx hZ hown (hw _ (List.mem_of_getElem? (i := 6) rfl)) (hw _ (List.mem_of_getElem? (i := 7) rfl)) (hw _ (List.mem_of_getElem? (i := 8) rfl)) e42 (hb hby at_169) rfl (by decide) (by decide) (fun T43 h43 bo eb43 X43 e43 E43 A43 D43 => ?_)
                have g_bo : h0.size ≤ bo := Nat.le_trans hsz (Nat.le_of_eq eb43.symm)
                have ne_br_bo : br ≠ bo := Nat.ne_of_lt (Nat.lt_of_lt_of_eq V_br.lt eb43.symm)
                replace V_br := V_br.ext E43
                replace hsz := Nat.le_trans hsz E43.1
                have E_bo := A43
                have F_relevant_bo : Fld Z h43 bo "com/example/forager/forager/eval/Ranking" "relevant" "[Z" .null := D43 (Or.inr (hw _ (List.mem_of_getElem? (i := 16) rfl))) (ty := (.array .boolean)) (by decide)
                have F_relevantCount_bo : Fld Z h43 bo "com/example/forager/forager/eval/Ranking" "relevantCount" "I" (.int (0 : Int32)) := D43 (Or.inr (hw _ (List.mem_of_getElem? (i := 18) rfl))) (ty := .int) (by decide)
                refine go_dup (q := 173) X43 hx (hb hby at_172) rfl rfl ?_
                refine go_aload (q := 175) X43 hx (hb hby at_173) rfl rfl rfl ?_
                refine go_iload (q := 177) X43 hx (hb hby at_175) rfl rfl ?_
                refine go_callI (q := 180) (W := 1) X43 hx hZ hown e43 rfl (hw _ (List.mem_of_getElem? (i := 9) rfl)) (hw _ (List.mem_of_getElem? (i := 10) rfl)) (hw _ (List.mem_of_getElem? (i := 8) rfl)) (hw _ (List.mem_of_getElem? (i := 11) rfl)) (by decide) bo [(.ref br), (.int rc)] [(.ref bo)] (rm2 l Z a0 hw [] bo br rc h0.size _ _ h43 hsz g_bo E_bo F_relevant_bo F_relevantCount_bo hrc) (by rw [hml]; rfl) rfl (lenOf pd_1 rfl) (Nat.le_of_eq rfl) (by decide) (by decide) (hb hby at_177) rfl (by decide) (by decide) ?_
                rintro T44 L44 v44 X44 ⟨Nq44, rfl, K44, Fr_, Fc_⟩
                have N44 := Fr.app N42 Nq44
                replace V_br := V_br.keep K44 (ninS ne_br_bo nin0)
                replace E_bo := E_bo.keep K44
                replace hsz := Nat.le_trans hsz K44.1
                show Go p e below s (fun v h L => v = some (.int (1 : Int32)) ∧ Fr h0.size L) room_1.cells room_1.slots T44 (mkF m 180 #[.val (.int ln), .val (.int bt), .val (.int cn), .val (.int (5 : Int32)), .val (.int b0), .val (.int b1), .val (.int b2), .val (.int b3), .val (.int b4), .val (.int b5), .val (.ref br), .val (.int rc), .unset, .unset, .unset, .unset, .unset, .unset, .unset] [(.ref bo)])
                refine go_astore (q := 182) (l' := #[.val (.int ln), .val (.int bt), .val (.int cn), .val (.int (5 : Int32)), .val (.int b0), .val (.int b1), .val (.int b2), .val (.int b3), .val (.int b4), .val (.int b5), .val (.ref br), .val (.int rc), .val (.ref bo), .unset, .unset, .unset, .unset, .unset, .unset]) X44 hx (hb hby at_180) rfl rfl rfl ?_
                refine go_aload (q := 184) X44 hx (hb hby at_182) rfl rfl rfl ?_
                refine go_callV (q := 187) (W := 0) X44 hx hZ hown rfl (hw _ (List.mem_of_getElem? (i := 19) rfl)) (hw _ (List.mem_of_getElem? (i := 20) rfl)) (notFace_of_selects (args := #[]) (mvT hZ (hw _ (List.mem_of_getElem? (i := 22) rfl)))) (hw _ (List.mem_of_getElem? (i := 22) rfl)) (hw _ (List.mem_of_getElem? (i := 21) rfl)) (hw _ (List.mem_of_getElem? (i := 8) rfl)) (hw _ (List.mem_of_getElem? (i := 23) rfl)) (by decide) bo [] [] E_bo (rm4_5 l Z a0 hw [] bo h0.size br k_br _ rc b0 b1 b2 b3 b4 T44.heap Fr_ Fc_ V_br hrc) (by rw [hml]; rfl) rfl (lenOf pd_2 rfl) (Nat.le_of_eq rfl) (by decide) (by decide) (hb hby at_184) rfl (by decide) (by decide) ?_
                rintro T45 L45 v45 X45 ⟨Nq45, rfl, e45⟩
                have N45 := Fr.app N44 Nq45
                show Go p e below s (fun v h L => v = some (.int (1 : Int32)) ∧ Fr h0.size L) room_1.cells room_1.slots T45 (mkF m 187 #[.val (.int ln), .val (.int bt), .val (.int cn), .val (.int (5 : Int32)), .val (.int b0), .val (.int b1), .val (.int b2), .val (.int b3), .val (.int b4), .val (.int b5), .val (.ref br), .val (.int rc), .val (.ref bo), .unset, .unset, .unset, .unset, .unset, .unset] [(.double (FP.ddiv (a6 b0 b1 b2 b3 b4 (0 : Int32)).2 (FP.i2d rc)))])
                refine go_dstore (q := 189) (l' := #[.val (.int ln), .val (.int bt), .val (.int cn), .val (.int (5 : Int32)), .val (.int b0), .val (.int b1), .val (.int b2), .val (.int b3), .val (.int b4), .val (.int b5), .val (.ref br), .val (.int rc), .val (.ref bo), .val (.double (FP.ddiv (a6 b0 b1 b2 b3 b4 (0 : Int32)).2 (FP.i2d rc))), .second, .unset, .unset, .unset, .unset]) X45 hx (hb hby at_187) rfl rfl ?_
                refine go_iconst (q := 190) (v := (0 : Int32)) X45 hx (hb hby at_189) rfl rfl ?_
                refine go_istore (q := 192) (l' := #[.val (.int ln), .val (.int bt), .val (.int cn), .val (.int (5 : Int32)), .val (.int b0), .val (.int b1), .val (.int b2), .val (.int b3), .val (.int b4), .val (.int b5), .val (.ref br), .val (.int rc), .val (.ref bo), .val (.double (FP.ddiv (a6 b0 b1 b2 b3 b4 (0 : Int32)).2 (FP.i2d rc))), .second, .val (.int (0 : Int32)), .unset, .unset, .unset]) X45 hx (hb hby at_190) rfl rfl ?_
                refine go_iconst (q := 193) (v := (0 : Int32)) X45 hx (hb hby at_192) rfl rfl ?_
                refine go_istore (q := 195) (l' := #[.val (.int ln), .val (.int bt), .val (.int cn), .val (.int (5 : Int32)), .val (.int b0), .val (.int b1), .val (.int b2), .val (.int b3), .val (.int b4), .val (.int b5), .val (.ref br), .val (.int rc), .val (.ref bo), .val (.double (FP.ddiv (a6 b0 b1 b2 b3 b4 (0 : Int32)).2 (FP.i2d rc))), .second, .val (.int (0 : Int32)), .val (.int (0 : Int32)), .unset, .unset]) X45 hx (hb hby at_193) rfl rfl ?_
                refine go_iloadN (q := 196) X45 hx (hb hby at_195) rfl rfl ?_
                refine go_if_le (q := 199) (q' := 217) X45 hx (hb hby at_196) rfl (by decide) rfl (fun hc196 => ?_) (fun hc196 => ?_)
                · exact absurd (by decide) hc196
                · refine go_iload (q := 201) X45 hx (hb hby at_199) rfl rfl ?_
                  suffices JF0 : ∀ f1 m1 : Int32, (f1, m1) = nt ((0 : Int32), (0 : Int32)) b0 (60 : Int32) → Go p e below s (fun v h L => v = some (.int (1 : Int32)) ∧ Fr h0.size L) room_1.cells room_1.slots T45 (mkF m 217 #[.val (.int ln), .val (.int bt), .val (.int cn), .val (.int (5 : Int32)), .val (.int b0), .val (.int b1), .val (.int b2), .val (.int b3), .val (.int b4), .val (.int b5), .val (.ref br), .val (.int rc), .val (.ref bo), .val (.double (FP.ddiv (a6 b0 b1 b2 b3 b4 (0 : Int32)).2 (FP.i2d rc))), .second, .val (.int f1), .val (.int m1), .unset, .unset] []) by
                    refine go_if_eq (q := 204) (q' := 217) X45 hx (hb hby at_201) rfl (by decide) rfl (fun hz0 => ?_) (fun hz0 => ?_)
                    · exact JF0 _ _ (nt0 hz0).symm
                    · refine go_iinc (q := 207) (l' := #[.val (.int ln), .val (.int bt), .val (.int cn), .val (.int (5 : Int32)), .val (.int b0), .val (.int b1), .val (.int b2), .val (.int b3), .val (.int b4), .val (.int b5), .val (.ref br), .val (.int rc), .val (.ref bo), .val (.double (FP.ddiv (a6 b0 b1 b2 b3 b4 (0 : Int32)).2 (FP.i2d rc))), .second, .val (.int (1 : Int32)), .val (.int (0 : Int32)), .unset, .unset]) X45 hx (hb hby at_204) rfl rfl rfl ?_
                      refine go_iload (q := 209) X45 hx (hb hby at_207) rfl rfl ?_
                      refine go_iload (q := 211) X45 hx (hb hby at_209) rfl rfl ?_
                      refine go_bipush (q := 213) (v := (60 : Int32)) X45 hx (hb hby at_211) rfl rfl ?_
                      refine go_imul (q := 214) (v := (60 : Int32)) X45 hx (hb hby at_213) rfl rfl ?_
                      refine go_iadd (q := 215) (v := (60 : Int32)) X45 hx (hb hby at_214) rfl rfl ?_
                      refine go_istore (q := 217) (l' := #[.val (.int ln), .val (.int bt), .val (.int cn), .val (.int (5 : Int32)), .val (.int b0), .val (.int b1), .val (.int b2), .val (.int b3), .val (.int b4), .val (.int b5), .val (.ref br), .val (.int rc), .val (.ref bo), .val (.double (FP.ddiv (a6 b0 b1 b2 b3 b4 (0 : Int32)).2 (FP.i2d rc))), .second, .val (.int (1 : Int32)), .val (.int (60 : Int32)), .unset, .unset]) X45 hx (hb hby at_215) rfl rfl ?_
                      exact JF0 _ _ (nt1 (f := (0 : Int32)) (m := (0 : Int32)) (k := (60 : Int32)) hz0).symm
                  intro f1 m1 eM1
                  refine go_iloadN (q := 218) X45 hx (hb hby at_217) rfl rfl ?_
                  refine go_iconst (q := 219) (v := (1 : Int32)) X45 hx (hb hby at_218) rfl rfl ?_
                  refine go_icmp_le (q := 222) (q' := 240) X45 hx (hb hby at_219) rfl (by decide) rfl (fun hc219 => ?_) (fun hc219 => ?_)
                  · exact absurd (by decide) hc219
                  · refine go_iload (q := 224) X45 hx (hb hby at_222) rfl rfl ?_
                    suffices JF1 : ∀ f2 m2 : Int32, (f2, m2) = nt (f1, m1) b1 (30 : Int32) → Go p e below s (fun v h L => v = some (.int (1 : Int32)) ∧ Fr h0.size L) room_1.cells room_1.slots T45 (mkF m 240 #[.val (.int ln), .val (.int bt), .val (.int cn), .val (.int (5 : Int32)), .val (.int b0), .val (.int b1), .val (.int b2), .val (.int b3), .val (.int b4), .val (.int b5), .val (.ref br), .val (.int rc), .val (.ref bo), .val (.double (FP.ddiv (a6 b0 b1 b2 b3 b4 (0 : Int32)).2 (FP.i2d rc))), .second, .val (.int f2), .val (.int m2), .unset, .unset] []) by
                      refine go_if_eq (q := 227) (q' := 240) X45 hx (hb hby at_224) rfl (by decide) rfl (fun hz1 => ?_) (fun hz1 => ?_)
                      · exact JF1 _ _ (nt0 hz1).symm
                      · refine go_iinc (q := 230) (l' := #[.val (.int ln), .val (.int bt), .val (.int cn), .val (.int (5 : Int32)), .val (.int b0), .val (.int b1), .val (.int b2), .val (.int b3), .val (.int b4), .val (.int b5), .val (.ref br), .val (.int rc), .val (.ref bo), .val (.double (FP.ddiv (a6 b0 b1 b2 b3 b4 (0 : Int32)).2 (FP.i2d rc))), .second, .val (.int (f1 + (1 : Int32))), .val (.int m1), .unset, .unset]) X45 hx (hb hby at_227) rfl rfl rfl ?_
                        refine go_iload (q := 232) X45 hx (hb hby at_230) rfl rfl ?_
                        refine go_iload (q := 234) X45 hx (hb hby at_232) rfl rfl ?_
                        refine go_bipush (q := 236) (v := (30 : Int32)) X45 hx (hb hby at_234) rfl rfl ?_
                        refine go_imul (q := 237) (v := ((f1 + (1 : Int32)) * (30 : Int32))) X45 hx (hb hby at_236) rfl rfl ?_
                        refine go_iadd (q := 238) (v := (m1 + ((f1 + (1 : Int32)) * (30 : Int32)))) X45 hx (hb hby at_237) rfl rfl ?_
                        refine go_istore (q := 240) (l' := #[.val (.int ln), .val (.int bt), .val (.int cn), .val (.int (5 : Int32)), .val (.int b0), .val (.int b1), .val (.int b2), .val (.int b3), .val (.int b4), .val (.int b5), .val (.ref br), .val (.int rc), .val (.ref bo), .val (.double (FP.ddiv (a6 b0 b1 b2 b3 b4 (0 : Int32)).2 (FP.i2d rc))), .second, .val (.int (f1 + (1 : Int32))), .val (.int (m1 + ((f1 + (1 : Int32)) * (30 : Int32)))), .unset, .unset]) X45 hx (hb hby at_238) rfl rfl ?_
                        exact JF1 _ _ (nt1 (f := f1) (m := m1) (k := (30 : Int32)) hz1).symm
                    intro f2 m2 eM2
                    refine go_iloadN (q := 241) X45 hx (hb hby at_240) rfl rfl ?_
                    refine go_iconst (q := 242) (v := (2 : Int32)) X45 hx (hb hby at_241) rfl rfl ?_
                    refine go_icmp_le (q := 245) (q' := 263) X45 hx (hb hby at_242) rfl (by decide) rfl (fun hc242 => ?_) (fun hc242 => ?_)
                    · exact absurd (by decide) hc242
                    · refine go_iload (q := 247) X45 hx (hb hby at_245) rfl rfl ?_
                      suffices JF2 : ∀ f3 m3 : Int32, (f3, m3) = nt (f2, m2) b2 (20 : Int32) → Go p e below s (fun v h L => v = some (.int (1 : Int32)) ∧ Fr h0.size L) room_1.cells room_1.slots T45 (mkF m 263 #[.val (.int ln), .val (.int bt), .val (.int cn), .val (.int (5 : Int32)), .val (.int b0), .val (.int b1), .val (.int b2), .val (.int b3), .val (.int b4), .val (.int b5), .val (.ref br), .val (.int rc), .val (.ref bo), .val (.double (FP.ddiv (a6 b0 b1 b2 b3 b4 (0 : Int32)).2 (FP.i2d rc))), .second, .val (.int f3), .val (.int m3), .unset, .unset] []) by
                        refine go_if_eq (q := 250) (q' := 263) X45 hx (hb hby at_247) rfl (by decide) rfl (fun hz2 => ?_) (fun hz2 => ?_)
                        · exact JF2 _ _ (nt0 hz2).symm
                        · refine go_iinc (q := 253) (l' := #[.val (.int ln), .val (.int bt), .val (.int cn), .val (.int (5 : Int32)), .val (.int b0), .val (.int b1), .val (.int b2), .val (.int b3), .val (.int b4), .val (.int b5), .val (.ref br), .val (.int rc), .val (.ref bo), .val (.double (FP.ddiv (a6 b0 b1 b2 b3 b4 (0 : Int32)).2 (FP.i2d rc))), .second, .val (.int (f2 + (1 : Int32))), .val (.int m2), .unset, .unset]) X45 hx (hb hby at_250) rfl rfl rfl ?_
                          refine go_iload (q := 255) X45 hx (hb hby at_253) rfl rfl ?_
                          refine go_iload (q := 257) X45 hx (hb hby at_255) rfl rfl ?_
                          refine go_bipush (q := 259) (v := (20 : Int32)) X45 hx (hb hby at_257) rfl rfl ?_
                          refine go_imul (q := 260) (v := ((f2 + (1 : Int32)) * (20 : Int32))) X45 hx (hb hby at_259) rfl rfl ?_
                          refine go_iadd (q := 261) (v := (m2 + ((f2 + (1 : Int32)) * (20 : Int32)))) X45 hx (hb hby at_260) rfl rfl ?_
                          refine go_istore (q := 263) (l' := #[.val (.int ln), .val (.int bt), .val (.int cn), .val (.int (5 : Int32)), .val (.int b0), .val (.int b1), .val (.int b2), .val (.int b3), .val (.int b4), .val (.int b5), .val (.ref br), .val (.int rc), .val (.ref bo), .val (.double (FP.ddiv (a6 b0 b1 b2 b3 b4 (0 : Int32)).2 (FP.i2d rc))), .second, .val (.int (f2 + (1 : Int32))), .val (.int (m2 + ((f2 + (1 : Int32)) * (20 : Int32)))), .unset, .unset]) X45 hx (hb hby at_261) rfl rfl ?_
                          exact JF2 _ _ (nt1 (f := f2) (m := m2) (k := (20 : Int32)) hz2).symm
                      intro f3 m3 eM3
                      refine go_iloadN (q := 264) X45 hx (hb hby at_263) rfl rfl ?_
                      refine go_iconst (q := 265) (v := (3 : Int32)) X45 hx (hb hby at_264) rfl rfl ?_
                      refine go_icmp_le (q := 268) (q' := 286) X45 hx (hb hby at_265) rfl (by decide) rfl (fun hc265 => ?_) (fun hc265 => ?_)
                      · exact absurd (by decide) hc265
                      · refine go_iload (q := 270) X45 hx (hb hby at_268) rfl rfl ?_
                        suffices JF3 : ∀ f4 m4 : Int32, (f4, m4) = nt (f3, m3) b3 (15 : Int32) → Go p e below s (fun v h L => v = some (.int (1 : Int32)) ∧ Fr h0.size L) room_1.cells room_1.slots T45 (mkF m 286 #[.val (.int ln), .val (.int bt), .val (.int cn), .val (.int (5 : Int32)), .val (.int b0), .val (.int b1), .val (.int b2), .val (.int b3), .val (.int b4), .val (.int b5), .val (.ref br), .val (.int rc), .val (.ref bo), .val (.double (FP.ddiv (a6 b0 b1 b2 b3 b4 (0 : Int32)).2 (FP.i2d rc))), .second, .val (.int f4), .val (.int m4), .unset, .unset] []) by
                          refine go_if_eq (q := 273) (q' := 286) X45 hx (hb hby at_270) rfl (by decide) rfl (fun hz3 => ?_) (fun hz3 => ?_)
                          · exact JF3 _ _ (nt0 hz3).symm
                          · refine go_iinc (q := 276) (l' := #[.val (.int ln), .val (.int bt), .val (.int cn), .val (.int (5 : Int32)), .val (.int b0), .val (.int b1), .val (.int b2), .val (.int b3), .val (.int b4), .val (.int b5), .val (.ref br), .val (.int rc), .val (.ref bo), .val (.double (FP.ddiv (a6 b0 b1 b2 b3 b4 (0 : Int32)).2 (FP.i2d rc))), .second, .val (.int (f3 + (1 : Int32))), .val (.int m3), .unset, .unset]) X45 hx (hb hby at_273) rfl rfl rfl ?_
                            refine go_iload (q := 278) X45 hx (hb hby at_276) rfl rfl ?_
                            refine go_iload (q := 280) X45 hx (hb hby at_278) rfl rfl ?_
                            refine go_bipush (q := 282) (v := (15 : Int32)) X45 hx (hb hby at_280) rfl rfl ?_
                            refine go_imul (q := 283) (v := ((f3 + (1 : Int32)) * (15 : Int32))) X45 hx (hb hby at_282) rfl rfl ?_
                            refine go_iadd (q := 284) (v := (m3 + ((f3 + (1 : Int32)) * (15 : Int32)))) X45 hx (hb hby at_283) rfl rfl ?_
                            refine go_istore (q := 286) (l' := #[.val (.int ln), .val (.int bt), .val (.int cn), .val (.int (5 : Int32)), .val (.int b0), .val (.int b1), .val (.int b2), .val (.int b3), .val (.int b4), .val (.int b5), .val (.ref br), .val (.int rc), .val (.ref bo), .val (.double (FP.ddiv (a6 b0 b1 b2 b3 b4 (0 : Int32)).2 (FP.i2d rc))), .second, .val (.int (f3 + (1 : Int32))), .val (.int (m3 + ((f3 + (1 : Int32)) * (15 : Int32)))), .unset, .unset]) X45 hx (hb hby at_284) rfl rfl ?_
                            exact JF3 _ _ (nt1 (f := f3) (m := m3) (k := (15 : Int32)) hz3).symm
                        intro f4 m4 eM4
                        refine go_iloadN (q := 287) X45 hx (hb hby at_286) rfl rfl ?_
                        refine go_iconst (q := 288) (v := (4 : Int32)) X45 hx (hb hby at_287) rfl rfl ?_
                        refine go_icmp_le (q := 291) (q' := 309) X45 hx (hb hby at_288) rfl (by decide) rfl (fun hc288 => ?_) (fun hc288 => ?_)
                        · exact absurd (by decide) hc288
                        · refine go_iload (q := 293) X45 hx (hb hby at_291) rfl rfl ?_
                          suffices JF4 : ∀ f5 m5 : Int32, (f5, m5) = nt (f4, m4) b4 (12 : Int32) → Go p e below s (fun v h L => v = some (.int (1 : Int32)) ∧ Fr h0.size L) room_1.cells room_1.slots T45 (mkF m 309 #[.val (.int ln), .val (.int bt), .val (.int cn), .val (.int (5 : Int32)), .val (.int b0), .val (.int b1), .val (.int b2), .val (.int b3), .val (.int b4), .val (.int b5), .val (.ref br), .val (.int rc), .val (.ref bo), .val (.double (FP.ddiv (a6 b0 b1 b2 b3 b4 (0 : Int32)).2 (FP.i2d rc))), .second, .val (.int f5), .val (.int m5), .unset, .unset] []) by
                            refine go_if_eq (q := 296) (q' := 309) X45 hx (hb hby at_293) rfl (by decide) rfl (fun hz4 => ?_) (fun hz4 => ?_)
                            · exact JF4 _ _ (nt0 hz4).symm
                            · refine go_iinc (q := 299) (l' := #[.val (.int ln), .val (.int bt), .val (.int cn), .val (.int (5 : Int32)), .val (.int b0), .val (.int b1), .val (.int b2), .val (.int b3), .val (.int b4), .val (.int b5), .val (.ref br), .val (.int rc), .val (.ref bo), .val (.double (FP.ddiv (a6 b0 b1 b2 b3 b4 (0 : Int32)).2 (FP.i2d rc))), .second, .val (.int (f4 + (1 : Int32))), .val (.int m4), .unset, .unset]) X45 hx (hb hby at_296) rfl rfl rfl ?_
                              refine go_iload (q := 301) X45 hx (hb hby at_299) rfl rfl ?_
                              refine go_iload (q := 303) X45 hx (hb hby at_301) rfl rfl ?_
                              refine go_bipush (q := 305) (v := (12 : Int32)) X45 hx (hb hby at_303) rfl rfl ?_
                              refine go_imul (q := 306) (v := ((f4 + (1 : Int32)) * (12 : Int32))) X45 hx (hb hby at_305) rfl rfl ?_
                              refine go_iadd (q := 307) (v := (m4 + ((f4 + (1 : Int32)) * (12 : Int32)))) X45 hx (hb hby at_306) rfl rfl ?_
                              refine go_istore (q := 309) (l' := #[.val (.int ln), .val (.int bt), .val (.int cn), .val (.int (5 : Int32)), .val (.int b0), .val (.int b1), .val (.int b2), .val (.int b3), .val (.int b4), .val (.int b5), .val (.ref br), .val (.int rc), .val (.ref bo), .val (.double (FP.ddiv (a6 b0 b1 b2 b3 b4 (0 : Int32)).2 (FP.i2d rc))), .second, .val (.int (f4 + (1 : Int32))), .val (.int (m4 + ((f4 + (1 : Int32)) * (12 : Int32)))), .unset, .unset]) X45 hx (hb hby at_307) rfl rfl ?_
                              exact JF4 _ _ (nt1 (f := f4) (m := m4) (k := (12 : Int32)) hz4).symm
                          intro f5 m5 eM5
                          refine go_iloadN (q := 310) X45 hx (hb hby at_309) rfl rfl ?_
                          refine go_iconst (q := 311) (v := (5 : Int32)) X45 hx (hb hby at_310) rfl rfl ?_
                          refine go_icmp_le (q := 314) (q' := 332) X45 hx (hb hby at_311) rfl (by decide) rfl (fun hc311 => ?_) (fun hc311 => ?_)
                          · have hM : (f5, m5) = (n6 b0 b1 b2 b3 b4 (0 : Int32)) := by rw [eM5, eM4, eM3, eM2, eM1]; simp only [n6, nt0z]
                            have hok : okS (a6 b0 b1 b2 b3 b4 (0 : Int32)).2 m5 = true := by rw [show m5 = (n6 b0 b1 b2 b3 b4 (0 : Int32)).2 from congrArg Prod.snd hM]; exact ok_bits hb0 hb1 hb2 hb3 hb4 (Or.inl rfl)
                            obtain ⟨w1, w2, w3, w4, w5, w6⟩ := ap_law hok hrc
                            refine go_dload (q := 334) X45 hx (hb hby at_332) rfl rfl ?_
                            refine go_ldc2D (q := 337) (v := (4633641066610819072 : UInt64)) X45 hx hZ hown (hw _ (List.mem_of_getElem? (i := 24) rfl)) (hb hby at_334) rfl ?_
                            refine go_iload (q := 339) X45 hx (hb hby at_337) rfl rfl ?_
                            refine go_i2d (q := 340) X45 hx (hb hby at_339) rfl rfl ?_
                            refine go_dmul (q := 341) X45 hx (hb hby at_340) rfl w2 rfl ?_
                            refine go_dmul (q := 342) X45 hx (hb hby at_341) rfl w3 rfl ?_
                            refine go_iload (q := 344) X45 hx (hb hby at_342) rfl rfl ?_
                            refine go_i2d (q := 345) X45 hx (hb hby at_344) rfl rfl ?_
                            refine go_dsub (q := 346) X45 hx (hb hby at_345) rfl w4 rfl ?_
                            refine go_dstore (q := 348) (l' := #[.val (.int ln), .val (.int bt), .val (.int cn), .val (.int (5 : Int32)), .val (.int b0), .val (.int b1), .val (.int b2), .val (.int b3), .val (.int b4), .val (.int b5), .val (.ref br), .val (.int rc), .val (.ref bo), .val (.double (FP.ddiv (a6 b0 b1 b2 b3 b4 (0 : Int32)).2 (FP.i2d rc))), .second, .val (.int f5), .val (.int m5), .val (.double (FP.dsub (FP.dmul (FP.ddiv (a6 b0 b1 b2 b3 b4 (0 : Int32)).2 (FP.i2d rc)) (FP.dmul (4633641066610819072 : UInt64) (FP.i2d rc))) (FP.i2d m5))), .second]) X45 hx (hb hby at_346) rfl rfl ?_
                            refine go_dload (q := 350) X45 hx (hb hby at_348) rfl rfl ?_
                            refine go_ldc2D (q := 353) (v := (4517329193108106637 : UInt64)) X45 hx hZ hown (hw _ (List.mem_of_getElem? (i := 25) rfl)) (hb hby at_350) rfl ?_
                            refine go_dcmp (q := 354) X45 hx (hb hby at_353) rfl rfl ?_
                            refine go_if_ge (q := 357) (q' := 370) X45 hx (hb hby at_354) rfl (by decide) rfl (fun hc354 => ?_) (fun hc354 => ?_)
                            · exact absurd w5 hc354
                            · refine go_dload (q := 359) X45 hx (hb hby at_357) rfl rfl ?_
                              refine go_ldc2D (q := 362) (v := (13740701229962882445 : UInt64)) X45 hx hZ hown (hw _ (List.mem_of_getElem? (i := 26) rfl)) (hb hby at_359) rfl ?_
                              refine go_dcmp (q := 363) X45 hx (hb hby at_362) rfl rfl ?_
                              refine go_if_le (q := 366) (q' := 370) X45 hx (hb hby at_363) rfl (by decide) rfl (fun hc363 => ?_) (fun hc363 => ?_)
                              · exact absurd w6 hc363
                              · refine go_iconst (q := 367) (v := (1 : Int32)) X45 hx (hb hby at_366) rfl rfl ?_
                                refine go_goto (q := 371) X45 hx (hb hby at_367) (by decide) rfl ?_
                                exact go_retN X45 hx (by simp) hret hlk (hb hby at_371) (by decide) (by decide) ⟨rfl, N45⟩
                          · exact absurd hc311 (by decide)
              · exact absurd hc150 (by decide)
  · refine go_iloadN (q := 90) X0 hx (hb hby at_89) rfl rfl ?_
    refine go_newP (q := 92) X0 hx hZ (hw _ (List.mem_of_getElem? (i := 0) rfl)) e0 (hb hby at_90) rfl (by decide) 6 (by decide) (by decide) (by decide) (by decide) (fun T46 h46 k_br br eb46 X46 e46 E46 V_br => ?_)
    have g_br : h0.size ≤ br := Nat.le_trans hsz (Nat.le_of_eq eb46.symm)
    replace hsz := Nat.le_trans hsz E46.1
    replace V_br : Arv Z h46 br k_br .boolean (6 : Int32) [(.int (0 : Int32)), (.int (0 : Int32)), (.int (0 : Int32)), (.int (0 : Int32)), (.int (0 : Int32)), (.int (0 : Int32))] (.int (0 : Int32)) := V_br.pad (pad_rep [] (.int (0 : Int32)) 6)
    refine go_astore (q := 94) (l' := #[.val (.int ln), .val (.int bt), .val (.int cn), .val (.int (6 : Int32)), .val (.int b0), .val (.int b1), .val (.int b2), .val (.int b3), .val (.int b4), .val (.int b5), .val (.ref br), .unset, .unset, .unset, .unset, .unset, .unset, .unset, .unset]) X46 hx (hb hby at_92) rfl rfl rfl ?_
    refine go_iloadN (q := 95) X46 hx (hb hby at_94) rfl rfl ?_
    refine go_if_le (q := 98) (q' := 104) X46 hx (hb hby at_95) rfl (by decide) rfl (fun hc95 => ?_) (fun hc95 => ?_)
    · exact absurd (by decide) hc95
    · refine go_aload (q := 100) X46 hx (hb hby at_98) rfl rfl rfl ?_
      refine go_iconst (q := 101) (v := (0 : Int32)) X46 hx (hb hby at_100) rfl rfl ?_
      refine go_iload (q := 103) X46 hx (hb hby at_101) rfl rfl ?_
      refine go_bastore (q := 104) X46 hx hZ e46 V_br ⟨by decide, by decide⟩ 0 rfl (Nat.le_of_ble_eq_true rfl) N0 g_br (hb hby at_103) rfl (fun T47 h47 l47 X47 N47 e47 W47 V47 => ?_)
      replace hsz := Nat.le_trans hsz (Nat.le_of_eq W47.size.symm)
      replace V_br : Arv Z h47 br k_br .boolean (6 : Int32) [(.int (nar .boolean b0)), (.int (0 : Int32)), (.int (0 : Int32)), (.int (0 : Int32)), (.int (0 : Int32)), (.int (0 : Int32))] (.int (0 : Int32)) := V47
      rw [own_nar hb0] at V_br
      refine go_iloadN (q := 105) X47 hx (hb hby at_104) rfl rfl ?_
      refine go_iconst (q := 106) (v := (1 : Int32)) X47 hx (hb hby at_105) rfl rfl ?_
      refine go_icmp_le (q := 109) (q' := 115) X47 hx (hb hby at_106) rfl (by decide) rfl (fun hc106 => ?_) (fun hc106 => ?_)
      · exact absurd (by decide) hc106
      · refine go_aload (q := 111) X47 hx (hb hby at_109) rfl rfl rfl ?_
        refine go_iconst (q := 112) (v := (1 : Int32)) X47 hx (hb hby at_111) rfl rfl ?_
        refine go_iload (q := 114) X47 hx (hb hby at_112) rfl rfl ?_
        refine go_bastore (q := 115) X47 hx hZ e47 V_br ⟨by decide, by decide⟩ 1 rfl (Nat.le_of_ble_eq_true rfl) N47 g_br (hb hby at_114) rfl (fun T48 h48 l48 X48 N48 e48 W48 V48 => ?_)
        replace hsz := Nat.le_trans hsz (Nat.le_of_eq W48.size.symm)
        replace V_br : Arv Z h48 br k_br .boolean (6 : Int32) [(.int b0), (.int (nar .boolean b1)), (.int (0 : Int32)), (.int (0 : Int32)), (.int (0 : Int32)), (.int (0 : Int32))] (.int (0 : Int32)) := V48
        rw [own_nar hb1] at V_br
        refine go_iloadN (q := 116) X48 hx (hb hby at_115) rfl rfl ?_
        refine go_iconst (q := 117) (v := (2 : Int32)) X48 hx (hb hby at_116) rfl rfl ?_
        refine go_icmp_le (q := 120) (q' := 126) X48 hx (hb hby at_117) rfl (by decide) rfl (fun hc117 => ?_) (fun hc117 => ?_)
        · exact absurd (by decide) hc117
        · refine go_aload (q := 122) X48 hx (hb hby at_120) rfl rfl rfl ?_
          refine go_iconst (q := 123) (v := (2 : Int32)) X48 hx (hb hby at_122) rfl rfl ?_
          refine go_iload (q := 125) X48 hx (hb hby at_123) rfl rfl ?_
          refine go_bastore (q := 126) X48 hx hZ e48 V_br ⟨by decide, by decide⟩ 2 rfl (Nat.le_of_ble_eq_true rfl) N48 g_br (hb hby at_125) rfl (fun T49 h49 l49 X49 N49 e49 W49 V49 => ?_)
          replace hsz := Nat.le_trans hsz (Nat.le_of_eq W49.size.symm)
          replace V_br : Arv Z h49 br k_br .boolean (6 : Int32) [(.int b0), (.int b1), (.int (nar .boolean b2)), (.int (0 : Int32)), (.int (0 : Int32)), (.int (0 : Int32))] (.int (0 : Int32)) := V49
          rw [own_nar hb2] at V_br
          refine go_iloadN (q := 127) X49 hx (hb hby at_126) rfl rfl ?_
          refine go_iconst (q := 128) (v := (3 : Int32)) X49 hx (hb hby at_127) rfl rfl ?_
          refine go_icmp_le (q := 131) (q' := 137) X49 hx (hb hby at_128) rfl (by decide) rfl (fun hc128 => ?_) (fun hc128 => ?_)
          · exact absurd (by decide) hc128
          · refine go_aload (q := 133) X49 hx (hb hby at_131) rfl rfl rfl ?_
            refine go_iconst (q := 134) (v := (3 : Int32)) X49 hx (hb hby at_133) rfl rfl ?_
            refine go_iload (q := 136) X49 hx (hb hby at_134) rfl rfl ?_
            refine go_bastore (q := 137) X49 hx hZ e49 V_br ⟨by decide, by decide⟩ 3 rfl (Nat.le_of_ble_eq_true rfl) N49 g_br (hb hby at_136) rfl (fun T50 h50 l50 X50 N50 e50 W50 V50 => ?_)
            replace hsz := Nat.le_trans hsz (Nat.le_of_eq W50.size.symm)
            replace V_br : Arv Z h50 br k_br .boolean (6 : Int32) [(.int b0), (.int b1), (.int b2), (.int (nar .boolean b3)), (.int (0 : Int32)), (.int (0 : Int32))] (.int (0 : Int32)) := V50
            rw [own_nar hb3] at V_br
            refine go_iloadN (q := 138) X50 hx (hb hby at_137) rfl rfl ?_
            refine go_iconst (q := 139) (v := (4 : Int32)) X50 hx (hb hby at_138) rfl rfl ?_
            refine go_icmp_le (q := 142) (q' := 148) X50 hx (hb hby at_139) rfl (by decide) rfl (fun hc139 => ?_) (fun hc139 => ?_)
            · exact absurd (by decide) hc139
            · refine go_aload (q := 144) X50 hx (hb hby at_142) rfl rfl rfl ?_
              refine go_iconst (q := 145) (v := (4 : Int32)) X50 hx (hb hby at_144) rfl rfl ?_
              refine go_iload (q := 147) X50 hx (hb hby at_145) rfl rfl ?_
              refine go_bastore (q := 148) X50 hx hZ e50 V_br ⟨by decide, by decide⟩ 4 rfl (Nat.le_of_ble_eq_true rfl) N50 g_br (hb hby at_147) rfl (fun T51 h51 l51 X51 N51 e51 W51 V51 => ?_)
              replace hsz := Nat.le_trans hsz (Nat.le_of_eq W51.size.symm)
              replace V_br : Arv Z h51 br k_br .boolean (6 : Int32) [(.int b0), (.int b1), (.int b2), (.int b3), (.int (nar .boolean b4)), (.int (0 : Int32))] (.int (0 : Int32)) := V51
              rw [own_nar hb4] at V_br
              refine go_iloadN (q := 149) X51 hx (hb hby at_148) rfl rfl ?_
              refine go_iconst (q := 150) (v := (5 : Int32)) X51 hx (hb hby at_149) rfl rfl ?_
              refine go_icmp_le (q := 153) (q' := 159) X51 hx (hb hby at_150) rfl (by decide) rfl (fun hc150 => ?_) (fun hc150 => ?_)
              · exact absurd (by decide) hc150
              · refine go_aload (q := 155) X51 hx (hb hby at_153) rfl rfl rfl ?_
                refine go_iconst (q := 156) (v := (5 : Int32)) X51 hx (hb hby at_155) rfl rfl ?_
                refine go_iload (q := 158) X51 hx (hb hby at_156) rfl rfl ?_
                refine go_bastore (q := 159) X51 hx hZ e51 V_br ⟨by decide, by decide⟩ 5 rfl (Nat.le_of_ble_eq_true rfl) N51 g_br (hb hby at_158) rfl (fun T52 h52 l52 X52 N52 e52 W52 V52 => ?_)
                replace hsz := Nat.le_trans hsz (Nat.le_of_eq W52.size.symm)
                replace V_br : Arv Z h52 br k_br .boolean (6 : Int32) [(.int b0), (.int b1), (.int b2), (.int b3), (.int b4), (.int (nar .boolean b5))] (.int (0 : Int32)) := V52
                rw [own_nar hb5] at V_br
                refine go_iconst (q := 160) (v := (1 : Int32)) X52 hx (hb hby at_159) rfl rfl ?_
                refine go_iloadN (q := 161) X52 hx (hb hby at_160) rfl rfl ?_
                refine go_ldcI (q := 163) (v := (2147483647 : Int32)) X52 hx hZ hown (hw _ (List.mem_of_getElem? (i := 1) rfl)) (hb hby at_161) rfl ?_
                refine go_iand (q := 164) (v := (cn &&& (2147483647 : Int32))) X52 hx (hb hby at_163) rfl rfl ?_
                refine go_callS (q := 167) (W := 0) X52 hx hZ hown e52 (hw _ (List.mem_of_getElem? (i := 2) rfl)) (hw _ (List.mem_of_getElem? (i := 3) rfl)) (hw _ (List.mem_of_getElem? (i := 4) rfl)) (hw _ (List.mem_of_getElem? (i := 5) rfl)) (by decide) [(.int (1 : Int32)), (.int (cn &&& (2147483647 : Int32)))] [] (rm1 l Z a0 hw [] (1 : Int32) (cn &&& (2147483647 : Int32)) h52) (by rw [hml]; rfl) rfl (lenOf pd_0 rfl) (Nat.le_of_eq rfl) (by decide) (by decide) (hb hby at_164) rfl (by decide) (by decide) ?_
                rintro T53 L53 v53 X53 ⟨Np53, rfl, e53⟩
                have N53 := Fr.app N52 (Np53 _)
                show Go p e below s (fun v h L => v = some (.int (1 : Int32)) ∧ Fr h0.size L) room_1.cells room_1.slots T53 (mkF m 167 #[.val (.int ln), .val (.int bt), .val (.int cn), .val (.int (6 : Int32)), .val (.int b0), .val (.int b1), .val (.int b2), .val (.int b3), .val (.int b4), .val (.int b5), .val (.ref br), .unset, .unset, .unset, .unset, .unset, .unset, .unset, .unset] [(.int (if (1 : Int32) < (cn &&& (2147483647 : Int32)) then (cn &&& (2147483647 : Int32)) else (1 : Int32)))])
                suffices Hrc : ∀ rc : Int32, rc = (if (1 : Int32) < (cn &&& (2147483647 : Int32)) then (cn &&& (2147483647 : Int32)) else (1 : Int32)) → Go p e below s (fun v h L => v = some (.int (1 : Int32)) ∧ Fr h0.size L) room_1.cells room_1.slots T53 (mkF m 167 #[.val (.int ln), .val (.int bt), .val (.int cn), .val (.int (6 : Int32)), .val (.int b0), .val (.int b1), .val (.int b2), .val (.int b3), .val (.int b4), .val (.int b5), .val (.ref br), .unset, .unset, .unset, .unset, .unset, .unset, .unset, .unset] [(.int rc)]) from Hrc _ rfl
                intro rc erc
                have hrc : ¬ rc < 1 := by rw [erc]; exact own_max _
                refine go_istore (q := 169) (l' := #[.val (.int ln), .val (.int bt), .val (.int cn), .val (.int (6 : Int32)), .val (.int b0), .val (.int b1), .val (.int b2), .val (.int b3), .val (.int b4), .val (.int b5), .val (.ref br), .val (.int rc), .unset, .unset, .unset, .unset, .unset, .unset, .unset]) X53 hx (hb hby at_167) rfl rfl ?_
                refine go_newO (q := 172) X53 hx hZ hown (hw _ (List.mem_of_getElem? (i := 6) rfl)) (hw _ (List.mem_of_getElem? (i := 7) rfl)) (hw _ (List.mem_of_getElem? (i := 8) rfl)) e53 (hb hby at_169) rfl (by decide) (by decide) (fun T54 h54 bo eb54 X54 e54 E54 A54 D54 => ?_)
                have g_bo : h0.size ≤ bo := Nat.le_trans hsz (Nat.le_of_eq eb54.symm)
                have ne_br_bo : br ≠ bo := Nat.ne_of_lt (Nat.lt_of_lt_of_eq V_br.lt eb54.symm)
                replace V_br := V_br.ext E54
                replace hsz := Nat.le_trans hsz E54.1
                have E_bo := A54
                have F_relevant_bo : Fld Z h54 bo "com/example/forager/forager/eval/Ranking" "relevant" "[Z" .null := D54 (Or.inr (hw _ (List.mem_of_getElem? (i := 16) rfl))) (ty := (.array .boolean)) (by decide)
                have F_relevantCount_bo : Fld Z h54 bo "com/example/forager/forager/eval/Ranking" "relevantCount" "I" (.int (0 : Int32)) := D54 (Or.inr (hw _ (List.mem_of_getElem? (i := 18) rfl))) (ty := .int) (by decide)
                refine go_dup (q := 173) X54 hx (hb hby at_172) rfl rfl ?_
                refine go_aload (q := 175) X54 hx (hb hby at_173) rfl rfl rfl ?_
                refine go_iload (q := 177) X54 hx (hb hby at_175) rfl rfl ?_
                refine go_callI (q := 180) (W := 1) X54 hx hZ hown e54 rfl (hw _ (List.mem_of_getElem? (i := 9) rfl)) (hw _ (List.mem_of_getElem? (i := 10) rfl)) (hw _ (List.mem_of_getElem? (i := 8) rfl)) (hw _ (List.mem_of_getElem? (i := 11) rfl)) (by decide) bo [(.ref br), (.int rc)] [(.ref bo)] (rm2 l Z a0 hw [] bo br rc h0.size _ _ h54 hsz g_bo E_bo F_relevant_bo F_relevantCount_bo hrc) (by rw [hml]; rfl) rfl (lenOf pd_1 rfl) (Nat.le_of_eq rfl) (by decide) (by decide) (hb hby at_177) rfl (by decide) (by decide) ?_
                rintro T55 L55 v55 X55 ⟨Nq55, rfl, K55, Fr_, Fc_⟩
                have N55 := Fr.app N53 Nq55
                replace V_br := V_br.keep K55 (ninS ne_br_bo nin0)
                replace E_bo := E_bo.keep K55
                replace hsz := Nat.le_trans hsz K55.1
                show Go p e below s (fun v h L => v = some (.int (1 : Int32)) ∧ Fr h0.size L) room_1.cells room_1.slots T55 (mkF m 180 #[.val (.int ln), .val (.int bt), .val (.int cn), .val (.int (6 : Int32)), .val (.int b0), .val (.int b1), .val (.int b2), .val (.int b3), .val (.int b4), .val (.int b5), .val (.ref br), .val (.int rc), .unset, .unset, .unset, .unset, .unset, .unset, .unset] [(.ref bo)])
                refine go_astore (q := 182) (l' := #[.val (.int ln), .val (.int bt), .val (.int cn), .val (.int (6 : Int32)), .val (.int b0), .val (.int b1), .val (.int b2), .val (.int b3), .val (.int b4), .val (.int b5), .val (.ref br), .val (.int rc), .val (.ref bo), .unset, .unset, .unset, .unset, .unset, .unset]) X55 hx (hb hby at_180) rfl rfl rfl ?_
                refine go_aload (q := 184) X55 hx (hb hby at_182) rfl rfl rfl ?_
                refine go_callV (q := 187) (W := 0) X55 hx hZ hown rfl (hw _ (List.mem_of_getElem? (i := 19) rfl)) (hw _ (List.mem_of_getElem? (i := 20) rfl)) (notFace_of_selects (args := #[]) (mvT hZ (hw _ (List.mem_of_getElem? (i := 22) rfl)))) (hw _ (List.mem_of_getElem? (i := 22) rfl)) (hw _ (List.mem_of_getElem? (i := 21) rfl)) (hw _ (List.mem_of_getElem? (i := 8) rfl)) (hw _ (List.mem_of_getElem? (i := 23) rfl)) (by decide) bo [] [] E_bo (rm4_6 l Z a0 hw [] bo h0.size br k_br _ rc b0 b1 b2 b3 b4 b5 T55.heap Fr_ Fc_ V_br hrc) (by rw [hml]; rfl) rfl (lenOf pd_2 rfl) (Nat.le_of_eq rfl) (by decide) (by decide) (hb hby at_184) rfl (by decide) (by decide) ?_
                rintro T56 L56 v56 X56 ⟨Nq56, rfl, e56⟩
                have N56 := Fr.app N55 Nq56
                show Go p e below s (fun v h L => v = some (.int (1 : Int32)) ∧ Fr h0.size L) room_1.cells room_1.slots T56 (mkF m 187 #[.val (.int ln), .val (.int bt), .val (.int cn), .val (.int (6 : Int32)), .val (.int b0), .val (.int b1), .val (.int b2), .val (.int b3), .val (.int b4), .val (.int b5), .val (.ref br), .val (.int rc), .val (.ref bo), .unset, .unset, .unset, .unset, .unset, .unset] [(.double (FP.ddiv (a6 b0 b1 b2 b3 b4 b5).2 (FP.i2d rc)))])
                refine go_dstore (q := 189) (l' := #[.val (.int ln), .val (.int bt), .val (.int cn), .val (.int (6 : Int32)), .val (.int b0), .val (.int b1), .val (.int b2), .val (.int b3), .val (.int b4), .val (.int b5), .val (.ref br), .val (.int rc), .val (.ref bo), .val (.double (FP.ddiv (a6 b0 b1 b2 b3 b4 b5).2 (FP.i2d rc))), .second, .unset, .unset, .unset, .unset]) X56 hx (hb hby at_187) rfl rfl ?_
                refine go_iconst (q := 190) (v := (0 : Int32)) X56 hx (hb hby at_189) rfl rfl ?_
                refine go_istore (q := 192) (l' := #[.val (.int ln), .val (.int bt), .val (.int cn), .val (.int (6 : Int32)), .val (.int b0), .val (.int b1), .val (.int b2), .val (.int b3), .val (.int b4), .val (.int b5), .val (.ref br), .val (.int rc), .val (.ref bo), .val (.double (FP.ddiv (a6 b0 b1 b2 b3 b4 b5).2 (FP.i2d rc))), .second, .val (.int (0 : Int32)), .unset, .unset, .unset]) X56 hx (hb hby at_190) rfl rfl ?_
                refine go_iconst (q := 193) (v := (0 : Int32)) X56 hx (hb hby at_192) rfl rfl ?_
                refine go_istore (q := 195) (l' := #[.val (.int ln), .val (.int bt), .val (.int cn), .val (.int (6 : Int32)), .val (.int b0), .val (.int b1), .val (.int b2), .val (.int b3), .val (.int b4), .val (.int b5), .val (.ref br), .val (.int rc), .val (.ref bo), .val (.double (FP.ddiv (a6 b0 b1 b2 b3 b4 b5).2 (FP.i2d rc))), .second, .val (.int (0 : Int32)), .val (.int (0 : Int32)), .unset, .unset]) X56 hx (hb hby at_193) rfl rfl ?_
                refine go_iloadN (q := 196) X56 hx (hb hby at_195) rfl rfl ?_
                refine go_if_le (q := 199) (q' := 217) X56 hx (hb hby at_196) rfl (by decide) rfl (fun hc196 => ?_) (fun hc196 => ?_)
                · exact absurd (by decide) hc196
                · refine go_iload (q := 201) X56 hx (hb hby at_199) rfl rfl ?_
                  suffices JF0 : ∀ f1 m1 : Int32, (f1, m1) = nt ((0 : Int32), (0 : Int32)) b0 (60 : Int32) → Go p e below s (fun v h L => v = some (.int (1 : Int32)) ∧ Fr h0.size L) room_1.cells room_1.slots T56 (mkF m 217 #[.val (.int ln), .val (.int bt), .val (.int cn), .val (.int (6 : Int32)), .val (.int b0), .val (.int b1), .val (.int b2), .val (.int b3), .val (.int b4), .val (.int b5), .val (.ref br), .val (.int rc), .val (.ref bo), .val (.double (FP.ddiv (a6 b0 b1 b2 b3 b4 b5).2 (FP.i2d rc))), .second, .val (.int f1), .val (.int m1), .unset, .unset] []) by
                    refine go_if_eq (q := 204) (q' := 217) X56 hx (hb hby at_201) rfl (by decide) rfl (fun hz0 => ?_) (fun hz0 => ?_)
                    · exact JF0 _ _ (nt0 hz0).symm
                    · refine go_iinc (q := 207) (l' := #[.val (.int ln), .val (.int bt), .val (.int cn), .val (.int (6 : Int32)), .val (.int b0), .val (.int b1), .val (.int b2), .val (.int b3), .val (.int b4), .val (.int b5), .val (.ref br), .val (.int rc), .val (.ref bo), .val (.double (FP.ddiv (a6 b0 b1 b2 b3 b4 b5).2 (FP.i2d rc))), .second, .val (.int (1 : Int32)), .val (.int (0 : Int32)), .unset, .unset]) X56 hx (hb hby at_204) rfl rfl rfl ?_
                      refine go_iload (q := 209) X56 hx (hb hby at_207) rfl rfl ?_
                      refine go_iload (q := 211) X56 hx (hb hby at_209) rfl rfl ?_
                      refine go_bipush (q := 213) (v := (60 : Int32)) X56 hx (hb hby at_211) rfl rfl ?_
                      refine go_imul (q := 214) (v := (60 : Int32)) X56 hx (hb hby at_213) rfl rfl ?_
                      refine go_iadd (q := 215) (v := (60 : Int32)) X56 hx (hb hby at_214) rfl rfl ?_
                      refine go_istore (q := 217) (l' := #[.val (.int ln), .val (.int bt), .val (.int cn), .val (.int (6 : Int32)), .val (.int b0), .val (.int b1), .val (.int b2), .val (.int b3), .val (.int b4), .val (.int b5), .val (.ref br), .val (.int rc), .val (.ref bo), .val (.double (FP.ddiv (a6 b0 b1 b2 b3 b4 b5).2 (FP.i2d rc))), .second, .val (.int (1 : Int32)), .val (.int (60 : Int32)), .unset, .unset]) X56 hx (hb hby at_215) rfl rfl ?_
                      exact JF0 _ _ (nt1 (f := (0 : Int32)) (m := (0 : Int32)) (k := (60 : Int32)) hz0).symm
                  intro f1 m1 eM1
                  refine go_iloadN (q := 218) X56 hx (hb hby at_217) rfl rfl ?_
                  refine go_iconst (q := 219) (v := (1 : Int32)) X56 hx (hb hby at_218) rfl rfl ?_
                  refine go_icmp_le (q := 222) (q' := 240) X56 hx (hb hby at_219) rfl (by decide) rfl (fun hc219 => ?_) (fun hc219 => ?_)
                  · exact absurd (by decide) hc219
                  · refine go_iload (q := 224) X56 hx (hb hby at_222) rfl rfl ?_
                    suffices JF1 : ∀ f2 m2 : Int32, (f2, m2) = nt (f1, m1) b1 (30 : Int32) → Go p e below s (fun v h L => v = some (.int (1 : Int32)) ∧ Fr h0.size L) room_1.cells room_1.slots T56 (mkF m 240 #[.val (.int ln), .val (.int bt), .val (.int cn), .val (.int (6 : Int32)), .val (.int b0), .val (.int b1), .val (.int b2), .val (.int b3), .val (.int b4), .val (.int b5), .val (.ref br), .val (.int rc), .val (.ref bo), .val (.double (FP.ddiv (a6 b0 b1 b2 b3 b4 b5).2 (FP.i2d rc))), .second, .val (.int f2), .val (.int m2), .unset, .unset] []) by
                      refine go_if_eq (q := 227) (q' := 240) X56 hx (hb hby at_224) rfl (by decide) rfl (fun hz1 => ?_) (fun hz1 => ?_)
                      · exact JF1 _ _ (nt0 hz1).symm
                      · refine go_iinc (q := 230) (l' := #[.val (.int ln), .val (.int bt), .val (.int cn), .val (.int (6 : Int32)), .val (.int b0), .val (.int b1), .val (.int b2), .val (.int b3), .val (.int b4), .val (.int b5), .val (.ref br), .val (.int rc), .val (.ref bo), .val (.double (FP.ddiv (a6 b0 b1 b2 b3 b4 b5).2 (FP.i2d rc))), .second, .val (.int (f1 + (1 : Int32))), .val (.int m1), .unset, .unset]) X56 hx (hb hby at_227) rfl rfl rfl ?_
                        refine go_iload (q := 232) X56 hx (hb hby at_230) rfl rfl ?_
                        refine go_iload (q := 234) X56 hx (hb hby at_232) rfl rfl ?_
                        refine go_bipush (q := 236) (v := (30 : Int32)) X56 hx (hb hby at_234) rfl rfl ?_
                        refine go_imul (q := 237) (v := ((f1 + (1 : Int32)) * (30 : Int32))) X56 hx (hb hby at_236) rfl rfl ?_
                        refine go_iadd (q := 238) (v := (m1 + ((f1 + (1 : Int32)) * (30 : Int32)))) X56 hx (hb hby at_237) rfl rfl ?_
                        refine go_istore (q := 240) (l' := #[.val (.int ln), .val (.int bt), .val (.int cn), .val (.int (6 : Int32)), .val (.int b0), .val (.int b1), .val (.int b2), .val (.int b3), .val (.int b4), .val (.int b5), .val (.ref br), .val (.int rc), .val (.ref bo), .val (.double (FP.ddiv (a6 b0 b1 b2 b3 b4 b5).2 (FP.i2d rc))), .second, .val (.int (f1 + (1 : Int32))), .val (.int (m1 + ((f1 + (1 : Int32)) * (30 : Int32)))), .unset, .unset]) X56 hx (hb hby at_238) rfl rfl ?_
                        exact JF1 _ _ (nt1 (f := f1) (m := m1) (k := (30 : Int32)) hz1).symm
                    intro f2 m2 eM2
                    refine go_iloadN (q := 241) X56 hx (hb hby at_240) rfl rfl ?_
                    refine go_iconst (q := 242) (v := (2 : Int32)) X56 hx (hb hby at_241) rfl rfl ?_
                    refine go_icmp_le (q := 245) (q' := 263) X56 hx (hb hby at_242) rfl (by decide) rfl (fun hc242 => ?_) (fun hc242 => ?_)
                    · exact absurd (by decide) hc242
                    · refine go_iload (q := 247) X56 hx (hb hby at_245) rfl rfl ?_
                      suffices JF2 : ∀ f3 m3 : Int32, (f3, m3) = nt (f2, m2) b2 (20 : Int32) → Go p e below s (fun v h L => v = some (.int (1 : Int32)) ∧ Fr h0.size L) room_1.cells room_1.slots T56 (mkF m 263 #[.val (.int ln), .val (.int bt), .val (.int cn), .val (.int (6 : Int32)), .val (.int b0), .val (.int b1), .val (.int b2), .val (.int b3), .val (.int b4), .val (.int b5), .val (.ref br), .val (.int rc), .val (.ref bo), .val (.double (FP.ddiv (a6 b0 b1 b2 b3 b4 b5).2 (FP.i2d rc))), .second, .val (.int f3), .val (.int m3), .unset, .unset] []) by
                        refine go_if_eq (q := 250) (q' := 263) X56 hx (hb hby at_247) rfl (by decide) rfl (fun hz2 => ?_) (fun hz2 => ?_)
                        · exact JF2 _ _ (nt0 hz2).symm
                        · refine go_iinc (q := 253) (l' := #[.val (.int ln), .val (.int bt), .val (.int cn), .val (.int (6 : Int32)), .val (.int b0), .val (.int b1), .val (.int b2), .val (.int b3), .val (.int b4), .val (.int b5), .val (.ref br), .val (.int rc), .val (.ref bo), .val (.double (FP.ddiv (a6 b0 b1 b2 b3 b4 b5).2 (FP.i2d rc))), .second, .val (.int (f2 + (1 : Int32))), .val (.int m2), .unset, .unset]) X56 hx (hb hby at_250) rfl rfl rfl ?_
                          refine go_iload (q := 255) X56 hx (hb hby at_253) rfl rfl ?_
                          refine go_iload (q := 257) X56 hx (hb hby at_255) rfl rfl ?_
                          refine go_bipush (q := 259) (v := (20 : Int32)) X56 hx (hb hby at_257) rfl rfl ?_
                          refine go_imul (q := 260) (v := ((f2 + (1 : Int32)) * (20 : Int32))) X56 hx (hb hby at_259) rfl rfl ?_
                          refine go_iadd (q := 261) (v := (m2 + ((f2 + (1 : Int32)) * (20 : Int32)))) X56 hx (hb hby at_260) rfl rfl ?_
                          refine go_istore (q := 263) (l' := #[.val (.int ln), .val (.int bt), .val (.int cn), .val (.int (6 : Int32)), .val (.int b0), .val (.int b1), .val (.int b2), .val (.int b3), .val (.int b4), .val (.int b5), .val (.ref br), .val (.int rc), .val (.ref bo), .val (.double (FP.ddiv (a6 b0 b1 b2 b3 b4 b5).2 (FP.i2d rc))), .second, .val (.int (f2 + (1 : Int32))), .val (.int (m2 + ((f2 + (1 : Int32)) * (20 : Int32)))), .unset, .unset]) X56 hx (hb hby at_261) rfl rfl ?_
                          exact JF2 _ _ (nt1 (f := f2) (m := m2) (k := (20 : Int32)) hz2).symm
                      intro f3 m3 eM3
                      refine go_iloadN (q := 264) X56 hx (hb hby at_263) rfl rfl ?_
                      refine go_iconst (q := 265) (v := (3 : Int32)) X56 hx (hb hby at_264) rfl rfl ?_
                      refine go_icmp_le (q := 268) (q' := 286) X56 hx (hb hby at_265) rfl (by decide) rfl (fun hc265 => ?_) (fun hc265 => ?_)
                      · exact absurd (by decide) hc265
                      · refine go_iload (q := 270) X56 hx (hb hby at_268) rfl rfl ?_
                        suffices JF3 : ∀ f4 m4 : Int32, (f4, m4) = nt (f3, m3) b3 (15 : Int32) → Go p e below s (fun v h L => v = some (.int (1 : Int32)) ∧ Fr h0.size L) room_1.cells room_1.slots T56 (mkF m 286 #[.val (.int ln), .val (.int bt), .val (.int cn), .val (.int (6 : Int32)), .val (.int b0), .val (.int b1), .val (.int b2), .val (.int b3), .val (.int b4), .val (.int b5), .val (.ref br), .val (.int rc), .val (.ref bo), .val (.double (FP.ddiv (a6 b0 b1 b2 b3 b4 b5).2 (FP.i2d rc))), .second, .val (.int f4), .val (.int m4), .unset, .unset] []) by
                          refine go_if_eq (q := 273) (q' := 286) X56 hx (hb hby at_270) rfl (by decide) rfl (fun hz3 => ?_) (fun hz3 => ?_)
                          · exact JF3 _ _ (nt0 hz3).symm
                          · refine go_iinc (q := 276) (l' := #[.val (.int ln), .val (.int bt), .val (.int cn), .val (.int (6 : Int32)), .val (.int b0), .val (.int b1), .val (.int b2), .val (.int b3), .val (.int b4), .val (.int b5), .val (.ref br), .val (.int rc), .val (.ref bo), .val (.double (FP.ddiv (a6 b0 b1 b2 b3 b4 b5).2 (FP.i2d rc))), .second, .val (.int (f3 + (1 : Int32))), .val (.int m3), .unset, .unset]) X56 hx (hb hby at_273) rfl rfl rfl ?_
                            refine go_iload (q := 278) X56 hx (hb hby at_276) rfl rfl ?_
                            refine go_iload (q := 280) X56 hx (hb hby at_278) rfl rfl ?_
                            refine go_bipush (q := 282) (v := (15 : Int32)) X56 hx (hb hby at_280) rfl rfl ?_
                            refine go_imul (q := 283) (v := ((f3 + (1 : Int32)) * (15 : Int32))) X56 hx (hb hby at_282) rfl rfl ?_
                            refine go_iadd (q := 284) (v := (m3 + ((f3 + (1 : Int32)) * (15 : Int32)))) X56 hx (hb hby at_283) rfl rfl ?_
                            refine go_istore (q := 286) (l' := #[.val (.int ln), .val (.int bt), .val (.int cn), .val (.int (6 : Int32)), .val (.int b0), .val (.int b1), .val (.int b2), .val (.int b3), .val (.int b4), .val (.int b5), .val (.ref br), .val (.int rc), .val (.ref bo), .val (.double (FP.ddiv (a6 b0 b1 b2 b3 b4 b5).2 (FP.i2d rc))), .second, .val (.int (f3 + (1 : Int32))), .val (.int (m3 + ((f3 + (1 : Int32)) * (15 : Int32)))), .unset, .unset]) X56 hx (hb hby at_284) rfl rfl ?_
                            exact JF3 _ _ (nt1 (f := f3) (m := m3) (k := (15 : Int32)) hz3).symm
                        intro f4 m4 eM4
                        refine go_iloadN (q := 287) X56 hx (hb hby at_286) rfl rfl ?_
                        refine go_iconst (q := 288) (v := (4 : Int32)) X56 hx (hb hby at_287) rfl rfl ?_
                        refine go_icmp_le (q := 291) (q' := 309) X56 hx (hb hby at_288) rfl (by decide) rfl (fun hc288 => ?_) (fun hc288 => ?_)
                        · exact absurd (by decide) hc288
                        · refine go_iload (q := 293) X56 hx (hb hby at_291) rfl rfl ?_
                          suffices JF4 : ∀ f5 m5 : Int32, (f5, m5) = nt (f4, m4) b4 (12 : Int32) → Go p e below s (fun v h L => v = some (.int (1 : Int32)) ∧ Fr h0.size L) room_1.cells room_1.slots T56 (mkF m 309 #[.val (.int ln), .val (.int bt), .val (.int cn), .val (.int (6 : Int32)), .val (.int b0), .val (.int b1), .val (.int b2), .val (.int b3), .val (.int b4), .val (.int b5), .val (.ref br), .val (.int rc), .val (.ref bo), .val (.double (FP.ddiv (a6 b0 b1 b2 b3 b4 b5).2 (FP.i2d rc))), .second, .val (.int f5), .val (.int m5), .unset, .unset] []) by
                            refine go_if_eq (q := 296) (q' := 309) X56 hx (hb hby at_293) rfl (by decide) rfl (fun hz4 => ?_) (fun hz4 => ?_)
                            · exact JF4 _ _ (nt0 hz4).symm
                            · refine go_iinc (q := 299) (l' := #[.val (.int ln), .val (.int bt), .val (.int cn), .val (.int (6 : Int32)), .val (.int b0), .val (.int b1), .val (.int b2), .val (.int b3), .val (.int b4), .val (.int b5), .val (.ref br), .val (.int rc), .val (.ref bo), .val (.double (FP.ddiv (a6 b0 b1 b2 b3 b4 b5).2 (FP.i2d rc))), .second, .val (.int (f4 + (1 : Int32))), .val (.int m4), .unset, .unset]) X56 hx (hb hby at_296) rfl rfl rfl ?_
                              refine go_iload (q := 301) X56 hx (hb hby at_299) rfl rfl ?_
                              refine go_iload (q := 303) X56 hx (hb hby at_301) rfl rfl ?_
                              refine go_bipush (q := 305) (v := (12 : Int32)) X56 hx (hb hby at_303) rfl rfl ?_
                              refine go_imul (q := 306) (v := ((f4 + (1 : Int32)) * (12 : Int32))) X56 hx (hb hby at_305) rfl rfl ?_
                              refine go_iadd (q := 307) (v := (m4 + ((f4 + (1 : Int32)) * (12 : Int32)))) X56 hx (hb hby at_306) rfl rfl ?_
                              refine go_istore (q := 309) (l' := #[.val (.int ln), .val (.int bt), .val (.int cn), .val (.int (6 : Int32)), .val (.int b0), .val (.int b1), .val (.int b2), .val (.int b3), .val (.int b4), .val (.int b5), .val (.ref br), .val (.int rc), .val (.ref bo), .val (.double (FP.ddiv (a6 b0 b1 b2 b3 b4 b5).2 (FP.i2d rc))), .second, .val (.int (f4 + (1 : Int32))), .val (.int (m4 + ((f4 + (1 : Int32)) * (12 : Int32)))), .unset, .unset]) X56 hx (hb hby at_307) rfl rfl ?_
                              exact JF4 _ _ (nt1 (f := f4) (m := m4) (k := (12 : Int32)) hz4).symm
                          intro f5 m5 eM5
                          refine go_iloadN (q := 310) X56 hx (hb hby at_309) rfl rfl ?_
                          refine go_iconst (q := 311) (v := (5 : Int32)) X56 hx (hb hby at_310) rfl rfl ?_
                          refine go_icmp_le (q := 314) (q' := 332) X56 hx (hb hby at_311) rfl (by decide) rfl (fun hc311 => ?_) (fun hc311 => ?_)
                          · exact absurd (by decide) hc311
                          · refine go_iload (q := 316) X56 hx (hb hby at_314) rfl rfl ?_
                            suffices JF5 : ∀ f6 m6 : Int32, (f6, m6) = nt (f5, m5) b5 (10 : Int32) → Go p e below s (fun v h L => v = some (.int (1 : Int32)) ∧ Fr h0.size L) room_1.cells room_1.slots T56 (mkF m 332 #[.val (.int ln), .val (.int bt), .val (.int cn), .val (.int (6 : Int32)), .val (.int b0), .val (.int b1), .val (.int b2), .val (.int b3), .val (.int b4), .val (.int b5), .val (.ref br), .val (.int rc), .val (.ref bo), .val (.double (FP.ddiv (a6 b0 b1 b2 b3 b4 b5).2 (FP.i2d rc))), .second, .val (.int f6), .val (.int m6), .unset, .unset] []) by
                              refine go_if_eq (q := 319) (q' := 332) X56 hx (hb hby at_316) rfl (by decide) rfl (fun hz5 => ?_) (fun hz5 => ?_)
                              · exact JF5 _ _ (nt0 hz5).symm
                              · refine go_iinc (q := 322) (l' := #[.val (.int ln), .val (.int bt), .val (.int cn), .val (.int (6 : Int32)), .val (.int b0), .val (.int b1), .val (.int b2), .val (.int b3), .val (.int b4), .val (.int b5), .val (.ref br), .val (.int rc), .val (.ref bo), .val (.double (FP.ddiv (a6 b0 b1 b2 b3 b4 b5).2 (FP.i2d rc))), .second, .val (.int (f5 + (1 : Int32))), .val (.int m5), .unset, .unset]) X56 hx (hb hby at_319) rfl rfl rfl ?_
                                refine go_iload (q := 324) X56 hx (hb hby at_322) rfl rfl ?_
                                refine go_iload (q := 326) X56 hx (hb hby at_324) rfl rfl ?_
                                refine go_bipush (q := 328) (v := (10 : Int32)) X56 hx (hb hby at_326) rfl rfl ?_
                                refine go_imul (q := 329) (v := ((f5 + (1 : Int32)) * (10 : Int32))) X56 hx (hb hby at_328) rfl rfl ?_
                                refine go_iadd (q := 330) (v := (m5 + ((f5 + (1 : Int32)) * (10 : Int32)))) X56 hx (hb hby at_329) rfl rfl ?_
                                refine go_istore (q := 332) (l' := #[.val (.int ln), .val (.int bt), .val (.int cn), .val (.int (6 : Int32)), .val (.int b0), .val (.int b1), .val (.int b2), .val (.int b3), .val (.int b4), .val (.int b5), .val (.ref br), .val (.int rc), .val (.ref bo), .val (.double (FP.ddiv (a6 b0 b1 b2 b3 b4 b5).2 (FP.i2d rc))), .second, .val (.int (f5 + (1 : Int32))), .val (.int (m5 + ((f5 + (1 : Int32)) * (10 : Int32)))), .unset, .unset]) X56 hx (hb hby at_330) rfl rfl ?_
                                exact JF5 _ _ (nt1 (f := f5) (m := m5) (k := (10 : Int32)) hz5).symm
                            intro f6 m6 eM6
                            have hM : (f6, m6) = (n6 b0 b1 b2 b3 b4 b5) := by rw [eM6, eM5, eM4, eM3, eM2, eM1]; simp only [n6, nt0z]
                            have hok : okS (a6 b0 b1 b2 b3 b4 b5).2 m6 = true := by rw [show m6 = (n6 b0 b1 b2 b3 b4 b5).2 from congrArg Prod.snd hM]; exact ok_bits hb0 hb1 hb2 hb3 hb4 hb5
                            obtain ⟨w1, w2, w3, w4, w5, w6⟩ := ap_law hok hrc
                            refine go_dload (q := 334) X56 hx (hb hby at_332) rfl rfl ?_
                            refine go_ldc2D (q := 337) (v := (4633641066610819072 : UInt64)) X56 hx hZ hown (hw _ (List.mem_of_getElem? (i := 24) rfl)) (hb hby at_334) rfl ?_
                            refine go_iload (q := 339) X56 hx (hb hby at_337) rfl rfl ?_
                            refine go_i2d (q := 340) X56 hx (hb hby at_339) rfl rfl ?_
                            refine go_dmul (q := 341) X56 hx (hb hby at_340) rfl w2 rfl ?_
                            refine go_dmul (q := 342) X56 hx (hb hby at_341) rfl w3 rfl ?_
                            refine go_iload (q := 344) X56 hx (hb hby at_342) rfl rfl ?_
                            refine go_i2d (q := 345) X56 hx (hb hby at_344) rfl rfl ?_
                            refine go_dsub (q := 346) X56 hx (hb hby at_345) rfl w4 rfl ?_
                            refine go_dstore (q := 348) (l' := #[.val (.int ln), .val (.int bt), .val (.int cn), .val (.int (6 : Int32)), .val (.int b0), .val (.int b1), .val (.int b2), .val (.int b3), .val (.int b4), .val (.int b5), .val (.ref br), .val (.int rc), .val (.ref bo), .val (.double (FP.ddiv (a6 b0 b1 b2 b3 b4 b5).2 (FP.i2d rc))), .second, .val (.int f6), .val (.int m6), .val (.double (FP.dsub (FP.dmul (FP.ddiv (a6 b0 b1 b2 b3 b4 b5).2 (FP.i2d rc)) (FP.dmul (4633641066610819072 : UInt64) (FP.i2d rc))) (FP.i2d m6))), .second]) X56 hx (hb hby at_346) rfl rfl ?_
                            refine go_dload (q := 350) X56 hx (hb hby at_348) rfl rfl ?_
                            refine go_ldc2D (q := 353) (v := (4517329193108106637 : UInt64)) X56 hx hZ hown (hw _ (List.mem_of_getElem? (i := 25) rfl)) (hb hby at_350) rfl ?_
                            refine go_dcmp (q := 354) X56 hx (hb hby at_353) rfl rfl ?_
                            refine go_if_ge (q := 357) (q' := 370) X56 hx (hb hby at_354) rfl (by decide) rfl (fun hc354 => ?_) (fun hc354 => ?_)
                            · exact absurd w5 hc354
                            · refine go_dload (q := 359) X56 hx (hb hby at_357) rfl rfl ?_
                              refine go_ldc2D (q := 362) (v := (13740701229962882445 : UInt64)) X56 hx hZ hown (hw _ (List.mem_of_getElem? (i := 26) rfl)) (hb hby at_359) rfl ?_
                              refine go_dcmp (q := 363) X56 hx (hb hby at_362) rfl rfl ?_
                              refine go_if_le (q := 366) (q' := 370) X56 hx (hb hby at_363) rfl (by decide) rfl (fun hc363 => ?_) (fun hc363 => ?_)
                              · exact absurd w6 hc363
                              · refine go_iconst (q := 367) (v := (1 : Int32)) X56 hx (hb hby at_366) rfl rfl ?_
                                refine go_goto (q := 371) X56 hx (hb hby at_367) (by decide) rfl ?_
                                exact go_retN X56 hx (by simp) hret hlk (hb hby at_371) (by decide) (by decide) ⟨rfl, N56⟩
set_option maxRecDepth 65536 in
set_option maxHeartbeats 40000000 in
theorem comes_1 {Post : Tables → Env → Array Value → State → Outcome → State → Prop} (hpost : ∀ tb e args s v u, (limb_1_1.after args s (.returned v) u = true ∧ limb_1_2.after args s (.returned v) u = true ∧ True) → FrameEnd s (.returned v) u (Jvm.fieldLocs frame_1_writes args s ++ Jvm.arrayLocs frame_1_arrays args s ++ Jvm.staticLocs frame_1_statics s) 16 128 → Post tb e args s (.returned v) u) :
    ArmFor flags0 classFile x code maxLocals ret World_1 tables_1 room_1 Calls_1 rest_1 Pre_1 Post := by
  intro l hfl _ _ p e ha hc hk s m args below hf hA hF happ hP
  obtain ⟨hcalls, hrest, hpre⟩ := hP
  obtain ⟨-, -, -, hnamed, -, -, -, hat⟩ := (Spec.applies_iff hf).mp happ
  obtain ⟨hg, hn⟩ := and_e (Cond.before_iff.mp (show (Jvm.Cond.and given_1 narrow_1).before args s = true from hpre))
  obtain ⟨hcnt, hg0⟩ := and_e hg
  obtain ⟨ha0, hg1⟩ := and_e hg0
  obtain ⟨ha1, hg2⟩ := and_e hg1
  have ha2 := hg2
  obtain ⟨w0, w1, w2, rfl⟩ : ∃ w0 w1 w2 : Value, args = #[w0, w1, w2] := by
    have hs : args.size = 3 := by simpa [Cond.value, given_1] using hcnt
    obtain ⟨L⟩ := args
    match L, hs with
    | [w0, w1, w2], _ => exact ⟨w0, w1, w2, rfl⟩
  have hw := fun d (hd : d ∈ tables_1) => atoms_spec (ws := Jvm.Cond.code x code maxLocals ret :: tables_1) hat d (List.mem_cons_of_mem _ hd)
  obtain ⟨i0, ei0⟩ := is_v ha0
  obtain rfl : w0 = (.int i0) := Option.some.inj ei0
  obtain ⟨i1, ei1⟩ := is_v ha1
  obtain rfl : w1 = (.int i1) := Option.some.inj ei1
  obtain ⟨i2, ei2⟩ := is_v ha2
  obtain rfl : w2 = (.int i2) := Option.some.inj ei2
  obtain ⟨n, o, h1, h2, h3, _, L, rfl, ⟨rfl, N⟩, hq⟩ := rm0 l s _ hw tables_1 i0 i1 i2  s.heap  p e ha hc hk s m _ below hf ((Spec.applies_iff_loose hf).mp happ).1 ⟨rfl, State.Warmed39.refl s, rfl⟩ trivial
  refine ⟨n, _, h1, h2, h3, hpost _ _ _ _ _ _ ⟨Cond.after_iff.mpr rfl, Cond.after_iff.mpr (eq_i res_at (Term.int_eval (1)) rfl), trivial⟩ ⟨hq.1, hq.2.1, (hq.2.2.sift fun y hy => Or.inr (N y hy)).mono (by decide) (by decide)⟩⟩
theorem main_1_1 : Claimed_1_1 := comes_1 fun _ _ _ _ _ _ h hF => ⟨h.1, hF⟩
theorem main_1_2 : Claimed_1_2 := comes_1 fun _ _ _ _ _ _ h hF => ⟨h.2.1, hF⟩

end Jvm.Pilot.@@N@@
namespace Jvm.Pilot.@@N@@
open Jvm Jvm.ClassFile Sem Op Lib Jvm.Free Jvm.Stand Jvm.Pilot.@@N@@.Jvm.D
/-! MADE BY PROGRAM (witnessworld.py) out of the Statement's table words and the real class files: 12 classes; the members and pool entries that the words name. The judged class is class 1, her method 1. -/
namespace start1
open Jvm.ClassFile
def u (s : String) : CpInfo := .utf8 (stringToUtf16 s)
/-- a pool by its gaps: so many unusable entries, then the entry; so many at the end -/
def gap : Nat → List CpInfo → List CpInfo
  | 0, r => r
  | n + 1, r => .unusable :: gap n r
def poolList (es : List (Nat × CpInfo)) (last : Nat) : List CpInfo := es.foldr (fun e r => gap e.1 (e.2 :: r)) (gap last [])
def pool (es : List (Nat × CpInfo)) (last : Nat) : Array CpInfo := ⟨poolList es last⟩
def fileOf (pool : Array CpInfo) (this : Nat) (attrs : Array Attribute := #[]) (ms : Array MethodInfo := #[]) (fl : Nat := 33) (sup : Nat := 0) (ifs : Array Nat := #[]) (fds : Array FieldInfo := #[]) : ClassFile where
  minorVersion := 0
  majorVersion := 65
  constantPool := pool
  accessFlags := fl
  thisClass := this
  superClass := sup
  interfaces := ifs
  fields := fds
  methods := ms
  attributes := attrs
def plain (name : String) (sup : Option ClassId) : Class where
  name := name
  kind := .ordinary
  loader := none
  accessFlags := 33
  super := sup
  interfaces := #[]
  cf := none
  fields := #[]
  methods := #[]
  instanceTypes := #[]
  staticTypes := #[]
  resolved := #[]
  callSites := []
  init := .initialized
  statics := none
  mirror := none

def pool0 : Array CpInfo := pool [(5, u "<init>"), (0, u "()V"), (1, .class_ 10), (1, u "java/lang/Object")] 113

def k0c0 : Code := { maxStack := 0, maxLocals := 1, code := object_method_1_code, exceptionTable := #[], attributes := #[] }
def k0m0 : Method := { name := "<init>", desc := "()V", sig := { parameters := [], returnType := none }, accessFlags := 1, code := some k0c0 }
/-- java/lang/Object -/
def k0 : Class := { plain "java/lang/Object" none with
  accessFlags := 33
  interfaces := #[]
  cf := some (fileOf pool0 8 #[] #[{ accessFlags := 1, nameIndex := 5, descriptorIndex := 6, attributes := #[] }] 33 0 #[] #[])
  fields := #[]
  methods := #[k0m0]
  instanceTypes := #[]
  staticTypes := #[]
  resolved := Array.replicate 124 none
  statics := none }

def pool1 : Array CpInfo := pool [(2, .class_ 4), (1, u "java/lang/Object"), (0, u "<init>"), (0, u "()V"), (0, .integer 2147483647), (0, .methodref 9 10), (0, .class_ 11), (0, .nameAndType 12 13), (0, u "java/lang/Math"), (0, u "max"), (0, u "(II)I"), (0, .class_ 15), (0, u "com/example/forager/forager/eval/Ranking"), (0, .methodref 14 17), (0, .nameAndType 5 18), (0, u "([ZI)V"), (0, .methodref 14 20), (0, .nameAndType 21 22), (0, u "averagePrecision"), (0, u "()D"), (0, .double 4633641066610819072), (1, .double 4517329193108106637), (1, .double 13740701229962882445), (1, .class_ 30), (0, u "com/example/forager/forager/eval/RankingAveragePrecisionPinLaw"), (2, u "law"), (0, u "(III)Z")] 5

def k1m0 : Method := { name := "<init>", desc := "()V", sig := { parameters := [], returnType := none }, accessFlags := 1, code := none }
def k1c1 : Code := { maxStack := 6, maxLocals := 19, code := code, exceptionTable := #[], attributes := #[] }
def k1m1 : Method := { name := "law", desc := "(III)Z", sig := { parameters := [.int, .int, .int], returnType := some .boolean }, accessFlags := 9, code := some k1c1 }
/-- com/example/forager/forager/eval/RankingAveragePrecisionPinLaw -/
def k1 : Class := { plain "com/example/forager/forager/eval/RankingAveragePrecisionPinLaw" (some 0) with
  accessFlags := 49
  interfaces := #[]
  cf := some (fileOf pool1 29 #[] #[{ accessFlags := 1, nameIndex := 5, descriptorIndex := 6, attributes := #[] }, { accessFlags := 9, nameIndex := 33, descriptorIndex := 34, attributes := #[] }] 49 2 #[] #[])
  fields := #[]
  methods := #[k1m0, k1m1]
  instanceTypes := #[]
  staticTypes := #[]
  resolved := Array.replicate 40 none
  statics := none }

def pool2 : Array CpInfo := pool [(1, .class_ 2), (0, u "java/lang/Math"), (1, .class_ 6), (1, u "java/lang/Object"), (0, u "<init>"), (0, u "()V"), (89, .class_ 100), (1, u "java/lang/Math$RandomNumberGeneratorHolder"), (71, u "negativeZeroFloatBits"), (0, u "J"), (2, u "negativeZeroDoubleBits"), (21, u "max"), (46, u "$assertionsDisabled"), (0, u "Z"), (88, u "(II)I"), (2, u "twoToTheDoubleScaleDown"), (0, u "D"), (4, u "twoToTheDoubleScaleUp"), (9, u "E"), (3, u "PI"), (2, u "TAU"), (2, u "DEGREES_TO_RADIANS"), (0, u "RADIANS_TO_DEGREES")] 94

def k2m0 : Method := { name := "<init>", desc := "()V", sig := { parameters := [], returnType := none }, accessFlags := 2, code := none }
def k2c1 : Code := { maxStack := 2, maxLocals := 2, code := jdk_29_method_65_code, exceptionTable := #[], attributes := #[] }
def k2m1 : Method := { name := "max", desc := "(II)I", sig := { parameters := [.int, .int], returnType := some .int }, accessFlags := 9, code := some k2c1 }
/-- java/lang/Math -/
def k2 : Class := { plain "java/lang/Math" (some 0) with
  accessFlags := 49
  interfaces := #[]
  cf := some (fileOf pool2 1 #[.nestMembers #[98]] #[{ accessFlags := 2, nameIndex := 7, descriptorIndex := 8, attributes := #[] }, { accessFlags := 9, nameIndex := 198, descriptorIndex := 335, attributes := #[] }] 49 4 #[] #[{ accessFlags := 25, nameIndex := 354, descriptorIndex := 339, attributes := #[] }, { accessFlags := 25, nameIndex := 358, descriptorIndex := 339, attributes := #[] }, { accessFlags := 25, nameIndex := 361, descriptorIndex := 339, attributes := #[] }, { accessFlags := 26, nameIndex := 364, descriptorIndex := 339, attributes := #[] }, { accessFlags := 26, nameIndex := 365, descriptorIndex := 339, attributes := #[] }, { accessFlags := 26, nameIndex := 172, descriptorIndex := 173, attributes := #[] }, { accessFlags := 26, nameIndex := 176, descriptorIndex := 173, attributes := #[] }, { accessFlags := 8, nameIndex := 344, descriptorIndex := 339, attributes := #[] }, { accessFlags := 8, nameIndex := 338, descriptorIndex := 339, attributes := #[] }, { accessFlags := 4120, nameIndex := 245, descriptorIndex := 246, attributes := #[] }])
  fields := #[{ name := "E", type := .double, accessFlags := 25, slot := 0, constantValue := 0 }, { name := "PI", type := .double, accessFlags := 25, slot := 1, constantValue := 0 }, { name := "TAU", type := .double, accessFlags := 25, slot := 2, constantValue := 0 }, { name := "DEGREES_TO_RADIANS", type := .double, accessFlags := 26, slot := 3, constantValue := 0 }, { name := "RADIANS_TO_DEGREES", type := .double, accessFlags := 26, slot := 4, constantValue := 0 }, { name := "negativeZeroFloatBits", type := .long, accessFlags := 26, slot := 5, constantValue := 0 }, { name := "negativeZeroDoubleBits", type := .long, accessFlags := 26, slot := 6, constantValue := 0 }, { name := "twoToTheDoubleScaleUp", type := .double, accessFlags := 8, slot := 7, constantValue := 0 }, { name := "twoToTheDoubleScaleDown", type := .double, accessFlags := 8, slot := 8, constantValue := 0 }, { name := "$assertionsDisabled", type := .boolean, accessFlags := 4120, slot := 9, constantValue := 0 }]
  methods := #[k2m0, k2m1]
  instanceTypes := #[]
  staticTypes := #[.double, .double, .double, .double, .double, .long, .long, .double, .double, .boolean]
  resolved := Array.replicate 460 none
  statics := none }

def pool3 : Array CpInfo := pool [(1, .methodref 2 3), (0, .class_ 4), (0, .nameAndType 5 6), (0, u "java/lang/Object"), (0, u "<init>"), (0, u "()V"), (3, .fieldref 11 12), (0, .class_ 13), (0, .nameAndType 14 15), (0, u "com/example/forager/forager/eval/Ranking"), (0, u "relevant"), (0, u "[Z"), (0, .fieldref 11 17), (0, .nameAndType 18 19), (0, u "relevantCount"), (0, u "I"), (6, u "([ZI)V"), (6, u "averagePrecision"), (0, u "()D")] 2

def k3c0 : Code := { maxStack := 2, maxLocals := 3, code := prog_3_method_1_code, exceptionTable := #[], attributes := #[] }
def k3m0 : Method := { name := "<init>", desc := "([ZI)V", sig := { parameters := [(.array .boolean), .int], returnType := none }, accessFlags := 0, code := some k3c0 }
def k3c1 : Code := { maxStack := 6, maxLocals := 5, code := prog_3_method_3_code, exceptionTable := #[], attributes := #[] }
def k3m1 : Method := { name := "averagePrecision", desc := "()D", sig := { parameters := [], returnType := some .double }, accessFlags := 0, code := some k3c1 }
/-- com/example/forager/forager/eval/Ranking -/
def k3 : Class := { plain "com/example/forager/forager/eval/Ranking" (some 0) with
  accessFlags := 48
  interfaces := #[]
  cf := some (fileOf pool3 11 #[] #[{ accessFlags := 0, nameIndex := 5, descriptorIndex := 26, attributes := #[] }, { accessFlags := 0, nameIndex := 33, descriptorIndex := 34, attributes := #[] }] 48 2 #[] #[{ accessFlags := 18, nameIndex := 14, descriptorIndex := 15, attributes := #[] }, { accessFlags := 18, nameIndex := 18, descriptorIndex := 19, attributes := #[] }])
  fields := #[{ name := "relevant", type := (.array .boolean), accessFlags := 18, slot := 0, constantValue := 0 }, { name := "relevantCount", type := .int, accessFlags := 18, slot := 1, constantValue := 0 }]
  methods := #[k3m0, k3m1]
  instanceTypes := #[(.array .boolean), .int]
  staticTypes := #[]
  resolved := Array.replicate 37 none
  statics := none }

def pool4 : Array CpInfo := pool [(1, u "java/lang/Cloneable"), (0, .class_ 1), (0, u "java/lang/Object"), (0, .class_ 3)] 3

/-- java/lang/Cloneable -/
def k4 : Class := { plain "java/lang/Cloneable" (some 0) with
  accessFlags := 1537
  interfaces := #[]
  cf := some (fileOf pool4 2 #[] #[] 1537 4 #[] #[])
  fields := #[]
  methods := #[]
  instanceTypes := #[]
  staticTypes := #[]
  resolved := Array.replicate 8 none
  statics := none }

def pool5 : Array CpInfo := pool [(1, u "java/io/Serializable"), (0, .class_ 1), (0, u "java/lang/Object"), (0, .class_ 3)] 3

/-- java/io/Serializable -/
def k5 : Class := { plain "java/io/Serializable" (some 0) with
  accessFlags := 1537
  interfaces := #[]
  cf := some (fileOf pool5 2 #[] #[] 1537 4 #[] #[])
  fields := #[]
  methods := #[]
  instanceTypes := #[]
  staticTypes := #[]
  resolved := Array.replicate 8 none
  statics := none }

/-- the primitive boolean -/
def k6 : Class := { plain "boolean" none with kind := .primitive 'Z', accessFlags := 0x411 }
/-- [Z -/
def k7 : Class := { plain "[Z" (some 0) with kind := .array 6 .boolean, interfaces := #[4, 5], accessFlags := 1041 }

/-- the primitive byte -/
def k8 : Class := { plain "byte" none with kind := .primitive 'B', accessFlags := 0x411 }
/-- [B -/
def k9 : Class := { plain "[B" (some 0) with kind := .array 8 .byte, interfaces := #[4, 5], accessFlags := 1041 }

/-- the primitive int -/
def k10 : Class := { plain "int" none with kind := .primitive 'I', accessFlags := 0x411 }
/-- [I -/
def k11 : Class := { plain "[I" (some 0) with kind := .array 10 .int, interfaces := #[4, 5], accessFlags := 1041 }

def heap : Heap := #[]
def classes : Array Class := #[k0, k1, k2, k3, k4, k5, k6, k7, k8, k9, k10, k11]
def interned : List (Array UInt16 × Addr) := []
def slotsUsed : Nat := 0
def theMethod : MethodId := ⟨1, 1⟩
def args0 : Array Value := #[.int 3, .int 5, .int 2]
def aboutOver (below : List Frame) : State where
  vm := { classes := classes, interned := interned.toArray }
  heap := heap
  slotsUsed := slotsUsed
  threads := #[{ frames := .invoking theMethod args0 :: below }]
def below0 : List Frame := [.native { method := ⟨0, 0⟩, args := #[] }]
def about1 : State := aboutOver below0
def p0 : Program := .bare "" "" ""
def e0 : Env := launch0.env 0 0 0
theorem w_frames : about1.frames = Frame.invoking theMethod args0 :: below0 := rfl
set_option maxRecDepth 65536 in
theorem w_args : argsFit about1.vm theMethod args0 = true := by decide +kernel
set_option maxRecDepth 65536 in
theorem w_heap : heapFits about1 = true := by decide +kernel
set_option maxRecDepth 65536 in
theorem w_runnable : about1.curStatus? = some .runnable := by decide +kernel
set_option maxRecDepth 65536 in
theorem w_alone : about1.alone = true := by decide +kernel
set_option maxRecDepth 65536 in
theorem w_named : about1.methodNamed? x = some theMethod := by decide +kernel
set_option maxRecDepth 65536 in
theorem w_hears : about1.hears theMethod below0 = true := by decide +kernel
set_option maxRecDepth 65536 in
theorem w_ripe : about1.ripe theMethod args0 below0 = true := by decide +kernel
theorem w_running : about1.status = .running := rfl
set_option maxRecDepth 65536 in
theorem w_room : about1.hasRoom e0.platform room_1 = true :=
  launch0.hasRoom_least _ room_1 (by decide +kernel) (by decide +kernel) (by decide +kernel) (by decide +kernel) (by decide +kernel) (by decide +kernel)
theorem allAtoms_all (ts : List Jvm.Cond) (a : Array Jvm.Value) (st : Jvm.State) : (allAtoms ts).before a st = ts.all (fun c => c.before a st) := by
  induction ts with
  | nil => rfl
  | cons c t ih =>
    show (Jvm.Cond.and c (allAtoms t)).before a st = _
    rw [Jvm.Cond.before_and, ih, List.all_cons]
def words1 : List Jvm.Cond := Jvm.Cond.code x code maxLocals ret :: tables_1
/-- a 'code' word, met by the world's own term for the bytes: nothing is compared byte by byte -/
theorem code_word {y : MethodName} {bytes : ByteArray} {mx : Nat} {rt : Option FieldType} {a : Array Value} {s : State} {m : MethodId} {meth : Method} {c : Code} (h1 : s.methodNamed? y = some m) (h2 : s.vm.method? m = some meth) (h3 : meth.code = some c) (h4 : c.code = bytes)
    (h5 : (c.maxLocals == mx && c.exceptionTable.isEmpty && decide (c.maxStack ≤ mostOperands) && decide (meth.sig.returnType = rt) && !meth.locks && decide (parseMethodDescriptor y.desc = some meth.sig)) = true) : (Jvm.Cond.code y bytes mx rt).before a s = true := by
  simp only [Bool.and_eq_true, beq_iff_eq, Bool.not_eq_true', decide_eq_true_eq] at h5
  obtain ⟨⟨⟨⟨⟨g1, g2⟩, g3⟩, g4⟩, g5⟩, g6⟩ := h5
  simp [Cond.before, Cond.holds, Cond.value, h1, h2, h3, h4, g1, g2, g3, g4, g5, g6]
def isCode : Jvm.Cond → Bool
  | .code _ _ _ _ => true
  | _ => false
theorem all_split {L : List Jvm.Cond} {P : Jvm.Cond → Bool} (h1 : L.all (fun c => isCode c || P c) = true) (h2 : ∀ c ∈ L.filter isCode, P c = true) : L.all P = true := by
  refine List.all_eq_true.mpr fun c hc => ?_
  have h := List.all_eq_true.mp h1 c hc
  rcases Bool.eq_false_or_eq_true (isCode c) with hi | hi
  · exact h2 c (List.mem_filter.mpr ⟨hc, hi⟩)
  · simpa [hi] using h
set_option maxRecDepth 65536 in
theorem w_c0 : (Jvm.Cond.code x code maxLocals ret).before args0 about1 = true := code_word (m := ⟨1, 1⟩) (meth := k1m1) (c := k1c1) (by decide +kernel) rfl rfl rfl (by decide +kernel)
set_option maxRecDepth 65536 in
theorem w_c1 : (Jvm.Cond.code ({ cls := "java/lang/Math", name := "max", desc := "(II)I" } : Jvm.MethodName) jdk_29_method_65_code (2 : Nat) (Option.some Jvm.ClassFile.FieldType.int)).before args0 about1 = true := code_word (m := ⟨2, 1⟩) (meth := k2m1) (c := k2c1) (by decide +kernel) rfl rfl rfl (by decide +kernel)
set_option maxRecDepth 65536 in
theorem w_c2 : (Jvm.Cond.code ({ cls := "com/example/forager/forager/eval/Ranking", name := "<init>", desc := "([ZI)V" } : Jvm.MethodName) prog_3_method_1_code (3 : Nat) (Option.none : Option Jvm.ClassFile.FieldType)).before args0 about1 = true := code_word (m := ⟨3, 0⟩) (meth := k3m0) (c := k3c0) (by decide +kernel) rfl rfl rfl (by decide +kernel)
set_option maxRecDepth 65536 in
theorem w_c3 : (Jvm.Cond.code ({ cls := "java/lang/Object", name := "<init>", desc := "()V" } : Jvm.MethodName) object_method_1_code (1 : Nat) (Option.none : Option Jvm.ClassFile.FieldType)).before args0 about1 = true := code_word (m := ⟨0, 0⟩) (meth := k0m0) (c := k0c0) (by decide +kernel) rfl rfl rfl (by decide +kernel)
set_option maxRecDepth 65536 in
theorem w_c4 : (Jvm.Cond.code ({ cls := "com/example/forager/forager/eval/Ranking", name := "averagePrecision", desc := "()D" } : Jvm.MethodName) prog_3_method_3_code (5 : Nat) (Option.some Jvm.ClassFile.FieldType.double)).before args0 about1 = true := code_word (m := ⟨3, 1⟩) (meth := k3m1) (c := k3c1) (by decide +kernel) rfl rfl rfl (by decide +kernel)
def codes1 : List Jvm.Cond := [Jvm.Cond.code x code maxLocals ret, Jvm.Cond.code ({ cls := "java/lang/Math", name := "max", desc := "(II)I" } : Jvm.MethodName) jdk_29_method_65_code (2 : Nat) (Option.some Jvm.ClassFile.FieldType.int), Jvm.Cond.code ({ cls := "com/example/forager/forager/eval/Ranking", name := "<init>", desc := "([ZI)V" } : Jvm.MethodName) prog_3_method_1_code (3 : Nat) (Option.none : Option Jvm.ClassFile.FieldType), Jvm.Cond.code ({ cls := "java/lang/Object", name := "<init>", desc := "()V" } : Jvm.MethodName) object_method_1_code (1 : Nat) (Option.none : Option Jvm.ClassFile.FieldType), Jvm.Cond.code ({ cls := "com/example/forager/forager/eval/Ranking", name := "averagePrecision", desc := "()D" } : Jvm.MethodName) prog_3_method_3_code (5 : Nat) (Option.some Jvm.ClassFile.FieldType.double)]
set_option maxRecDepth 65536 in
theorem codes_eq : words1.filter isCode = codes1 := rfl
theorem w_codes : ∀ c ∈ words1.filter isCode, c.before args0 about1 = true := by
  rw [codes_eq]
  intro c hc
  simp only [codes1, List.mem_cons, List.not_mem_nil, or_false] at hc
  rcases hc with rfl | rfl | rfl | rfl | rfl
  · exact w_c0
  · exact w_c1
  · exact w_c2
  · exact w_c3
  · exact w_c4
set_option maxRecDepth 65536 in
theorem w_t1 : (words1.take 24).all (fun c => isCode c || c.before args0 about1) = true := by decide +kernel
set_option maxRecDepth 65536 in
theorem w_t2 : (words1.drop 24).all (fun c => isCode c || c.before args0 about1) = true := by decide +kernel
theorem w_tables : (allAtoms (Jvm.Cond.code x code maxLocals ret :: tables_1)).before args0 about1 = true := by
  rw [allAtoms_all]
  show words1.all (fun c => c.before args0 about1) = true
  refine all_split ?_ w_codes
  rw [← List.take_append_drop 24 words1, List.all_append, w_t1, w_t2]
  rfl
set_option maxRecDepth 65536 in
theorem w_case : (Jvm.Cond.and given_1 narrow_1).before args0 about1 = true := by decide +kernel
theorem w_applies : (headSpec (Jvm.Cond.code x code maxLocals ret :: tables_1) room_1).applies x e0.platform about1 = true :=
  (Spec.applies_iff w_frames).mpr ⟨w_running, w_runnable, w_alone, w_named, w_hears, w_ripe, w_room, w_tables⟩
theorem atStart : AtStart classFile x code maxLocals ret World_1 tables_1 room_1 Calls_1 rest_1 Pre_1 launch0 p0 e0 about1 theMethod args0 below0 :=
  ⟨lists_1, trivial, launch0.admits_env _ _ _, launch0.least_env, fairChoices_fair.cas, fairChoices_fair.clock, w_frames, w_args, w_heap, w_applies, trivial, trivial, w_case⟩
end start1
theorem witness_1 : WitnessClaimed_1 := ⟨start1.p0, start1.e0, start1.about1, start1.theMethod, start1.args0, start1.below0, start1.atStart⟩
end Jvm.Pilot.@@N@@
