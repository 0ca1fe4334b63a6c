import JvmDerived
import JvmDerived.Pilot.@@N@@Statement
import JvmDerived.Pilot.@@N@@Code
set_option linter.unusedVariables false
set_option linter.unusedSimpArgs false
namespace Jvm.Pilot.@@N@@
open Jvm Jvm.ClassFile Sem Op Lib Jvm.Free Jvm.Stand Jvm.LawKit Jvm.RoadKit Bundle Jvm.Pilot.@@N@@.Jvm.D

section OwnWalk
variable {p : Program} {l : Launch} {e : Env} {R : Room} {s : State} {m : MethodId} {args : Array Value} {below : List Frame} {meth : Method} {c : Code} {T : State} {locs : List Loc} {cells slots : Nat} {Z : State} {h : Heap} {Q : Option Value → Heap → List Loc → Prop} {ce sl : Nat} {pc q q' : Nat} {ls : Array Slot} {st : List Value} {a0 : Array Value}
/-- the rest of a body's run, from the frame g on -/
def Go (p : Program) (e : Env) (below : List Frame) (s : State) (Q : Option Value → Heap → List Loc → Prop) (ce sl : Nat) (T : State) (g : JFrame) : Prop :=
  ∃ s₂ o, Steps p.tables e below (T.setTop g) s₂ ∧ s₂.status = .running ∧ Ended s₂ below o ∧ ∃ v L, o = .returned v ∧ Q v s₂.heap L ∧ FrameEnd s o s₂ L ce sl
theorem Go.to {T' : State} {g g' : JFrame} (k : Go p e below s Q ce sl T' g') (f : ∀ t, Steps p.tables e below (T'.setTop g') t → Steps p.tables e below (T.setTop g) t) : Go p e below s Q ce sl T g := by
  obtain ⟨s2, o, h1, r⟩ := k
  exact ⟨s2, o, f _ h1, r⟩
theorem Go.cast {g g' : JFrame} (w : g = g') (k : Go p e below s Q ce sl T g') : Go p e below s Q ce sl T g := w ▸ k
/-- a body's contract: from these arguments, over this heap, it returns with Q -/
abbrev Con (l : Launch) (y : MethodName) (bytes : ByteArray) (maxL : Nat) (ret : Option FieldType) (ws : List Jvm.Cond) (rm : Room) (Z : State) (as' : Array Value) (h : Heap) (Q : Option Value → Heap → List Loc → Prop) : Prop :=
  MetFree l y (head1 (Jvm.Cond.code y bytes maxL ret :: ws) rm) (fun a U => a = as' ∧ Z.Warmed39 U.vm ∧ U.heap = h) (fun _ _ _ _ _ => True) (fun _ U o U' => ∃ v L, o = .returned v ∧ Q v U'.heap L ∧ FrameEnd U o U' L rm.cells rm.slots)
theorem con_of {y : MethodName} {bytes : ByteArray} {maxL : Nat} {ret : Option FieldType} {ws : List Jvm.Cond} {rm : Room} {as' : Array Value} (hpl : plainFor y = true)
    (body : ∀ (p : Program) (e : Env) (s : State) (m : MethodId) (below : List Frame) (meth : Method) (c : Code) (s₁ : State), Stand p l e rm s m as' below meth c s₁ [] 0 0 → p.tables.exec = Jvm.exec → c.code = bytes → c.maxLocals = maxL → meth.sig.returnType = ret → meth.locks = false → s.vm.findClass y.cls = some m.cls → meth.name = y.name → Z.Warmed39 s.vm → s₁.heap = h → Go p e below s Q rm.cells rm.slots s₁ (entryFrame m as' maxL)) :
    Con l y bytes maxL ret ws rm Z as' h Q := by
  refine MetFree.of_bodySF hpl hisR ?_
  intro p e s m args below meth c s₁ Bd hml0 hP hK
  obtain ⟨rfl, hZ, hh⟩ := hP
  exact body p e s m below meth c s₁ (Stand.of_body Bd) Bd.exec Bd.bytes hml0 Bd.returns Bd.notSynchronized (findClass_of_methodNamed Bd.named) (name_of_methodNamed Bd.named Bd.method).1 hZ (by rw [← hh, Bd.state]; rfl)
theorem go_iload (X : Stand p l e R s m args below meth c T locs cells slots) (hx : p.tables.exec = Jvm.exec) {k : Nat} {v : Int32} (hd : decode c.code pc = .ok (.iload k, 2)) (hp : pc + 2 = q) (hl : ls[k]? = some (.val (.int v))) (K : Go p e below s Q ce sl T (mkF m q ls (.int v :: st))) : Go p e below s Q ce sl T (mkF m pc ls st) := by
  subst hp
  exact K.to fun _ r => XS.iload X.here hx rfl hd hl r
theorem go_iloadN (X : Stand p l e R s m args below meth c T locs cells slots) (hx : p.tables.exec = Jvm.exec) {k : Fin 4} {v : Int32} (hd : decode c.code pc = .ok (.iload_n k, 1)) (hp : pc + 1 = q) (hl : ls[k.val]? = some (.val (.int v))) (K : Go p e below s Q ce sl T (mkF m q ls (.int v :: st))) : Go p e below s Q ce sl T (mkF m pc ls st) := by
  subst hp
  exact K.to fun _ r => XS.iloadN X.here hx rfl hd hl r
theorem go_istore (X : Stand p l e R s m args below meth c T locs cells slots) (hx : p.tables.exec = Jvm.exec) {k : Nat} {v : Int32} {l' : Array Slot} (hd : decode c.code pc = .ok (.istore k, 2)) (hp : pc + 2 = q) (hl : storeLocals ls k (.int v) = some l') (K : Go p e below s Q ce sl T (mkF m q l' st)) : Go p e below s Q ce sl T (mkF m pc ls (.int v :: st)) := by
  subst hp
  exact K.to fun _ r => XS.istore X.here hx rfl hd rfl hl r
theorem go_istoreN (X : Stand p l e R s m args below meth c T locs cells slots) (hx : p.tables.exec = Jvm.exec) {k : Fin 4} {v : Int32} {l' : Array Slot} (hd : decode c.code pc = .ok (.istore_n k, 1)) (hp : pc + 1 = q) (hl : storeLocals ls k.val (.int v) = some l') (K : Go p e below s Q ce sl T (mkF m q l' st)) : Go p e below s Q ce sl T (mkF m pc ls (.int v :: st)) := by
  subst hp
  exact K.to fun _ r => XS.istoreN X.here hx rfl hd rfl hl r
theorem go_lload (X : Stand p l e R s m args below meth c T locs cells slots) (hx : p.tables.exec = Jvm.exec) {k : Nat} {v : Int64} (hd : decode c.code pc = .ok (.lload k, 2)) (hp : pc + 2 = q) (hl : ls[k]? = some (.val (.long v))) (K : Go p e below s Q ce sl T (mkF m q ls (.long v :: st))) : Go p e below s Q ce sl T (mkF m pc ls st) := by
  subst hp
  exact K.to fun _ r => XS.lload X.here hx rfl hd hl r
theorem go_lloadN (X : Stand p l e R s m args below meth c T locs cells slots) (hx : p.tables.exec = Jvm.exec) {k : Fin 4} {v : Int64} (hd : decode c.code pc = .ok (.lload_n k, 1)) (hp : pc + 1 = q) (hl : ls[k.val]? = some (.val (.long v))) (K : Go p e below s Q ce sl T (mkF m q ls (.long v :: st))) : Go p e below s Q ce sl T (mkF m pc ls st) := by
  subst hp
  exact K.to fun _ r => XS.lloadN X.here hx rfl hd hl r
theorem go_lstore (X : Stand p l e R s m args below meth c T locs cells slots) (hx : p.tables.exec = Jvm.exec) {k : Nat} {v : Int64} {l' : Array Slot} (hd : decode c.code pc = .ok (.lstore k, 2)) (hp : pc + 2 = q) (hl : storeLocals ls k (.long v) = some l') (K : Go p e below s Q ce sl T (mkF m q l' st)) : Go p e below s Q ce sl T (mkF m pc ls (.long v :: st)) := by
  subst hp
  exact K.to fun _ r => XS.lstore X.here hx rfl hd rfl hl r
theorem go_lstoreN (X : Stand p l e R s m args below meth c T locs cells slots) (hx : p.tables.exec = Jvm.exec) {k : Fin 4} {v : Int64} {l' : Array Slot} (hd : decode c.code pc = .ok (.lstore_n k, 1)) (hp : pc + 1 = q) (hl : storeLocals ls k.val (.long v) = some l') (K : Go p e below s Q ce sl T (mkF m q l' st)) : Go p e below s Q ce sl T (mkF m pc ls (.long v :: st)) := by
  subst hp
  exact K.to fun _ r => XS.lstoreN X.here hx rfl hd rfl hl r
theorem go_dload (X : Stand p l e R s m args below meth c T locs cells slots) (hx : p.tables.exec = Jvm.exec) {k : Nat} {v : UInt64} (hd : decode c.code pc = .ok (.dload k, 2)) (hp : pc + 2 = q) (hl : ls[k]? = some (.val (.double v))) (K : Go p e below s Q ce sl T (mkF m q ls (.double v :: st))) : Go p e below s Q ce sl T (mkF m pc ls st) := by
  subst hp
  exact K.to fun _ r => XS.dload X.here hx rfl hd hl r
theorem go_dloadN (X : Stand p l e R s m args below meth c T locs cells slots) (hx : p.tables.exec = Jvm.exec) {k : Fin 4} {v : UInt64} (hd : decode c.code pc = .ok (.dload_n k, 1)) (hp : pc + 1 = q) (hl : ls[k.val]? = some (.val (.double v))) (K : Go p e below s Q ce sl T (mkF m q ls (.double v :: st))) : Go p e below s Q ce sl T (mkF m pc ls st) := by
  subst hp
  exact K.to fun _ r => XS.dloadN X.here hx rfl hd hl r
theorem go_dstore (X : Stand p l e R s m args below meth c T locs cells slots) (hx : p.tables.exec = Jvm.exec) {k : Nat} {v : UInt64} {l' : Array Slot} (hd : decode c.code pc = .ok (.dstore k, 2)) (hp : pc + 2 = q) (hl : storeLocals ls k (.double v) = some l') (K : Go p e below s Q ce sl T (mkF m q l' st)) : Go p e below s Q ce sl T (mkF m pc ls (.double v :: st)) := by
  subst hp
  exact K.to fun _ r => XS.dstore X.here hx rfl hd rfl hl r
theorem go_dstoreN (X : Stand p l e R s m args below meth c T locs cells slots) (hx : p.tables.exec = Jvm.exec) {k : Fin 4} {v : UInt64} {l' : Array Slot} (hd : decode c.code pc = .ok (.dstore_n k, 1)) (hp : pc + 1 = q) (hl : storeLocals ls k.val (.double v) = some l') (K : Go p e below s Q ce sl T (mkF m q l' st)) : Go p e below s Q ce sl T (mkF m pc ls (.double v :: st)) := by
  subst hp
  exact K.to fun _ r => XS.dstoreN X.here hx rfl hd rfl hl r
theorem go_fload (X : Stand p l e R s m args below meth c T locs cells slots) (hx : p.tables.exec = Jvm.exec) {k : Nat} {v : UInt32} (hd : decode c.code pc = .ok (.fload k, 2)) (hp : pc + 2 = q) (hl : ls[k]? = some (.val (.float v))) (K : Go p e below s Q ce sl T (mkF m q ls (.float v :: st))) : Go p e below s Q ce sl T (mkF m pc ls st) := by
  subst hp
  exact K.to fun _ r => XS.fload X.here hx rfl hd hl r
theorem go_floadN (X : Stand p l e R s m args below meth c T locs cells slots) (hx : p.tables.exec = Jvm.exec) {k : Fin 4} {v : UInt32} (hd : decode c.code pc = .ok (.fload_n k, 1)) (hp : pc + 1 = q) (hl : ls[k.val]? = some (.val (.float v))) (K : Go p e below s Q ce sl T (mkF m q ls (.float v :: st))) : Go p e below s Q ce sl T (mkF m pc ls st) := by
  subst hp
  exact K.to fun _ r => XS.floadN X.here hx rfl hd hl r
theorem go_fstore (X : Stand p l e R s m args below meth c T locs cells slots) (hx : p.tables.exec = Jvm.exec) {k : Nat} {v : UInt32} {l' : Array Slot} (hd : decode c.code pc = .ok (.fstore k, 2)) (hp : pc + 2 = q) (hl : storeLocals ls k (.float v) = some l') (K : Go p e below s Q ce sl T (mkF m q l' st)) : Go p e below s Q ce sl T (mkF m pc ls (.float v :: st)) := by
  subst hp
  exact K.to fun _ r => XS.fstore X.here hx rfl hd rfl hl r
theorem go_fstoreN (X : Stand p l e R s m args below meth c T locs cells slots) (hx : p.tables.exec = Jvm.exec) {k : Fin 4} {v : UInt32} {l' : Array Slot} (hd : decode c.code pc = .ok (.fstore_n k, 1)) (hp : pc + 1 = q) (hl : storeLocals ls k.val (.float v) = some l') (K : Go p e below s Q ce sl T (mkF m q l' st)) : Go p e below s Q ce sl T (mkF m pc ls (.float v :: st)) := by
  subst hp
  exact K.to fun _ r => XS.fstoreN X.here hx rfl hd rfl hl r
theorem go_aload (X : Stand p l e R s m args below meth c T locs cells slots) (hx : p.tables.exec = Jvm.exec) {k : Nat} {v : Value} (hd : decode c.code pc = .ok (.aload k, 2)) (hp : pc + 2 = q) (hl : ls[k]? = some (.val v)) (hv : v.isRef = true) (K : Go p e below s Q ce sl T (mkF m q ls (v :: st))) : Go p e below s Q ce sl T (mkF m pc ls st) := by
  subst hp
  exact K.to fun _ r => XS.aload X.here hx rfl hd hl hv r
theorem go_aloadN (X : Stand p l e R s m args below meth c T locs cells slots) (hx : p.tables.exec = Jvm.exec) {k : Fin 4} {v : Value} (hd : decode c.code pc = .ok (.aload_n k, 1)) (hp : pc + 1 = q) (hl : ls[k.val]? = some (.val v)) (hv : v.isRef = true) (K : Go p e below s Q ce sl T (mkF m q ls (v :: st))) : Go p e below s Q ce sl T (mkF m pc ls st) := by
  subst hp
  exact K.to fun _ r => XS.aloadN X.here hx rfl hd hl hv r
theorem go_astore (X : Stand p l e R s m args below meth c T locs cells slots) (hx : p.tables.exec = Jvm.exec) {k : Nat} {v : Value} {l' : Array Slot} (hd : decode c.code pc = .ok (.astore k, 2)) (hp : pc + 2 = q) (hv : v.isRef = true) (hl : storeLocals ls k v = some l') (K : Go p e below s Q ce sl T (mkF m q l' st)) : Go p e below s Q ce sl T (mkF m pc ls (v :: st)) := by
  subst hp
  exact K.to fun _ r => XS.astore X.here hx rfl hd rfl hv hl r
theorem go_astoreN (X : Stand p l e R s m args below meth c T locs cells slots) (hx : p.tables.exec = Jvm.exec) {k : Fin 4} {v : Value} {l' : Array Slot} (hd : decode c.code pc = .ok (.astore_n k, 1)) (hp : pc + 1 = q) (hv : v.isRef = true) (hl : storeLocals ls k.val v = some l') (K : Go p e below s Q ce sl T (mkF m q l' st)) : Go p e below s Q ce sl T (mkF m pc ls (v :: st)) := by
  subst hp
  exact K.to fun _ r => XS.astoreN X.here hx rfl hd rfl hv hl r
theorem go_iconst (X : Stand p l e R s m args below meth c T locs cells slots) (hx : p.tables.exec = Jvm.exec) {i : Int} {v : Int32} (hd : decode c.code pc = .ok (.iconst i, 1)) (hp : pc + 1 = q) (hv : Int32.ofInt i = v) (K : Go p e below s Q ce sl T (mkF m q ls (.int v :: st))) : Go p e below s Q ce sl T (mkF m pc ls st) := by
  subst hp
  exact K.to fun _ r => XS.iconst X.here hx rfl hd (hv ▸ r)
theorem go_bipush (X : Stand p l e R s m args below meth c T locs cells slots) (hx : p.tables.exec = Jvm.exec) {i : Int} {v : Int32} (hd : decode c.code pc = .ok (.bipush i, 2)) (hp : pc + 2 = q) (hv : (Int8.ofInt i).toInt32 = v) (K : Go p e below s Q ce sl T (mkF m q ls (.int v :: st))) : Go p e below s Q ce sl T (mkF m pc ls st) := by
  subst hp
  exact K.to fun _ r => XS.bipush X.here hx rfl hd (hv ▸ r)
theorem go_sipush (X : Stand p l e R s m args below meth c T locs cells slots) (hx : p.tables.exec = Jvm.exec) {i : Int} {v : Int32} (hd : decode c.code pc = .ok (.sipush i, 3)) (hp : pc + 3 = q) (hv : (Int16.ofInt i).toInt32 = v) (K : Go p e below s Q ce sl T (mkF m q ls (.int v :: st))) : Go p e below s Q ce sl T (mkF m pc ls st) := by
  subst hp
  exact K.to fun _ r => XS.sipush X.here hx rfl hd (hv ▸ r)
theorem go_lconst (X : Stand p l e R s m args below meth c T locs cells slots) (hx : p.tables.exec = Jvm.exec) {k : Fin 2} {v : Int64} (hd : decode c.code pc = .ok (.lconst k, 1)) (hp : pc + 1 = q) (hv : Int64.ofNat k = v) (K : Go p e below s Q ce sl T (mkF m q ls (.long v :: st))) : Go p e below s Q ce sl T (mkF m pc ls st) := by
  subst hp
  exact K.to fun _ r => XS.lconst X.here hx rfl hd (hv ▸ r)
theorem go_aconstNull (X : Stand p l e R s m args below meth c T locs cells slots) (hx : p.tables.exec = Jvm.exec)  (hd : decode c.code pc = .ok (.aconst_null, 1)) (hp : pc + 1 = q)  (K : Go p e below s Q ce sl T (mkF m q ls (.null :: st))) : Go p e below s Q ce sl T (mkF m pc ls st) := by
  subst hp
  exact K.to fun _ r => XS.aconstNull X.here hx rfl hd r
theorem go_dconst0 (X : Stand p l e R s m args below meth c T locs cells slots) (hx : p.tables.exec = Jvm.exec) {v : UInt64} (hd : decode c.code pc = .ok (.dconst 0, 1)) (hp : pc + 1 = q) (hv : FP.dconst0 = v) (K : Go p e below s Q ce sl T (mkF m q ls (.double v :: st))) : Go p e below s Q ce sl T (mkF m pc ls st) := by
  subst hp
  exact K.to fun _ r => XS.dconst0 X.here hx rfl hd hv r
theorem go_dconst1 (X : Stand p l e R s m args below meth c T locs cells slots) (hx : p.tables.exec = Jvm.exec) {v : UInt64} (hd : decode c.code pc = .ok (.dconst 1, 1)) (hp : pc + 1 = q) (hv : FP.dconst1 = v) (K : Go p e below s Q ce sl T (mkF m q ls (.double v :: st))) : Go p e below s Q ce sl T (mkF m pc ls st) := by
  subst hp
  exact K.to fun _ r => XS.dconst1 X.here hx rfl hd hv r
theorem go_iadd (X : Stand p l e R s m args below meth c T locs cells slots) (hx : p.tables.exec = Jvm.exec) {x y v : Int32} (hd : decode c.code pc = .ok (.iadd, 1)) (hp : pc + 1 = q) (hv : x + y = v) (K : Go p e below s Q ce sl T (mkF m q ls (.int v :: st))) : Go p e below s Q ce sl T (mkF m pc ls (.int y :: .int x :: st)) := by
  subst hp
  exact K.to fun _ r => XS.iadd X.here hx rfl hd rfl (hv ▸ r)
theorem go_isub (X : Stand p l e R s m args below meth c T locs cells slots) (hx : p.tables.exec = Jvm.exec) {x y v : Int32} (hd : decode c.code pc = .ok (.isub, 1)) (hp : pc + 1 = q) (hv : x - y = v) (K : Go p e below s Q ce sl T (mkF m q ls (.int v :: st))) : Go p e below s Q ce sl T (mkF m pc ls (.int y :: .int x :: st)) := by
  subst hp
  exact K.to fun _ r => XS.isub X.here hx rfl hd rfl (hv ▸ r)
theorem go_imul (X : Stand p l e R s m args below meth c T locs cells slots) (hx : p.tables.exec = Jvm.exec) {x y v : Int32} (hd : decode c.code pc = .ok (.imul, 1)) (hp : pc + 1 = q) (hv : x * y = v) (K : Go p e below s Q ce sl T (mkF m q ls (.int v :: st))) : Go p e below s Q ce sl T (mkF m pc ls (.int y :: .int x :: st)) := by
  subst hp
  exact K.to fun _ r => XS.imul X.here hx rfl hd rfl (hv ▸ r)
theorem go_iand (X : Stand p l e R s m args below meth c T locs cells slots) (hx : p.tables.exec = Jvm.exec) {x y v : Int32} (hd : decode c.code pc = .ok (.iand, 1)) (hp : pc + 1 = q) (hv : x &&& y = v) (K : Go p e below s Q ce sl T (mkF m q ls (.int v :: st))) : Go p e below s Q ce sl T (mkF m pc ls (.int y :: .int x :: st)) := by
  subst hp
  exact K.to fun _ r => XS.iand X.here hx rfl hd rfl (hv ▸ r)
theorem go_ior (X : Stand p l e R s m args below meth c T locs cells slots) (hx : p.tables.exec = Jvm.exec) {x y v : Int32} (hd : decode c.code pc = .ok (.ior, 1)) (hp : pc + 1 = q) (hv : x ||| y = v) (K : Go p e below s Q ce sl T (mkF m q ls (.int v :: st))) : Go p e below s Q ce sl T (mkF m pc ls (.int y :: .int x :: st)) := by
  subst hp
  exact K.to fun _ r => XS.ior X.here hx rfl hd rfl (hv ▸ r)
theorem go_ixor (X : Stand p l e R s m args below meth c T locs cells slots) (hx : p.tables.exec = Jvm.exec) {x y v : Int32} (hd : decode c.code pc = .ok (.ixor, 1)) (hp : pc + 1 = q) (hv : x ^^^ y = v) (K : Go p e below s Q ce sl T (mkF m q ls (.int v :: st))) : Go p e below s Q ce sl T (mkF m pc ls (.int y :: .int x :: st)) := by
  subst hp
  exact K.to fun _ r => XS.ixor X.here hx rfl hd rfl (hv ▸ r)
theorem go_ineg (X : Stand p l e R s m args below meth c T locs cells slots) (hx : p.tables.exec = Jvm.exec) {x v : Int32} (hd : decode c.code pc = .ok (.ineg, 1)) (hp : pc + 1 = q) (hv : -x = v) (K : Go p e below s Q ce sl T (mkF m q ls (.int v :: st))) : Go p e below s Q ce sl T (mkF m pc ls (.int x :: st)) := by
  subst hp
  exact K.to fun _ r => XS.ineg X.here hx rfl hd rfl (hv ▸ r)
theorem go_idiv (X : Stand p l e R s m args below meth c T locs cells slots) (hx : p.tables.exec = Jvm.exec) {x y v : Int32} (hd : decode c.code pc = .ok (.idiv, 1)) (hp : pc + 1 = q) (hy : y ≠ 0) (hv : x / y = v) (K : Go p e below s Q ce sl T (mkF m q ls (.int v :: st))) : Go p e below s Q ce sl T (mkF m pc ls (.int y :: .int x :: st)) := by
  subst hp
  exact K.to fun _ r => XS.idiv X.here hx rfl hd rfl hy (hv ▸ r)
theorem go_ladd (X : Stand p l e R s m args below meth c T locs cells slots) (hx : p.tables.exec = Jvm.exec) {x y v : Int64} (hd : decode c.code pc = .ok (.ladd, 1)) (hp : pc + 1 = q) (hv : x + y = v) (K : Go p e below s Q ce sl T (mkF m q ls (.long v :: st))) : Go p e below s Q ce sl T (mkF m pc ls (.long y :: .long x :: st)) := by
  subst hp
  exact K.to fun _ r => XS.ladd X.here hx rfl hd rfl (hv ▸ r)
theorem go_lsub (X : Stand p l e R s m args below meth c T locs cells slots) (hx : p.tables.exec = Jvm.exec) {x y v : Int64} (hd : decode c.code pc = .ok (.lsub, 1)) (hp : pc + 1 = q) (hv : x - y = v) (K : Go p e below s Q ce sl T (mkF m q ls (.long v :: st))) : Go p e below s Q ce sl T (mkF m pc ls (.long y :: .long x :: st)) := by
  subst hp
  exact K.to fun _ r => XS.lsub X.here hx rfl hd rfl (hv ▸ r)
theorem go_lmul (X : Stand p l e R s m args below meth c T locs cells slots) (hx : p.tables.exec = Jvm.exec) {x y v : Int64} (hd : decode c.code pc = .ok (.lmul, 1)) (hp : pc + 1 = q) (hv : x * y = v) (K : Go p e below s Q ce sl T (mkF m q ls (.long v :: st))) : Go p e below s Q ce sl T (mkF m pc ls (.long y :: .long x :: st)) := by
  subst hp
  exact K.to fun _ r => XS.lmul X.here hx rfl hd rfl (hv ▸ r)
theorem go_land (X : Stand p l e R s m args below meth c T locs cells slots) (hx : p.tables.exec = Jvm.exec) {x y v : Int64} (hd : decode c.code pc = .ok (.land, 1)) (hp : pc + 1 = q) (hv : x &&& y = v) (K : Go p e below s Q ce sl T (mkF m q ls (.long v :: st))) : Go p e below s Q ce sl T (mkF m pc ls (.long y :: .long x :: st)) := by
  subst hp
  exact K.to fun _ r => XS.land X.here hx rfl hd rfl (hv ▸ r)
theorem go_lor (X : Stand p l e R s m args below meth c T locs cells slots) (hx : p.tables.exec = Jvm.exec) {x y v : Int64} (hd : decode c.code pc = .ok (.lor, 1)) (hp : pc + 1 = q) (hv : x ||| y = v) (K : Go p e below s Q ce sl T (mkF m q ls (.long v :: st))) : Go p e below s Q ce sl T (mkF m pc ls (.long y :: .long x :: st)) := by
  subst hp
  exact K.to fun _ r => XS.lor X.here hx rfl hd rfl (hv ▸ r)
theorem go_lxor (X : Stand p l e R s m args below meth c T locs cells slots) (hx : p.tables.exec = Jvm.exec) {x y v : Int64} (hd : decode c.code pc = .ok (.lxor, 1)) (hp : pc + 1 = q) (hv : x ^^^ y = v) (K : Go p e below s Q ce sl T (mkF m q ls (.long v :: st))) : Go p e below s Q ce sl T (mkF m pc ls (.long y :: .long x :: st)) := by
  subst hp
  exact K.to fun _ r => XS.lxor X.here hx rfl hd rfl (hv ▸ r)
theorem go_lneg (X : Stand p l e R s m args below meth c T locs cells slots) (hx : p.tables.exec = Jvm.exec) {x v : Int64} (hd : decode c.code pc = .ok (.lneg, 1)) (hp : pc + 1 = q) (hv : -x = v) (K : Go p e below s Q ce sl T (mkF m q ls (.long v :: st))) : Go p e below s Q ce sl T (mkF m pc ls (.long x :: st)) := by
  subst hp
  exact K.to fun _ r => XS.lneg X.here hx rfl hd rfl (hv ▸ r)
theorem go_ldiv (X : Stand p l e R s m args below meth c T locs cells slots) (hx : p.tables.exec = Jvm.exec) {x y v : Int64} (hd : decode c.code pc = .ok (.ldiv, 1)) (hp : pc + 1 = q) (hy : y ≠ 0) (hv : x / y = v) (K : Go p e below s Q ce sl T (mkF m q ls (.long v :: st))) : Go p e below s Q ce sl T (mkF m pc ls (.long y :: .long x :: st)) := by
  subst hp
  exact K.to fun _ r => XS.ldiv X.here hx rfl hd rfl hy (hv ▸ r)
theorem go_irem (X : Stand p l e R s m args below meth c T locs cells slots) (hx : p.tables.exec = Jvm.exec) {x y v : Int32} (hd : decode c.code pc = .ok (.irem, 1)) (hp : pc + 1 = q) (hy : y ≠ 0) (hv : x % y = v) (K : Go p e below s Q ce sl T (mkF m q ls (.int v :: st))) : Go p e below s Q ce sl T (mkF m pc ls (.int y :: .int x :: st)) := by
  subst hp
  exact K.to fun _ r => iremM X hx rfl hd rfl hy (hv ▸ r)
theorem go_lrem (X : Stand p l e R s m args below meth c T locs cells slots) (hx : p.tables.exec = Jvm.exec) {x y v : Int64} (hd : decode c.code pc = .ok (.lrem, 1)) (hp : pc + 1 = q) (hy : y ≠ 0) (hv : x % y = v) (K : Go p e below s Q ce sl T (mkF m q ls (.long v :: st))) : Go p e below s Q ce sl T (mkF m pc ls (.long y :: .long x :: st)) := by
  subst hp
  exact K.to fun _ r => XS.lrem X.here hx rfl hd rfl hy ((lrem_mod x y).symm ▸ hv ▸ r)
theorem go_ishl (X : Stand p l e R s m args below meth c T locs cells slots) (hx : p.tables.exec = Jvm.exec) {x v : Int32} {y : Int32} (hd : decode c.code pc = .ok (.ishl, 1)) (hp : pc + 1 = q) (hv : (x <<< (y &&& 31)) = v) (K : Go p e below s Q ce sl T (mkF m q ls (.int v :: st))) : Go p e below s Q ce sl T (mkF m pc ls (.int y :: .int x :: st)) := by
  subst hp
  exact K.to fun _ r => XS.ishl X.here hx rfl hd rfl (hv ▸ r)
theorem go_ishr (X : Stand p l e R s m args below meth c T locs cells slots) (hx : p.tables.exec = Jvm.exec) {x v : Int32} {y : Int32} (hd : decode c.code pc = .ok (.ishr, 1)) (hp : pc + 1 = q) (hv : (x >>> (y &&& 31)) = v) (K : Go p e below s Q ce sl T (mkF m q ls (.int v :: st))) : Go p e below s Q ce sl T (mkF m pc ls (.int y :: .int x :: st)) := by
  subst hp
  exact K.to fun _ r => XS.ishr X.here hx rfl hd rfl (hv ▸ r)
theorem go_iushr (X : Stand p l e R s m args below meth c T locs cells slots) (hx : p.tables.exec = Jvm.exec) {x v : Int32} {y : Int32} (hd : decode c.code pc = .ok (.iushr, 1)) (hp : pc + 1 = q) (hv : ((x.toUInt32 >>> (y &&& 31).toUInt32).toInt32) = v) (K : Go p e below s Q ce sl T (mkF m q ls (.int v :: st))) : Go p e below s Q ce sl T (mkF m pc ls (.int y :: .int x :: st)) := by
  subst hp
  exact K.to fun _ r => XS.iushr X.here hx rfl hd rfl (hv ▸ r)
theorem go_lshl (X : Stand p l e R s m args below meth c T locs cells slots) (hx : p.tables.exec = Jvm.exec) {x v : Int64} {y : Int32} (hd : decode c.code pc = .ok (.lshl, 1)) (hp : pc + 1 = q) (hv : (x <<< (y &&& 0x3f).toInt64) = v) (K : Go p e below s Q ce sl T (mkF m q ls (.long v :: st))) : Go p e below s Q ce sl T (mkF m pc ls (.int y :: .long x :: st)) := by
  subst hp
  exact K.to fun _ r => XS.lshl X.here hx rfl hd rfl (hv ▸ r)
theorem go_lshr (X : Stand p l e R s m args below meth c T locs cells slots) (hx : p.tables.exec = Jvm.exec) {x v : Int64} {y : Int32} (hd : decode c.code pc = .ok (.lshr, 1)) (hp : pc + 1 = q) (hv : (x >>> (y &&& 0x3f).toInt64) = v) (K : Go p e below s Q ce sl T (mkF m q ls (.long v :: st))) : Go p e below s Q ce sl T (mkF m pc ls (.int y :: .long x :: st)) := by
  subst hp
  exact K.to fun _ r => XS.lshr X.here hx rfl hd rfl (hv ▸ r)
theorem go_lushr (X : Stand p l e R s m args below meth c T locs cells slots) (hx : p.tables.exec = Jvm.exec) {x v : Int64} {y : Int32} (hd : decode c.code pc = .ok (.lushr, 1)) (hp : pc + 1 = q) (hv : ((x.toUInt64 >>> (y &&& 0x3f).toInt64.toUInt64).toInt64) = v) (K : Go p e below s Q ce sl T (mkF m q ls (.long v :: st))) : Go p e below s Q ce sl T (mkF m pc ls (.int y :: .long x :: st)) := by
  subst hp
  exact K.to fun _ r => XS.lushr X.here hx rfl hd rfl (hv ▸ r)
theorem go_i2l (X : Stand p l e R s m args below meth c T locs cells slots) (hx : p.tables.exec = Jvm.exec) {x : Int32} {v : Int64} (hd : decode c.code pc = .ok (.i2l, 1)) (hp : pc + 1 = q) (hv : x.toInt64 = v) (K : Go p e below s Q ce sl T (mkF m q ls (.long v :: st))) : Go p e below s Q ce sl T (mkF m pc ls (.int x :: st)) := by
  subst hp
  exact K.to fun _ r => XS.i2l X.here hx rfl hd rfl (hv ▸ r)
theorem go_l2i (X : Stand p l e R s m args below meth c T locs cells slots) (hx : p.tables.exec = Jvm.exec) {x : Int64} {v : Int32} (hd : decode c.code pc = .ok (.l2i, 1)) (hp : pc + 1 = q) (hv : x.toInt32 = v) (K : Go p e below s Q ce sl T (mkF m q ls (.int v :: st))) : Go p e below s Q ce sl T (mkF m pc ls (.long x :: st)) := by
  subst hp
  exact K.to fun _ r => XS.l2i X.here hx rfl hd rfl (hv ▸ r)
theorem go_i2b (X : Stand p l e R s m args below meth c T locs cells slots) (hx : p.tables.exec = Jvm.exec) {x : Int32} {v : Int32} (hd : decode c.code pc = .ok (.i2b, 1)) (hp : pc + 1 = q) (hv : x.toInt8.toInt32 = v) (K : Go p e below s Q ce sl T (mkF m q ls (.int v :: st))) : Go p e below s Q ce sl T (mkF m pc ls (.int x :: st)) := by
  subst hp
  exact K.to fun _ r => XS.i2b X.here hx rfl hd rfl (hv ▸ r)
theorem go_i2s (X : Stand p l e R s m args below meth c T locs cells slots) (hx : p.tables.exec = Jvm.exec) {x : Int32} {v : Int32} (hd : decode c.code pc = .ok (.i2s, 1)) (hp : pc + 1 = q) (hv : x.toInt16.toInt32 = v) (K : Go p e below s Q ce sl T (mkF m q ls (.int v :: st))) : Go p e below s Q ce sl T (mkF m pc ls (.int x :: st)) := by
  subst hp
  exact K.to fun _ r => XS.i2s X.here hx rfl hd rfl (hv ▸ r)
theorem go_i2c (X : Stand p l e R s m args below meth c T locs cells slots) (hx : p.tables.exec = Jvm.exec) {x : Int32} {v : Int32} (hd : decode c.code pc = .ok (.i2c, 1)) (hp : pc + 1 = q) (hv : x.toUInt32.toUInt16.toUInt32.toInt32 = v) (K : Go p e below s Q ce sl T (mkF m q ls (.int v :: st))) : Go p e below s Q ce sl T (mkF m pc ls (.int x :: st)) := by
  subst hp
  exact K.to fun _ r => XS.i2c X.here hx rfl hd rfl (hv ▸ r)
theorem go_lcmp (X : Stand p l e R s m args below meth c T locs cells slots) (hx : p.tables.exec = Jvm.exec) {x y : Int64} (hd : decode c.code pc = .ok (.lcmp, 1)) (hp : pc + 1 = q)  (K : Go p e below s Q ce sl T (mkF m q ls (.int (lcmpW x y) :: st))) : Go p e below s Q ce sl T (mkF m pc ls (.long y :: .long x :: st)) := by
  subst hp
  exact K.to fun _ r => XS.lcmp X.here hx rfl hd rfl r
theorem go_i2d (X : Stand p l e R s m args below meth c T locs cells slots) (hx : p.tables.exec = Jvm.exec) {x : Int32} {v : UInt64} (hd : decode c.code pc = .ok (.i2d, 1)) (hp : pc + 1 = q) (hv : FP.i2d x = v) (K : Go p e below s Q ce sl T (mkF m q ls (.double v :: st))) : Go p e below s Q ce sl T (mkF m pc ls (.int x :: st)) := by
  subst hp
  exact K.to fun _ r => XS.i2dS X.here hx rfl hd rfl hv r
theorem go_l2d (X : Stand p l e R s m args below meth c T locs cells slots) (hx : p.tables.exec = Jvm.exec) {x : Int64} {v : UInt64} (hd : decode c.code pc = .ok (.l2d, 1)) (hp : pc + 1 = q) (hv : FP.l2d x = v) (K : Go p e below s Q ce sl T (mkF m q ls (.double v :: st))) : Go p e below s Q ce sl T (mkF m pc ls (.long x :: st)) := by
  subst hp
  exact K.to fun _ r => XS.l2dS X.here hx rfl hd rfl hv r
theorem go_d2l (X : Stand p l e R s m args below meth c T locs cells slots) (hx : p.tables.exec = Jvm.exec) {x : UInt64} {v : Int64} (hd : decode c.code pc = .ok (.d2l, 1)) (hp : pc + 1 = q) (hv : FP.d2l x = v) (K : Go p e below s Q ce sl T (mkF m q ls (.long v :: st))) : Go p e below s Q ce sl T (mkF m pc ls (.double x :: st)) := by
  subst hp
  exact K.to fun _ r => XS.d2lS X.here hx rfl hd rfl hv r
theorem go_i2f (X : Stand p l e R s m args below meth c T locs cells slots) (hx : p.tables.exec = Jvm.exec) {x : Int32} {v : UInt32} (hd : decode c.code pc = .ok (.i2f, 1)) (hp : pc + 1 = q) (hv : FP.i2f x = v) (K : Go p e below s Q ce sl T (mkF m q ls (.float v :: st))) : Go p e below s Q ce sl T (mkF m pc ls (.int x :: st)) := by
  subst hp
  exact K.to fun _ r => XS.i2fS X.here hx rfl hd rfl hv r
theorem go_f2d (X : Stand p l e R s m args below meth c T locs cells slots) (hx : p.tables.exec = Jvm.exec) {x : UInt32} {v : UInt64} (hd : decode c.code pc = .ok (.f2d, 1)) (hp : pc + 1 = q) (hn : Jvm.Free.Fl.NoNaN64 (FP.f2d x)) (hv : FP.f2d x = v) (K : Go p e below s Q ce sl T (mkF m q ls (.double v :: st))) : Go p e below s Q ce sl T (mkF m pc ls (.float x :: st)) := by
  subst hp
  exact K.to fun _ r => XS.f2dS X.here hx rfl hd rfl hn hv r
theorem go_dcmp (X : Stand p l e R s m args below meth c T locs cells slots) (hx : p.tables.exec = Jvm.exec) {o : CmpOp} {x y : UInt64} {v : Int32} (hd : decode c.code pc = .ok (.dcmp o, 1)) (hp : pc + 1 = q) (hv : cmpValue (FP.dcmp x y) o = v) (K : Go p e below s Q ce sl T (mkF m q ls (.int v :: st))) : Go p e below s Q ce sl T (mkF m pc ls (.double y :: .double x :: st)) := by
  subst hp
  exact K.to fun _ r => XS.dcmpS X.here hx rfl hd rfl hv r
theorem go_dadd (X : Stand p l e R s m args below meth c T locs cells slots) (hx : p.tables.exec = Jvm.exec) {x y v : UInt64} (hd : decode c.code pc = .ok (.dadd, 1)) (hp : pc + 1 = q) (hn : Jvm.Free.Fl.NoNaN64 (FP.dadd x y)) (hv : FP.dadd x y = v) (K : Go p e below s Q ce sl T (mkF m q ls (.double v :: st))) : Go p e below s Q ce sl T (mkF m pc ls (.double y :: .double x :: st)) := by
  subst hp
  exact K.to fun _ r => XS.daddS X.here hx rfl hd rfl hn hv r
theorem go_dsub (X : Stand p l e R s m args below meth c T locs cells slots) (hx : p.tables.exec = Jvm.exec) {x y v : UInt64} (hd : decode c.code pc = .ok (.dsub, 1)) (hp : pc + 1 = q) (hn : Jvm.Free.Fl.NoNaN64 (FP.dsub x y)) (hv : FP.dsub x y = v) (K : Go p e below s Q ce sl T (mkF m q ls (.double v :: st))) : Go p e below s Q ce sl T (mkF m pc ls (.double y :: .double x :: st)) := by
  subst hp
  exact K.to fun _ r => XS.dsubS X.here hx rfl hd rfl hn hv r
theorem go_dmul (X : Stand p l e R s m args below meth c T locs cells slots) (hx : p.tables.exec = Jvm.exec) {x y v : UInt64} (hd : decode c.code pc = .ok (.dmul, 1)) (hp : pc + 1 = q) (hn : Jvm.Free.Fl.NoNaN64 (FP.dmul x y)) (hv : FP.dmul x y = v) (K : Go p e below s Q ce sl T (mkF m q ls (.double v :: st))) : Go p e below s Q ce sl T (mkF m pc ls (.double y :: .double x :: st)) := by
  subst hp
  exact K.to fun _ r => XS.dmulS X.here hx rfl hd rfl hn hv r
theorem go_ddiv (X : Stand p l e R s m args below meth c T locs cells slots) (hx : p.tables.exec = Jvm.exec) {x y v : UInt64} (hd : decode c.code pc = .ok (.ddiv, 1)) (hp : pc + 1 = q) (hn : Jvm.Free.Fl.NoNaN64 (FP.ddiv x y)) (hv : FP.ddiv x y = v) (K : Go p e below s Q ce sl T (mkF m q ls (.double v :: st))) : Go p e below s Q ce sl T (mkF m pc ls (.double y :: .double x :: st)) := by
  subst hp
  exact K.to fun _ r => XS.ddivS X.here hx rfl hd rfl hn hv r
theorem go_dup (X : Stand p l e R s m args below meth c T locs cells slots) (hx : p.tables.exec = Jvm.exec) {v : Value} (hd : decode c.code pc = .ok (.dup, 1)) (hp : pc + 1 = q) (hv : v.category = 1) (K : Go p e below s Q ce sl T (mkF m q ls (v :: v :: st))) : Go p e below s Q ce sl T (mkF m pc ls (v :: st)) := by
  subst hp
  exact K.to fun _ r => XS.dup X.here hx rfl hd rfl hv r
theorem go_pop (X : Stand p l e R s m args below meth c T locs cells slots) (hx : p.tables.exec = Jvm.exec) {v : Value} (hd : decode c.code pc = .ok (.pop, 1)) (hp : pc + 1 = q) (hv : v.category = 1) (K : Go p e below s Q ce sl T (mkF m q ls st)) : Go p e below s Q ce sl T (mkF m pc ls (v :: st)) := by
  subst hp
  exact K.to fun _ r => XS.pop X.here hx rfl hd rfl hv r
theorem go_iinc (X : Stand p l e R s m args below meth c T locs cells slots) (hx : p.tables.exec = Jvm.exec) {k : Nat} {i : Int} {v : Int32} {l' : Array Slot} (hd : decode c.code pc = .ok (.iinc k i, 3)) (hp : pc + 3 = q) (hl : ls[k]? = some (.val (.int v))) (hs : storeLocals ls k (.int (v + Int32.ofInt i)) = some l') (K : Go p e below s Q ce sl T (mkF m q l' st)) : Go p e below s Q ce sl T (mkF m pc ls st) := by
  subst hp
  exact K.to fun _ r => XS.iinc X.here hx rfl hd hl hs r
theorem go_goto (X : Stand p l e R s m args below meth c T locs cells slots) (hx : p.tables.exec = Jvm.exec) {o : Int} (hd : decode c.code pc = .ok (.goto o, 3)) (ho : 0 ≤ (pc : Int) + o) (hq : ((pc : Int) + o).toNat = q) (K : Go p e below s Q ce sl T (mkF m q ls st)) : Go p e below s Q ce sl T (mkF m pc ls st) :=
  K.to fun _ r => XS.goto X.here hx rfl (pc0 := pc) rfl hd ho hq r
theorem go_icmp_lt (X : Stand p l e R s m args below meth c T locs cells slots) (hx : p.tables.exec = Jvm.exec) {x y : Int32} {o : Int} (hd : decode c.code pc = .ok (.if_icmp .lt o, 3)) (hp : pc + 3 = q) (ho : 0 ≤ (pc : Int) + o) (hq : ((pc : Int) + o).toNat = q') (KY : x < y → Go p e below s Q ce sl T (mkF m q' ls st)) (KN : ¬ x < y → Go p e below s Q ce sl T (mkF m q ls st)) : Go p e below s Q ce sl T (mkF m pc ls (.int y :: .int x :: st)) := by
  subst hp
  by_cases hc : x < y
  · exact (KY hc).to fun _ r => XS.icmpYes X.here hx rfl (pc0 := pc) rfl hd rfl (tlt hc).1 ho hq r
  · exact (KN hc).to fun _ r => XS.icmpNo X.here hx rfl hd rfl (flt hc).1 r
theorem go_if_lt (X : Stand p l e R s m args below meth c T locs cells slots) (hx : p.tables.exec = Jvm.exec) {x : Int32} {o : Int} (hd : decode c.code pc = .ok (.ifCond .lt o, 3)) (hp : pc + 3 = q) (ho : 0 ≤ (pc : Int) + o) (hq : ((pc : Int) + o).toNat = q') (KY : x < (0 : Int32) → Go p e below s Q ce sl T (mkF m q' ls st)) (KN : ¬ x < (0 : Int32) → Go p e below s Q ce sl T (mkF m q ls st)) : Go p e below s Q ce sl T (mkF m pc ls (.int x :: st)) := by
  subst hp
  by_cases hc : x < (0 : Int32)
  · exact (KY hc).to fun _ r => XS.ifYes X.here hx rfl (pc0 := pc) rfl hd rfl ((if0 _ _).trans (tlt hc).1) ho hq r
  · exact (KN hc).to fun _ r => XS.ifNo X.here hx rfl hd rfl ((if0 _ _).trans (flt hc).1) r
theorem go_lif_lt (X : Stand p l e R s m args below meth c T locs cells slots) (hx : p.tables.exec = Jvm.exec) {a b : Int64} {o : Int} (hd : decode c.code pc = .ok (.ifCond .lt o, 3)) (hp : pc + 3 = q) (ho : 0 ≤ (pc : Int) + o) (hq : ((pc : Int) + o).toNat = q') (KY : a < b → Go p e below s Q ce sl T (mkF m q' ls st)) (KN : ¬ a < b → Go p e below s Q ce sl T (mkF m q ls st)) : Go p e below s Q ce sl T (mkF m pc ls (.int (lcmpW a b) :: st)) :=
  go_if_lt X hx hd hp ho hq (fun w => KY ((lw_lt _ _).mp w)) (fun w => KN (fun z => w ((lw_lt _ _).mpr z)))
theorem go_icmp_ge (X : Stand p l e R s m args below meth c T locs cells slots) (hx : p.tables.exec = Jvm.exec) {x y : Int32} {o : Int} (hd : decode c.code pc = .ok (.if_icmp .ge o, 3)) (hp : pc + 3 = q) (ho : 0 ≤ (pc : Int) + o) (hq : ((pc : Int) + o).toNat = q') (KY : ¬ x < y → Go p e below s Q ce sl T (mkF m q' ls st)) (KN : x < y → Go p e below s Q ce sl T (mkF m q ls st)) : Go p e below s Q ce sl T (mkF m pc ls (.int y :: .int x :: st)) := by
  subst hp
  by_cases hc : x < y
  · exact (KN hc).to fun _ r => XS.icmpNo X.here hx rfl hd rfl (tlt hc).2.1 r
  · exact (KY hc).to fun _ r => XS.icmpYes X.here hx rfl (pc0 := pc) rfl hd rfl (flt hc).2.1 ho hq r
theorem go_if_ge (X : Stand p l e R s m args below meth c T locs cells slots) (hx : p.tables.exec = Jvm.exec) {x : Int32} {o : Int} (hd : decode c.code pc = .ok (.ifCond .ge o, 3)) (hp : pc + 3 = q) (ho : 0 ≤ (pc : Int) + o) (hq : ((pc : Int) + o).toNat = q') (KY : ¬ x < (0 : Int32) → Go p e below s Q ce sl T (mkF m q' ls st)) (KN : x < (0 : Int32) → Go p e below s Q ce sl T (mkF m q ls st)) : Go p e below s Q ce sl T (mkF m pc ls (.int x :: st)) := by
  subst hp
  by_cases hc : x < (0 : Int32)
  · exact (KN hc).to fun _ r => XS.ifNo X.here hx rfl hd rfl ((if0 _ _).trans (tlt hc).2.1) r
  · exact (KY hc).to fun _ r => XS.ifYes X.here hx rfl (pc0 := pc) rfl hd rfl ((if0 _ _).trans (flt hc).2.1) ho hq r
theorem go_lif_ge (X : Stand p l e R s m args below meth c T locs cells slots) (hx : p.tables.exec = Jvm.exec) {a b : Int64} {o : Int} (hd : decode c.code pc = .ok (.ifCond .ge o, 3)) (hp : pc + 3 = q) (ho : 0 ≤ (pc : Int) + o) (hq : ((pc : Int) + o).toNat = q') (KY : ¬ a < b → Go p e below s Q ce sl T (mkF m q' ls st)) (KN : a < b → Go p e below s Q ce sl T (mkF m q ls st)) : Go p e below s Q ce sl T (mkF m pc ls (.int (lcmpW a b) :: st)) :=
  go_if_ge X hx hd hp ho hq (fun w => KY (fun z => w ((lw_lt _ _).mpr z))) (fun w => KN ((lw_lt _ _).mp w))
theorem go_icmp_gt (X : Stand p l e R s m args below meth c T locs cells slots) (hx : p.tables.exec = Jvm.exec) {x y : Int32} {o : Int} (hd : decode c.code pc = .ok (.if_icmp .gt o, 3)) (hp : pc + 3 = q) (ho : 0 ≤ (pc : Int) + o) (hq : ((pc : Int) + o).toNat = q') (KY : y < x → Go p e below s Q ce sl T (mkF m q' ls st)) (KN : ¬ y < x → Go p e below s Q ce sl T (mkF m q ls st)) : Go p e below s Q ce sl T (mkF m pc ls (.int y :: .int x :: st)) := by
  subst hp
  by_cases hc : y < x
  · exact (KY hc).to fun _ r => XS.icmpYes X.here hx rfl (pc0 := pc) rfl hd rfl (tlt hc).2.2.1 ho hq r
  · exact (KN hc).to fun _ r => XS.icmpNo X.here hx rfl hd rfl (flt hc).2.2.1 r
theorem go_if_gt (X : Stand p l e R s m args below meth c T locs cells slots) (hx : p.tables.exec = Jvm.exec) {x : Int32} {o : Int} (hd : decode c.code pc = .ok (.ifCond .gt o, 3)) (hp : pc + 3 = q) (ho : 0 ≤ (pc : Int) + o) (hq : ((pc : Int) + o).toNat = q') (KY : (0 : Int32) < x → Go p e below s Q ce sl T (mkF m q' ls st)) (KN : ¬ (0 : Int32) < x → Go p e below s Q ce sl T (mkF m q ls st)) : Go p e below s Q ce sl T (mkF m pc ls (.int x :: st)) := by
  subst hp
  by_cases hc : (0 : Int32) < x
  · exact (KY hc).to fun _ r => XS.ifYes X.here hx rfl (pc0 := pc) rfl hd rfl ((if0 _ _).trans (tlt hc).2.2.1) ho hq r
  · exact (KN hc).to fun _ r => XS.ifNo X.here hx rfl hd rfl ((if0 _ _).trans (flt hc).2.2.1) r
theorem go_lif_gt (X : Stand p l e R s m args below meth c T locs cells slots) (hx : p.tables.exec = Jvm.exec) {a b : Int64} {o : Int} (hd : decode c.code pc = .ok (.ifCond .gt o, 3)) (hp : pc + 3 = q) (ho : 0 ≤ (pc : Int) + o) (hq : ((pc : Int) + o).toNat = q') (KY : b < a → Go p e below s Q ce sl T (mkF m q' ls st)) (KN : ¬ b < a → Go p e below s Q ce sl T (mkF m q ls st)) : Go p e below s Q ce sl T (mkF m pc ls (.int (lcmpW a b) :: st)) :=
  go_if_gt X hx hd hp ho hq (fun w => KY ((lw_gt _ _).mp w)) (fun w => KN (fun z => w ((lw_gt _ _).mpr z)))
theorem go_icmp_le (X : Stand p l e R s m args below meth c T locs cells slots) (hx : p.tables.exec = Jvm.exec) {x y : Int32} {o : Int} (hd : decode c.code pc = .ok (.if_icmp .le o, 3)) (hp : pc + 3 = q) (ho : 0 ≤ (pc : Int) + o) (hq : ((pc : Int) + o).toNat = q') (KY : ¬ y < x → Go p e below s Q ce sl T (mkF m q' ls st)) (KN : y < x → Go p e below s Q ce sl T (mkF m q ls st)) : Go p e below s Q ce sl T (mkF m pc ls (.int y :: .int x :: st)) := by
  subst hp
  by_cases hc : y < x
  · exact (KN hc).to fun _ r => XS.icmpNo X.here hx rfl hd rfl (tlt hc).2.2.2 r
  · exact (KY hc).to fun _ r => XS.icmpYes X.here hx rfl (pc0 := pc) rfl hd rfl (flt hc).2.2.2 ho hq r
theorem go_if_le (X : Stand p l e R s m args below meth c T locs cells slots) (hx : p.tables.exec = Jvm.exec) {x : Int32} {o : Int} (hd : decode c.code pc = .ok (.ifCond .le o, 3)) (hp : pc + 3 = q) (ho : 0 ≤ (pc : Int) + o) (hq : ((pc : Int) + o).toNat = q') (KY : ¬ (0 : Int32) < x → Go p e below s Q ce sl T (mkF m q' ls st)) (KN : (0 : Int32) < x → Go p e below s Q ce sl T (mkF m q ls st)) : Go p e below s Q ce sl T (mkF m pc ls (.int x :: st)) := by
  subst hp
  by_cases hc : (0 : Int32) < x
  · exact (KN hc).to fun _ r => XS.ifNo X.here hx rfl hd rfl ((if0 _ _).trans (tlt hc).2.2.2) r
  · exact (KY hc).to fun _ r => XS.ifYes X.here hx rfl (pc0 := pc) rfl hd rfl ((if0 _ _).trans (flt hc).2.2.2) ho hq r
theorem go_lif_le (X : Stand p l e R s m args below meth c T locs cells slots) (hx : p.tables.exec = Jvm.exec) {a b : Int64} {o : Int} (hd : decode c.code pc = .ok (.ifCond .le o, 3)) (hp : pc + 3 = q) (ho : 0 ≤ (pc : Int) + o) (hq : ((pc : Int) + o).toNat = q') (KY : ¬ b < a → Go p e below s Q ce sl T (mkF m q' ls st)) (KN : b < a → Go p e below s Q ce sl T (mkF m q ls st)) : Go p e below s Q ce sl T (mkF m pc ls (.int (lcmpW a b) :: st)) :=
  go_if_le X hx hd hp ho hq (fun w => KY (fun z => w ((lw_gt _ _).mpr z))) (fun w => KN ((lw_gt _ _).mp w))
theorem go_icmp_eq (X : Stand p l e R s m args below meth c T locs cells slots) (hx : p.tables.exec = Jvm.exec) {x y : Int32} {o : Int} (hd : decode c.code pc = .ok (.if_icmp .eq o, 3)) (hp : pc + 3 = q) (ho : 0 ≤ (pc : Int) + o) (hq : ((pc : Int) + o).toNat = q') (KY : x = y → Go p e below s Q ce sl T (mkF m q' ls st)) (KN : ¬ x = y → Go p e below s Q ce sl T (mkF m q ls st)) : Go p e below s Q ce sl T (mkF m pc ls (.int y :: .int x :: st)) := by
  subst hp
  by_cases hc : x = y
  · exact (KY hc).to fun _ r => XS.icmpYes X.here hx rfl (pc0 := pc) rfl hd rfl (teq hc).1 ho hq r
  · exact (KN hc).to fun _ r => XS.icmpNo X.here hx rfl hd rfl (feq hc).1 r
theorem go_if_eq (X : Stand p l e R s m args below meth c T locs cells slots) (hx : p.tables.exec = Jvm.exec) {x : Int32} {o : Int} (hd : decode c.code pc = .ok (.ifCond .eq o, 3)) (hp : pc + 3 = q) (ho : 0 ≤ (pc : Int) + o) (hq : ((pc : Int) + o).toNat = q') (KY : x = (0 : Int32) → Go p e below s Q ce sl T (mkF m q' ls st)) (KN : ¬ x = (0 : Int32) → Go p e below s Q ce sl T (mkF m q ls st)) : Go p e below s Q ce sl T (mkF m pc ls (.int x :: st)) := by
  subst hp
  by_cases hc : x = (0 : Int32)
  · exact (KY hc).to fun _ r => XS.ifYes X.here hx rfl (pc0 := pc) rfl hd rfl ((if0 _ _).trans (teq hc).1) ho hq r
  · exact (KN hc).to fun _ r => XS.ifNo X.here hx rfl hd rfl ((if0 _ _).trans (feq hc).1) r
theorem go_lif_eq (X : Stand p l e R s m args below meth c T locs cells slots) (hx : p.tables.exec = Jvm.exec) {a b : Int64} {o : Int} (hd : decode c.code pc = .ok (.ifCond .eq o, 3)) (hp : pc + 3 = q) (ho : 0 ≤ (pc : Int) + o) (hq : ((pc : Int) + o).toNat = q') (KY : a = b → Go p e below s Q ce sl T (mkF m q' ls st)) (KN : ¬ a = b → Go p e below s Q ce sl T (mkF m q ls st)) : Go p e below s Q ce sl T (mkF m pc ls (.int (lcmpW a b) :: st)) :=
  go_if_eq X hx hd hp ho hq (fun w => KY ((lw_eq _ _).mp w)) (fun w => KN (fun z => w ((lw_eq _ _).mpr z)))
theorem go_icmp_ne (X : Stand p l e R s m args below meth c T locs cells slots) (hx : p.tables.exec = Jvm.exec) {x y : Int32} {o : Int} (hd : decode c.code pc = .ok (.if_icmp .ne o, 3)) (hp : pc + 3 = q) (ho : 0 ≤ (pc : Int) + o) (hq : ((pc : Int) + o).toNat = q') (KY : ¬ x = y → Go p e below s Q ce sl T (mkF m q' ls st)) (KN : x = y → Go p e below s Q ce sl T (mkF m q ls st)) : Go p e below s Q ce sl T (mkF m pc ls (.int y :: .int x :: st)) := by
  subst hp
  by_cases hc : x = y
  · exact (KN hc).to fun _ r => XS.icmpNo X.here hx rfl hd rfl (teq hc).2 r
  · exact (KY hc).to fun _ r => XS.icmpYes X.here hx rfl (pc0 := pc) rfl hd rfl (feq hc).2 ho hq r
theorem go_if_ne (X : Stand p l e R s m args below meth c T locs cells slots) (hx : p.tables.exec = Jvm.exec) {x : Int32} {o : Int} (hd : decode c.code pc = .ok (.ifCond .ne o, 3)) (hp : pc + 3 = q) (ho : 0 ≤ (pc : Int) + o) (hq : ((pc : Int) + o).toNat = q') (KY : ¬ x = (0 : Int32) → Go p e below s Q ce sl T (mkF m q' ls st)) (KN : x = (0 : Int32) → Go p e below s Q ce sl T (mkF m q ls st)) : Go p e below s Q ce sl T (mkF m pc ls (.int x :: st)) := by
  subst hp
  by_cases hc : x = (0 : Int32)
  · exact (KN hc).to fun _ r => XS.ifNo X.here hx rfl hd rfl ((if0 _ _).trans (teq hc).2) r
  · exact (KY hc).to fun _ r => XS.ifYes X.here hx rfl (pc0 := pc) rfl hd rfl ((if0 _ _).trans (feq hc).2) ho hq r
theorem go_lif_ne (X : Stand p l e R s m args below meth c T locs cells slots) (hx : p.tables.exec = Jvm.exec) {a b : Int64} {o : Int} (hd : decode c.code pc = .ok (.ifCond .ne o, 3)) (hp : pc + 3 = q) (ho : 0 ≤ (pc : Int) + o) (hq : ((pc : Int) + o).toNat = q') (KY : ¬ a = b → Go p e below s Q ce sl T (mkF m q' ls st)) (KN : a = b → Go p e below s Q ce sl T (mkF m q ls st)) : Go p e below s Q ce sl T (mkF m pc ls (.int (lcmpW a b) :: st)) :=
  go_if_ne X hx hd hp ho hq (fun w => KY (fun z => w ((lw_eq _ _).mpr z))) (fun w => KN ((lw_eq _ _).mp w))
theorem go_ret (X : Stand p l e R s m args below meth c T locs cells slots) (hx : p.tables.exec = Jvm.exec) {w : Value} {t : FieldType} {i : Instr} (hret : meth.sig.returnType = some t) (hlk : meth.locks = false) (hn : narrow t w = w)
    (hi : (i = .ireturn ∧ (t = .int ∨ t = .boolean ∨ t = .byte ∨ t = .char ∨ t = .short) ∧ ∃ z, w = .int z) ∨ (i = .lreturn ∧ t = .long ∧ ∃ z, w = .long z) ∨ (i = .dreturn ∧ t = .double ∧ ∃ z, w = .double z) ∨ (i = .freturn ∧ t = .float ∧ ∃ z, w = .float z) ∨ (i = .areturn ∧ t.isReference = true ∧ w.isRef = true))
    (hd : decode c.code pc = .ok (i, 1)) (hc : cells ≤ ce) (hs : slots ≤ sl) (hQ : Q (some w) T.heap locs) : Go p e below s Q ce sl T (mkF m pc ls (w :: st)) := by
  obtain ⟨fs, hr, hrun, hended, hW, hsame⟩ := X.leave (v := some w) (fun h => by rw [hret] at h; cases h) hlk
  exact ⟨_, _, retOut X hx hret hn hi hd hr, hrun, hended, _, _, rfl, hQ, ⟨_, rfl⟩, hW, hsame.mono hc hs⟩
theorem go_retD (X : Stand p l e R s m args below meth c T locs cells slots) (hx : p.tables.exec = Jvm.exec) {v : UInt64} (hret : meth.sig.returnType = some .double) (hlk : meth.locks = false) (hd : decode c.code pc = .ok (.dreturn, 1)) (hc : cells ≤ ce) (hs : slots ≤ sl) (hQ : Q (some (.double v)) T.heap locs) : Go p e below s Q ce sl T (mkF m pc ls (.double v :: st)) :=
  go_ret X hx hret hlk rfl (Or.inr (Or.inr (Or.inl ⟨rfl, rfl, v, rfl⟩))) hd hc hs hQ
theorem go_retJ (X : Stand p l e R s m args below meth c T locs cells slots) (hx : p.tables.exec = Jvm.exec) {v : Int64} (hret : meth.sig.returnType = some .long) (hlk : meth.locks = false) (hd : decode c.code pc = .ok (.lreturn, 1)) (hc : cells ≤ ce) (hs : slots ≤ sl) (hQ : Q (some (.long v)) T.heap locs) : Go p e below s Q ce sl T (mkF m pc ls (.long v :: st)) :=
  go_ret X hx hret hlk rfl (Or.inr (Or.inl ⟨rfl, rfl, v, rfl⟩)) hd hc hs hQ
theorem go_retI (X : Stand p l e R s m args below meth c T locs cells slots) (hx : p.tables.exec = Jvm.exec) {v : Int32} (hret : meth.sig.returnType = some .int) (hlk : meth.locks = false) (hd : decode c.code pc = .ok (.ireturn, 1)) (hc : cells ≤ ce) (hs : slots ≤ sl) (hQ : Q (some (.int v)) T.heap locs) : Go p e below s Q ce sl T (mkF m pc ls (.int v :: st)) :=
  go_ret X hx hret hlk rfl (Or.inl ⟨rfl, Or.inl rfl, v, rfl⟩) hd hc hs hQ
theorem go_retA (X : Stand p l e R s m args below meth c T locs cells slots) (hx : p.tables.exec = Jvm.exec) {v : Value} {t : FieldType} (hret : meth.sig.returnType = some t) (hlk : meth.locks = false) (ht : t.isReference = true) (hv : v.isRef = true) (hn : narrow t v = v) (hd : decode c.code pc = .ok (.areturn, 1)) (hc : cells ≤ ce) (hs : slots ≤ sl) (hQ : Q (some v) T.heap locs) : Go p e below s Q ce sl T (mkF m pc ls (v :: st)) :=
  go_ret X hx hret hlk hn (Or.inr (Or.inr (Or.inr (Or.inr ⟨rfl, ht, hv⟩)))) hd hc hs hQ
theorem go_retN (X : Stand p l e R s m args below meth c T locs cells slots) (hx : p.tables.exec = Jvm.exec) {z : Int32} {t : FieldType} (ht : t = .boolean ∨ t = .byte ∨ t = .char ∨ t = .short) (hret : meth.sig.returnType = some t) (hlk : meth.locks = false) (hd : decode c.code pc = .ok (.ireturn, 1)) (hc : cells ≤ ce) (hs : slots ≤ sl) (hQ : Q (some (.int (nar t z))) T.heap locs) : Go p e below s Q ce sl T (mkF m pc ls (.int z :: st)) := by
  obtain ⟨fs, hr, hrun, hended, hW, hsame⟩ := X.leave (v := some (.int (nar t z))) (fun h => by rw [hret] at h; cases h) hlk
  exact ⟨_, _, retN X hx hret ht hd hr, hrun, hended, _, _, rfl, hQ, ⟨_, rfl⟩, hW, hsame.mono hc hs⟩
theorem go_retV (X : Stand p l e R s m args below meth c T locs cells slots) (hx : p.tables.exec = Jvm.exec) (hret : meth.sig.returnType = none) (hlk : meth.locks = false) (hd : decode c.code pc = .ok (.return_, 1)) (hc : cells ≤ ce) (hs : slots ≤ sl) (hQ : Q none T.heap locs) : Go p e below s Q ce sl T (mkF m pc ls []) := by
  obtain ⟨fs, hr, hrun, hended, hW, hsame⟩ := X.leave (v := none) (fun _ => rfl) hlk
  exact ⟨_, _, X.returnOut hx hret hd hr, hrun, hended, _, _, rfl, hQ, ⟨_, rfl⟩, hW, hsame.mono hc hs⟩
theorem go_ldcI (X : Stand p l e R s m args below meth c T locs cells slots) (hx : p.tables.exec = Jvm.exec) (hZ : Z.Warmed39 s.vm) {own : String} {index : Nat} {v : Int32} (hown : s.vm.findClass own = some m.cls) (w : (Jvm.Cond.constant own index v).before a0 Z = true) (hd : decode c.code pc = .ok (.ldc index, 2)) (hp : pc + 2 = q) (K : Go p e below s Q ce sl T (mkF m q ls (.int v :: st))) : Go p e below s Q ce sl T (mkF m pc ls st) := by
  subst hp
  exact K.to fun t r => X.ldcInt hx hown (mvT hZ w) (g := mkF m pc ls st) rfl hd t r
theorem go_ldc2J (X : Stand p l e R s m args below meth c T locs cells slots) (hx : p.tables.exec = Jvm.exec) (hZ : Z.Warmed39 s.vm) {own : String} {index : Nat} {v : Int64} (hown : s.vm.findClass own = some m.cls) (w : (Jvm.Cond.constantLong own index v).before a0 Z = true) (hd : decode c.code pc = .ok (.ldc2_w index, 3)) (hp : pc + 3 = q) (K : Go p e below s Q ce sl T (mkF m q ls (.long v :: st))) : Go p e below s Q ce sl T (mkF m pc ls st) := by
  subst hp
  exact K.to fun t r => X.ldc2Long hx hown (mvT hZ w) (g := mkF m pc ls st) rfl hd t r
theorem go_ldc2D (X : Stand p l e R s m args below meth c T locs cells slots) (hx : p.tables.exec = Jvm.exec) (hZ : Z.Warmed39 s.vm) {own : String} {index : Nat} {v : UInt64} (hown : s.vm.findClass own = some m.cls) (w : (Jvm.Cond.constantDouble own index v).before a0 Z = true) (hd : decode c.code pc = .ok (.ldc2_w index, 3)) (hp : pc + 3 = q) (K : Go p e below s Q ce sl T (mkF m q ls (.double v :: st))) : Go p e below s Q ce sl T (mkF m pc ls st) := by
  subst hp
  exact K.to fun t r => X.ldc2DoubleC hx hown (mvT hZ w) (g := mkF m pc ls st) rfl hd t r
theorem go_callS (X : Stand p l e R s m args below meth c T locs cells slots) (hx : p.tables.exec = Jvm.exec) (hZ : Z.Warmed39 s.vm) {own : String} {index : Nat} {y : MethodName} {bytes : ByteArray} {maxL : Nat} {ret : Option FieldType} {rm : Room} {W : Nat} {Qc : Option Value → Heap → List Loc → Prop} (hown : s.vm.findClass own = some m.cls) (eT : T.heap = h)
    (w1 : (Jvm.Cond.methodLink own index y).before a0 Z = true) (w2 : (Jvm.Cond.static y).before a0 Z = true) (w3 : (Jvm.Cond.initialized y.cls).before a0 Z = true) (w4 : (Jvm.Cond.code y bytes maxL ret).before a0 Z = true) (hy : y.cls ≠ "java/lang/invoke/MethodHandle" ∧ y.cls ≠ "java/lang/invoke/VarHandle")
    (argsL rest : List Value) (hM : Con l y bytes maxL ret [] rm Z argsL.toArray h Qc) (hsz : ls.size = c.maxLocals) (hst : st = argsL.reverse ++ rest) (hlen : ∀ sig, parseMethodDescriptor y.desc = some sig → argsL.length = sig.parameters.length) (hW : (rest.map fun v => v.category).sum ≤ W)
    (hf : rm.frames + 1 ≤ R.frames) (hl : W + (maxL + 11) + rm.locals ≤ R.locals) (hd : decode c.code pc = .ok (.invokestatic index, 3)) (hp : pc + 3 = q) (hc : cells + rm.cells ≤ R.cells) (hs : slots + rm.slots ≤ R.slots)
    (K : ∀ (T' : State) (L : List Loc) (v : Option Value), Stand p l e R s m args below meth c T' (locs ++ L) (cells + rm.cells) (slots + rm.slots) → Qc v T'.heap L → Go p e below s Q ce sl T' (mkF m q ls (v.toList ++ rest))) : Go p e below s Q ce sl T (mkF m pc ls st) := by
  subst hp
  obtain ⟨v, _, ⟨T', L', k', n'⟩, -, X', ⟨Lc, hQ, l1, y1, z1⟩, stp⟩ := Jvm.LawKit.callS X hx (y := y) hown (mvT hZ w1) (mvT hZ w2) (mvT hZ w3) (mvT hZ w4) hy (backOf (W := W) hM hZ w4 w3 hf hl) (g := mkF m pc ls st) rfl hsz (argsL := argsL) (rest := rest) hlen hst (by show 2 * 0 + _ ≤ _; omega) hd (fun _ _ => ⟨rfl, eT, hc, hs⟩)
  dsimp only [Pt.U, Pt.locs, Pt.cells, Pt.slots] at X' l1 y1 z1 stp hQ
  subst l1 y1 z1
  exact (K T' Lc v X' hQ).to fun t r => stp t r
theorem go_callI (X : Stand p l e R s m args below meth c T locs cells slots) (hx : p.tables.exec = Jvm.exec) (hZ : Z.Warmed39 s.vm) {own : String} {index : Nat} {y : MethodName} {bytes : ByteArray} {maxL : Nat} {rm : Room} {W : Nat} {Qc : Option Value → Heap → List Loc → Prop} (hown : s.vm.findClass own = some m.cls) (eT : T.heap = h) (hy1 : y.name = "<init>")
    (w1 : (Jvm.Cond.methodLink own index y).before a0 Z = true) (w2 : (Jvm.Cond.instanceMethod y).before a0 Z = true) (w3 : (Jvm.Cond.initialized y.cls).before a0 Z = true) (w4 : (Jvm.Cond.code y bytes maxL none).before a0 Z = true) (hy : y.cls ≠ "java/lang/invoke/MethodHandle" ∧ y.cls ≠ "java/lang/invoke/VarHandle")
    (a : Addr) (argsL rest : List Value) (hM : Con l y bytes maxL none [] rm Z (.ref a :: argsL).toArray h Qc) (hsz : ls.size = c.maxLocals) (hst : st = argsL.reverse ++ .ref a :: rest) (hlen : ∀ sig, parseMethodDescriptor y.desc = some sig → argsL.length = sig.parameters.length) (hW : (rest.map fun v => v.category).sum ≤ W)
    (hf : rm.frames + 1 ≤ R.frames) (hl : W + (maxL + 11) + rm.locals ≤ R.locals) (hd : decode c.code pc = .ok (.invokespecial index, 3)) (hp : pc + 3 = q) (hc : cells + rm.cells ≤ R.cells) (hs : slots + rm.slots ≤ R.slots)
    (K : ∀ (T' : State) (L : List Loc) (v : Option Value), Stand p l e R s m args below meth c T' (locs ++ L) (cells + rm.cells) (slots + rm.slots) → Qc v T'.heap L → Go p e below s Q ce sl T' (mkF m q ls (v.toList ++ rest))) : Go p e below s Q ce sl T (mkF m pc ls st) := by
  subst hp
  obtain ⟨v, _, ⟨T', L', k', n'⟩, -, X', ⟨Lc, hQ, l1, y1, z1⟩, stp⟩ := X.specialBack hx (y := y) hy1 hown (mvT hZ w1) (mvT hZ w2) (mvT hZ w4) hy (backOf (W := W) hM hZ w4 w3 hf hl) (g := mkF m pc ls st) rfl hsz (Steps.refl _) (a := a) (argsL := argsL) (rest := rest) hlen hst (by show 2 * 0 + _ ≤ _; omega) hd (fun _ _ => ⟨rfl, eT, hc, hs⟩)
  dsimp only [Pt.U, Pt.locs, Pt.cells, Pt.slots] at X' l1 y1 z1 stp hQ
  subst l1 y1 z1
  exact (K T' Lc v X' hQ).to fun t r => stp.trans r
theorem go_callV (X : Stand p l e R s m args below meth c T locs cells slots) (hx : p.tables.exec = Jvm.exec) (hZ : Z.Warmed39 s.vm) {own C : String} {index : Nat} {y : MethodName} {bytes : ByteArray} {maxL : Nat} {ret : Option FieldType} {rm : Room} {W : Nat} {Qc : Option Value → Heap → List Loc → Prop} {z : MethodName} (hown : s.vm.findClass own = some m.cls) (eT : T.heap = h)
    (w1 : (Jvm.Cond.methodLink own index y).before a0 Z = true) (w2 : (Jvm.Cond.declares y).before a0 Z = true) (hnf : NotFace s y) (w3 : (Jvm.Cond.selects C y z).before a0 Z = true) (w5 : (Jvm.Cond.instanceMethod z).before a0 Z = true) (w6 : (Jvm.Cond.initialized z.cls).before a0 Z = true) (w4 : (Jvm.Cond.code z bytes maxL ret).before a0 Z = true) (hy : y.cls ≠ "java/lang/invoke/MethodHandle" ∧ y.cls ≠ "java/lang/invoke/VarHandle")
    (a : Addr) (argsL rest : List Value) (E : Exa Z h a C) (hM : Con l z bytes maxL ret [] rm Z (.ref a :: argsL).toArray h Qc) (hsz : ls.size = c.maxLocals) (hst : st = argsL.reverse ++ .ref a :: rest) (hlen : ∀ sig, parseMethodDescriptor y.desc = some sig → argsL.length = sig.parameters.length) (hW : (rest.map fun v => v.category).sum ≤ W)
    (hf : rm.frames + 1 ≤ R.frames) (hl : W + (maxL + 11) + rm.locals ≤ R.locals) (hd : decode c.code pc = .ok (.invokevirtual index, 3)) (hp : pc + 3 = q) (hc : cells + rm.cells ≤ R.cells) (hs : slots + rm.slots ≤ R.slots)
    (K : ∀ (T' : State) (L : List Loc) (v : Option Value), Stand p l e R s m args below meth c T' (locs ++ L) (cells + rm.cells) (slots + rm.slots) → Qc v T'.heap L → Go p e below s Q ce sl T' (mkF m q ls (v.toList ++ rest))) : Go p e below s Q ce sl T (mkF m pc ls st) := by
  subst hp
  obtain ⟨cq, kq, qa, qb, qc⟩ := isOf hZ eT E
  obtain ⟨v, _, ⟨T', L', k', n'⟩, -, X', ⟨Lc, hQ, l1, y1, z1⟩, stp⟩ := X.virtualBack hx (y := y) (z := z) hown (mvT hZ w1) (mvT hZ w2) hnf (mvT hZ w3) (mvT hZ w5) hy (backOf (W := W) hM hZ w4 w6 hf hl) qa qc (g := mkF m pc ls st) rfl hsz (Steps.refl _) (argsL := argsL) (rest := rest) hlen hst (by show 2 * 0 + _ ≤ _; omega) hd (fun _ _ => ⟨rfl, eT, hc, hs⟩)
  dsimp only [Pt.U, Pt.locs, Pt.cells, Pt.slots] at X' l1 y1 z1 stp hQ
  subst l1 y1 z1
  exact (K T' Lc v X' hQ).to fun t r => stp.trans r
end OwnWalk

section OwnHeap
variable {p : Program} {l : Launch} {e : Env} {R : Room} {s : State} {m : MethodId} {args : Array Value} {below : List Frame} {meth : Method} {c : Code} {T : State} {locs : List Loc} {cells slots : Nat} {Z : State} {h : Heap} {Q : Option Value → Heap → List Loc → Prop} {ce sl : Nat} {pc q q' : Nat} {ls : Array Slot} {st : List Value} {a0 : Array Value} {n0 : Nat} {a : Addr}
theorem go_getS (X : Stand p l e R s m args below meth c T locs cells slots) (hx : p.tables.exec = Jvm.exec) (hZ : Z.Warmed39 s.vm) {own R0 O n d host : String} {index : Nat} (hown : s.vm.findClass own = some m.cls) (w : (Jvm.Cond.fieldLink own index R0 n d).before a0 Z = true ∨ (Jvm.Cond.fieldLinkNest own index R0 n d host).before a0 Z = true) (via : Via Z R0 O n d) (eT : T.heap = h) {v : Value} (F : Sta Z h O n d v) (hd : decode c.code pc = .ok (.getstatic index, 3)) (hp : pc + 3 = q) (K : ∀ T', Stand p l e R s m args below meth c T' locs cells slots → T'.heap = h → Go p e below s Q ce sl T' (mkF m q ls (v :: st))) : Go p e below s Q ce sl T (mkF m pc ls st) := by
  subst hp
  obtain ⟨T', X', e', st'⟩ := getS2 X hx hZ hown w via eT F (g := mkF m pc ls st) rfl hd
  exact (K T' X' e').to fun t r => st' t r
theorem go_getF (X : Stand p l e R s m args below meth c T locs cells slots) (hx : p.tables.exec = Jvm.exec) (hZ : Z.Warmed39 s.vm) {own R0 O n d host : String} {index : Nat} (hown : s.vm.findClass own = some m.cls) (w : (Jvm.Cond.fieldLink own index R0 n d).before a0 Z = true ∨ (Jvm.Cond.fieldLinkNest own index R0 n d host).before a0 Z = true) (via : Via Z R0 O n d) (eT : T.heap = h) {v : Value} (F : Fld Z h a O n d v) (hd : decode c.code pc = .ok (.getfield index, 3)) (hp : pc + 3 = q) (K : ∀ T', Stand p l e R s m args below meth c T' locs cells slots → T'.heap = h → Go p e below s Q ce sl T' (mkF m q ls (v :: st))) : Go p e below s Q ce sl T (mkF m pc ls (.ref a :: st)) := by
  subst hp
  obtain ⟨T', X', e', st'⟩ := getF X hx hZ hown w via eT F (g := mkF m pc ls (.ref a :: st)) rfl rfl hd
  exact (K T' X' e').to fun t r => st' t r
theorem go_putF (X : Stand p l e R s m args below meth c T locs cells slots) (hx : p.tables.exec = Jvm.exec) (hZ : Z.Warmed39 s.vm) {own R0 O n d host : String} {index : Nat} (hown : s.vm.findClass own = some m.cls) (w : (Jvm.Cond.fieldLink own index R0 n d).before a0 Z = true ∨ (Jvm.Cond.fieldLinkNest own index R0 n d host).before a0 Z = true) (via : Via Z R0 O n d) (eT : T.heap = h) {C : String} {kk : Nat} {ty : FieldType} {v old : Value} (F : Fld Z h a O n d old) (E : Exa Z h a C) (L : (Jvm.Cond.lays C O n d).before a0 Z = true ∨ ((Jvm.Cond.laysFinal C O n d).before a0 Z = true ∧ own = O ∧ meth.name = "<init>")) (wi : (Jvm.Cond.instantiable C kk).before a0 Z = true) (hty : parseFieldDescriptor d = some ty) (hn : narrow ty v = v) (hf : fits ty v = true) (N : Fr n0 locs) (ha : n0 ≤ a) (hd : decode c.code pc = .ok (.putfield index, 3)) (hp : pc + 3 = q)
    (K : ∀ T' h' locs', Stand p l e R s m args below meth c T' locs' cells slots → Fr n0 locs' → T'.heap = h' → Wr h h' a (Jvm.RoadKit.slotOf Z O n d) v → Go p e below s Q ce sl T' (mkF m q ls st)) : Go p e below s Q ce sl T (mkF m pc ls (v :: .ref a :: st)) := by
  subst hp
  obtain ⟨T', h', X', e', W', st'⟩ := putF X hx hZ hown w via eT F E L wi hty hn hf (g := mkF m pc ls (v :: .ref a :: st)) rfl rfl hd
  exact (K T' h' _ X' (Fr.snoc X' N ha) e' W').to fun t r => st' t r
theorem go_newO (X : Stand p l e R s m args below meth c T locs cells slots) (hx : p.tables.exec = Jvm.exec) (hZ : Z.Warmed39 s.vm) {own C : String} {index n : Nat} (hown : s.vm.findClass own = some m.cls) (w : (Jvm.Cond.classLink own index C).before a0 Z = true) (wi : (Jvm.Cond.instantiable C n).before a0 Z = true) (wz : (Jvm.Cond.initialized C).before a0 Z = true) (eT : T.heap = h) (hd : decode c.code pc = .ok (.new index, 3)) (hp : pc + 3 = q) (hc : cells + 1 ≤ R.cells) (hl : slots + n ≤ R.slots)
    (K : ∀ T' h' b, b = h.size → Stand p l e R s m args below meth c T' locs (cells + 1) (slots + n) → T'.heap = h' → Ext h h' → Exa Z h' b C → (∀ {O nm d : String} {ty : FieldType}, Laid Z a0 C O nm d → parseFieldDescriptor d = some ty → Fld Z h' b O nm d (defaultValue ty)) → Go p e below s Q ce sl T' (mkF m q ls (.ref b :: st))) : Go p e below s Q ce sl T (mkF m pc ls st) := by
  subst hp
  obtain ⟨T', h', X', e', E', A', D', -, st'⟩ := newO X hx hZ hown w wi wz eT (g := mkF m pc ls st) rfl hd hc hl
  exact (K T' h' _ rfl X' e' E' A' D').to fun t r => st' t r
theorem go_newP (X : Stand p l e R s m args below meth c T locs cells slots) (hx : p.tables.exec = Jvm.exec) (hZ : Z.Warmed39 s.vm) {aty : ArrayType} (w : (Jvm.Cond.arrayClass (newarray.typeOf aty)).before a0 Z = true) (eT : T.heap = h) (hd : decode c.code pc = .ok (.newarray aty, 2)) (hp : pc + 2 = q) {n : Int32} (hn : ¬ n < 0) (cap : Nat) (hcap : n.toNatClampNeg ≤ cap) (hb : cap * 8 ≤ 536870912) (hc : cells + 1 ≤ R.cells) (hl : slots + cap ≤ R.slots)
    (K : ∀ T' h' kc b, b = h.size → Stand p l e R s m args below meth c T' locs (cells + 1) (slots + cap) → T'.heap = h' → Ext h h' → Arv Z h' b kc (newarray.typeOf aty) n [] (defaultValue (newarray.typeOf aty)) → Go p e below s Q ce sl T' (mkF m q ls (.ref b :: st))) : Go p e below s Q ce sl T (mkF m pc ls (.int n :: st)) := by
  subst hp
  obtain ⟨T', h', kc, X', e', E', A', st'⟩ := newP X hx hZ w eT (g := mkF m pc ls (.int n :: st)) rfl hd rfl hn (cap := cap) hcap hb hc hl
  exact (K T' h' kc _ rfl X' e' E' (Arv.new A' hn)).to fun t r => st' t r
theorem go_initO (X : Stand p l e R s m args below meth c T locs cells slots) (hx : p.tables.exec = Jvm.exec) (hZ : Z.Warmed39 s.vm) {own : String} {index W : Nat} (hown : s.vm.findClass own = some m.cls) (w1 : (Jvm.Cond.methodLink own index Lib.objectInit).before a0 Z = true) (w2 : (Jvm.Cond.instanceMethod Lib.objectInit).before a0 Z = true) (w3 : (Jvm.Cond.code Lib.objectInit ⟨#[0xb1]⟩ 1 none).before a0 Z = true) (eT : T.heap = h) (hsz : ls.size = c.maxLocals) (hd : decode c.code pc = .ok (.invokespecial index, 3)) (hp : pc + 3 = q) (hf : 1 ≤ R.frames) (hW : (st.map fun v => v.category).sum ≤ W) (hl : W + 12 ≤ R.locals) (K : ∀ T', Stand p l e R s m args below meth c T' locs cells slots → T'.heap = h → Go p e below s Q ce sl T' (mkF m q ls st)) : Go p e below s Q ce sl T (mkF m pc ls (.ref a :: st)) := by
  subst hp
  obtain ⟨T', X', e', st'⟩ := initO X hx hZ hown w1 w2 w3 eT (g := mkF m pc ls (.ref a :: st)) rfl hsz rfl hd hf (W := W) (by show 2 * 0 + _ ≤ _; omega) hl
  exact (K T' X' e').to fun t r => st' t r
theorem go_iaload (X : Stand p l e R s m args below meth c T locs cells slots) (hx : p.tables.exec = Jvm.exec) (hZ : Z.Warmed39 s.vm) (eT : T.heap = h) {k : ClassId} {z j : Int32} {vs : List Value} {dv : Value} {v : Value} (F : Arv Z h a k .int z vs dv) (hj : ¬ j < 0 ∧ j < z) (hv : vs.getD j.toNatClampNeg dv = v) (hd : decode c.code pc = .ok (.iaload, 1)) (hp : pc + 1 = q) (K : Go p e below s Q ce sl T (mkF m q ls (v :: st))) : Go p e below s Q ce sl T (mkF m pc ls (.int j :: .ref a :: st)) := by
  subst hp
  obtain ⟨cl, A, -, S, -, H, -⟩ := F
  exact K.to fun t r => X.iaload hx (by rw [eT]; exact A.1) (State.isArrayOf_alike hZ.alike A.2.1) A.2.2 (inb_of S hj) (H.at (inb_of S hj) hv) (g := mkF m pc ls (.int j :: .ref a :: st)) rfl rfl hd t r
theorem go_daload (X : Stand p l e R s m args below meth c T locs cells slots) (hx : p.tables.exec = Jvm.exec) (hZ : Z.Warmed39 s.vm) (eT : T.heap = h) {k : ClassId} {z j : Int32} {vs : List Value} {dv : Value} {v : Value} (F : Arv Z h a k .double z vs dv) (hj : ¬ j < 0 ∧ j < z) (hv : vs.getD j.toNatClampNeg dv = v) (hd : decode c.code pc = .ok (.daload, 1)) (hp : pc + 1 = q) (K : Go p e below s Q ce sl T (mkF m q ls (v :: st))) : Go p e below s Q ce sl T (mkF m pc ls (.int j :: .ref a :: st)) := by
  subst hp
  obtain ⟨cl, A, -, S, -, H, -⟩ := F
  exact K.to fun t r => X.daload hx (by rw [eT]; exact A.1) (State.isArrayOf_alike hZ.alike A.2.1) A.2.2 (inb_of S hj) (H.at (inb_of S hj) hv) (g := mkF m pc ls (.int j :: .ref a :: st)) rfl rfl hd t r
theorem go_faload (X : Stand p l e R s m args below meth c T locs cells slots) (hx : p.tables.exec = Jvm.exec) (hZ : Z.Warmed39 s.vm) (eT : T.heap = h) {k : ClassId} {z j : Int32} {vs : List Value} {dv : Value} {v : Value} (F : Arv Z h a k .float z vs dv) (hj : ¬ j < 0 ∧ j < z) (hv : vs.getD j.toNatClampNeg dv = v) (hd : decode c.code pc = .ok (.faload, 1)) (hp : pc + 1 = q) (K : Go p e below s Q ce sl T (mkF m q ls (v :: st))) : Go p e below s Q ce sl T (mkF m pc ls (.int j :: .ref a :: st)) := by
  subst hp
  obtain ⟨cl, A, -, S, -, H, -⟩ := F
  exact K.to fun t r => X.faload hx (by rw [eT]; exact A.1) (State.isArrayOf_alike hZ.alike A.2.1) A.2.2 (inb_of S hj) (H.at (inb_of S hj) hv) (g := mkF m pc ls (.int j :: .ref a :: st)) rfl rfl hd t r
theorem go_baload (X : Stand p l e R s m args below meth c T locs cells slots) (hx : p.tables.exec = Jvm.exec) (hZ : Z.Warmed39 s.vm) (eT : T.heap = h) {k : ClassId} {z j : Int32} {vs : List Value} {dv : Value} {v : Value} (F : Arv Z h a k .boolean z vs dv) (hj : ¬ j < 0 ∧ j < z) (hv : vs.getD j.toNatClampNeg dv = v) (hd : decode c.code pc = .ok (.baload, 1)) (hp : pc + 1 = q) (K : Go p e below s Q ce sl T (mkF m q ls (v :: st))) : Go p e below s Q ce sl T (mkF m pc ls (.int j :: .ref a :: st)) := by
  subst hp
  obtain ⟨cl, A, -, S, -, H, -⟩ := F
  exact K.to fun t r => X.baloadBooleans hx (by rw [eT]; exact A.1) (State.isArrayOf_alike hZ.alike A.2.1) A.2.2 (inb_of S hj) (H.at (inb_of S hj) hv) (g := mkF m pc ls (.int j :: .ref a :: st)) rfl rfl hd t r
theorem go_baloadB (X : Stand p l e R s m args below meth c T locs cells slots) (hx : p.tables.exec = Jvm.exec) (hZ : Z.Warmed39 s.vm) (eT : T.heap = h) {k : ClassId} {z j : Int32} {vs : List Value} {dv : Value} {v : Value} (F : Arv Z h a k .byte z vs dv) (hj : ¬ j < 0 ∧ j < z) (hv : vs.getD j.toNatClampNeg dv = v) (hd : decode c.code pc = .ok (.baload, 1)) (hp : pc + 1 = q) (K : Go p e below s Q ce sl T (mkF m q ls (v :: st))) : Go p e below s Q ce sl T (mkF m pc ls (.int j :: .ref a :: st)) := by
  subst hp
  obtain ⟨cl, A, -, S, -, H, -⟩ := F
  exact K.to fun t r => X.baloadBytes hx (by rw [eT]; exact A.1) (State.isArrayOf_alike hZ.alike A.2.1) A.2.2 (inb_of S hj) (H.at (inb_of S hj) hv) (g := mkF m pc ls (.int j :: .ref a :: st)) rfl rfl hd t r
theorem go_caload (X : Stand p l e R s m args below meth c T locs cells slots) (hx : p.tables.exec = Jvm.exec) (hZ : Z.Warmed39 s.vm) (eT : T.heap = h) {k : ClassId} {z j : Int32} {vs : List Value} {dv : Value} {v : Value} (F : Arv Z h a k .char z vs dv) (hj : ¬ j < 0 ∧ j < z) (hv : vs.getD j.toNatClampNeg dv = v) (hd : decode c.code pc = .ok (.caload, 1)) (hp : pc + 1 = q) (K : Go p e below s Q ce sl T (mkF m q ls (v :: st))) : Go p e below s Q ce sl T (mkF m pc ls (.int j :: .ref a :: st)) := by
  subst hp
  obtain ⟨cl, A, -, S, -, H, -⟩ := F
  exact K.to fun t r => X.caload hx (by rw [eT]; exact A.1) (State.isArrayOf_alike hZ.alike A.2.1) A.2.2 (inb_of S hj) (H.at (inb_of S hj) hv) (g := mkF m pc ls (.int j :: .ref a :: st)) rfl rfl hd t r
theorem go_alen (X : Stand p l e R s m args below meth c T locs cells slots) (hx : p.tables.exec = Jvm.exec) (hZ : Z.Warmed39 s.vm) (eT : T.heap = h) {k : ClassId} {z : Int32} {vs : List Value} {dv : Value} {ty : FieldType} (F : Arv Z h a k ty z vs dv) (hd : decode c.code pc = .ok (.arraylength, 1)) (hp : pc + 1 = q) (K : Go p e below s Q ce sl T (mkF m q ls (.int z :: st))) : Go p e below s Q ce sl T (mkF m pc ls (.ref a :: st)) := by
  subst hp
  obtain ⟨cl, A, -, S, N, -, -⟩ := F
  exact K.to fun t r => X.arraylength hx (by rw [eT]; exact A.1) (State.isArrayOf_alike hZ.alike A.2.1) (g := mkF m pc ls (.ref a :: st)) rfl rfl hd t (by rw [len_of S N]; exact r)
theorem go_iastore (X : Stand p l e R s m args below meth c T locs cells slots) (hx : p.tables.exec = Jvm.exec) (hZ : Z.Warmed39 s.vm) (eT : T.heap = h) {k : ClassId} {z j : Int32} {vs : List Value} {dv : Value} {x : Int32} (F : Arv Z h a k .int z vs dv) (hj : ¬ j < 0 ∧ j < z) (i : Nat) (hi : j.toNatClampNeg = i) (hl : i < vs.length) (N : Fr n0 locs) (ha : n0 ≤ a) (hd : decode c.code pc = .ok (.iastore, 1)) (hp : pc + 1 = q)
    (K : ∀ T' h' locs', Stand p l e R s m args below meth c T' locs' cells slots → Fr n0 locs' → T'.heap = h' → Wr h h' a j.toNatClampNeg (.int x) → Arv Z h' a k .int z (vs.set i (.int x)) dv → Go p e below s Q ce sl T' (mkF m q ls st)) : Go p e below s Q ce sl T (mkF m pc ls ((.int x) :: .int j :: .ref a :: st)) := by
  subst hp
  obtain ⟨cl, A, q1, S, q3, H, G⟩ := F
  obtain ⟨T', h', X', e', W', st'⟩ := stI X hx hZ eT A (inb_of S hj) (g := mkF m pc ls ((.int x) :: .int j :: .ref a :: st)) rfl rfl hd
  exact (K T' h' _ X' (Fr.snoc X' N ha) e' W' (Arv.set A q1 S q3 H G rfl W' i hi hl)).to fun t r => st' t r
theorem go_dastore (X : Stand p l e R s m args below meth c T locs cells slots) (hx : p.tables.exec = Jvm.exec) (hZ : Z.Warmed39 s.vm) (eT : T.heap = h) {k : ClassId} {z j : Int32} {vs : List Value} {dv : Value} {x : UInt64} (F : Arv Z h a k .double z vs dv) (hj : ¬ j < 0 ∧ j < z) (i : Nat) (hi : j.toNatClampNeg = i) (hl : i < vs.length) (N : Fr n0 locs) (ha : n0 ≤ a) (hd : decode c.code pc = .ok (.dastore, 1)) (hp : pc + 1 = q)
    (K : ∀ T' h' locs', Stand p l e R s m args below meth c T' locs' cells slots → Fr n0 locs' → T'.heap = h' → Wr h h' a j.toNatClampNeg (.double x) → Arv Z h' a k .double z (vs.set i (.double x)) dv → Go p e below s Q ce sl T' (mkF m q ls st)) : Go p e below s Q ce sl T (mkF m pc ls ((.double x) :: .int j :: .ref a :: st)) := by
  subst hp
  obtain ⟨cl, A, q1, S, q3, H, G⟩ := F
  obtain ⟨T', h', X', e', W', st'⟩ := stD X hx hZ eT A (inb_of S hj) (g := mkF m pc ls ((.double x) :: .int j :: .ref a :: st)) rfl rfl hd
  exact (K T' h' _ X' (Fr.snoc X' N ha) e' W' (Arv.set A q1 S q3 H G rfl W' i hi hl)).to fun t r => st' t r
theorem go_fastore (X : Stand p l e R s m args below meth c T locs cells slots) (hx : p.tables.exec = Jvm.exec) (hZ : Z.Warmed39 s.vm) (eT : T.heap = h) {k : ClassId} {z j : Int32} {vs : List Value} {dv : Value} {x : UInt32} (F : Arv Z h a k .float z vs dv) (hj : ¬ j < 0 ∧ j < z) (i : Nat) (hi : j.toNatClampNeg = i) (hl : i < vs.length) (N : Fr n0 locs) (ha : n0 ≤ a) (hd : decode c.code pc = .ok (.fastore, 1)) (hp : pc + 1 = q)
    (K : ∀ T' h' locs', Stand p l e R s m args below meth c T' locs' cells slots → Fr n0 locs' → T'.heap = h' → Wr h h' a j.toNatClampNeg (.float x) → Arv Z h' a k .float z (vs.set i (.float x)) dv → Go p e below s Q ce sl T' (mkF m q ls st)) : Go p e below s Q ce sl T (mkF m pc ls ((.float x) :: .int j :: .ref a :: st)) := by
  subst hp
  obtain ⟨cl, A, q1, S, q3, H, G⟩ := F
  obtain ⟨T', h', X', e', W', st'⟩ := stF X hx hZ eT A (inb_of S hj) (g := mkF m pc ls ((.float x) :: .int j :: .ref a :: st)) rfl rfl hd
  exact (K T' h' _ X' (Fr.snoc X' N ha) e' W' (Arv.set A q1 S q3 H G rfl W' i hi hl)).to fun t r => st' t r
theorem go_bastore (X : Stand p l e R s m args below meth c T locs cells slots) (hx : p.tables.exec = Jvm.exec) (hZ : Z.Warmed39 s.vm) (eT : T.heap = h) {k : ClassId} {z j : Int32} {vs : List Value} {dv : Value} {x : Int32} (F : Arv Z h a k .boolean z vs dv) (hj : ¬ j < 0 ∧ j < z) (i : Nat) (hi : j.toNatClampNeg = i) (hl : i < vs.length) (N : Fr n0 locs) (ha : n0 ≤ a) (hd : decode c.code pc = .ok (.bastore, 1)) (hp : pc + 1 = q)
    (K : ∀ T' h' locs', Stand p l e R s m args below meth c T' locs' cells slots → Fr n0 locs' → T'.heap = h' → Wr h h' a j.toNatClampNeg (.int (nar .boolean x)) → Arv Z h' a k .boolean z (vs.set i (.int (nar .boolean x))) dv → Go p e below s Q ce sl T' (mkF m q ls st)) : Go p e below s Q ce sl T (mkF m pc ls ((.int x) :: .int j :: .ref a :: st)) := by
  subst hp
  obtain ⟨cl, A, q1, S, q3, H, G⟩ := F
  obtain ⟨T', h', X', e', W', st'⟩ := stZ X hx hZ eT A (inb_of S hj) (g := mkF m pc ls ((.int x) :: .int j :: .ref a :: st)) rfl rfl hd
  exact (K T' h' _ X' (Fr.snoc X' N ha) e' W' (Arv.set A q1 S q3 H G (fits_nar_bool _) W' i hi hl)).to fun t r => st' t r
theorem go_castore (X : Stand p l e R s m args below meth c T locs cells slots) (hx : p.tables.exec = Jvm.exec) (hZ : Z.Warmed39 s.vm) (eT : T.heap = h) {k : ClassId} {z j : Int32} {vs : List Value} {dv : Value} {x : Int32} (F : Arv Z h a k .char z vs dv) (hj : ¬ j < 0 ∧ j < z) (i : Nat) (hi : j.toNatClampNeg = i) (hl : i < vs.length) (N : Fr n0 locs) (ha : n0 ≤ a) (hd : decode c.code pc = .ok (.castore, 1)) (hp : pc + 1 = q)
    (K : ∀ T' h' locs', Stand p l e R s m args below meth c T' locs' cells slots → Fr n0 locs' → T'.heap = h' → Wr h h' a j.toNatClampNeg (.int (nar .char x)) → Arv Z h' a k .char z (vs.set i (.int (nar .char x))) dv → Go p e below s Q ce sl T' (mkF m q ls st)) : Go p e below s Q ce sl T (mkF m pc ls ((.int x) :: .int j :: .ref a :: st)) := by
  subst hp
  obtain ⟨cl, A, q1, S, q3, H, G⟩ := F
  obtain ⟨T', h', X', e', W', st'⟩ := stC X hx hZ eT A (inb_of S hj) (g := mkF m pc ls ((.int x) :: .int j :: .ref a :: st)) rfl rfl hd
  exact (K T' h' _ X' (Fr.snoc X' N ha) e' W' (Arv.set A q1 S q3 H G (fits_nar_char _) W' i hi hl)).to fun t r => st' t r
theorem go_bastoreB (X : Stand p l e R s m args below meth c T locs cells slots) (hx : p.tables.exec = Jvm.exec) (hZ : Z.Warmed39 s.vm) (eT : T.heap = h) {k : ClassId} {z j : Int32} {vs : List Value} {dv : Value} {x : Int32} (F : Arv Z h a k .byte z vs dv) (hj : ¬ j < 0 ∧ j < z) (i : Nat) (hi : j.toNatClampNeg = i) (hl : i < vs.length) (N : Fr n0 locs) (ha : n0 ≤ a) (hd : decode c.code pc = .ok (.bastore, 1)) (hp : pc + 1 = q)
    (K : ∀ T' h' locs', Stand p l e R s m args below meth c T' locs' cells slots → Fr n0 locs' → T'.heap = h' → Wr h h' a j.toNatClampNeg (.int (nar .byte x)) → Arv Z h' a k .byte z (vs.set i (.int (nar .byte x))) dv → Go p e below s Q ce sl T' (mkF m q ls st)) : Go p e below s Q ce sl T (mkF m pc ls ((.int x) :: .int j :: .ref a :: st)) := by
  subst hp
  obtain ⟨cl, A, q1, S, q3, H, G⟩ := F
  obtain ⟨T', h', X', e', W', st'⟩ := stB X hx hZ eT A (inb_of S hj) (g := mkF m pc ls ((.int x) :: .int j :: .ref a :: st)) rfl rfl hd
  exact (K T' h' _ X' (Fr.snoc X' N ha) e' W' (Arv.set A q1 S q3 H G (fits_nar_byte _) W' i hi hl)).to fun t r => st' t r
theorem go_acmp_eq (X : Stand p l e R s m args below meth c T locs cells slots) (hx : p.tables.exec = Jvm.exec) {x y : Value} (h1 : x.isRef = true) (h2 : y.isRef = true) {o : Int} (hd : decode c.code pc = .ok (.if_acmp .eq o, 3)) (hp : pc + 3 = q) (ho : 0 ≤ (pc : Int) + o) (hq : ((pc : Int) + o).toNat = q') (KY : x = y → Go p e below s Q ce sl T (mkF m q' ls st)) (KN : ¬ x = y → Go p e below s Q ce sl T (mkF m q ls st)) : Go p e below s Q ce sl T (mkF m pc ls (y :: x :: st)) := by
  subst hp hq
  by_cases w : x = y
  · exact (KY w).to fun t r => Jvm.RoadKit.acmp (g := mkF m pc ls (y :: x :: st)) X hx rfl h1 h2 (pc0 := pc) (same := true) rfl hd rfl (decide_eq_true w) ho rfl r
  · exact (KN w).to fun t r => Jvm.RoadKit.acmp (g := mkF m pc ls (y :: x :: st)) X hx rfl h1 h2 (pc0 := pc) (same := false) rfl hd rfl (decide_eq_false w) ho rfl r
theorem go_acmp_ne (X : Stand p l e R s m args below meth c T locs cells slots) (hx : p.tables.exec = Jvm.exec) {x y : Value} (h1 : x.isRef = true) (h2 : y.isRef = true) {o : Int} (hd : decode c.code pc = .ok (.if_acmp .ne o, 3)) (hp : pc + 3 = q) (ho : 0 ≤ (pc : Int) + o) (hq : ((pc : Int) + o).toNat = q') (KY : ¬ x = y → Go p e below s Q ce sl T (mkF m q' ls st)) (KN : x = y → Go p e below s Q ce sl T (mkF m q ls st)) : Go p e below s Q ce sl T (mkF m pc ls (y :: x :: st)) := by
  subst hp hq
  by_cases w : x = y
  · exact (KN w).to fun t r => Jvm.RoadKit.acmp (g := mkF m pc ls (y :: x :: st)) X hx rfl h1 h2 (pc0 := pc) (same := true) rfl hd rfl (decide_eq_true w) ho rfl r
  · exact (KY w).to fun t r => Jvm.RoadKit.acmp (g := mkF m pc ls (y :: x :: st)) X hx rfl h1 h2 (pc0 := pc) (same := false) rfl hd rfl (decide_eq_false w) ho rfl r
theorem go_ifnullR (X : Stand p l e R s m args below meth c T locs cells slots) (hx : p.tables.exec = Jvm.exec) {b : Addr} {o : Int} (hd : decode c.code pc = .ok (.ifnull o, 3)) (hp : pc + 3 = q) (K : Go p e below s Q ce sl T (mkF m q ls st)) : Go p e below s Q ce sl T (mkF m pc ls (.ref b :: st)) := by
  subst hp
  exact K.to fun t r => XS.ifnullNo X.here hx rfl hd rfl r
theorem go_ifnonnullR (X : Stand p l e R s m args below meth c T locs cells slots) (hx : p.tables.exec = Jvm.exec) {b : Addr} {o : Int} (hd : decode c.code pc = .ok (.ifnonnull o, 3)) (ho : 0 ≤ (pc : Int) + o) (hq : ((pc : Int) + o).toNat = q') (K : Go p e below s Q ce sl T (mkF m q' ls st)) : Go p e below s Q ce sl T (mkF m pc ls (.ref b :: st)) :=
  K.to fun t r => XS.ifnonnullYes X.here hx rfl (pc0 := pc) rfl hd rfl ho hq r
theorem go_tsw (X : Stand p l e R s m args below meth c T locs cells slots) (hx : p.tables.exec = Jvm.exec) {dflt low high off : Int} {offs : Array Int} {len : Nat} {i : Int32} (hd : decode c.code pc = .ok (.tableswitch dflt low high offs, len)) (hin : ¬ (i.toInt < low ∨ i.toInt > high)) (hoff : offs[(i.toInt - low).toNat]? = some off) (ho : 0 ≤ (pc : Int) + off) (hq : ((pc : Int) + off).toNat = q) (K : Go p e below s Q ce sl T (mkF m q ls st)) : Go p e below s Q ce sl T (mkF m pc ls (.int i :: st)) :=
  K.to fun t r => XS.tswIn X.here hx rfl (pc0 := pc) rfl hd rfl hin hoff ho hq r
theorem go_callVU (X : Stand p l e R s m args below meth c T locs cells slots) (hx : p.tables.exec = Jvm.exec) (hZ : Z.Warmed39 s.vm) {own C owner : String} {index : Nat} {y : MethodName} {bytes : ByteArray} {maxL : Nat} {ret : Option FieldType} {rm : Room} {W : Nat} {Qc : Option Value → Heap → List Loc → Prop} {z : MethodName} (hown : s.vm.findClass own = some m.cls) (eT : T.heap = h)
    (w1 : (Jvm.Cond.methodLink own index y).before a0 Z = true) (w2 : (Jvm.Cond.sameMethod y.cls owner y.name y.desc).before a0 Z = true) (w7 : (Jvm.Cond.declares ⟨owner, y.name, y.desc⟩).before a0 Z = true) (hy : owner ≠ "java/lang/invoke/MethodHandle" ∧ owner ≠ "java/lang/invoke/VarHandle") (w3 : (Jvm.Cond.selects C y z).before a0 Z = true) (w5 : (Jvm.Cond.instanceMethod z).before a0 Z = true) (w6 : (Jvm.Cond.initialized z.cls).before a0 Z = true) (w4 : (Jvm.Cond.code z bytes maxL ret).before a0 Z = true)
    (a : Addr) (argsL rest : List Value) (E : Exa Z h a C) (hM : Con l z bytes maxL ret [] rm Z (.ref a :: argsL).toArray h Qc) (hsz : ls.size = c.maxLocals) (hst : st = argsL.reverse ++ .ref a :: rest) (hlen : ∀ sig, parseMethodDescriptor y.desc = some sig → argsL.length = sig.parameters.length) (hW : (rest.map fun v => v.category).sum ≤ W)
    (hf : rm.frames + 1 ≤ R.frames) (hl : W + (maxL + 11) + rm.locals ≤ R.locals) (hd : decode c.code pc = .ok (.invokevirtual index, 3)) (hp : pc + 3 = q) (hc : cells + rm.cells ≤ R.cells) (hs : slots + rm.slots ≤ R.slots)
    (K : ∀ (T' : State) (L : List Loc) (v : Option Value), Stand p l e R s m args below meth c T' (locs ++ L) (cells + rm.cells) (slots + rm.slots) → Qc v T'.heap L → Go p e below s Q ce sl T' (mkF m q ls (v.toList ++ rest))) : Go p e below s Q ce sl T (mkF m pc ls st) := by
  subst hp
  obtain ⟨cq, kq, qa, qb, qc⟩ := isOf hZ eT E
  obtain ⟨v, _, ⟨T', L', k', n'⟩, -, X', ⟨Lc, hQ, l1, y1, z1⟩, stp⟩ := X.virtualBackUp hx (x := y) (y := z) hown (mvT hZ w1) (mvT hZ w2) (mvT hZ w7) hy (mvT hZ w3) (mvT hZ w5) (backOf (W := W) hM hZ w4 w6 hf hl) qa qc (g := mkF m pc ls st) rfl hsz (Steps.refl _) (argsL := argsL) (rest := rest) hlen hst (by show 2 * 0 + _ ≤ _; omega) hd (fun _ _ => ⟨rfl, eT, hc, hs⟩)
  dsimp only [Pt.U, Pt.locs, Pt.cells, Pt.slots] at X' l1 y1 z1 stp hQ
  subst l1 y1 z1
  exact (K T' Lc v X' hQ).to fun t r => stp.trans r
end OwnHeap

section OwnFloat
open Jvm.FP Jvm.FP.Core
/-- the datum with its exponent moved down by k -/
def sh (k : Int) : Datum → Datum
  | .fin s c q => .fin s c (q - k)
  | d => d
/-- the datum's value is i * 2^k -/
def Dy (k i : Int) (d : Datum) : Prop := Whole i (sh k d)
theorem dy_zero_iff {i : Int} {d : Datum} : Dy 0 i d ↔ Whole i d := by
  cases d <;> simp [Dy, sh]
theorem sh_sum (k : Int) (x y : Datum) : exactSum (sh k x) (sh k y) = sh k (exactSum x y) := by
  cases x <;> cases y <;> try rfl
  · rename_i a b; by_cases q : a = b <;> simp [sh, exactSum, q]
  · rename_i s c q t d r
    have e1 : min (q - k) (r - k) = min q r - k := by omega
    have e2 : q - k - (min q r - k) = q - min q r := by omega
    have e3 : r - k - (min q r - k) = r - min q r := by omega
    simp [sh, exactSum, sumUnits, inUnits, e1, e2, e3]
theorem sh_product (k l : Int) {x y : Datum} {s t : Bool} {c d : Nat} {q r : Int} (hx : x = .fin s c q) (hy : y = .fin t d r) : exactProduct (sh k x) (sh l y) = sh (k + l) (exactProduct x y) := by
  subst hx hy
  have e1 : q - k + (r - l) = q + r - (k + l) := by omega
  simp [sh, exactProduct, e1]
theorem sh_negate (k : Int) (x : Datum) : negate (sh k x) = sh k (negate x) := by cases x <;> rfl
theorem sh_order (k : Int) (x y : Datum) : order (sh k x) (sh k y) = order x y := by
  cases x <;> cases y <;> try rfl
  rename_i s c q t d r
  have e1 : min (q - k) (r - k) = min q r - k := by omega
  have e2 : q - k - (min q r - k) = q - min q r := by omega
  have e3 : r - k - (min q r - k) = r - min q r := by omega
  simp [sh, order, inUnits, e1, e2, e3]
theorem dy_fin {k i : Int} {d : Datum} (h : Dy k i d) : ∃ s c q, d = .fin s c q := by
  cases d with
  | nan => exact h.elim
  | inf s => exact h.elim
  | fin s c q => exact ⟨s, c, q, rfl⟩
theorem dy_sum {k i j : Int} {x y : Datum} (hx : Dy k i x) (hy : Dy k j y) : Dy k (i + j) (exactSum x y) := by
  unfold Dy; rw [← sh_sum]; exact whole_sum hx hy
theorem dy_negate {k i : Int} {x : Datum} (hx : Dy k i x) : Dy k (-i) (negate x) := by
  unfold Dy; rw [← sh_negate]; exact whole_negate hx
theorem dy_product {k l i j : Int} {x y : Datum} (hx : Dy k i x) (hy : Dy l j y) : Dy (k + l) (i * j) (exactProduct x y) := by
  obtain ⟨s, c, q, ex⟩ := dy_fin hx
  obtain ⟨t, d, r, ey⟩ := dy_fin hy
  unfold Dy; rw [← sh_product k l ex ey]; exact whole_product hx hy
theorem dy_order {k i j : Int} {x y : Datum} (hx : Dy k i x) (hy : Dy k j y) : order x y = some (compare i j) := by
  rw [← sh_order k]; exact order_whole hx hy
/-- c * 2^q and A * 2^k are alike: by differences, or with both exponents raised -/
theorem p2 {c A : Nat} {q k : Int} (N : Nat) (h1 : 0 ≤ q + N) (h2 : 0 ≤ k + N) : c * 2 ^ (q - k).toNat = A * 2 ^ (k - q).toNat ↔ c * 2 ^ (q + N).toNat = A * 2 ^ (k + N).toNat := by
  rcases Int.le_total q k with hqk | hqk
  · have e1 : (q - k).toNat = 0 := by omega
    have e2 : (k + N).toNat = (k - q).toNat + (q + N).toNat := by omega
    rw [e1, e2, Nat.pow_zero, Nat.mul_one, Nat.pow_add, ← Nat.mul_assoc]
    exact ⟨fun h => by rw [h], fun h => Nat.eq_of_mul_eq_mul_right (Nat.two_pow_pos _) h⟩
  · have e1 : (k - q).toNat = 0 := by omega
    have e2 : (q + N).toNat = (q - k).toNat + (k + N).toNat := by omega
    rw [e1, e2, Nat.pow_zero, Nat.mul_one, Nat.pow_add, ← Nat.mul_assoc]
    exact ⟨fun h => by rw [h], fun h => Nat.eq_of_mul_eq_mul_right (Nat.two_pow_pos _) h⟩
theorem dy_abs {k i : Int} {s : Bool} {c : Nat} {q : Int} (h : Dy k i (.fin s c q)) : c * 2 ^ (q - k).toNat = i.natAbs * 2 ^ (k - q).toNat := by
  have h' : signed s (c * 2 ^ (q - k).toNat) = i * ((2 ^ (-(q - k)).toNat : Nat) : Int) := h
  have e := congrArg Int.natAbs h'
  rw [natAbs_signed, Int.natAbs_mul, Int.natAbs_natCast, show -(q - k) = k - q by omega] at e
  exact e
theorem dy_sgn {k i : Int} {s : Bool} {c : Nat} {q : Int} (h : Dy k i (.fin s c q)) : signed s i.natAbs = i := by
  have h' : signed s (c * 2 ^ (q - k).toNat) = i * ((2 ^ (-(q - k)).toNat : Nat) : Int) := h
  rw [dy_abs h, signed_mul, show -(q - k) = k - q by omega] at h'
  exact Int.eq_of_mul_eq_mul_right (by have := Nat.two_pow_pos (k - q).toNat; omega) h'
theorem dy_mk {k i : Int} {s : Bool} {c : Nat} {q : Int} (h1 : c * 2 ^ (q - k).toNat = i.natAbs * 2 ^ (k - q).toNat) (h2 : signed s i.natAbs = i) : Dy k i (.fin s c q) := by
  show signed s (c * 2 ^ (q - k).toNat) = i * ((2 ^ (-(q - k)).toNat : Nat) : Int)
  rw [h1, signed_mul, h2, show -(q - k) = k - q by omega]
theorem dy_of_units {k i : Int} {s : Bool} {c' : Nat} {q' : Int} (hq : -1074 ≤ q') (hk : -1074 ≤ k) (e2 : inUnits c' q' (-1074) = inUnits i.natAbs k (-1074)) (h2 : signed s i.natAbs = i) : Dy k i (.fin s c' q') := by
  refine dy_mk ?_ h2
  rw [p2 1074 (by omega) (by omega)]
  unfold inUnits at e2
  rw [show q' - -1074 = q' + (1074 : Nat) by omega, show k - -1074 = k + (1074 : Nat) by omega] at e2
  exact e2
theorem dy_roundRatio {k m : Int} {S : Bool} {c d : Nat} {e : Int} (hd : 0 < d) (h : c * 2 ^ (e - k).toNat = m.natAbs * d * 2 ^ (k - e).toNat) (hm : m.natAbs < 2 ^ 53) (k1 : -1074 ≤ k) (k2 : k ≤ 971) (h2 : signed S m.natAbs = m) : Dy k m (roundRatio b64 S c d e) := by
  have hr : roundRatio b64 S c d e = round b64 (.fin S m.natAbs k) := roundRatio_congr (A := c) (B := d) (A' := m.natAbs) (B' := 1) (e := e) (e' := k) hd (by decide) (by rw [Nat.mul_one]; exact h)
  obtain ⟨c', q', e1, e2⟩ := round_exact good_b64 S (c := m.natAbs) (q := k) hm (by rw [qmin_b64]; exact k1) (by show k ≤ 971; exact k2)
  have hf : Core.fits b64 (.fin S c' q') := by rw [← e1]; exact round_fits good_b64 _
  have hq : -1074 ≤ q' := by have := hf.2.1; rw [qmin_b64] at this; exact this
  rw [hr, e1]
  rw [qmin_b64] at e2
  exact dy_of_units hq k1 e2 h2
theorem dy_round {k i : Int} {d : Datum} (h : Dy k i d) (hi : i.natAbs < 2 ^ 53) (k1 : -1074 ≤ k) (k2 : k ≤ 971) : Dy k i (round b64 d) := by
  obtain ⟨s, c, q, rfl⟩ := dy_fin h
  exact dy_roundRatio (d := 1) (by decide) (by rw [Nat.mul_one]; exact dy_abs h) hi k1 k2 (dy_sgn h)
theorem signed_xor1 (s t : Bool) (a b : Nat) : signed (s != t) (a * b) = signed s a * signed t b := signed_xor s t a b
theorem dy_quotient {k l i j m : Int} {x y : Datum} (hx : Dy k i x) (hy : Dy l j y) (hj : j ≠ 0) (hm : i = m * j) (hb : m.natAbs < 2 ^ 53) (k1 : -1074 ≤ k - l) (k2 : k - l ≤ 971) : Dy (k - l) m (quotient b64 x y) := by
  obtain ⟨s, c, q, rfl⟩ := dy_fin hx
  obtain ⟨t, d, r, rfl⟩ := dy_fin hy
  have a1 := dy_abs hx
  have a2 := dy_abs hy
  have jpos : 0 < j.natAbs := by omega
  have dpos : 0 < d := by
    rcases Nat.eq_zero_or_pos d with rfl | h
    · rw [Nat.zero_mul] at a2
      have := Nat.mul_pos jpos (Nat.two_pow_pos (l - r).toNat)
      omega
    · exact h
  have ea : i.natAbs = m.natAbs * j.natAbs := by rw [hm, Int.natAbs_mul]
  show Dy (k - l) m (if d = 0 then (if c = 0 then .nan else .inf (s != t)) else roundRatio b64 (s != t) c d (q - r))
  rw [if_neg (by omega)]
  refine dy_roundRatio dpos ?_ hb k1 k2 ?_
  · have N : Nat := 0
    obtain ⟨M, hM⟩ : ∃ M : Nat, 0 ≤ q + M ∧ 0 ≤ k + M ∧ 0 ≤ r + M ∧ 0 ≤ l + M := ⟨q.natAbs + k.natAbs + r.natAbs + l.natAbs, by omega, by omega, by omega, by omega⟩
    rw [p2 M hM.1 hM.2.1] at a1
    rw [p2 M hM.2.2.1 hM.2.2.2] at a2
    have e1 : q - r - (k - l) = (q + l) - (k + r) := by omega
    have e2 : k - l - (q - r) = (k + r) - (q + l) := by omega
    rw [e1, e2, p2 (2 * M) (by omega) (by omega)]
    have f1 : (q + l + ((2 * M : Nat) : Int)).toNat = (q + M).toNat + (l + M).toNat := by omega
    have f2 : (k + r + ((2 * M : Nat) : Int)).toNat = (k + M).toNat + (r + M).toNat := by omega
    rw [f1, f2, Nat.pow_add, Nat.pow_add]
    refine Nat.eq_of_mul_eq_mul_right jpos ?_
    calc c * (2 ^ (q + M).toNat * 2 ^ (l + M).toNat) * j.natAbs
        = (c * 2 ^ (q + M).toNat) * (j.natAbs * 2 ^ (l + M).toNat) := by ac_rfl
      _ = (i.natAbs * 2 ^ (k + M).toNat) * (d * 2 ^ (r + M).toNat) := by rw [a1, a2]
      _ = m.natAbs * d * (2 ^ (k + M).toNat * 2 ^ (r + M).toNat) * j.natAbs := by rw [ea]; ac_rfl
  · have s1 := dy_sgn hx
    have s2 := dy_sgn hy
    have s3 : signed (s != t) (i.natAbs * j.natAbs) = i * j := by rw [signed_xor, s1, s2]
    have e3 : i.natAbs * j.natAbs = m.natAbs * (j.natAbs * j.natAbs) := by rw [ea, Nat.mul_assoc]
    rw [e3, signed_mul, Int.natAbs_mul_self, hm, Int.mul_assoc] at s3
    exact Int.eq_of_mul_eq_mul_right (Int.mul_ne_zero hj hj) s3
theorem dy_scale {k i : Int} {d : Datum} (h : Dy k i d) (n : Nat) : Dy (k - n) (i * 2 ^ n) d := by
  obtain ⟨s, c, q, rfl⟩ := dy_fin h
  have a1 := dy_abs h
  have s1 := dy_sgn h
  have e0 : (i * 2 ^ n).natAbs = i.natAbs * 2 ^ n := by rw [Int.natAbs_mul, Int.natAbs_pow]; rfl
  refine dy_mk ?_ ?_
  · obtain ⟨M, h1, h2⟩ : ∃ M : Nat, 0 ≤ q + M ∧ 0 ≤ k - n + M := ⟨q.natAbs + k.natAbs + n, by omega, by omega⟩
    rw [p2 M h1 (by omega)] at a1
    rw [p2 M h1 h2, a1, e0]
    have : (k + (M : Int)).toNat = n + (k - n + M).toNat := by omega
    rw [this, Nat.pow_add, Nat.mul_assoc]
  · rw [e0, signed_mul, s1]; congr 1
/-- the double x is worth i * 2^k, and |i| is at most A -/
def DB (k : Int) (A : Nat) (i : Int) (x : UInt64) : Prop := Dy k i (val64 x) ∧ i.natAbs ≤ A
theorem DB.fin {k i : Int} {A : Nat} {x : UInt64} (h : DB k A i x) : DFin x := dy_fin h.1
theorem DB.nn {k i : Int} {A : Nat} {x : UInt64} (h : DB k A i x) : Jvm.Free.Fl.NoNaN64 x := Jvm.Free.Fl.noNaN64_no.mpr h.fin.notNaN
theorem DB.le {k i : Int} {A B : Nat} {x : UInt64} (h : DB k A i x) (hb : i.natAbs ≤ B) : DB k B i x := ⟨h.1, hb⟩
theorem DB.eqv {k i j : Int} {A : Nat} {x : UInt64} (h : DB k A i x) (e : i = j) : DB k A j x := e ▸ h
theorem db_add {k i j : Int} {A B : Nat} {x y : UInt64} (hx : DB k A i x) (hy : DB k B j y) (hA : A + B < 9007199254740992) (k1 : -1074 ≤ k) (k2 : k ≤ 971) : DB k (A + B) (i + j) (FP.dadd x y) := by
  have h1 := hx.2; have h2 := hy.2
  have hb : (i + j).natAbs ≤ A + B := by omega
  refine ⟨?_, hb⟩
  show Dy k (i + j) (val64 (Core.dadd x y))
  rw [val64_dadd]; exact dy_round (dy_sum hx.1 hy.1) (by omega) k1 k2
theorem db_sub {k i j : Int} {A B : Nat} {x y : UInt64} (hx : DB k A i x) (hy : DB k B j y) (hA : A + B < 9007199254740992) (k1 : -1074 ≤ k) (k2 : k ≤ 971) : DB k (A + B) (i - j) (FP.dsub x y) := by
  have h1 := hx.2; have h2 := hy.2
  have hb : (i - j).natAbs ≤ A + B := by omega
  refine ⟨?_, hb⟩
  show Dy k (i - j) (val64 (Core.dsub x y))
  rw [val64_dsub]; exact dy_round (by rw [Int.sub_eq_add_neg]; exact dy_sum hx.1 (dy_negate hy.1)) (by omega) k1 k2
theorem db_mul {k l i j : Int} {A B : Nat} {x y : UInt64} (hx : DB k A i x) (hy : DB l B j y) (hA : A * B < 9007199254740992) (k1 : -1074 ≤ k + l) (k2 : k + l ≤ 971) : DB (k + l) (A * B) (i * j) (FP.dmul x y) := by
  have hb : (i * j).natAbs ≤ A * B := by rw [Int.natAbs_mul]; exact Nat.mul_le_mul hx.2 hy.2
  refine ⟨?_, hb⟩
  show Dy (k + l) (i * j) (val64 (Core.dmul x y))
  rw [val64_dmul]; exact dy_round (dy_product hx.1 hy.1) (by omega) k1 k2
theorem db_div {k l i j : Int} {A B : Nat} {x y : UInt64} (m : Int) (hx : DB k A i x) (hy : DB l B j y) (hj : j ≠ 0) (hm : i = m * j) (hA : A < 9007199254740992) (k1 : -1074 ≤ k - l) (k2 : k - l ≤ 971) : DB (k - l) A m (FP.ddiv x y) := by
  have h1 : m.natAbs ≤ i.natAbs := by rw [hm, Int.natAbs_mul]; exact Nat.le_mul_of_pos_right _ (by omega)
  have h2 := hx.2
  refine ⟨?_, by omega⟩
  show Dy (k - l) m (val64 (Core.ddiv x y))
  rw [val64_ddiv]; exact dy_quotient hx.1 hy.1 hj hm (by omega) k1 k2
theorem DB.scale {k i : Int} {A : Nat} {x : UInt64} (h : DB k A i x) (n : Nat) : DB (k - n) (A * 2 ^ n) (i * 2 ^ n) x :=
  ⟨dy_scale h.1 n, by rw [Int.natAbs_mul, Int.natAbs_pow]; exact Nat.mul_le_mul_right _ h.2⟩
theorem db_i2d (v : Int32) : DB 0 2147483648 v.toInt (FP.i2d v) := ⟨dy_zero_iff.mpr (i2d_int v), by have := Int32.toInt_lt v; have := Int32.le_toInt v; omega⟩
theorem db_i2d' {v : Int32} {A : Nat} (h : v.toInt.natAbs ≤ A) : DB 0 A v.toInt (FP.i2d v) := (db_i2d v).le h
theorem db_l2d {v : Int64} {A : Nat} (h : v.toInt.natAbs ≤ A) (hA : A ≤ 9007199254740992) : DB 0 A v.toInt (FP.l2d v) := ⟨dy_zero_iff.mpr (l2d_int (by omega)), h⟩
theorem db_dcmp {k i j : Int} {A B : Nat} {x y : UInt64} (hx : DB k A i x) (hy : DB k B j y) : FP.dcmp x y = some (compare i j) := dy_order hx.1 hy.1
theorem db_cv {k i j : Int} {A B : Nat} {x y : UInt64} (hx : DB k A i x) (hy : DB k B j y) (o : CmpOp) : cmpValue (FP.dcmp x y) o = if i < j then -1 else if i = j then 0 else 1 := by
  rw [db_dcmp hx hy, compare_ite]
  by_cases h1 : i < j
  · simp [h1]; rfl
  · by_cases h2 : i = j
    · simp [h2]; rfl
    · simp [h1, h2]; rfl
theorem db_lt {k i j : Int} {A B : Nat} {x y : UInt64} (hx : DB k A i x) (hy : DB k B j y) (o : CmpOp) : cmpValue (FP.dcmp x y) o < 0 ↔ i < j := by
  rw [db_cv hx hy]
  by_cases h1 : i < j
  · simp [h1]
  · by_cases h2 : i = j
    · simp [h2]
    · simp [h1, h2]
theorem db_gt {k i j : Int} {A B : Nat} {x y : UInt64} (hx : DB k A i x) (hy : DB k B j y) (o : CmpOp) : 0 < cmpValue (FP.dcmp x y) o ↔ j < i := by
  rw [db_cv hx hy]
  by_cases h1 : i < j
  · simp [h1, show ¬ j < i by omega]
  · by_cases h2 : i = j
    · simp [h2]
    · simp [h1, h2, show j < i by omega]
theorem db_eq {k i j : Int} {A B : Nat} {x y : UInt64} (hx : DB k A i x) (hy : DB k B j y) (o : CmpOp) : cmpValue (FP.dcmp x y) o = 0 ↔ i = j := by
  rw [db_cv hx hy]
  by_cases h1 : i < j
  · simp [h1, show ¬ i = j by omega]
  · by_cases h2 : i = j
    · simp [h2]
    · simp [h1, h2]
theorem db_c0 : DB 0 0 0 0 := ⟨by rw [show val64 0 = .fin false 0 (-1074) by decide +kernel]; exact dy_mk (by simp) rfl, by decide⟩
theorem db_c1 : DB 0 1 1 4607182418800017408 := ⟨by rw [show val64 4607182418800017408 = .fin false (2 ^ 52) (-52) by decide +kernel]; exact dy_mk (by decide +kernel) rfl, by decide⟩
theorem db_c2 : DB 0 2 2 4611686018427387904 := ⟨by rw [show val64 4611686018427387904 = .fin false (2 ^ 52) (-51) by decide +kernel]; exact dy_mk (by decide +kernel) rfl, by decide⟩
end OwnFloat

section OwnFloatGo
variable {p : Program} {l : Launch} {e : Env} {R : Room} {s : State} {m : MethodId} {args : Array Value} {below : List Frame} {meth : Method} {c : Code} {T : State} {locs : List Loc} {cells slots : Nat} {Z : State} {h : Heap} {Q : Option Value → Heap → List Loc → Prop} {ce sl : Nat} {pc q q' : Nat} {ls : Array Slot} {st : List Value} {a0 : Array Value}
theorem go_i2dB (X : Stand p l e R s m args below meth c T locs cells slots) (hx : p.tables.exec = Jvm.exec) {x : Int32} {A : Nat} {i : Int} (hd : decode c.code pc = .ok (.i2d, 1)) (hp : pc + 1 = q) (hA : DB 0 A i (FP.i2d x)) (K : ∀ z, DB 0 A i z → Go p e below s Q ce sl T (mkF m q ls (.double z :: st))) : Go p e below s Q ce sl T (mkF m pc ls (.int x :: st)) :=
  go_i2d X hx hd hp rfl (K _ hA)
theorem go_l2dB (X : Stand p l e R s m args below meth c T locs cells slots) (hx : p.tables.exec = Jvm.exec) {x : Int64} {A : Nat} {i : Int} (hd : decode c.code pc = .ok (.l2d, 1)) (hp : pc + 1 = q) (hA : DB 0 A i (FP.l2d x)) (K : ∀ z, DB 0 A i z → Go p e below s Q ce sl T (mkF m q ls (.double z :: st))) : Go p e below s Q ce sl T (mkF m pc ls (.long x :: st)) :=
  go_l2d X hx hd hp rfl (K _ hA)
theorem go_f2dB (X : Stand p l e R s m args below meth c T locs cells slots) (hx : p.tables.exec = Jvm.exec) {x : UInt32} {A : Nat} {i : Int} (hd : decode c.code pc = .ok (.f2d, 1)) (hp : pc + 1 = q) (hA : DB 0 A i (FP.f2d x)) (K : ∀ z, DB 0 A i z → Go p e below s Q ce sl T (mkF m q ls (.double z :: st))) : Go p e below s Q ce sl T (mkF m pc ls (.float x :: st)) :=
  go_f2d X hx hd hp hA.nn rfl (K _ hA)
theorem go_daddB (X : Stand p l e R s m args below meth c T locs cells slots) (hx : p.tables.exec = Jvm.exec) {x y : UInt64} {k i j : Int} {A B C : Nat} (hd : decode c.code pc = .ok (.dadd, 1)) (hp : pc + 1 = q) (hA : DB k A i x) (hB : DB k B j y) (b1 : A + B < 9007199254740992) (k1 : -1074 ≤ k) (k2 : k ≤ 971) (hC : A + B = C) (K : ∀ z, DB k C (i + j) z → Go p e below s Q ce sl T (mkF m q ls (.double z :: st))) : Go p e below s Q ce sl T (mkF m pc ls (.double y :: .double x :: st)) :=
  go_dadd X hx hd hp (db_add hA hB b1 k1 k2).nn rfl (K _ (hC ▸ db_add hA hB b1 k1 k2))
theorem go_dsubB (X : Stand p l e R s m args below meth c T locs cells slots) (hx : p.tables.exec = Jvm.exec) {x y : UInt64} {k i j : Int} {A B C : Nat} (hd : decode c.code pc = .ok (.dsub, 1)) (hp : pc + 1 = q) (hA : DB k A i x) (hB : DB k B j y) (b1 : A + B < 9007199254740992) (k1 : -1074 ≤ k) (k2 : k ≤ 971) (hC : A + B = C) (K : ∀ z, DB k C (i - j) z → Go p e below s Q ce sl T (mkF m q ls (.double z :: st))) : Go p e below s Q ce sl T (mkF m pc ls (.double y :: .double x :: st)) :=
  go_dsub X hx hd hp (db_sub hA hB b1 k1 k2).nn rfl (K _ (hC ▸ db_sub hA hB b1 k1 k2))
theorem go_dmulB (X : Stand p l e R s m args below meth c T locs cells slots) (hx : p.tables.exec = Jvm.exec) {x y : UInt64} {k k' kk i j : Int} {A B C : Nat} (hd : decode c.code pc = .ok (.dmul, 1)) (hp : pc + 1 = q) (hA : DB k A i x) (hB : DB k' B j y) (b1 : A * B < 9007199254740992) (k1 : -1074 ≤ k + k') (k2 : k + k' ≤ 971) (hk : k + k' = kk) (hC : A * B = C) (K : ∀ z, DB kk C (i * j) z → Go p e below s Q ce sl T (mkF m q ls (.double z :: st))) : Go p e below s Q ce sl T (mkF m pc ls (.double y :: .double x :: st)) :=
  go_dmul X hx hd hp (db_mul hA hB b1 k1 k2).nn rfl (K _ (hC ▸ hk ▸ db_mul hA hB b1 k1 k2))
theorem go_ddivB (X : Stand p l e R s m args below meth c T locs cells slots) (hx : p.tables.exec = Jvm.exec) {x y : UInt64} {k k' kk i j w0 : Int} {A B : Nat} (hd : decode c.code pc = .ok (.ddiv, 1)) (hp : pc + 1 = q) (hA : DB k A i x) (hB : DB k' B j y) (hj : j ≠ 0) (hm : i = w0 * j) (b1 : A < 9007199254740992) (k1 : -1074 ≤ k - k') (k2 : k - k' ≤ 971) (hk : k - k' = kk) (K : ∀ z, DB kk A w0 z → Go p e below s Q ce sl T (mkF m q ls (.double z :: st))) : Go p e below s Q ce sl T (mkF m pc ls (.double y :: .double x :: st)) :=
  go_ddiv X hx hd hp (db_div w0 hA hB hj hm b1 k1 k2).nn rfl (K _ (hk ▸ db_div w0 hA hB hj hm b1 k1 k2))
theorem go_dif_lt (X : Stand p l e R s m args below meth c T locs cells slots) (hx : p.tables.exec = Jvm.exec) {x y : UInt64} {k i j : Int} {A B : Nat} {cm : CmpOp} {o : Int} (hd : decode c.code pc = .ok (.ifCond .lt o, 3)) (hp : pc + 3 = q) (ho : 0 ≤ (pc : Int) + o) (hq : ((pc : Int) + o).toNat = q') (hA : DB k A i x) (hB : DB k B j y) (KY : i < j → Go p e below s Q ce sl T (mkF m q' ls st)) (KN : ¬ i < j → Go p e below s Q ce sl T (mkF m q ls st)) : Go p e below s Q ce sl T (mkF m pc ls (.int (cmpValue (FP.dcmp x y) cm) :: st)) :=
  go_if_lt X hx hd hp ho hq (fun w => KY ((db_lt hA hB _).mp w)) (fun w => KN (fun z => w ((db_lt hA hB _).mpr z)))
theorem go_dif_ge (X : Stand p l e R s m args below meth c T locs cells slots) (hx : p.tables.exec = Jvm.exec) {x y : UInt64} {k i j : Int} {A B : Nat} {cm : CmpOp} {o : Int} (hd : decode c.code pc = .ok (.ifCond .ge o, 3)) (hp : pc + 3 = q) (ho : 0 ≤ (pc : Int) + o) (hq : ((pc : Int) + o).toNat = q') (hA : DB k A i x) (hB : DB k B j y) (KY : ¬ i < j → Go p e below s Q ce sl T (mkF m q' ls st)) (KN : i < j → Go p e below s Q ce sl T (mkF m q ls st)) : Go p e below s Q ce sl T (mkF m pc ls (.int (cmpValue (FP.dcmp x y) cm) :: st)) :=
  go_if_ge X hx hd hp ho hq (fun w => KY (fun z => w ((db_lt hA hB _).mpr z))) (fun w => KN ((db_lt hA hB _).mp w))
theorem go_dif_gt (X : Stand p l e R s m args below meth c T locs cells slots) (hx : p.tables.exec = Jvm.exec) {x y : UInt64} {k i j : Int} {A B : Nat} {cm : CmpOp} {o : Int} (hd : decode c.code pc = .ok (.ifCond .gt o, 3)) (hp : pc + 3 = q) (ho : 0 ≤ (pc : Int) + o) (hq : ((pc : Int) + o).toNat = q') (hA : DB k A i x) (hB : DB k B j y) (KY : j < i → Go p e below s Q ce sl T (mkF m q' ls st)) (KN : ¬ j < i → Go p e below s Q ce sl T (mkF m q ls st)) : Go p e below s Q ce sl T (mkF m pc ls (.int (cmpValue (FP.dcmp x y) cm) :: st)) :=
  go_if_gt X hx hd hp ho hq (fun w => KY ((db_gt hA hB _).mp w)) (fun w => KN (fun z => w ((db_gt hA hB _).mpr z)))
theorem go_dif_le (X : Stand p l e R s m args below meth c T locs cells slots) (hx : p.tables.exec = Jvm.exec) {x y : UInt64} {k i j : Int} {A B : Nat} {cm : CmpOp} {o : Int} (hd : decode c.code pc = .ok (.ifCond .le o, 3)) (hp : pc + 3 = q) (ho : 0 ≤ (pc : Int) + o) (hq : ((pc : Int) + o).toNat = q') (hA : DB k A i x) (hB : DB k B j y) (KY : ¬ j < i → Go p e below s Q ce sl T (mkF m q' ls st)) (KN : j < i → Go p e below s Q ce sl T (mkF m q ls st)) : Go p e below s Q ce sl T (mkF m pc ls (.int (cmpValue (FP.dcmp x y) cm) :: st)) :=
  go_if_le X hx hd hp ho hq (fun w => KY (fun z => w ((db_gt hA hB _).mpr z))) (fun w => KN ((db_gt hA hB _).mp w))
theorem go_dif_eq (X : Stand p l e R s m args below meth c T locs cells slots) (hx : p.tables.exec = Jvm.exec) {x y : UInt64} {k i j : Int} {A B : Nat} {cm : CmpOp} {o : Int} (hd : decode c.code pc = .ok (.ifCond .eq o, 3)) (hp : pc + 3 = q) (ho : 0 ≤ (pc : Int) + o) (hq : ((pc : Int) + o).toNat = q') (hA : DB k A i x) (hB : DB k B j y) (KY : i = j → Go p e below s Q ce sl T (mkF m q' ls st)) (KN : ¬ i = j → Go p e below s Q ce sl T (mkF m q ls st)) : Go p e below s Q ce sl T (mkF m pc ls (.int (cmpValue (FP.dcmp x y) cm) :: st)) :=
  go_if_eq X hx hd hp ho hq (fun w => KY ((db_eq hA hB _).mp w)) (fun w => KN (fun z => w ((db_eq hA hB _).mpr z)))
theorem go_dif_ne (X : Stand p l e R s m args below meth c T locs cells slots) (hx : p.tables.exec = Jvm.exec) {x y : UInt64} {k i j : Int} {A B : Nat} {cm : CmpOp} {o : Int} (hd : decode c.code pc = .ok (.ifCond .ne o, 3)) (hp : pc + 3 = q) (ho : 0 ≤ (pc : Int) + o) (hq : ((pc : Int) + o).toNat = q') (hA : DB k A i x) (hB : DB k B j y) (KY : ¬ i = j → Go p e below s Q ce sl T (mkF m q' ls st)) (KN : i = j → Go p e below s Q ce sl T (mkF m q ls st)) : Go p e below s Q ce sl T (mkF m pc ls (.int (cmpValue (FP.dcmp x y) cm) :: st)) :=
  go_if_ne X hx hd hp ho hq (fun w => KY (fun z => w ((db_eq hA hB _).mpr z))) (fun w => KN ((db_eq hA hB _).mp w))
end OwnFloatGo

section OwnRound
open Jvm.FP Jvm.FP.Core
/-- A / B, rounded -/
def rr (A B : Nat) : Datum := roundRatio b64 false A B 0
/-- a double's worth, in units of 2^-1074 -/
def zm (x : UInt64) : Nat := zmag b64 (val64 x)
theorem units0 (A : Nat) : inUnits A 0 (-1074) = A * 2 ^ 1074 := rfl
theorem zmag_fin (s : Bool) (c : Nat) (q : Int) : zmag b64 (.fin s c q) = inUnits c q (-1074) := by
  show inUnits c q b64.qmin = _; rw [qmin_b64]
theorem rr_near {A B c c' : Nat} {q q' : Int} {t : Bool} (hB : 0 < B) (hR : rr A B = .fin false c q) (hV : Core.fits b64 (.fin t c' q')) :
    (((A * 2 ^ 1074 : Nat) : Int) - ((zmag b64 (.fin false c q) * B : Nat) : Int)).natAbs ≤ (((A * 2 ^ 1074 : Nat) : Int) - ((zmag b64 (.fin t c' q') * B : Nat) : Int)).natAbs := by
  have h := roundRatio_nearest good_b64 hB hR hV.1 hV.2.1 (e0 := -1074) (by rw [qmin_b64]; decide) (by decide)
  unfold distance at h
  rw [units0, ← zmag_fin false c q, ← zmag_fin t c' q', ← Int.natCast_mul, ← Int.natCast_mul] at h
  exact h
theorem rr_congr {A B A' B' : Nat} (hB : 0 < B) (hB' : 0 < B') (h : A * B' = A' * B) : rr A B = rr A' B' :=
  roundRatio_congr hB hB' (by rw [show ((0 : Int) - 0).toNat = 0 from rfl, Nat.pow_zero, Nat.mul_one, Nat.mul_one]; exact h)
theorem rr_mono {A B A' B' : Nat} (hB : 0 < B) (hB' : 0 < B') (h : A * B' ≤ A' * B) (f1 : ∃ c q, rr A B = .fin false c q) (f2 : ∃ c q, rr A' B' = .fin false c q) : zmag b64 (rr A B) ≤ zmag b64 (rr A' B') := by
  refine Nat.le_of_not_lt fun hlt => ?_
  have e0 : rr A B ≠ rr A' B' := fun q => by rw [q] at hlt; exact Nat.lt_irrefl _ hlt
  obtain ⟨c, q, R1⟩ := f1
  obtain ⟨c', q', R2⟩ := f2
  have g1 : Core.fits b64 (.fin false c q) := by rw [← R1]; exact roundRatio_fits good_b64 false A hB 0
  have g2 : Core.fits b64 (.fin false c' q') := by rw [← R2]; exact roundRatio_fits good_b64 false A' hB' 0
  have n1 := rr_near hB R1 g2
  have n2 := rr_near hB' R2 g1
  rw [R1, R2] at hlt
  have m1 : zmag b64 (.fin false c' q') * B < zmag b64 (.fin false c q) * B := Nat.mul_lt_mul_of_pos_right hlt hB
  have m2 : zmag b64 (.fin false c' q') * B' < zmag b64 (.fin false c q) * B' := Nat.mul_lt_mul_of_pos_right hlt hB'
  generalize zmag b64 (.fin false c q) = z at *
  generalize zmag b64 (.fin false c' q') = z' at *
  have hP : A * 2 ^ 1074 * B' ≤ A' * 2 ^ 1074 * B := by
    have := Nat.mul_le_mul_right (2 ^ 1074) h
    rw [Nat.mul_right_comm A, Nat.mul_right_comm A']; exact this
  have k1 : z * B + z' * B ≤ 2 * (A * 2 ^ 1074) := by omega
  have k2 : 2 * (A' * 2 ^ 1074) ≤ z * B' + z' * B' := by omega
  have k3 := Nat.mul_le_mul_right B' k1
  have k4 := Nat.mul_le_mul_right B k2
  have k5 : (z * B + z' * B) * B' = (z * B' + z' * B') * B := by rw [Nat.add_mul, Nat.add_mul]; congr 1 <;> exact Nat.mul_right_comm _ _ _
  rw [k5] at k3
  have k6 : 2 * (A * 2 ^ 1074) * B' = 2 * (A * 2 ^ 1074 * B') := Nat.mul_assoc _ _ _
  have k7 : 2 * (A' * 2 ^ 1074) * B = 2 * (A' * 2 ^ 1074 * B) := Nat.mul_assoc _ _ _
  rw [k6] at k3; rw [k7] at k4
  have k8 : A * 2 ^ 1074 * B' = A' * 2 ^ 1074 * B := by omega
  refine e0 (rr_congr hB hB' ?_)
  rw [Nat.mul_right_comm A, Nat.mul_right_comm A'] at k8
  exact Nat.eq_of_mul_eq_mul_right (Nat.two_pow_pos 1074) k8
theorem zm_one : zm 4607182418800017408 = 2 ^ 1074 := by
  unfold zm; rw [show val64 4607182418800017408 = .fin false (2 ^ 52) (-52) by decide +kernel, zmag_fin]; decide +kernel
theorem zm_zero : zm 0 = 0 := by
  unfold zm; rw [show val64 0 = .fin false 0 (-1074) by decide +kernel, zmag_fin]; decide +kernel
/-- A / B below V rounds to at most V -/
theorem rr_le {A B : Nat} {V : UInt64} (hB : 0 < B) (hn : val64 V ≠ .nan) (h : A * 2 ^ 1074 ≤ zm V * B) : zmag b64 (rr A B) ≤ zm V :=
  zmag_roundRatio_le good_b64 hB (val64_fits V) hn (e0 := -1074) (by rw [qmin_b64]; decide) (by decide) (by rw [units0, qmin_b64, show ((-1074 : Int) - -1074).toNat = 0 from rfl, Nat.pow_zero, Nat.mul_one]; exact h)
theorem rr_ge {A B : Nat} {V : UInt64} (hB : 0 < B) (h : zm V * B ≤ A * 2 ^ 1074) : zm V ≤ zmag b64 (rr A B) :=
  zmag_roundRatio_ge good_b64 hB (val64_fits V) (e0 := -1074) (by rw [qmin_b64]; decide) (by decide) (by rw [units0, qmin_b64, show ((-1074 : Int) - -1074).toNat = 0 from rfl, Nat.pow_zero, Nat.mul_one]; exact h)
theorem rr_fin {A B : Nat} (h : zmag b64 (rr A B) < 2 ^ 2098) : ∃ c q, rr A B = .fin false c q := by
  rcases roundRatio_cases b64 false A B 0 with ⟨c, q, hR⟩ | hR
  · exact ⟨c, q, hR⟩
  · exfalso
    have e : zmag b64 (rr A B) = b64.tails * 2 ^ (b64.exps - 2) := by unfold rr; rw [hR]; rfl
    rw [e, show b64.tails * 2 ^ (b64.exps - 2) = 2 ^ 2098 by decide +kernel] at h
    exact Nat.lt_irrefl _ h
theorem l2d_rr {x : Int64} (h : 0 ≤ x.toInt) : val64 (FP.l2d x) = rr x.toInt.natAbs 1 := by
  show val64 (Core.l2d x) = _
  rw [val64_l2d]
  show roundRatio b64 (decide (x.toInt < 0)) x.toInt.natAbs 1 0 = _
  rw [show decide (x.toInt < 0) = false by simp; omega]; rfl
theorem l2d_finR {x : Int64} (h : 0 ≤ x.toInt) : ∃ c q, val64 (FP.l2d x) = .fin false c q := by
  rcases roundRatio_cases b64 false x.toInt.natAbs 1 0 with ⟨c, q, hR⟩ | hR
  · exact ⟨c, q, (l2d_rr h).trans hR⟩
  · exfalso
    obtain ⟨s, c, q, e⟩ := Core.l2d_fin x
    rw [show val64 (Core.l2d x) = rr x.toInt.natAbs 1 from l2d_rr h] at e
    unfold rr at e; rw [hR] at e; cases e
theorem l2d_mono {x y : Int64} (h0 : 0 ≤ x.toInt) (h : x.toInt ≤ y.toInt) : zm (FP.l2d x) ≤ zm (FP.l2d y) := by
  have f1 := l2d_finR h0; have f2 := l2d_finR (x := y) (by omega)
  unfold zm; rw [l2d_rr h0] at f1 ⊢; rw [l2d_rr (x := y) (by omega)] at f2 ⊢
  exact rr_mono (by decide) (by decide) (by omega) f1 f2
theorem l2d_ge1 {x : Int64} (h : 0 < x.toInt) : 2 ^ 1074 ≤ zm (FP.l2d x) := by
  rw [← zm_one]; unfold zm; rw [l2d_rr (by omega)]
  refine rr_ge (by decide) ?_
  rw [zm_one, Nat.mul_one]
  exact Nat.le_mul_of_pos_left _ (by omega)
theorem l2d_le {x : Int64} (h : 0 ≤ x.toInt) : zm (FP.l2d x) ≤ 2 ^ 63 * 2 ^ 1074 := by
  have e : zm 4890909195324358656 = 2 ^ 63 * 2 ^ 1074 := by
    unfold zm; rw [show val64 4890909195324358656 = .fin false (2 ^ 52) 11 by decide +kernel, zmag_fin]; decide +kernel
  rw [← e]; unfold zm; rw [l2d_rr h]
  refine rr_le (by decide) (by decide +kernel) ?_
  rw [e, Nat.mul_one]
  exact Nat.mul_le_mul_right _ (by have := Int64.toInt_lt x; omega)
theorem l2d_exact {x : Int64} (h : 0 ≤ x.toInt) (hb : x.toInt ≤ 9007199254740992) : zm (FP.l2d x) = x.toInt.natAbs * 2 ^ 1074 := by
  obtain ⟨c, q, e⟩ := l2d_finR h
  have hf := val64_fits (FP.l2d x)
  have hw : Whole x.toInt (val64 (FP.l2d x)) := Core.l2d_int (a := x) (by omega)
  have hz := whole_zval good_b64 hf hw
  unfold zm
  have hs : sgn (val64 (FP.l2d x)) = false := by rw [e]; rfl
  unfold zval at hz
  rw [hs] at hz
  have : signed false (zmag b64 (val64 (FP.l2d x))) = (zmag b64 (val64 (FP.l2d x)) : Int) := rfl
  rw [this, qmin_b64, show (-(-1074 : Int)).toNat = 1074 from rfl] at hz
  have h2 : (x.toInt.natAbs : Int) = x.toInt := by omega
  rw [← h2, ← Int.natCast_mul] at hz
  exact Int.natCast_inj.mp hz
theorem div_rr {a b : UInt64} {c d : Nat} {q r : Int} (ha : val64 a = .fin false c q) (hb : val64 b = .fin false d r) (hd : d ≠ 0) : val64 (FP.ddiv a b) = rr (zm a) (zm b) := by
  show val64 (Core.ddiv a b) = _
  have fa : Core.fits b64 (.fin false c q) := ha ▸ val64_fits a
  have fb : Core.fits b64 (.fin false d r) := hb ▸ val64_fits b
  have qa : -1074 ≤ q := by have := fa.2.1; rw [qmin_b64] at this; exact this
  have qb : -1074 ≤ r := by have := fb.2.1; rw [qmin_b64] at this; exact this
  rw [val64_ddiv, ha, hb]
  show (if d = 0 then _ else roundRatio b64 (false != false) c d (q - r)) = _
  rw [if_neg hd]
  unfold rr zm
  rw [ha, hb, zmag_fin, zmag_fin]
  refine roundRatio_congr (by omega) ?_ ?_
  · unfold inUnits; exact Nat.mul_pos (by omega) (Nat.two_pow_pos _)
  · unfold inUnits
    have e1 : q - r - 0 = (q + 1074) - (r + 1074) := by omega
    have e2 : 0 - (q - r) = (r + 1074) - (q + 1074) := by omega
    have e3 : q - -1074 = q + 1074 := by omega
    have e4 : r - -1074 = r + 1074 := by omega
    rw [e1, e2, e3, e4]
    obtain ⟨u, hu⟩ : ∃ u : Nat, q + 1074 = u := ⟨(q + 1074).toNat, by omega⟩
    obtain ⟨w, hw⟩ : ∃ w : Nat, r + 1074 = w := ⟨(r + 1074).toNat, by omega⟩
    rw [hu, hw]
    rcases Nat.le_total u w with huw | huw
    · rw [show ((u : Int) - w).toNat = 0 by omega, show ((w : Int) - u).toNat = w - u by omega, Int.toNat_natCast, Int.toNat_natCast]
      have : 2 ^ w = 2 ^ u * 2 ^ (w - u) := by rw [← Nat.pow_add]; congr 1; omega
      rw [this]; ac_rfl
    · rw [show ((w : Int) - u).toNat = 0 by omega, show ((u : Int) - w).toNat = u - w by omega, Int.toNat_natCast, Int.toNat_natCast]
      have : 2 ^ u = 2 ^ w * 2 ^ (u - w) := by rw [← Nat.pow_add]; congr 1; omega
      rw [this]; ac_rfl
theorem zm_pos {a : UInt64} {c : Nat} {q : Int} (ha : val64 a = .fin false c q) (hz : 0 < zm a) : c ≠ 0 := fun h => by
  unfold zm at hz; rw [ha, zmag_fin, h] at hz; unfold inUnits at hz; rw [Nat.zero_mul] at hz; exact Nat.lt_irrefl _ hz
/-- comparison of two numbers that aren't negative -/
theorem cv_zm {a b : UInt64} (ha : ∃ c q, val64 a = .fin false c q) (hb : ∃ c q, val64 b = .fin false c q) (o : CmpOp) : cmpValue (FP.dcmp a b) o = if zm a < zm b then -1 else if zm a = zm b then 0 else 1 := by
  obtain ⟨c, q, ea⟩ := ha
  obtain ⟨d, r, eb⟩ := hb
  have h := Core.dcmp_zval (a := a) (b := b) (by rw [ea]; exact fun z => by cases z) (by rw [eb]; exact fun z => by cases z)
  have z1 : zval b64 (val64 a) = (zm a : Int) := by unfold zval zm; rw [ea]; rfl
  have z2 : zval b64 (val64 b) = (zm b : Int) := by unfold zval zm; rw [eb]; rfl
  rw [z1, z2] at h
  rw [show FP.dcmp a b = Core.dcmp a b from rfl, h, compare_ite]
  by_cases h1 : zm a < zm b
  · rw [if_pos (by omega), if_pos h1]; rfl
  · by_cases h2 : zm a = zm b
    · rw [if_neg (by omega), if_pos (by omega), if_neg h1, if_pos h2]; rfl
    · rw [if_neg (by omega), if_neg (by omega), if_neg h1, if_neg h2]; rfl
end OwnRound
section OwnRound2
open Jvm.FP Jvm.FP.Core
theorem zm_dy {k i : Int} {x : UInt64} (h : Dy k i (val64 x)) (hk : -1074 ≤ k) : zm x = i.natAbs * 2 ^ (k + 1074).toNat := by
  obtain ⟨s, c, q, e⟩ := dy_fin h
  have hq : -1074 ≤ q := by have := (e ▸ val64_fits x : Core.fits b64 (.fin s c q)).2.1; rw [qmin_b64] at this; exact this
  rw [e] at h
  have a := dy_abs h
  rw [p2 1074 (by omega) (by omega)] at a
  unfold zm; rw [e, zmag_fin]; unfold inUnits
  rw [show q - -1074 = q + (1074 : Nat) by omega, a]; rfl
theorem mul_rr {a b : UInt64} {c d : Nat} {q r : Int} (ha : val64 a = .fin false c q) (hb : val64 b = .fin false d r) : val64 (FP.dmul a b) = rr (zm a * zm b) (2 ^ 2148) := by
  show val64 (Core.dmul a b) = _
  have fa : Core.fits b64 (.fin false c q) := ha ▸ val64_fits a
  have fb : Core.fits b64 (.fin false d r) := hb ▸ val64_fits b
  have qa : -1074 ≤ q := by have := fa.2.1; rw [qmin_b64] at this; exact this
  have qb : -1074 ≤ r := by have := fb.2.1; rw [qmin_b64] at this; exact this
  rw [val64_dmul, ha, hb]
  show roundRatio b64 (false != false) (c * d) 1 (q + r) = _
  unfold rr zm
  rw [ha, hb, zmag_fin, zmag_fin]
  refine roundRatio_congr (by decide) (Nat.two_pow_pos _) ?_
  unfold inUnits
  rw [Nat.mul_one, show q + r - 0 = q + r by omega, show 0 - (q + r) = -(q + r) by omega]
  have e : 2 ^ 2148 * 2 ^ (q + r).toNat = 2 ^ (q - -1074).toNat * 2 ^ (r - -1074).toNat * 2 ^ (-(q + r)).toNat := by
    rw [← Nat.pow_add, ← Nat.pow_add, ← Nat.pow_add]; congr 1; omega
  calc c * d * 2 ^ 2148 * 2 ^ (q + r).toNat = c * d * (2 ^ 2148 * 2 ^ (q + r).toNat) := Nat.mul_assoc _ _ _
    _ = c * d * (2 ^ (q - -1074).toNat * 2 ^ (r - -1074).toNat * 2 ^ (-(q + r)).toNat) := by rw [e]
    _ = _ := by ac_rfl
end OwnRound2

theorem own_mask (y : Int64) : 0 ≤ (y &&& (9223372036854775807 : Int64)).toInt := by
  rw [c_maskL y 9223372036854775807 63 (by decide) (by decide)]; exact Int.emod_nonneg _ (by decide)
theorem own_mulm {a m : Int64} (ha : 0 ≤ a.toInt) (hb : a.toInt ≤ 562949953421312) (hm : 1 ≤ m.toInt ∧ m.toInt ≤ 16) : (a * m).toInt = a.toInt * m.toInt := by
  have h1 : 0 ≤ a.toInt * m.toInt := Int.mul_nonneg ha (by omega)
  have h2 := Int.mul_le_mul hb hm.2 (by omega : 0 ≤ m.toInt) (by decide : (0 : Int) ≤ 562949953421312)
  have h3 := c_lmul a m; have h4 := rng64 (a * m)
  omega
theorem own_m (y : Int32) : 1 ≤ ((y &&& (15 : Int32)) + (1 : Int32)).toInt64.toInt ∧ ((y &&& (15 : Int32)) + (1 : Int32)).toInt64.toInt ≤ 16 := by
  have h1 := c_and y 15 (by decide); have h2 := c_iadd (y &&& 15) 1; have h3 := rng32 ((y &&& 15) + 1)
  have e1 : (15 : Int32).toInt = 15 := rfl
  have e2 : (1 : Int32).toInt = 1 := rfl
  rw [c_i2l]; omega
theorem own_sh14 {y : Int64} (h : 0 ≤ y.toInt) : ((y.toUInt64 >>> ((14 : Int32) &&& 0x3f).toInt64.toUInt64).toInt64).toInt = y.toInt / 16384 := by
  rw [c_lushr y 14 14 (by decide) (by decide), show ((2 ^ 14 : Nat) : Int) = 16384 from rfl]; have := rng64 y; omega
theorem own_p (y : Int32) : 0 ≤ ((y &&& (2147483647 : Int32)) % (63 : Int32)).toInt ∧ ((y &&& (2147483647 : Int32)) % (63 : Int32)).toInt ≤ 62 := by
  have h1 := c_and y 2147483647 (by decide); have h2 := (c_irem (y &&& 2147483647) 63 63 rfl).1 h1.1
  omega
theorem own_pwb {p : Int} (h : p ≤ 62) : 0 < (2 : Int) ^ p.toNat ∧ (2 : Int) ^ p.toNat ≤ 4611686018427387904 := by
  have h1 : (2 : Nat) ^ p.toNat ≤ 2 ^ 62 := Nat.pow_le_pow_right (by decide) (by omega)
  have h2 : 0 < (2 : Nat) ^ p.toNat := Nat.two_pow_pos _
  have e : (2 : Int) ^ p.toNat = ((2 ^ p.toNat : Nat) : Int) := (Int.natCast_pow 2 _).symm
  rw [e]; omega
theorem own_pw {p : Int32} (h : 0 ≤ p.toInt ∧ p.toInt ≤ 62) : ((1 : Int64) <<< (p &&& 0x3f).toInt64).toInt = 2 ^ p.toInt.toNat := by
  have hb : p.toBitVec.toNat % 64 = p.toInt.toNat := by
    have : p.toInt = p.toBitVec.toInt := rfl
    rw [this, BitVec.toInt_eq_toNat_cond] at h ⊢
    have := p.toBitVec.isLt
    split at h <;> split <;> omega
  have h1 := c_lshl 1 p p.toInt.toNat hb
  have h2 := own_pwb h.2
  have h3 := rng64 ((1 : Int64) <<< (p &&& 0x3f).toInt64)
  have e1 : (1 : Int64).toInt = 1 := rfl
  have e : (2 : Int) ^ p.toInt.toNat = ((2 ^ p.toInt.toNat : Nat) : Int) := (Int.natCast_pow 2 _).symm
  rw [e1, Int.one_mul, ← e] at h1
  omega
theorem own_pw1 {w : Int64} (h : 0 < w.toInt ∧ w.toInt ≤ 4611686018427387904) : w + (1 : Int64) ≠ 0 := fun q => by
  have h1 := c_ladd w 1; have e1 : (1 : Int64).toInt = 1 := rfl
  have e0 : (0 : Int64).toInt = 0 := rfl
  rw [q] at h1; omega
theorem own_cp {x w : Int64} (hx : 0 ≤ x.toInt) (h : 0 < w.toInt ∧ w.toInt ≤ 4611686018427387904) : 0 ≤ (x % (w + (1 : Int64))).toInt ∧ (x % (w + (1 : Int64))).toInt ≤ w.toInt := by
  have h1 := c_ladd w 1; have e1 : (1 : Int64).toInt = 1 := rfl
  have h2 := rng64 (w + 1)
  have e : (w + 1).toInt = w.toInt + 1 := by omega
  rw [Int64.toInt_mod, e, Int.tmod_eq_emod_of_nonneg hx]
  have q1 := Int.emod_nonneg x.toInt (show w.toInt + 1 ≠ 0 by omega); have q2 := Int.emod_lt_of_pos x.toInt (show 0 < w.toInt + 1 by omega)
  omega

def shr (c t : Int64) : UInt64 := if 0 < c then FP.ddiv (FP.l2d c) (FP.l2d t) else 0
section OwnShr
open Jvm.FP Jvm.FP.Core
theorem own_pos {x : Int64} (h : 0 < x.toInt) : (0 : Int64) < x := by rw [Int64.lt_iff_toInt_lt]; exact h
theorem own_npos {x : Int64} (h : ¬ 0 < x.toInt) : ¬ (0 : Int64) < x := by rw [Int64.lt_iff_toInt_lt]; exact h
theorem shr_val {x z : Int64} (hx : 0 < x.toInt) (h : x.toInt ≤ z.toInt) : val64 (shr x z) = rr (zm (FP.l2d x)) (zm (FP.l2d z)) := by
  unfold shr; rw [if_pos (own_pos hx)]
  obtain ⟨c, q, e1⟩ := l2d_finR (x := x) (by omega)
  obtain ⟨d, r, e2⟩ := l2d_finR (x := z) (by omega)
  exact div_rr e1 e2 (zm_pos e2 (Nat.lt_of_lt_of_le (Nat.two_pow_pos 1074) (l2d_ge1 (by omega))))
theorem zpos {z : Int64} (h : 0 < z.toInt) : 0 < zm (FP.l2d z) := Nat.lt_of_lt_of_le (Nat.two_pow_pos 1074) (l2d_ge1 h)
theorem one_nn : val64 4607182418800017408 ≠ .nan := by decide +kernel
theorem shr_le {x z : Int64} (hx : 0 < x.toInt) (h : x.toInt ≤ z.toInt) : zm (shr x z) ≤ 2 ^ 1074 := by
  rw [← zm_one]; unfold zm; rw [shr_val hx h]
  refine rr_le (zpos (by omega)) one_nn ?_
  rw [zm_one, Nat.mul_comm]
  exact Nat.mul_le_mul_left _ (l2d_mono (by omega) h)
theorem shr_zero {x z : Int64} (hx : ¬ 0 < x.toInt) : shr x z = 0 := by unfold shr; rw [if_neg (own_npos hx)]
theorem zero_fin : ∃ c q, val64 0 = .fin false c q := ⟨0, -1074, by decide +kernel⟩
theorem one_fin : ∃ c q, val64 4607182418800017408 = .fin false c q := ⟨2 ^ 52, -52, by decide +kernel⟩
theorem shr_fin {x z : Int64} (hx : 0 ≤ x.toInt) (h : x.toInt ≤ z.toInt) : ∃ c q, val64 (shr x z) = .fin false c q := by
  by_cases h0 : 0 < x.toInt
  · have := shr_le h0 h
    unfold zm at this
    rw [shr_val h0 h] at this ⊢
    exact rr_fin (Nat.lt_of_le_of_lt this (Nat.pow_lt_pow_right (by decide) (by decide)))
  · rw [shr_zero h0]; exact zero_fin
theorem own_nn {x z : Int64} (hx : 0 ≤ x.toInt) (h : x.toInt ≤ z.toInt) : 0 < x → Jvm.Free.Fl.NoNaN64 (FP.ddiv (FP.l2d x) (FP.l2d z)) := fun q => by
  obtain ⟨c, r, e⟩ := shr_fin hx h
  unfold shr at e; rw [if_pos q] at e
  exact Jvm.Free.Fl.val64_no.mpr (by show val64 _ ≠ _; rw [e]; exact fun z => by cases z)
theorem own_ge0 {x z : Int64} (hx : 0 ≤ x.toInt) (h : x.toInt ≤ z.toInt) : ¬ 0 < cmpValue (FP.dcmp 0 (shr x z)) .g := by
  rw [cv_zm zero_fin (shr_fin hx h), zm_zero]
  by_cases q : 0 < zm (shr x z)
  · rw [if_pos q]; decide
  · rw [if_neg q, if_pos (by omega)]; decide
theorem shr_mono {x y z : Int64} (hx : 0 ≤ x.toInt) (hxy : x.toInt ≤ y.toInt) (hyz : y.toInt ≤ z.toInt) : zm (shr x z) ≤ zm (shr y z) := by
  by_cases h0 : 0 < x.toInt
  · have f1 := shr_fin hx (by omega : x.toInt ≤ z.toInt); have f2 := shr_fin (by omega : 0 ≤ y.toInt) hyz
    unfold zm
    rw [shr_val h0 (by omega)] at f1 ⊢; rw [shr_val (by omega) hyz] at f2 ⊢
    exact rr_mono (zpos (by omega)) (zpos (by omega)) (Nat.mul_le_mul_right _ (l2d_mono hx hxy)) f1 f2
  · rw [shr_zero h0, zm_zero]; exact Nat.zero_le _
theorem own_mono {x y z : Int64} (hx : 0 ≤ x.toInt) (hxy : x.toInt ≤ y.toInt) (hyz : y.toInt ≤ z.toInt) : ¬ 0 < cmpValue (FP.dcmp (shr x z) (shr y z)) .g := by
  rw [cv_zm (shr_fin hx (by omega)) (shr_fin (by omega) hyz)]
  have := shr_mono hx hxy hyz
  by_cases q : zm (shr x z) < zm (shr y z)
  · rw [if_pos q]; decide
  · rw [if_neg q, if_pos (by omega)]; decide
theorem own_le1 {y z : Int64} (hy : 0 ≤ y.toInt) (hyz : y.toInt ≤ z.toInt) : ¬ 0 < cmpValue (FP.dcmp (shr y z) 4607182418800017408) .g := by
  rw [cv_zm (shr_fin hy hyz) one_fin, zm_one]
  have : zm (shr y z) ≤ 2 ^ 1074 := by
    by_cases h0 : 0 < y.toInt
    · exact shr_le h0 hyz
    · rw [shr_zero h0, zm_zero]; exact Nat.zero_le _
  by_cases q : zm (shr y z) < 2 ^ 1074
  · rw [if_pos q]; decide
  · rw [if_neg q, if_pos (Nat.le_antisymm this (Nat.le_of_not_lt q))]; decide
theorem shr_gt {x z : Int64} (hx : 0 < x.toInt) (h : x.toInt ≤ z.toInt) : 0 < zm (shr x z) := by
  have e : zm 1 = 1 := by unfold zm; rw [show val64 1 = .fin false 1 (-1074) by decide +kernel, zmag_fin]; decide +kernel
  refine Nat.lt_of_lt_of_le (show 0 < zm 1 by rw [e]; decide) ?_
  unfold zm; rw [shr_val hx h]
  refine rr_ge (zpos (by omega)) ?_
  rw [e, Nat.one_mul]
  refine Nat.le_trans (l2d_le (by omega)) (Nat.mul_le_mul_right _ (Nat.le_trans ?_ (l2d_ge1 hx)))
  exact Nat.pow_le_pow_right (by decide) (by decide)
theorem own_zero {x z : Int64} (hx : 0 ≤ x.toInt) (h : x.toInt ≤ z.toInt) : cmpValue (FP.dcmp (shr x z) 0) .l = 0 ↔ x = 0 := by
  rw [cv_zm (shr_fin hx h) zero_fin, zm_zero, if_neg (Nat.not_lt_zero _)]
  by_cases h0 : 0 < x.toInt
  · have := shr_gt h0 h
    rw [if_neg (by omega)]
    exact ⟨fun q => absurd q (by decide), fun q => by rw [q] at h0; exact absurd h0 (by decide)⟩
  · rw [shr_zero h0, zm_zero, if_pos rfl]
    exact ⟨fun _ => Int64.toInt_inj.mp (by show x.toInt = 0; omega), fun _ => rfl⟩
theorem own_one {y : Int64} (hy : 0 < y.toInt) : cmpValue (FP.dcmp (shr y y) 4607182418800017408) .l = 0 := by
  rw [cv_zm (shr_fin (by omega) (Int.le_refl _)) one_fin]
  have h1 := shr_le hy (Int.le_refl _)
  have h2 : zm 4607182418800017408 ≤ zm (shr y y) := by
    conv => rhs; unfold zm
    rw [shr_val hy (Int.le_refl _)]
    refine rr_ge (zpos hy) ?_
    rw [zm_one, Nat.mul_comm]; exact Nat.le_refl _
  rw [zm_one] at h2 ⊢
  rw [if_neg (Nat.not_lt.mpr h2), if_pos (Nat.le_antisymm h1 h2)]
theorem own_zz : cmpValue (FP.dcmp (shr 0 0) 0) .l = 0 := by rw [shr_zero (by decide)]; decide +kernel
theorem own_scale {a b m : Int64} (ha : 0 ≤ a.toInt) (hab : a.toInt ≤ b.toInt) (hb : b.toInt ≤ 562949953421312) (hm : 1 ≤ m.toInt ∧ m.toInt ≤ 16) : cmpValue (FP.dcmp (shr a b) (shr (a * m) (b * m))) .l = 0 := by
  have e1 := own_mulm ha (by omega : a.toInt ≤ 562949953421312) hm
  have e2 := own_mulm (by omega : 0 ≤ b.toInt) hb hm
  have n1 : 0 ≤ a.toInt * m.toInt := Int.mul_nonneg ha (by omega)
  have n2 : a.toInt * m.toInt ≤ b.toInt * m.toInt := Int.mul_le_mul_of_nonneg_right hab (by omega)
  have n3 : b.toInt * m.toInt ≤ 9007199254740992 := by
    have := Int.mul_le_mul hb hm.2 (by omega) (by decide)
    omega
  have f2 := shr_fin (x := a * m) (z := b * m) (by omega) (by omega)
  rw [cv_zm (shr_fin ha hab) f2]
  have key : zm (shr a b) = zm (shr (a * m) (b * m)) := by
    by_cases h0 : 0 < a.toInt
    · have h1 : 0 < a.toInt * m.toInt := Int.mul_pos h0 (by omega)
      unfold zm
      rw [shr_val h0 hab, shr_val (by omega) (by omega), l2d_exact ha (by omega), l2d_exact (x := b) (by omega) (by omega), l2d_exact (x := a * m) (by omega) (by omega), l2d_exact (x := b * m) (by omega) (by omega), e1, e2, Int.natAbs_mul, Int.natAbs_mul]
      refine congrArg (zmag b64) (rr_congr (Nat.mul_pos (by omega) (Nat.two_pow_pos _)) (Nat.mul_pos (Nat.mul_pos (by omega) (by omega)) (Nat.two_pow_pos _)) ?_)
      generalize (2 : Nat) ^ 1074 = P
      ac_rfl
    · have h1 : a.toInt = 0 := by omega
      rw [shr_zero h0, shr_zero (by rw [e1, h1]; omega)]
  rw [key, if_neg (Nat.lt_irrefl _), if_pos rfl]
end OwnShr

section OwnPow
open Jvm.FP Jvm.FP.Core
theorem own_l2p {w : Int64} {p : Int32} (hw : w.toInt = 2 ^ p.toInt.toNat) (hp : 0 ≤ p.toInt ∧ p.toInt ≤ 62) : Dy p.toInt 1 (val64 (FP.l2d w)) := by
  show Dy p.toInt 1 (val64 (Core.l2d w))
  rw [val64_l2d]
  refine dy_round ?_ (by decide) (by omega) (by omega)
  have hb := own_pwb hp.2
  show Dy p.toInt 1 (.fin (decide (w.toInt < 0)) w.toInt.natAbs 0)
  rw [show decide (w.toInt < 0) = false by rw [decide_eq_false_iff_not]; omega]
  refine dy_mk ?_ rfl
  rw [hw, Int.natAbs_pow, show (0 - p.toInt).toNat = 0 by omega, show (p.toInt - 0).toNat = p.toInt.toNat by omega, Nat.pow_zero, Nat.mul_one]
  exact (Nat.one_mul _).symm
theorem own_inv {w : Int64} {p : Int32} (hw : w.toInt = 2 ^ p.toInt.toNat) (hp : 0 ≤ p.toInt ∧ p.toInt ≤ 62) : Dy (0 - p.toInt) 1 (val64 (FP.ddiv 4607182418800017408 (FP.l2d w))) ∧ Jvm.Free.Fl.NoNaN64 (FP.ddiv 4607182418800017408 (FP.l2d w)) := by
  have h : Dy (0 - p.toInt) 1 (val64 (FP.ddiv 4607182418800017408 (FP.l2d w))) := by
    show Dy (0 - p.toInt) 1 (val64 (Core.ddiv 4607182418800017408 (FP.l2d w)))
    rw [val64_ddiv]; exact dy_quotient db_c1.1 (own_l2p hw hp) (by decide) (by decide) (by decide) (by omega) (by omega)
  exact ⟨h, Jvm.Free.Fl.val64_no.mpr (by obtain ⟨s, c, q, e⟩ := dy_fin h; show val64 _ ≠ _; rw [e]; exact fun z => by cases z)⟩
theorem dy_sgn0 {k : Int} {x : UInt64} (h : Dy k 1 (val64 x)) : ∃ c q, val64 x = .fin false c q := by
  obtain ⟨s, c, q, e⟩ := dy_fin h
  rw [e] at h
  have := dy_sgn h
  cases s
  · exact ⟨c, q, e⟩
  · exact absurd this (by decide)
theorem own_exp {c w : Int64} {p : Int32} (hw : w.toInt = 2 ^ p.toInt.toNat) (hp : 0 ≤ p.toInt ∧ p.toInt ≤ 62) (hc : 0 ≤ c.toInt) :
    Jvm.Free.Fl.NoNaN64 (FP.dmul (FP.l2d c) (FP.ddiv 4607182418800017408 (FP.l2d w))) ∧ (c.toInt ≤ w.toInt → cmpValue (FP.dcmp (shr c w) (FP.dmul (FP.l2d c) (FP.ddiv 4607182418800017408 (FP.l2d w)))) .l = 0) := by
  have hi := own_inv hw hp
  obtain ⟨ci, qi, ei⟩ := dy_sgn0 hi.1
  obtain ⟨cc, qc, ec⟩ := l2d_finR hc
  have nn : Jvm.Free.Fl.NoNaN64 (FP.dmul (FP.l2d c) (FP.ddiv 4607182418800017408 (FP.l2d w))) := Jvm.Free.Fl.noNaN64_no.mpr (dmul_out ⟨_, _, _, ec⟩ ⟨_, _, _, ei⟩)
  refine ⟨nn, fun hle => ?_⟩
  have zw : zm (FP.l2d w) = 2 ^ (p.toInt.toNat + 1074) := by
    rw [zm_dy (own_l2p hw hp) (by omega), show (p.toInt + 1074).toNat = p.toInt.toNat + 1074 by omega]; exact Nat.one_mul _
  have zi : zm (FP.ddiv 4607182418800017408 (FP.l2d w)) = 2 ^ (1074 - p.toInt.toNat) := by
    rw [zm_dy hi.1 (by omega), show (0 - p.toInt + 1074).toNat = 1074 - p.toInt.toNat by omega]; exact Nat.one_mul _
  have hm := mul_rr ec ei
  have hb := own_pwb hp.2
  have hr : val64 (FP.dmul (FP.l2d c) (FP.ddiv 4607182418800017408 (FP.l2d w))) = rr (zm (FP.l2d c)) (zm (FP.l2d w)) := by
    rw [hm, zi, zw]
    refine rr_congr (Nat.two_pow_pos _) (Nat.two_pow_pos _) ?_
    rw [Nat.mul_assoc, ← Nat.pow_add, show 1074 - p.toInt.toNat + (p.toInt.toNat + 1074) = 2148 by omega]
  have hs : zm (shr c w) = zm (FP.dmul (FP.l2d c) (FP.ddiv 4607182418800017408 (FP.l2d w))) ∧ ∃ d r, val64 (FP.dmul (FP.l2d c) (FP.ddiv 4607182418800017408 (FP.l2d w))) = .fin false d r := by
    by_cases h0 : 0 < c.toInt
    · have f := shr_fin hc hle
      rw [shr_val h0 hle, ← hr] at f
      exact ⟨by unfold zm; rw [shr_val h0 hle, ← hr], f⟩
    · have c0 : c = 0 := Int64.toInt_inj.mp (by show c.toInt = 0; omega)
      have z0 : zm (FP.l2d c) = 0 := by rw [c0]; exact (congrArg zm (show FP.l2d 0 = 0 by decide +kernel)).trans zm_zero
      have e : rr (zm (FP.l2d c)) (zm (FP.l2d w)) = .fin false 0 (-1074) := by rw [z0]; unfold rr roundRatio; rw [if_pos rfl, qmin_b64]
      refine ⟨?_, 0, -1074, hr.trans e⟩
      rw [shr_zero h0, zm_zero]; unfold zm; rw [hr, e, zmag_fin]; unfold inUnits; exact (Nat.zero_mul _).symm
  rw [cv_zm (shr_fin hc hle) hs.2, hs.1, if_neg (Nat.lt_irrefl _), if_pos rfl]
end OwnPow

theorem pd_0 : parseMethodDescriptor "(JJ)D" = some ⟨[.long, .long], some .double⟩ := by decide +kernel
theorem d1_0 : decode prog_59_method_2_code 0 = .ok (.dconst 0, 1) := by decide +kernel
theorem d1_1 : decode prog_59_method_2_code 1 = .ok (.dstore 4, 2) := by decide +kernel
theorem d1_3 : decode prog_59_method_2_code 3 = .ok (.lload_n 0, 1) := by decide +kernel
theorem d1_4 : decode prog_59_method_2_code 4 = .ok (.lconst 0, 1) := by decide +kernel
theorem d1_5 : decode prog_59_method_2_code 5 = .ok (.lcmp, 1) := by decide +kernel
theorem d1_6 : decode prog_59_method_2_code 6 = .ok (.ifCond .le 10, 3) := by decide +kernel
theorem d1_9 : decode prog_59_method_2_code 9 = .ok (.lload_n 0, 1) := by decide +kernel
theorem d1_10 : decode prog_59_method_2_code 10 = .ok (.l2d, 1) := by decide +kernel
theorem d1_11 : decode prog_59_method_2_code 11 = .ok (.lload_n 2, 1) := by decide +kernel
theorem d1_12 : decode prog_59_method_2_code 12 = .ok (.l2d, 1) := by decide +kernel
theorem d1_13 : decode prog_59_method_2_code 13 = .ok (.ddiv, 1) := by decide +kernel
theorem d1_14 : decode prog_59_method_2_code 14 = .ok (.dstore 4, 2) := by decide +kernel
theorem d1_16 : decode prog_59_method_2_code 16 = .ok (.dload 4, 2) := by decide +kernel
theorem d1_18 : decode prog_59_method_2_code 18 = .ok (.dreturn, 1) := by decide +kernel
theorem pn_1 : plainName "com/example/forager/forager/ranking/Probabilities" = true := by first | (simp [plainName, overriddenIn]; done) | decide +kernel
theorem ef_1 (m : MethodId) (x0 : Int64) (x1 : Int64) : entryFrame m #[(.long x0), (.long x1)] 6 = mkF m 0 #[.val (.long x0), .second, .val (.long x1), .second, .unset, .unset] [] := by first | (simp [entryFrame, mkF, argsToLocals, Value.category]; done) | rfl
set_option maxRecDepth 65536 in
set_option maxHeartbeats 40000000 in
theorem rm1 (l : Launch) (Z : State) (a0 : Array Value) (hw : ∀ d ∈ tables_1, d.before a0 Z = true) (ws : List Jvm.Cond) (c_ : Int64) (t_ : Int64)  (h0 : Heap) (hnn : 0 < c_ → Jvm.Free.Fl.NoNaN64 (FP.ddiv (FP.l2d c_) (FP.l2d t_))) :
    Con l (⟨"com/example/forager/forager/ranking/Probabilities", "share", "(JJ)D"⟩ : MethodName) prog_59_method_2_code 6 (some .double) ws ({ frames := 0, cells := 0, slots := 0, locals := 0 } : Room) Z #[(.long c_), (.long t_)] h0 (fun v h L => (∀ n, Fr n L) ∧ v = some (.double (shr c_ t_)) ∧ h = h0) := by
  refine con_of (plainFor_of_name pn_1) ?_
  intro p e s m below meth c s₁ X0 hx hby hml hret hlk hown hnm hZ e0
  refine Go.cast (ef_1 m c_ t_) ?_
  refine go_dconst0 (q := 1) (v := (0 : UInt64)) X0 hx (hb hby d1_0) rfl rfl ?_
  refine go_dstore (q := 3) (l' := #[.val (.long c_), .second, .val (.long t_), .second, .val (.double (0 : UInt64)), .second]) X0 hx (hb hby d1_1) rfl rfl ?_
  refine go_lloadN (q := 4) X0 hx (hb hby d1_3) rfl rfl ?_
  refine go_lconst (q := 5) (v := (0 : Int64)) X0 hx (hb hby d1_4) rfl rfl ?_
  refine go_lcmp (q := 6) X0 hx (hb hby d1_5) rfl ?_
  refine go_lif_le (q := 9) (q' := 16) X0 hx (hb hby d1_6) rfl (by decide) rfl (fun hc6 => ?_) (fun hc6 => ?_)
  · refine go_dload (q := 18) X0 hx (hb hby d1_16) rfl rfl ?_
    exact go_retD X0 hx hret hlk (hb hby d1_18) (by decide) (by decide) ⟨fun _ => Fr.nil _, by unfold shr; rw [if_neg hc6], e0⟩
  · refine go_lloadN (q := 10) X0 hx (hb hby d1_9) rfl rfl ?_
    refine go_l2d (q := 11) X0 hx (hb hby d1_10) rfl rfl ?_
    refine go_lloadN (q := 12) X0 hx (hb hby d1_11) rfl rfl ?_
    refine go_l2d (q := 13) X0 hx (hb hby d1_12) rfl rfl ?_
    refine go_ddiv (q := 14) X0 hx (hb hby d1_13) rfl (hnn hc6) rfl ?_
    refine go_dstore (q := 16) (l' := #[.val (.long c_), .second, .val (.long t_), .second, .val (.double (FP.ddiv (FP.l2d c_) (FP.l2d t_))), .second]) X0 hx (hb hby d1_14) rfl rfl ?_
    refine go_dload (q := 18) X0 hx (hb hby d1_16) rfl rfl ?_
    exact go_retD X0 hx hret hlk (hb hby d1_18) (by decide) (by decide) ⟨fun _ => Fr.nil _, by unfold shr; rw [if_pos hc6], e0⟩
theorem pn_0 : plainName "com/example/forager/forager/ranking/ProbabilitiesSharePinLaw" = true := by first | (simp [plainName, overriddenIn]; done) | decide +kernel
theorem ef_0 (m : MethodId) (x0 : Int64) (x1 : Int64) (x2 : Int64) (x3 : Int32) (x4 : Int32) : entryFrame m #[(.long x0), (.long x1), (.long x2), (.int x3), (.int x4)] maxLocals = mkF m 0 #[.val (.long x0), .second, .val (.long x1), .second, .val (.long x2), .second, .val (.int x3), .val (.int x4), .unset, .unset, .unset, .unset, .unset, .unset, .unset, .unset, .unset, .unset, .unset, .unset, .unset, .unset, .unset, .unset, .unset, .unset, .unset, .unset, .unset, .unset, .unset, .unset, .unset, .unset] [] := by first | (simp [entryFrame, mkF, argsToLocals, Value.category, maxLocals]; done) | rfl
set_option maxRecDepth 65536 in
set_option maxHeartbeats 40000000 in
theorem rm0 (l : Launch) (Z : State) (a0 : Array Value) (hw : ∀ d ∈ tables_1, d.before a0 Z = true) (ws : List Jvm.Cond) (c_ : Int64) (d_ : Int64) (t_ : Int64) (kk : Int32) (jj : Int32)  (h0 : Heap)  :
    Con l x code maxLocals ret ws room_1 Z #[(.long c_), (.long d_), (.long t_), (.int kk), (.int jj)] h0 (fun v h L => v = some (.int (1 : Int32)) ∧ Fr h0.size L) := by
  refine con_of (plainFor_of_name pn_0) ?_
  intro p e s m below meth c s₁ X0 hx hby hml hret hlk hown hnm hZ e0
  refine Go.cast (ef_0 m c_ d_ t_ kk jj) ?_
  have N0 := Fr.nil h0.size
  have hsz : h0.size ≤ h0.size := (Nat.le_refl _)
  refine go_lloadN (q := 1) X0 hx (hb hby at_0) rfl rfl ?_
  refine go_ldc2J (q := 4) (v := (9223372036854775807 : Int64)) X0 hx hZ hown (hw _ (List.mem_of_getElem? (i := 0) rfl)) (hb hby at_1) rfl ?_
  refine go_land (q := 5) (v := (c_ &&& (9223372036854775807 : Int64))) X0 hx (hb hby at_4) rfl rfl ?_
  refine go_lstore (q := 7) (l' := #[.val (.long c_), .second, .val (.long d_), .second, .val (.long t_), .second, .val (.int kk), .val (.int jj), .val (.long (c_ &&& (9223372036854775807 : Int64))), .second, .unset, .unset, .unset, .unset, .unset, .unset, .unset, .unset, .unset, .unset, .unset, .unset, .unset, .unset, .unset, .unset, .unset, .unset, .unset, .unset, .unset, .unset, .unset, .unset]) X0 hx (hb hby at_5) rfl rfl ?_
  suffices Hx0 : ∀ x0 : Int64, x0 = (c_ &&& (9223372036854775807 : Int64)) → Go p e below s (fun v h L => v = some (.int (1 : Int32)) ∧ Fr h0.size L) room_1.cells room_1.slots s₁ (mkF m 7 #[.val (.long c_), .second, .val (.long d_), .second, .val (.long t_), .second, .val (.int kk), .val (.int jj), .val (.long x0), .second, .unset, .unset, .unset, .unset, .unset, .unset, .unset, .unset, .unset, .unset, .unset, .unset, .unset, .unset, .unset, .unset, .unset, .unset, .unset, .unset, .unset, .unset, .unset, .unset] []) from Hx0 _ rfl
  intro x0 ex0
  refine go_lloadN (q := 8) X0 hx (hb hby at_7) rfl rfl ?_
  refine go_ldc2J (q := 11) (v := (9223372036854775807 : Int64)) X0 hx hZ hown (hw _ (List.mem_of_getElem? (i := 0) rfl)) (hb hby at_8) rfl ?_
  refine go_land (q := 12) (v := (d_ &&& (9223372036854775807 : Int64))) X0 hx (hb hby at_11) rfl rfl ?_
  refine go_lstore (q := 14) (l' := #[.val (.long c_), .second, .val (.long d_), .second, .val (.long t_), .second, .val (.int kk), .val (.int jj), .val (.long x0), .second, .val (.long (d_ &&& (9223372036854775807 : Int64))), .second, .unset, .unset, .unset, .unset, .unset, .unset, .unset, .unset, .unset, .unset, .unset, .unset, .unset, .unset, .unset, .unset, .unset, .unset, .unset, .unset, .unset, .unset]) X0 hx (hb hby at_12) rfl rfl ?_
  suffices Hy0 : ∀ y0 : Int64, y0 = (d_ &&& (9223372036854775807 : Int64)) → Go p e below s (fun v h L => v = some (.int (1 : Int32)) ∧ Fr h0.size L) room_1.cells room_1.slots s₁ (mkF m 14 #[.val (.long c_), .second, .val (.long d_), .second, .val (.long t_), .second, .val (.int kk), .val (.int jj), .val (.long x0), .second, .val (.long y0), .second, .unset, .unset, .unset, .unset, .unset, .unset, .unset, .unset, .unset, .unset, .unset, .unset, .unset, .unset, .unset, .unset, .unset, .unset, .unset, .unset, .unset, .unset] []) from Hy0 _ rfl
  intro y0 ey0
  refine go_lload (q := 16) X0 hx (hb hby at_14) rfl rfl ?_
  refine go_ldc2J (q := 19) (v := (9223372036854775807 : Int64)) X0 hx hZ hown (hw _ (List.mem_of_getElem? (i := 0) rfl)) (hb hby at_16) rfl ?_
  refine go_land (q := 20) (v := (t_ &&& (9223372036854775807 : Int64))) X0 hx (hb hby at_19) rfl rfl ?_
  refine go_lstore (q := 22) (l' := #[.val (.long c_), .second, .val (.long d_), .second, .val (.long t_), .second, .val (.int kk), .val (.int jj), .val (.long x0), .second, .val (.long y0), .second, .val (.long (t_ &&& (9223372036854775807 : Int64))), .second, .unset, .unset, .unset, .unset, .unset, .unset, .unset, .unset, .unset, .unset, .unset, .unset, .unset, .unset, .unset, .unset, .unset, .unset, .unset, .unset]) X0 hx (hb hby at_20) rfl rfl ?_
  suffices Hz0 : ∀ z0 : Int64, z0 = (t_ &&& (9223372036854775807 : Int64)) → Go p e below s (fun v h L => v = some (.int (1 : Int32)) ∧ Fr h0.size L) room_1.cells room_1.slots s₁ (mkF m 22 #[.val (.long c_), .second, .val (.long d_), .second, .val (.long t_), .second, .val (.int kk), .val (.int jj), .val (.long x0), .second, .val (.long y0), .second, .val (.long z0), .second, .unset, .unset, .unset, .unset, .unset, .unset, .unset, .unset, .unset, .unset, .unset, .unset, .unset, .unset, .unset, .unset, .unset, .unset, .unset, .unset] []) from Hz0 _ rfl
  intro z0 ez0
  have hx0 : 0 ≤ x0.toInt := by rw [ex0]; exact own_mask _
  have hy0 : 0 ≤ y0.toInt := by rw [ey0]; exact own_mask _
  have hz0 : 0 ≤ z0.toInt := by rw [ez0]; exact own_mask _
  refine go_lload (q := 24) X0 hx (hb hby at_22) rfl rfl ?_
  refine go_lload (q := 26) X0 hx (hb hby at_24) rfl rfl ?_
  refine go_lcmp (q := 27) X0 hx (hb hby at_26) rfl ?_
  suffices J : ∀ (x_ y_ z_ : Int64) (q14 q15 : Slot), True → 0 ≤ x_.toInt → x_.toInt ≤ y_.toInt → y_.toInt ≤ z_.toInt → Go p e below s (fun v h L => v = some (.int (1 : Int32)) ∧ Fr h0.size L) room_1.cells room_1.slots s₁ (mkF m 82 #[.val (.long c_), .second, .val (.long d_), .second, .val (.long t_), .second, .val (.int kk), .val (.int jj), .val (.long x_), .second, .val (.long y_), .second, .val (.long z_), .second, q14, q15, .unset, .unset, .unset, .unset, .unset, .unset, .unset, .unset, .unset, .unset, .unset, .unset, .unset, .unset, .unset, .unset, .unset, .unset] []) by
    refine go_lif_le (q := 30) (q' := 42) X0 hx (hb hby at_27) rfl (by decide) rfl (fun hc27 => ?_) (fun hc27 => ?_)
    · rw [Int64.lt_iff_toInt_lt] at hc27
      refine go_lload (q := 44) X0 hx (hb hby at_42) rfl rfl ?_
      refine go_lload (q := 46) X0 hx (hb hby at_44) rfl rfl ?_
      refine go_lcmp (q := 47) X0 hx (hb hby at_46) rfl ?_
      refine go_lif_le (q := 50) (q' := 62) X0 hx (hb hby at_47) rfl (by decide) rfl (fun hc47 => ?_) (fun hc47 => ?_)
      · rw [Int64.lt_iff_toInt_lt] at hc47
        refine go_lload (q := 64) X0 hx (hb hby at_62) rfl rfl ?_
        refine go_lload (q := 66) X0 hx (hb hby at_64) rfl rfl ?_
        refine go_lcmp (q := 67) X0 hx (hb hby at_66) rfl ?_
        refine go_lif_le (q := 70) (q' := 82) X0 hx (hb hby at_67) rfl (by decide) rfl (fun hc67 => ?_) (fun hc67 => ?_)
        · rw [Int64.lt_iff_toInt_lt] at hc67
          exact J x0 y0 z0 _ _ (by decide) (by omega) (by omega) (by omega)
        · rw [Int64.lt_iff_toInt_lt] at hc67
          refine go_lload (q := 72) X0 hx (hb hby at_70) rfl rfl ?_
          refine go_lstore (q := 74) (l' := #[.val (.long c_), .second, .val (.long d_), .second, .val (.long t_), .second, .val (.int kk), .val (.int jj), .val (.long x0), .second, .val (.long y0), .second, .val (.long z0), .second, .val (.long x0), .second, .unset, .unset, .unset, .unset, .unset, .unset, .unset, .unset, .unset, .unset, .unset, .unset, .unset, .unset, .unset, .unset, .unset, .unset]) X0 hx (hb hby at_72) rfl rfl ?_
          refine go_lload (q := 76) X0 hx (hb hby at_74) rfl rfl ?_
          refine go_lstore (q := 78) (l' := #[.val (.long c_), .second, .val (.long d_), .second, .val (.long t_), .second, .val (.int kk), .val (.int jj), .val (.long y0), .second, .val (.long y0), .second, .val (.long z0), .second, .val (.long x0), .second, .unset, .unset, .unset, .unset, .unset, .unset, .unset, .unset, .unset, .unset, .unset, .unset, .unset, .unset, .unset, .unset, .unset, .unset]) X0 hx (hb hby at_76) rfl rfl ?_
          refine go_lload (q := 80) X0 hx (hb hby at_78) rfl rfl ?_
          refine go_lstore (q := 82) (l' := #[.val (.long c_), .second, .val (.long d_), .second, .val (.long t_), .second, .val (.int kk), .val (.int jj), .val (.long y0), .second, .val (.long x0), .second, .val (.long z0), .second, .val (.long x0), .second, .unset, .unset, .unset, .unset, .unset, .unset, .unset, .unset, .unset, .unset, .unset, .unset, .unset, .unset, .unset, .unset, .unset, .unset]) X0 hx (hb hby at_80) rfl rfl ?_
          exact J y0 x0 z0 _ _ (by decide) (by omega) (by omega) (by omega)
      · rw [Int64.lt_iff_toInt_lt] at hc47
        refine go_lload (q := 52) X0 hx (hb hby at_50) rfl rfl ?_
        refine go_lstore (q := 54) (l' := #[.val (.long c_), .second, .val (.long d_), .second, .val (.long t_), .second, .val (.int kk), .val (.int jj), .val (.long x0), .second, .val (.long y0), .second, .val (.long z0), .second, .val (.long y0), .second, .unset, .unset, .unset, .unset, .unset, .unset, .unset, .unset, .unset, .unset, .unset, .unset, .unset, .unset, .unset, .unset, .unset, .unset]) X0 hx (hb hby at_52) rfl rfl ?_
        refine go_lload (q := 56) X0 hx (hb hby at_54) rfl rfl ?_
        refine go_lstore (q := 58) (l' := #[.val (.long c_), .second, .val (.long d_), .second, .val (.long t_), .second, .val (.int kk), .val (.int jj), .val (.long x0), .second, .val (.long z0), .second, .val (.long z0), .second, .val (.long y0), .second, .unset, .unset, .unset, .unset, .unset, .unset, .unset, .unset, .unset, .unset, .unset, .unset, .unset, .unset, .unset, .unset, .unset, .unset]) X0 hx (hb hby at_56) rfl rfl ?_
        refine go_lload (q := 60) X0 hx (hb hby at_58) rfl rfl ?_
        refine go_lstore (q := 62) (l' := #[.val (.long c_), .second, .val (.long d_), .second, .val (.long t_), .second, .val (.int kk), .val (.int jj), .val (.long x0), .second, .val (.long z0), .second, .val (.long y0), .second, .val (.long y0), .second, .unset, .unset, .unset, .unset, .unset, .unset, .unset, .unset, .unset, .unset, .unset, .unset, .unset, .unset, .unset, .unset, .unset, .unset]) X0 hx (hb hby at_60) rfl rfl ?_
        refine go_lload (q := 64) X0 hx (hb hby at_62) rfl rfl ?_
        refine go_lload (q := 66) X0 hx (hb hby at_64) rfl rfl ?_
        refine go_lcmp (q := 67) X0 hx (hb hby at_66) rfl ?_
        refine go_lif_le (q := 70) (q' := 82) X0 hx (hb hby at_67) rfl (by decide) rfl (fun hc67 => ?_) (fun hc67 => ?_)
        · rw [Int64.lt_iff_toInt_lt] at hc67
          exact J x0 z0 y0 _ _ (by decide) (by omega) (by omega) (by omega)
        · rw [Int64.lt_iff_toInt_lt] at hc67
          refine go_lload (q := 72) X0 hx (hb hby at_70) rfl rfl ?_
          refine go_lstore (q := 74) (l' := #[.val (.long c_), .second, .val (.long d_), .second, .val (.long t_), .second, .val (.int kk), .val (.int jj), .val (.long x0), .second, .val (.long z0), .second, .val (.long y0), .second, .val (.long x0), .second, .unset, .unset, .unset, .unset, .unset, .unset, .unset, .unset, .unset, .unset, .unset, .unset, .unset, .unset, .unset, .unset, .unset, .unset]) X0 hx (hb hby at_72) rfl rfl ?_
          refine go_lload (q := 76) X0 hx (hb hby at_74) rfl rfl ?_
          refine go_lstore (q := 78) (l' := #[.val (.long c_), .second, .val (.long d_), .second, .val (.long t_), .second, .val (.int kk), .val (.int jj), .val (.long z0), .second, .val (.long z0), .second, .val (.long y0), .second, .val (.long x0), .second, .unset, .unset, .unset, .unset, .unset, .unset, .unset, .unset, .unset, .unset, .unset, .unset, .unset, .unset, .unset, .unset, .unset, .unset]) X0 hx (hb hby at_76) rfl rfl ?_
          refine go_lload (q := 80) X0 hx (hb hby at_78) rfl rfl ?_
          refine go_lstore (q := 82) (l' := #[.val (.long c_), .second, .val (.long d_), .second, .val (.long t_), .second, .val (.int kk), .val (.int jj), .val (.long z0), .second, .val (.long x0), .second, .val (.long y0), .second, .val (.long x0), .second, .unset, .unset, .unset, .unset, .unset, .unset, .unset, .unset, .unset, .unset, .unset, .unset, .unset, .unset, .unset, .unset, .unset, .unset]) X0 hx (hb hby at_80) rfl rfl ?_
          exact J z0 x0 y0 _ _ (by decide) (by omega) (by omega) (by omega)
    · rw [Int64.lt_iff_toInt_lt] at hc27
      refine go_lload (q := 32) X0 hx (hb hby at_30) rfl rfl ?_
      refine go_lstore (q := 34) (l' := #[.val (.long c_), .second, .val (.long d_), .second, .val (.long t_), .second, .val (.int kk), .val (.int jj), .val (.long x0), .second, .val (.long y0), .second, .val (.long z0), .second, .val (.long x0), .second, .unset, .unset, .unset, .unset, .unset, .unset, .unset, .unset, .unset, .unset, .unset, .unset, .unset, .unset, .unset, .unset, .unset, .unset]) X0 hx (hb hby at_32) rfl rfl ?_
      refine go_lload (q := 36) X0 hx (hb hby at_34) rfl rfl ?_
      refine go_lstore (q := 38) (l' := #[.val (.long c_), .second, .val (.long d_), .second, .val (.long t_), .second, .val (.int kk), .val (.int jj), .val (.long y0), .second, .val (.long y0), .second, .val (.long z0), .second, .val (.long x0), .second, .unset, .unset, .unset, .unset, .unset, .unset, .unset, .unset, .unset, .unset, .unset, .unset, .unset, .unset, .unset, .unset, .unset, .unset]) X0 hx (hb hby at_36) rfl rfl ?_
      refine go_lload (q := 40) X0 hx (hb hby at_38) rfl rfl ?_
      refine go_lstore (q := 42) (l' := #[.val (.long c_), .second, .val (.long d_), .second, .val (.long t_), .second, .val (.int kk), .val (.int jj), .val (.long y0), .second, .val (.long x0), .second, .val (.long z0), .second, .val (.long x0), .second, .unset, .unset, .unset, .unset, .unset, .unset, .unset, .unset, .unset, .unset, .unset, .unset, .unset, .unset, .unset, .unset, .unset, .unset]) X0 hx (hb hby at_40) rfl rfl ?_
      refine go_lload (q := 44) X0 hx (hb hby at_42) rfl rfl ?_
      refine go_lload (q := 46) X0 hx (hb hby at_44) rfl rfl ?_
      refine go_lcmp (q := 47) X0 hx (hb hby at_46) rfl ?_
      refine go_lif_le (q := 50) (q' := 62) X0 hx (hb hby at_47) rfl (by decide) rfl (fun hc47 => ?_) (fun hc47 => ?_)
      · rw [Int64.lt_iff_toInt_lt] at hc47
        refine go_lload (q := 64) X0 hx (hb hby at_62) rfl rfl ?_
        refine go_lload (q := 66) X0 hx (hb hby at_64) rfl rfl ?_
        refine go_lcmp (q := 67) X0 hx (hb hby at_66) rfl ?_
        refine go_lif_le (q := 70) (q' := 82) X0 hx (hb hby at_67) rfl (by decide) rfl (fun hc67 => ?_) (fun hc67 => ?_)
        · rw [Int64.lt_iff_toInt_lt] at hc67
          exact J y0 x0 z0 _ _ (by decide) (by omega) (by omega) (by omega)
        · rw [Int64.lt_iff_toInt_lt] at hc67
          refine go_lload (q := 72) X0 hx (hb hby at_70) rfl rfl ?_
          refine go_lstore (q := 74) (l' := #[.val (.long c_), .second, .val (.long d_), .second, .val (.long t_), .second, .val (.int kk), .val (.int jj), .val (.long y0), .second, .val (.long x0), .second, .val (.long z0), .second, .val (.long y0), .second, .unset, .unset, .unset, .unset, .unset, .unset, .unset, .unset, .unset, .unset, .unset, .unset, .unset, .unset, .unset, .unset, .unset, .unset]) X0 hx (hb hby at_72) rfl rfl ?_
          refine go_lload (q := 76) X0 hx (hb hby at_74) rfl rfl ?_
          refine go_lstore (q := 78) (l' := #[.val (.long c_), .second, .val (.long d_), .second, .val (.long t_), .second, .val (.int kk), .val (.int jj), .val (.long x0), .second, .val (.long x0), .second, .val (.long z0), .second, .val (.long y0), .second, .unset, .unset, .unset, .unset, .unset, .unset, .unset, .unset, .unset, .unset, .unset, .unset, .unset, .unset, .unset, .unset, .unset, .unset]) X0 hx (hb hby at_76) rfl rfl ?_
          refine go_lload (q := 80) X0 hx (hb hby at_78) rfl rfl ?_
          refine go_lstore (q := 82) (l' := #[.val (.long c_), .second, .val (.long d_), .second, .val (.long t_), .second, .val (.int kk), .val (.int jj), .val (.long x0), .second, .val (.long y0), .second, .val (.long z0), .second, .val (.long y0), .second, .unset, .unset, .unset, .unset, .unset, .unset, .unset, .unset, .unset, .unset, .unset, .unset, .unset, .unset, .unset, .unset, .unset, .unset]) X0 hx (hb hby at_80) rfl rfl ?_
          exact J x0 y0 z0 _ _ (by decide) (by omega) (by omega) (by omega)
      · rw [Int64.lt_iff_toInt_lt] at hc47
        refine go_lload (q := 52) X0 hx (hb hby at_50) rfl rfl ?_
        refine go_lstore (q := 54) (l' := #[.val (.long c_), .second, .val (.long d_), .second, .val (.long t_), .second, .val (.int kk), .val (.int jj), .val (.long y0), .second, .val (.long x0), .second, .val (.long z0), .second, .val (.long x0), .second, .unset, .unset, .unset, .unset, .unset, .unset, .unset, .unset, .unset, .unset, .unset, .unset, .unset, .unset, .unset, .unset, .unset, .unset]) X0 hx (hb hby at_52) rfl rfl ?_
        refine go_lload (q := 56) X0 hx (hb hby at_54) rfl rfl ?_
        refine go_lstore (q := 58) (l' := #[.val (.long c_), .second, .val (.long d_), .second, .val (.long t_), .second, .val (.int kk), .val (.int jj), .val (.long y0), .second, .val (.long z0), .second, .val (.long z0), .second, .val (.long x0), .second, .unset, .unset, .unset, .unset, .unset, .unset, .unset, .unset, .unset, .unset, .unset, .unset, .unset, .unset, .unset, .unset, .unset, .unset]) X0 hx (hb hby at_56) rfl rfl ?_
        refine go_lload (q := 60) X0 hx (hb hby at_58) rfl rfl ?_
        refine go_lstore (q := 62) (l' := #[.val (.long c_), .second, .val (.long d_), .second, .val (.long t_), .second, .val (.int kk), .val (.int jj), .val (.long y0), .second, .val (.long z0), .second, .val (.long x0), .second, .val (.long x0), .second, .unset, .unset, .unset, .unset, .unset, .unset, .unset, .unset, .unset, .unset, .unset, .unset, .unset, .unset, .unset, .unset, .unset, .unset]) X0 hx (hb hby at_60) rfl rfl ?_
        refine go_lload (q := 64) X0 hx (hb hby at_62) rfl rfl ?_
        refine go_lload (q := 66) X0 hx (hb hby at_64) rfl rfl ?_
        refine go_lcmp (q := 67) X0 hx (hb hby at_66) rfl ?_
        refine go_lif_le (q := 70) (q' := 82) X0 hx (hb hby at_67) rfl (by decide) rfl (fun hc67 => ?_) (fun hc67 => ?_)
        · rw [Int64.lt_iff_toInt_lt] at hc67
          exact J y0 z0 x0 _ _ (by decide) (by omega) (by omega) (by omega)
        · rw [Int64.lt_iff_toInt_lt] at hc67
          refine go_lload (q := 72) X0 hx (hb hby at_70) rfl rfl ?_
          refine go_lstore (q := 74) (l' := #[.val (.long c_), .second, .val (.long d_), .second, .val (.long t_), .second, .val (.int kk), .val (.int jj), .val (.long y0), .second, .val (.long z0), .second, .val (.long x0), .second, .val (.long y0), .second, .unset, .unset, .unset, .unset, .unset, .unset, .unset, .unset, .unset, .unset, .unset, .unset, .unset, .unset, .unset, .unset, .unset, .unset]) X0 hx (hb hby at_72) rfl rfl ?_
          refine go_lload (q := 76) X0 hx (hb hby at_74) rfl rfl ?_
          refine go_lstore (q := 78) (l' := #[.val (.long c_), .second, .val (.long d_), .second, .val (.long t_), .second, .val (.int kk), .val (.int jj), .val (.long z0), .second, .val (.long z0), .second, .val (.long x0), .second, .val (.long y0), .second, .unset, .unset, .unset, .unset, .unset, .unset, .unset, .unset, .unset, .unset, .unset, .unset, .unset, .unset, .unset, .unset, .unset, .unset]) X0 hx (hb hby at_76) rfl rfl ?_
          refine go_lload (q := 80) X0 hx (hb hby at_78) rfl rfl ?_
          refine go_lstore (q := 82) (l' := #[.val (.long c_), .second, .val (.long d_), .second, .val (.long t_), .second, .val (.int kk), .val (.int jj), .val (.long z0), .second, .val (.long y0), .second, .val (.long x0), .second, .val (.long y0), .second, .unset, .unset, .unset, .unset, .unset, .unset, .unset, .unset, .unset, .unset, .unset, .unset, .unset, .unset, .unset, .unset, .unset, .unset]) X0 hx (hb hby at_80) rfl rfl ?_
          exact J z0 y0 x0 _ _ (by decide) (by omega) (by omega) (by omega)
  intro x_ y_ z_ q14 q15 _ hxx hxy hyz
  refine go_lload (q := 84) X0 hx (hb hby at_82) rfl rfl ?_
  refine go_lload (q := 86) X0 hx (hb hby at_84) rfl rfl ?_
  refine go_callS (q := 89) (W := 0) X0 hx hZ hown e0 (hw _ (List.mem_of_getElem? (i := 1) rfl)) (hw _ (List.mem_of_getElem? (i := 2) rfl)) (hw _ (List.mem_of_getElem? (i := 3) rfl)) (hw _ (List.mem_of_getElem? (i := 4) rfl)) (by decide) [(.long x_), (.long z_)] [] (rm1 l Z a0 hw [] x_ z_ h0 (own_nn hxx (by omega))) (by rw [hml]; rfl) rfl (lenOf pd_0 rfl) (Nat.le_of_eq rfl) (by decide) (by decide) (hb hby at_86) rfl (by decide) (by decide) ?_
  rintro T1 L1 v1 X1 ⟨Np1, rfl, e1⟩
  have N1 := Fr.app N0 (Np1 _)
  show Go p e below s (fun v h L => v = some (.int (1 : Int32)) ∧ Fr h0.size L) room_1.cells room_1.slots T1 (mkF m 89 #[.val (.long c_), .second, .val (.long d_), .second, .val (.long t_), .second, .val (.int kk), .val (.int jj), .val (.long x_), .second, .val (.long y_), .second, .val (.long z_), .second, q14, q15, .unset, .unset, .unset, .unset, .unset, .unset, .unset, .unset, .unset, .unset, .unset, .unset, .unset, .unset, .unset, .unset, .unset, .unset] [(.double (shr x_ z_))])
  suffices Hs1 : ∀ s1 : UInt64, s1 = (shr x_ z_) → Go p e below s (fun v h L => v = some (.int (1 : Int32)) ∧ Fr h0.size L) room_1.cells room_1.slots T1 (mkF m 89 #[.val (.long c_), .second, .val (.long d_), .second, .val (.long t_), .second, .val (.int kk), .val (.int jj), .val (.long x_), .second, .val (.long y_), .second, .val (.long z_), .second, q14, q15, .unset, .unset, .unset, .unset, .unset, .unset, .unset, .unset, .unset, .unset, .unset, .unset, .unset, .unset, .unset, .unset, .unset, .unset] [(.double s1)]) from Hs1 _ rfl
  intro s1 es1
  refine go_dstore (q := 91) (l' := #[.val (.long c_), .second, .val (.long d_), .second, .val (.long t_), .second, .val (.int kk), .val (.int jj), .val (.long x_), .second, .val (.long y_), .second, .val (.long z_), .second, q14, q15, .val (.double s1), .second, .unset, .unset, .unset, .unset, .unset, .unset, .unset, .unset, .unset, .unset, .unset, .unset, .unset, .unset, .unset, .unset]) X1 hx (hb hby at_89) rfl rfl ?_
  refine go_lload (q := 93) X1 hx (hb hby at_91) rfl rfl ?_
  refine go_lload (q := 95) X1 hx (hb hby at_93) rfl rfl ?_
  refine go_callS (q := 98) (W := 0) X1 hx hZ hown e1 (hw _ (List.mem_of_getElem? (i := 1) rfl)) (hw _ (List.mem_of_getElem? (i := 2) rfl)) (hw _ (List.mem_of_getElem? (i := 3) rfl)) (hw _ (List.mem_of_getElem? (i := 4) rfl)) (by decide) [(.long y_), (.long z_)] [] (rm1 l Z a0 hw [] y_ z_ h0 (own_nn (by omega) hyz)) (by rw [hml]; rfl) rfl (lenOf pd_0 rfl) (Nat.le_of_eq rfl) (by decide) (by decide) (hb hby at_95) rfl (by decide) (by decide) ?_
  rintro T2 L2 v2 X2 ⟨Np2, rfl, e2⟩
  have N2 := Fr.app N1 (Np2 _)
  show Go p e below s (fun v h L => v = some (.int (1 : Int32)) ∧ Fr h0.size L) room_1.cells room_1.slots T2 (mkF m 98 #[.val (.long c_), .second, .val (.long d_), .second, .val (.long t_), .second, .val (.int kk), .val (.int jj), .val (.long x_), .second, .val (.long y_), .second, .val (.long z_), .second, q14, q15, .val (.double s1), .second, .unset, .unset, .unset, .unset, .unset, .unset, .unset, .unset, .unset, .unset, .unset, .unset, .unset, .unset, .unset, .unset] [(.double (shr y_ z_))])
  suffices Hs2 : ∀ s2 : UInt64, s2 = (shr y_ z_) → Go p e below s (fun v h L => v = some (.int (1 : Int32)) ∧ Fr h0.size L) room_1.cells room_1.slots T2 (mkF m 98 #[.val (.long c_), .second, .val (.long d_), .second, .val (.long t_), .second, .val (.int kk), .val (.int jj), .val (.long x_), .second, .val (.long y_), .second, .val (.long z_), .second, q14, q15, .val (.double s1), .second, .unset, .unset, .unset, .unset, .unset, .unset, .unset, .unset, .unset, .unset, .unset, .unset, .unset, .unset, .unset, .unset] [(.double s2)]) from Hs2 _ rfl
  intro s2 es2
  refine go_dstore (q := 100) (l' := #[.val (.long c_), .second, .val (.long d_), .second, .val (.long t_), .second, .val (.int kk), .val (.int jj), .val (.long x_), .second, .val (.long y_), .second, .val (.long z_), .second, q14, q15, .val (.double s1), .second, .val (.double s2), .second, .unset, .unset, .unset, .unset, .unset, .unset, .unset, .unset, .unset, .unset, .unset, .unset, .unset, .unset]) X2 hx (hb hby at_98) rfl rfl ?_
  refine go_dconst0 (q := 101) (v := (0 : UInt64)) X2 hx (hb hby at_100) rfl rfl ?_
  refine go_dload (q := 103) X2 hx (hb hby at_101) rfl rfl ?_
  refine go_dcmp (q := 104) X2 hx (hb hby at_103) rfl rfl ?_
  suffices J2 : Go p e below s (fun v h L => v = some (.int (1 : Int32)) ∧ Fr h0.size L) room_1.cells room_1.slots T2 (mkF m 195 #[.val (.long c_), .second, .val (.long d_), .second, .val (.long t_), .second, .val (.int kk), .val (.int jj), .val (.long x_), .second, .val (.long y_), .second, .val (.long z_), .second, q14, q15, .val (.double s1), .second, .val (.double s2), .second, .val (.int (1 : Int32)), .unset, .unset, .unset, .unset, .unset, .unset, .unset, .unset, .unset, .unset, .unset, .unset, .unset] []) by
    refine go_if_gt (q := 107) (q' := 126) X2 hx (hb hby at_104) rfl (by decide) rfl (fun hc104 => ?_) (fun hc104 => ?_)
    · exact absurd hc104 (by rw [es1]; exact own_ge0 hxx (by omega))
    · refine go_dload (q := 109) X2 hx (hb hby at_107) rfl rfl ?_
      refine go_dload (q := 111) X2 hx (hb hby at_109) rfl rfl ?_
      refine go_dcmp (q := 112) X2 hx (hb hby at_111) rfl rfl ?_
      refine go_if_gt (q := 115) (q' := 126) X2 hx (hb hby at_112) rfl (by decide) rfl (fun hc112 => ?_) (fun hc112 => ?_)
      · exact absurd hc112 (by rw [es1, es2]; exact own_mono hxx hxy hyz)
      · refine go_dload (q := 117) X2 hx (hb hby at_115) rfl rfl ?_
        refine go_dconst1 (q := 118) (v := (4607182418800017408 : UInt64)) X2 hx (hb hby at_117) rfl rfl ?_
        refine go_dcmp (q := 119) X2 hx (hb hby at_118) rfl rfl ?_
        refine go_if_gt (q := 122) (q' := 126) X2 hx (hb hby at_119) rfl (by decide) rfl (fun hc119 => ?_) (fun hc119 => ?_)
        · exact absurd hc119 (by rw [es2]; exact own_le1 (by omega) hyz)
        · refine go_iconst (q := 123) (v := (1 : Int32)) X2 hx (hb hby at_122) rfl rfl ?_
          refine go_goto (q := 127) X2 hx (hb hby at_123) (by decide) rfl ?_
          refine go_istore (q := 129) (l' := #[.val (.long c_), .second, .val (.long d_), .second, .val (.long t_), .second, .val (.int kk), .val (.int jj), .val (.long x_), .second, .val (.long y_), .second, .val (.long z_), .second, q14, q15, .val (.double s1), .second, .val (.double s2), .second, .val (.int (1 : Int32)), .unset, .unset, .unset, .unset, .unset, .unset, .unset, .unset, .unset, .unset, .unset, .unset, .unset]) X2 hx (hb hby at_127) rfl rfl ?_
          refine go_iload (q := 131) X2 hx (hb hby at_129) rfl rfl ?_
          refine go_if_eq (q := 134) (q' := 192) X2 hx (hb hby at_131) rfl (by decide) rfl (fun hc131 => ?_) (fun hc131 => ?_)
          · exact absurd hc131 (by decide)
          · refine go_dload (q := 136) X2 hx (hb hby at_134) rfl rfl ?_
            refine go_dconst0 (q := 137) (v := (0 : UInt64)) X2 hx (hb hby at_136) rfl rfl ?_
            refine go_dcmp (q := 138) X2 hx (hb hby at_137) rfl rfl ?_
            refine go_if_ne (q := 141) (q' := 145) X2 hx (hb hby at_138) rfl (by decide) rfl (fun hc138 => ?_) (fun hc138 => ?_)
            · refine go_iconst (q := 146) (v := (0 : Int32)) X2 hx (hb hby at_145) rfl rfl ?_
              refine go_lload (q := 148) X2 hx (hb hby at_146) rfl rfl ?_
              refine go_lconst (q := 149) (v := (0 : Int64)) X2 hx (hb hby at_148) rfl rfl ?_
              refine go_lcmp (q := 150) X2 hx (hb hby at_149) rfl ?_
              refine go_lif_ne (q := 153) (q' := 157) X2 hx (hb hby at_150) rfl (by decide) rfl (fun hc150 => ?_) (fun hc150 => ?_)
              · refine go_iconst (q := 158) (v := (0 : Int32)) X2 hx (hb hby at_157) rfl rfl ?_
                refine go_icmp_ne (q := 161) (q' := 192) X2 hx (hb hby at_158) rfl (by decide) rfl (fun hc158 => ?_) (fun hc158 => ?_)
                · exact absurd rfl hc158
                · refine go_dload (q := 163) X2 hx (hb hby at_161) rfl rfl ?_
                  refine go_dconst0 (q := 164) (v := (0 : UInt64)) X2 hx (hb hby at_163) rfl rfl ?_
                  refine go_dcmp (q := 165) X2 hx (hb hby at_164) rfl rfl ?_
                  refine go_if_ne (q := 168) (q' := 172) X2 hx (hb hby at_165) rfl (by decide) rfl (fun hc165 => ?_) (fun hc165 => ?_)
                  · refine go_iconst (q := 173) (v := (0 : Int32)) X2 hx (hb hby at_172) rfl rfl ?_
                    refine go_lload (q := 175) X2 hx (hb hby at_173) rfl rfl ?_
                    refine go_lconst (q := 176) (v := (0 : Int64)) X2 hx (hb hby at_175) rfl rfl ?_
                    refine go_lcmp (q := 177) X2 hx (hb hby at_176) rfl ?_
                    refine go_lif_ne (q := 180) (q' := 184) X2 hx (hb hby at_177) rfl (by decide) rfl (fun hc177 => ?_) (fun hc177 => ?_)
                    · refine go_iconst (q := 185) (v := (0 : Int32)) X2 hx (hb hby at_184) rfl rfl ?_
                      refine go_icmp_ne (q := 188) (q' := 192) X2 hx (hb hby at_185) rfl (by decide) rfl (fun hc185 => ?_) (fun hc185 => ?_)
                      · exact absurd rfl hc185
                      · refine go_iconst (q := 189) (v := (1 : Int32)) X2 hx (hb hby at_188) rfl rfl ?_
                        refine go_goto (q := 193) X2 hx (hb hby at_189) (by decide) rfl ?_
                        refine go_istore (q := 195) (l' := #[.val (.long c_), .second, .val (.long d_), .second, .val (.long t_), .second, .val (.int kk), .val (.int jj), .val (.long x_), .second, .val (.long y_), .second, .val (.long z_), .second, q14, q15, .val (.double s1), .second, .val (.double s2), .second, .val (.int (1 : Int32)), .unset, .unset, .unset, .unset, .unset, .unset, .unset, .unset, .unset, .unset, .unset, .unset, .unset]) X2 hx (hb hby at_193) rfl rfl ?_
                        exact J2
                    · refine go_iconst (q := 181) (v := (1 : Int32)) X2 hx (hb hby at_180) rfl rfl ?_
                      refine go_goto (q := 185) X2 hx (hb hby at_181) (by decide) rfl ?_
                      exact absurd (es2.symm ▸ (own_zero (by omega : 0 ≤ y_.toInt) hyz).mpr hc177) hc165
                  · refine go_iconst (q := 169) (v := (1 : Int32)) X2 hx (hb hby at_168) rfl rfl ?_
                    refine go_goto (q := 173) X2 hx (hb hby at_169) (by decide) rfl ?_
                    refine go_lload (q := 175) X2 hx (hb hby at_173) rfl rfl ?_
                    refine go_lconst (q := 176) (v := (0 : Int64)) X2 hx (hb hby at_175) rfl rfl ?_
                    refine go_lcmp (q := 177) X2 hx (hb hby at_176) rfl ?_
                    refine go_lif_ne (q := 180) (q' := 184) X2 hx (hb hby at_177) rfl (by decide) rfl (fun hc177 => ?_) (fun hc177 => ?_)
                    · refine go_iconst (q := 185) (v := (0 : Int32)) X2 hx (hb hby at_184) rfl rfl ?_
                      exact absurd ((own_zero (by omega : 0 ≤ y_.toInt) hyz).mp (es2 ▸ hc165)) hc177
                    · refine go_iconst (q := 181) (v := (1 : Int32)) X2 hx (hb hby at_180) rfl rfl ?_
                      refine go_goto (q := 185) X2 hx (hb hby at_181) (by decide) rfl ?_
                      refine go_icmp_ne (q := 188) (q' := 192) X2 hx (hb hby at_185) rfl (by decide) rfl (fun hc185 => ?_) (fun hc185 => ?_)
                      · exact absurd rfl hc185
                      · refine go_iconst (q := 189) (v := (1 : Int32)) X2 hx (hb hby at_188) rfl rfl ?_
                        refine go_goto (q := 193) X2 hx (hb hby at_189) (by decide) rfl ?_
                        refine go_istore (q := 195) (l' := #[.val (.long c_), .second, .val (.long d_), .second, .val (.long t_), .second, .val (.int kk), .val (.int jj), .val (.long x_), .second, .val (.long y_), .second, .val (.long z_), .second, q14, q15, .val (.double s1), .second, .val (.double s2), .second, .val (.int (1 : Int32)), .unset, .unset, .unset, .unset, .unset, .unset, .unset, .unset, .unset, .unset, .unset, .unset, .unset]) X2 hx (hb hby at_193) rfl rfl ?_
                        exact J2
              · refine go_iconst (q := 154) (v := (1 : Int32)) X2 hx (hb hby at_153) rfl rfl ?_
                refine go_goto (q := 158) X2 hx (hb hby at_154) (by decide) rfl ?_
                exact absurd (es1.symm ▸ (own_zero hxx (by omega : x_.toInt ≤ z_.toInt)).mpr hc150) hc138
            · refine go_iconst (q := 142) (v := (1 : Int32)) X2 hx (hb hby at_141) rfl rfl ?_
              refine go_goto (q := 146) X2 hx (hb hby at_142) (by decide) rfl ?_
              refine go_lload (q := 148) X2 hx (hb hby at_146) rfl rfl ?_
              refine go_lconst (q := 149) (v := (0 : Int64)) X2 hx (hb hby at_148) rfl rfl ?_
              refine go_lcmp (q := 150) X2 hx (hb hby at_149) rfl ?_
              refine go_lif_ne (q := 153) (q' := 157) X2 hx (hb hby at_150) rfl (by decide) rfl (fun hc150 => ?_) (fun hc150 => ?_)
              · refine go_iconst (q := 158) (v := (0 : Int32)) X2 hx (hb hby at_157) rfl rfl ?_
                exact absurd ((own_zero hxx (by omega : x_.toInt ≤ z_.toInt)).mp (es1 ▸ hc138)) hc150
              · refine go_iconst (q := 154) (v := (1 : Int32)) X2 hx (hb hby at_153) rfl rfl ?_
                refine go_goto (q := 158) X2 hx (hb hby at_154) (by decide) rfl ?_
                refine go_icmp_ne (q := 161) (q' := 192) X2 hx (hb hby at_158) rfl (by decide) rfl (fun hc158 => ?_) (fun hc158 => ?_)
                · exact absurd rfl hc158
                · refine go_dload (q := 163) X2 hx (hb hby at_161) rfl rfl ?_
                  refine go_dconst0 (q := 164) (v := (0 : UInt64)) X2 hx (hb hby at_163) rfl rfl ?_
                  refine go_dcmp (q := 165) X2 hx (hb hby at_164) rfl rfl ?_
                  refine go_if_ne (q := 168) (q' := 172) X2 hx (hb hby at_165) rfl (by decide) rfl (fun hc165 => ?_) (fun hc165 => ?_)
                  · refine go_iconst (q := 173) (v := (0 : Int32)) X2 hx (hb hby at_172) rfl rfl ?_
                    refine go_lload (q := 175) X2 hx (hb hby at_173) rfl rfl ?_
                    refine go_lconst (q := 176) (v := (0 : Int64)) X2 hx (hb hby at_175) rfl rfl ?_
                    refine go_lcmp (q := 177) X2 hx (hb hby at_176) rfl ?_
                    refine go_lif_ne (q := 180) (q' := 184) X2 hx (hb hby at_177) rfl (by decide) rfl (fun hc177 => ?_) (fun hc177 => ?_)
                    · refine go_iconst (q := 185) (v := (0 : Int32)) X2 hx (hb hby at_184) rfl rfl ?_
                      refine go_icmp_ne (q := 188) (q' := 192) X2 hx (hb hby at_185) rfl (by decide) rfl (fun hc185 => ?_) (fun hc185 => ?_)
                      · exact absurd rfl hc185
                      · refine go_iconst (q := 189) (v := (1 : Int32)) X2 hx (hb hby at_188) rfl rfl ?_
                        refine go_goto (q := 193) X2 hx (hb hby at_189) (by decide) rfl ?_
                        refine go_istore (q := 195) (l' := #[.val (.long c_), .second, .val (.long d_), .second, .val (.long t_), .second, .val (.int kk), .val (.int jj), .val (.long x_), .second, .val (.long y_), .second, .val (.long z_), .second, q14, q15, .val (.double s1), .second, .val (.double s2), .second, .val (.int (1 : Int32)), .unset, .unset, .unset, .unset, .unset, .unset, .unset, .unset, .unset, .unset, .unset, .unset, .unset]) X2 hx (hb hby at_193) rfl rfl ?_
                        exact J2
                    · refine go_iconst (q := 181) (v := (1 : Int32)) X2 hx (hb hby at_180) rfl rfl ?_
                      refine go_goto (q := 185) X2 hx (hb hby at_181) (by decide) rfl ?_
                      exact absurd (es2.symm ▸ (own_zero (by omega : 0 ≤ y_.toInt) hyz).mpr hc177) hc165
                  · refine go_iconst (q := 169) (v := (1 : Int32)) X2 hx (hb hby at_168) rfl rfl ?_
                    refine go_goto (q := 173) X2 hx (hb hby at_169) (by decide) rfl ?_
                    refine go_lload (q := 175) X2 hx (hb hby at_173) rfl rfl ?_
                    refine go_lconst (q := 176) (v := (0 : Int64)) X2 hx (hb hby at_175) rfl rfl ?_
                    refine go_lcmp (q := 177) X2 hx (hb hby at_176) rfl ?_
                    refine go_lif_ne (q := 180) (q' := 184) X2 hx (hb hby at_177) rfl (by decide) rfl (fun hc177 => ?_) (fun hc177 => ?_)
                    · refine go_iconst (q := 185) (v := (0 : Int32)) X2 hx (hb hby at_184) rfl rfl ?_
                      exact absurd ((own_zero (by omega : 0 ≤ y_.toInt) hyz).mp (es2 ▸ hc165)) hc177
                    · refine go_iconst (q := 181) (v := (1 : Int32)) X2 hx (hb hby at_180) rfl rfl ?_
                      refine go_goto (q := 185) X2 hx (hb hby at_181) (by decide) rfl ?_
                      refine go_icmp_ne (q := 188) (q' := 192) X2 hx (hb hby at_185) rfl (by decide) rfl (fun hc185 => ?_) (fun hc185 => ?_)
                      · exact absurd rfl hc185
                      · refine go_iconst (q := 189) (v := (1 : Int32)) X2 hx (hb hby at_188) rfl rfl ?_
                        refine go_goto (q := 193) X2 hx (hb hby at_189) (by decide) rfl ?_
                        refine go_istore (q := 195) (l' := #[.val (.long c_), .second, .val (.long d_), .second, .val (.long t_), .second, .val (.int kk), .val (.int jj), .val (.long x_), .second, .val (.long y_), .second, .val (.long z_), .second, q14, q15, .val (.double s1), .second, .val (.double s2), .second, .val (.int (1 : Int32)), .unset, .unset, .unset, .unset, .unset, .unset, .unset, .unset, .unset, .unset, .unset, .unset, .unset]) X2 hx (hb hby at_193) rfl rfl ?_
                        exact J2
  refine go_lload (q := 197) X2 hx (hb hby at_195) rfl rfl ?_
  refine go_lload (q := 199) X2 hx (hb hby at_197) rfl rfl ?_
  refine go_lcmp (q := 200) X2 hx (hb hby at_199) rfl ?_
  suffices J3 : Go p e below s (fun v h L => v = some (.int (1 : Int32)) ∧ Fr h0.size L) room_1.cells room_1.slots T2 (mkF m 229 #[.val (.long c_), .second, .val (.long d_), .second, .val (.long t_), .second, .val (.int kk), .val (.int jj), .val (.long x_), .second, .val (.long y_), .second, .val (.long z_), .second, q14, q15, .val (.double s1), .second, .val (.double s2), .second, .val (.int (1 : Int32)), .unset, .unset, .unset, .unset, .unset, .unset, .unset, .unset, .unset, .unset, .unset, .unset, .unset] []) by
    refine go_lif_ne (q := 203) (q' := 229) X2 hx (hb hby at_200) rfl (by decide) rfl (fun hc200 => ?_) (fun hc200 => ?_)
    · exact J3
    · refine go_lload (q := 205) X2 hx (hb hby at_203) rfl rfl ?_
      refine go_lconst (q := 206) (v := (0 : Int64)) X2 hx (hb hby at_205) rfl rfl ?_
      refine go_lcmp (q := 207) X2 hx (hb hby at_206) rfl ?_
      refine go_lif_le (q := 210) (q' := 229) X2 hx (hb hby at_207) rfl (by decide) rfl (fun hc207 => ?_) (fun hc207 => ?_)
      · exact J3
      · refine go_iload (q := 212) X2 hx (hb hby at_210) rfl rfl ?_
        refine go_if_eq (q := 215) (q' := 226) X2 hx (hb hby at_212) rfl (by decide) rfl (fun hc212 => ?_) (fun hc212 => ?_)
        · exact absurd hc212 (by decide)
        · refine go_dload (q := 217) X2 hx (hb hby at_215) rfl rfl ?_
          refine go_dconst1 (q := 218) (v := (4607182418800017408 : UInt64)) X2 hx (hb hby at_217) rfl rfl ?_
          refine go_dcmp (q := 219) X2 hx (hb hby at_218) rfl rfl ?_
          refine go_if_ne (q := 222) (q' := 226) X2 hx (hb hby at_219) rfl (by decide) rfl (fun hc219 => ?_) (fun hc219 => ?_)
          · exact absurd (by rw [es2, hc200]; exact own_one (by rw [← hc200]; rw [Int64.lt_iff_toInt_lt] at hc207; exact hc207)) hc219
          · refine go_iconst (q := 223) (v := (1 : Int32)) X2 hx (hb hby at_222) rfl rfl ?_
            refine go_goto (q := 227) X2 hx (hb hby at_223) (by decide) rfl ?_
            refine go_istore (q := 229) (l' := #[.val (.long c_), .second, .val (.long d_), .second, .val (.long t_), .second, .val (.int kk), .val (.int jj), .val (.long x_), .second, .val (.long y_), .second, .val (.long z_), .second, q14, q15, .val (.double s1), .second, .val (.double s2), .second, .val (.int (1 : Int32)), .unset, .unset, .unset, .unset, .unset, .unset, .unset, .unset, .unset, .unset, .unset, .unset, .unset]) X2 hx (hb hby at_227) rfl rfl ?_
            exact J3
  refine go_iload (q := 231) X2 hx (hb hby at_229) rfl rfl ?_
  refine go_if_eq (q := 234) (q' := 248) X2 hx (hb hby at_231) rfl (by decide) rfl (fun hc231 => ?_) (fun hc231 => ?_)
  · exact absurd hc231 (by decide)
  · refine go_lconst (q := 235) (v := (0 : Int64)) X2 hx (hb hby at_234) rfl rfl ?_
    refine go_lconst (q := 236) (v := (0 : Int64)) X2 hx (hb hby at_235) rfl rfl ?_
    refine go_callS (q := 239) (W := 0) X2 hx hZ hown e2 (hw _ (List.mem_of_getElem? (i := 1) rfl)) (hw _ (List.mem_of_getElem? (i := 2) rfl)) (hw _ (List.mem_of_getElem? (i := 3) rfl)) (hw _ (List.mem_of_getElem? (i := 4) rfl)) (by decide) [(.long (0 : Int64)), (.long (0 : Int64))] [] (rm1 l Z a0 hw [] (0 : Int64) (0 : Int64) h0 (fun q => absurd q (by decide))) (by rw [hml]; rfl) rfl (lenOf pd_0 rfl) (Nat.le_of_eq rfl) (by decide) (by decide) (hb hby at_236) rfl (by decide) (by decide) ?_
    rintro T3 L3 v3 X3 ⟨Np3, rfl, e3⟩
    have N3 := Fr.app N2 (Np3 _)
    show Go p e below s (fun v h L => v = some (.int (1 : Int32)) ∧ Fr h0.size L) room_1.cells room_1.slots T3 (mkF m 239 #[.val (.long c_), .second, .val (.long d_), .second, .val (.long t_), .second, .val (.int kk), .val (.int jj), .val (.long x_), .second, .val (.long y_), .second, .val (.long z_), .second, q14, q15, .val (.double s1), .second, .val (.double s2), .second, .val (.int (1 : Int32)), .unset, .unset, .unset, .unset, .unset, .unset, .unset, .unset, .unset, .unset, .unset, .unset, .unset] [(.double (shr (0 : Int64) (0 : Int64)))])
    refine go_dconst0 (q := 240) (v := (0 : UInt64)) X3 hx (hb hby at_239) rfl rfl ?_
    refine go_dcmp (q := 241) X3 hx (hb hby at_240) rfl rfl ?_
    refine go_if_ne (q := 244) (q' := 248) X3 hx (hb hby at_241) rfl (by decide) rfl (fun hc241 => ?_) (fun hc241 => ?_)
    · exact absurd own_zz hc241
    · refine go_iconst (q := 245) (v := (1 : Int32)) X3 hx (hb hby at_244) rfl rfl ?_
      refine go_goto (q := 249) X3 hx (hb hby at_245) (by decide) rfl ?_
      refine go_istore (q := 251) (l' := #[.val (.long c_), .second, .val (.long d_), .second, .val (.long t_), .second, .val (.int kk), .val (.int jj), .val (.long x_), .second, .val (.long y_), .second, .val (.long z_), .second, q14, q15, .val (.double s1), .second, .val (.double s2), .second, .val (.int (1 : Int32)), .unset, .unset, .unset, .unset, .unset, .unset, .unset, .unset, .unset, .unset, .unset, .unset, .unset]) X3 hx (hb hby at_249) rfl rfl ?_
      refine go_iload (q := 253) X3 hx (hb hby at_251) rfl rfl ?_
      refine go_bipush (q := 255) (v := (15 : Int32)) X3 hx (hb hby at_253) rfl rfl ?_
      refine go_iand (q := 256) (v := (kk &&& (15 : Int32))) X3 hx (hb hby at_255) rfl rfl ?_
      refine go_iconst (q := 257) (v := (1 : Int32)) X3 hx (hb hby at_256) rfl rfl ?_
      refine go_iadd (q := 258) (v := ((kk &&& (15 : Int32)) + (1 : Int32))) X3 hx (hb hby at_257) rfl rfl ?_
      refine go_i2l (q := 259) (v := (((kk &&& (15 : Int32)) + (1 : Int32)).toInt64)) X3 hx (hb hby at_258) rfl rfl ?_
      refine go_lstore (q := 261) (l' := #[.val (.long c_), .second, .val (.long d_), .second, .val (.long t_), .second, .val (.int kk), .val (.int jj), .val (.long x_), .second, .val (.long y_), .second, .val (.long z_), .second, q14, q15, .val (.double s1), .second, .val (.double s2), .second, .val (.int (1 : Int32)), .val (.long (((kk &&& (15 : Int32)) + (1 : Int32)).toInt64)), .second, .unset, .unset, .unset, .unset, .unset, .unset, .unset, .unset, .unset, .unset, .unset]) X3 hx (hb hby at_259) rfl rfl ?_
      suffices Hm_ : ∀ m_ : Int64, m_ = (((kk &&& (15 : Int32)) + (1 : Int32)).toInt64) → Go p e below s (fun v h L => v = some (.int (1 : Int32)) ∧ Fr h0.size L) room_1.cells room_1.slots T3 (mkF m 261 #[.val (.long c_), .second, .val (.long d_), .second, .val (.long t_), .second, .val (.int kk), .val (.int jj), .val (.long x_), .second, .val (.long y_), .second, .val (.long z_), .second, q14, q15, .val (.double s1), .second, .val (.double s2), .second, .val (.int (1 : Int32)), .val (.long m_), .second, .unset, .unset, .unset, .unset, .unset, .unset, .unset, .unset, .unset, .unset, .unset] []) from Hm_ _ rfl
      intro m_ em_
      have hm : 1 ≤ m_.toInt ∧ m_.toInt ≤ 16 := by rw [em_]; exact own_m _
      refine go_lload (q := 263) X3 hx (hb hby at_261) rfl rfl ?_
      refine go_bipush (q := 265) (v := (14 : Int32)) X3 hx (hb hby at_263) rfl rfl ?_
      refine go_lushr (q := 266) (v := ((x_.toUInt64 >>> ((14 : Int32) &&& 0x3f).toInt64.toUInt64).toInt64)) X3 hx (hb hby at_265) rfl rfl ?_
      refine go_lstore (q := 268) (l' := #[.val (.long c_), .second, .val (.long d_), .second, .val (.long t_), .second, .val (.int kk), .val (.int jj), .val (.long x_), .second, .val (.long y_), .second, .val (.long z_), .second, q14, q15, .val (.double s1), .second, .val (.double s2), .second, .val (.int (1 : Int32)), .val (.long m_), .second, .val (.long ((x_.toUInt64 >>> ((14 : Int32) &&& 0x3f).toInt64.toUInt64).toInt64)), .second, .unset, .unset, .unset, .unset, .unset, .unset, .unset, .unset, .unset]) X3 hx (hb hby at_266) rfl rfl ?_
      suffices Hls_ : ∀ ls_ : Int64, ls_ = ((x_.toUInt64 >>> ((14 : Int32) &&& 0x3f).toInt64.toUInt64).toInt64) → Go p e below s (fun v h L => v = some (.int (1 : Int32)) ∧ Fr h0.size L) room_1.cells room_1.slots T3 (mkF m 268 #[.val (.long c_), .second, .val (.long d_), .second, .val (.long t_), .second, .val (.int kk), .val (.int jj), .val (.long x_), .second, .val (.long y_), .second, .val (.long z_), .second, q14, q15, .val (.double s1), .second, .val (.double s2), .second, .val (.int (1 : Int32)), .val (.long m_), .second, .val (.long ls_), .second, .unset, .unset, .unset, .unset, .unset, .unset, .unset, .unset, .unset] []) from Hls_ _ rfl
      intro ls_ els_
      refine go_lload (q := 270) X3 hx (hb hby at_268) rfl rfl ?_
      refine go_bipush (q := 272) (v := (14 : Int32)) X3 hx (hb hby at_270) rfl rfl ?_
      refine go_lushr (q := 273) (v := ((z_.toUInt64 >>> ((14 : Int32) &&& 0x3f).toInt64.toUInt64).toInt64)) X3 hx (hb hby at_272) rfl rfl ?_
      refine go_lstore (q := 275) (l' := #[.val (.long c_), .second, .val (.long d_), .second, .val (.long t_), .second, .val (.int kk), .val (.int jj), .val (.long x_), .second, .val (.long y_), .second, .val (.long z_), .second, q14, q15, .val (.double s1), .second, .val (.double s2), .second, .val (.int (1 : Int32)), .val (.long m_), .second, .val (.long ls_), .second, .val (.long ((z_.toUInt64 >>> ((14 : Int32) &&& 0x3f).toInt64.toUInt64).toInt64)), .second, .unset, .unset, .unset, .unset, .unset, .unset, .unset]) X3 hx (hb hby at_273) rfl rfl ?_
      suffices Hts_ : ∀ ts_ : Int64, ts_ = ((z_.toUInt64 >>> ((14 : Int32) &&& 0x3f).toInt64.toUInt64).toInt64) → Go p e below s (fun v h L => v = some (.int (1 : Int32)) ∧ Fr h0.size L) room_1.cells room_1.slots T3 (mkF m 275 #[.val (.long c_), .second, .val (.long d_), .second, .val (.long t_), .second, .val (.int kk), .val (.int jj), .val (.long x_), .second, .val (.long y_), .second, .val (.long z_), .second, q14, q15, .val (.double s1), .second, .val (.double s2), .second, .val (.int (1 : Int32)), .val (.long m_), .second, .val (.long ls_), .second, .val (.long ts_), .second, .unset, .unset, .unset, .unset, .unset, .unset, .unset] []) from Hts_ _ rfl
      intro ts_ ets_
      have hls : ls_.toInt = x_.toInt / 16384 := by rw [els_]; exact own_sh14 hxx
      have hts : ts_.toInt = z_.toInt / 16384 := by rw [ets_]; exact own_sh14 (by omega)
      have rz := rng64 z_
      have r1 : 0 ≤ ls_.toInt ∧ ls_.toInt ≤ ts_.toInt ∧ ts_.toInt ≤ 562949953421312 := by omega
      refine go_iload (q := 277) X3 hx (hb hby at_275) rfl rfl ?_
      refine go_if_eq (q := 280) (q' := 308) X3 hx (hb hby at_277) rfl (by decide) rfl (fun hc277 => ?_) (fun hc277 => ?_)
      · exact absurd hc277 (by decide)
      · refine go_lload (q := 282) X3 hx (hb hby at_280) rfl rfl ?_
        refine go_lload (q := 284) X3 hx (hb hby at_282) rfl rfl ?_
        refine go_callS (q := 287) (W := 0) X3 hx hZ hown e3 (hw _ (List.mem_of_getElem? (i := 1) rfl)) (hw _ (List.mem_of_getElem? (i := 2) rfl)) (hw _ (List.mem_of_getElem? (i := 3) rfl)) (hw _ (List.mem_of_getElem? (i := 4) rfl)) (by decide) [(.long ls_), (.long ts_)] [] (rm1 l Z a0 hw [] ls_ ts_ h0 (own_nn r1.1 r1.2.1)) (by rw [hml]; rfl) rfl (lenOf pd_0 rfl) (Nat.le_of_eq rfl) (by decide) (by decide) (hb hby at_284) rfl (by decide) (by decide) ?_
        rintro T4 L4 v4 X4 ⟨Np4, rfl, e4⟩
        have N4 := Fr.app N3 (Np4 _)
        show Go p e below s (fun v h L => v = some (.int (1 : Int32)) ∧ Fr h0.size L) room_1.cells room_1.slots T4 (mkF m 287 #[.val (.long c_), .second, .val (.long d_), .second, .val (.long t_), .second, .val (.int kk), .val (.int jj), .val (.long x_), .second, .val (.long y_), .second, .val (.long z_), .second, q14, q15, .val (.double s1), .second, .val (.double s2), .second, .val (.int (1 : Int32)), .val (.long m_), .second, .val (.long ls_), .second, .val (.long ts_), .second, .unset, .unset, .unset, .unset, .unset, .unset, .unset] [(.double (shr ls_ ts_))])
        suffices Hs3 : ∀ s3 : UInt64, s3 = (shr ls_ ts_) → Go p e below s (fun v h L => v = some (.int (1 : Int32)) ∧ Fr h0.size L) room_1.cells room_1.slots T4 (mkF m 287 #[.val (.long c_), .second, .val (.long d_), .second, .val (.long t_), .second, .val (.int kk), .val (.int jj), .val (.long x_), .second, .val (.long y_), .second, .val (.long z_), .second, q14, q15, .val (.double s1), .second, .val (.double s2), .second, .val (.int (1 : Int32)), .val (.long m_), .second, .val (.long ls_), .second, .val (.long ts_), .second, .unset, .unset, .unset, .unset, .unset, .unset, .unset] [(.double s3)]) from Hs3 _ rfl
        intro s3 es3
        refine go_lload (q := 289) X4 hx (hb hby at_287) rfl rfl ?_
        refine go_lload (q := 291) X4 hx (hb hby at_289) rfl rfl ?_
        refine go_lmul (q := 292) (v := (ls_ * m_)) X4 hx (hb hby at_291) rfl rfl ?_
        refine go_lload (q := 294) X4 hx (hb hby at_292) rfl rfl ?_
        refine go_lload (q := 296) X4 hx (hb hby at_294) rfl rfl ?_
        refine go_lmul (q := 297) (v := (ts_ * m_)) X4 hx (hb hby at_296) rfl rfl ?_
        have hlm := own_mulm r1.1 (by omega : ls_.toInt ≤ 562949953421312) hm
        have htm := own_mulm (by omega : 0 ≤ ts_.toInt) r1.2.2 hm
        refine go_callS (q := 300) (W := 2) X4 hx hZ hown e4 (hw _ (List.mem_of_getElem? (i := 1) rfl)) (hw _ (List.mem_of_getElem? (i := 2) rfl)) (hw _ (List.mem_of_getElem? (i := 3) rfl)) (hw _ (List.mem_of_getElem? (i := 4) rfl)) (by decide) [(.long (ls_ * m_)), (.long (ts_ * m_))] [(.double s3)] (rm1 l Z a0 hw [] (ls_ * m_) (ts_ * m_) h0 (own_nn (by rw [hlm]; exact Int.mul_nonneg r1.1 (by omega)) (by rw [hlm, htm]; exact Int.mul_le_mul_of_nonneg_right r1.2.1 (by omega)))) (by rw [hml]; rfl) rfl (lenOf pd_0 rfl) (Nat.le_of_eq rfl) (by decide) (by decide) (hb hby at_297) rfl (by decide) (by decide) ?_
        rintro T5 L5 v5 X5 ⟨Np5, rfl, e5⟩
        have N5 := Fr.app N4 (Np5 _)
        show Go p e below s (fun v h L => v = some (.int (1 : Int32)) ∧ Fr h0.size L) room_1.cells room_1.slots T5 (mkF m 300 #[.val (.long c_), .second, .val (.long d_), .second, .val (.long t_), .second, .val (.int kk), .val (.int jj), .val (.long x_), .second, .val (.long y_), .second, .val (.long z_), .second, q14, q15, .val (.double s1), .second, .val (.double s2), .second, .val (.int (1 : Int32)), .val (.long m_), .second, .val (.long ls_), .second, .val (.long ts_), .second, .unset, .unset, .unset, .unset, .unset, .unset, .unset] [(.double (shr (ls_ * m_) (ts_ * m_))), (.double s3)])
        suffices Hs4 : ∀ s4 : UInt64, s4 = (shr (ls_ * m_) (ts_ * m_)) → Go p e below s (fun v h L => v = some (.int (1 : Int32)) ∧ Fr h0.size L) room_1.cells room_1.slots T5 (mkF m 300 #[.val (.long c_), .second, .val (.long d_), .second, .val (.long t_), .second, .val (.int kk), .val (.int jj), .val (.long x_), .second, .val (.long y_), .second, .val (.long z_), .second, q14, q15, .val (.double s1), .second, .val (.double s2), .second, .val (.int (1 : Int32)), .val (.long m_), .second, .val (.long ls_), .second, .val (.long ts_), .second, .unset, .unset, .unset, .unset, .unset, .unset, .unset] [(.double s4), (.double s3)]) from Hs4 _ rfl
        intro s4 es4
        refine go_dcmp (q := 301) X5 hx (hb hby at_300) rfl rfl ?_
        refine go_if_ne (q := 304) (q' := 308) X5 hx (hb hby at_301) rfl (by decide) rfl (fun hc301 => ?_) (fun hc301 => ?_)
        · exact absurd (by rw [es3, es4]; exact own_scale r1.1 r1.2.1 r1.2.2 hm) hc301
        · refine go_iconst (q := 305) (v := (1 : Int32)) X5 hx (hb hby at_304) rfl rfl ?_
          refine go_goto (q := 309) X5 hx (hb hby at_305) (by decide) rfl ?_
          refine go_istore (q := 311) (l' := #[.val (.long c_), .second, .val (.long d_), .second, .val (.long t_), .second, .val (.int kk), .val (.int jj), .val (.long x_), .second, .val (.long y_), .second, .val (.long z_), .second, q14, q15, .val (.double s1), .second, .val (.double s2), .second, .val (.int (1 : Int32)), .val (.long m_), .second, .val (.long ls_), .second, .val (.long ts_), .second, .unset, .unset, .unset, .unset, .unset, .unset, .unset]) X5 hx (hb hby at_309) rfl rfl ?_
          refine go_iload (q := 313) X5 hx (hb hby at_311) rfl rfl ?_
          refine go_ldcI (q := 315) (v := (2147483647 : Int32)) X5 hx hZ hown (hw _ (List.mem_of_getElem? (i := 5) rfl)) (hb hby at_313) rfl ?_
          refine go_iand (q := 316) (v := (jj &&& (2147483647 : Int32))) X5 hx (hb hby at_315) rfl rfl ?_
          refine go_bipush (q := 318) (v := (63 : Int32)) X5 hx (hb hby at_316) rfl rfl ?_
          refine go_irem (q := 319) (v := ((jj &&& (2147483647 : Int32)) % (63 : Int32))) X5 hx (hb hby at_318) rfl (by decide) rfl ?_
          refine go_istore (q := 321) (l' := #[.val (.long c_), .second, .val (.long d_), .second, .val (.long t_), .second, .val (.int kk), .val (.int jj), .val (.long x_), .second, .val (.long y_), .second, .val (.long z_), .second, q14, q15, .val (.double s1), .second, .val (.double s2), .second, .val (.int (1 : Int32)), .val (.long m_), .second, .val (.long ls_), .second, .val (.long ts_), .second, .val (.int ((jj &&& (2147483647 : Int32)) % (63 : Int32))), .unset, .unset, .unset, .unset, .unset, .unset]) X5 hx (hb hby at_319) rfl rfl ?_
          suffices Hp_ : ∀ p_ : Int32, p_ = ((jj &&& (2147483647 : Int32)) % (63 : Int32)) → Go p e below s (fun v h L => v = some (.int (1 : Int32)) ∧ Fr h0.size L) room_1.cells room_1.slots T5 (mkF m 321 #[.val (.long c_), .second, .val (.long d_), .second, .val (.long t_), .second, .val (.int kk), .val (.int jj), .val (.long x_), .second, .val (.long y_), .second, .val (.long z_), .second, q14, q15, .val (.double s1), .second, .val (.double s2), .second, .val (.int (1 : Int32)), .val (.long m_), .second, .val (.long ls_), .second, .val (.long ts_), .second, .val (.int p_), .unset, .unset, .unset, .unset, .unset, .unset] []) from Hp_ _ rfl
          intro p_ ep_
          have hp : 0 ≤ p_.toInt ∧ p_.toInt ≤ 62 := by rw [ep_]; exact own_p _
          refine go_lconst (q := 322) (v := (1 : Int64)) X5 hx (hb hby at_321) rfl rfl ?_
          refine go_iload (q := 324) X5 hx (hb hby at_322) rfl rfl ?_
          refine go_lshl (q := 325) (v := ((1 : Int64) <<< (p_ &&& 0x3f).toInt64)) X5 hx (hb hby at_324) rfl rfl ?_
          refine go_lstore (q := 327) (l' := #[.val (.long c_), .second, .val (.long d_), .second, .val (.long t_), .second, .val (.int kk), .val (.int jj), .val (.long x_), .second, .val (.long y_), .second, .val (.long z_), .second, q14, q15, .val (.double s1), .second, .val (.double s2), .second, .val (.int (1 : Int32)), .val (.long m_), .second, .val (.long ls_), .second, .val (.long ts_), .second, .val (.int p_), .val (.long ((1 : Int64) <<< (p_ &&& 0x3f).toInt64)), .second, .unset, .unset, .unset, .unset]) X5 hx (hb hby at_325) rfl rfl ?_
          suffices Hpw : ∀ pw : Int64, pw = ((1 : Int64) <<< (p_ &&& 0x3f).toInt64) → Go p e below s (fun v h L => v = some (.int (1 : Int32)) ∧ Fr h0.size L) room_1.cells room_1.slots T5 (mkF m 327 #[.val (.long c_), .second, .val (.long d_), .second, .val (.long t_), .second, .val (.int kk), .val (.int jj), .val (.long x_), .second, .val (.long y_), .second, .val (.long z_), .second, q14, q15, .val (.double s1), .second, .val (.double s2), .second, .val (.int (1 : Int32)), .val (.long m_), .second, .val (.long ls_), .second, .val (.long ts_), .second, .val (.int p_), .val (.long pw), .second, .unset, .unset, .unset, .unset] []) from Hpw _ rfl
          intro pw epw
          have hpw : pw.toInt = 2 ^ p_.toInt.toNat := by rw [epw]; exact own_pw hp
          have hpw0 : 0 < pw.toInt ∧ pw.toInt ≤ 4611686018427387904 := by rw [hpw]; exact own_pwb hp.2
          refine go_lload (q := 329) X5 hx (hb hby at_327) rfl rfl ?_
          refine go_lload (q := 331) X5 hx (hb hby at_329) rfl rfl ?_
          refine go_lconst (q := 332) (v := (1 : Int64)) X5 hx (hb hby at_331) rfl rfl ?_
          refine go_ladd (q := 333) (v := (pw + (1 : Int64))) X5 hx (hb hby at_332) rfl rfl ?_
          refine go_lrem (q := 334) (v := (x_ % (pw + (1 : Int64)))) X5 hx (hb hby at_333) rfl (own_pw1 hpw0) rfl ?_
          refine go_lstore (q := 336) (l' := #[.val (.long c_), .second, .val (.long d_), .second, .val (.long t_), .second, .val (.int kk), .val (.int jj), .val (.long x_), .second, .val (.long y_), .second, .val (.long z_), .second, q14, q15, .val (.double s1), .second, .val (.double s2), .second, .val (.int (1 : Int32)), .val (.long m_), .second, .val (.long ls_), .second, .val (.long ts_), .second, .val (.int p_), .val (.long pw), .second, .val (.long (x_ % (pw + (1 : Int64)))), .second, .unset, .unset]) X5 hx (hb hby at_334) rfl rfl ?_
          suffices Hcp : ∀ cp : Int64, cp = (x_ % (pw + (1 : Int64))) → Go p e below s (fun v h L => v = some (.int (1 : Int32)) ∧ Fr h0.size L) room_1.cells room_1.slots T5 (mkF m 336 #[.val (.long c_), .second, .val (.long d_), .second, .val (.long t_), .second, .val (.int kk), .val (.int jj), .val (.long x_), .second, .val (.long y_), .second, .val (.long z_), .second, q14, q15, .val (.double s1), .second, .val (.double s2), .second, .val (.int (1 : Int32)), .val (.long m_), .second, .val (.long ls_), .second, .val (.long ts_), .second, .val (.int p_), .val (.long pw), .second, .val (.long cp), .second, .unset, .unset] []) from Hcp _ rfl
          intro cp ecp
          have hcp : 0 ≤ cp.toInt ∧ cp.toInt ≤ pw.toInt := by rw [ecp]; exact own_cp hxx hpw0
          refine go_lload (q := 338) X5 hx (hb hby at_336) rfl rfl ?_
          refine go_l2d (q := 339) X5 hx (hb hby at_338) rfl rfl ?_
          refine go_dconst1 (q := 340) (v := (4607182418800017408 : UInt64)) X5 hx (hb hby at_339) rfl rfl ?_
          refine go_lload (q := 342) X5 hx (hb hby at_340) rfl rfl ?_
          refine go_l2d (q := 343) X5 hx (hb hby at_342) rfl rfl ?_
          refine go_ddiv (q := 344) X5 hx (hb hby at_343) rfl (own_inv hpw hp).2 rfl ?_
          refine go_dmul (q := 345) X5 hx (hb hby at_344) rfl (own_exp hpw hp hcp.1).1 rfl ?_
          suffices Hex : ∀ ex : UInt64, ex = (FP.dmul (FP.l2d cp) (FP.ddiv (4607182418800017408 : UInt64) (FP.l2d pw))) → Go p e below s (fun v h L => v = some (.int (1 : Int32)) ∧ Fr h0.size L) room_1.cells room_1.slots T5 (mkF m 345 #[.val (.long c_), .second, .val (.long d_), .second, .val (.long t_), .second, .val (.int kk), .val (.int jj), .val (.long x_), .second, .val (.long y_), .second, .val (.long z_), .second, q14, q15, .val (.double s1), .second, .val (.double s2), .second, .val (.int (1 : Int32)), .val (.long m_), .second, .val (.long ls_), .second, .val (.long ts_), .second, .val (.int p_), .val (.long pw), .second, .val (.long cp), .second, .unset, .unset] [(.double ex)]) from Hex _ rfl
          intro ex eex
          refine go_dstore (q := 347) (l' := #[.val (.long c_), .second, .val (.long d_), .second, .val (.long t_), .second, .val (.int kk), .val (.int jj), .val (.long x_), .second, .val (.long y_), .second, .val (.long z_), .second, q14, q15, .val (.double s1), .second, .val (.double s2), .second, .val (.int (1 : Int32)), .val (.long m_), .second, .val (.long ls_), .second, .val (.long ts_), .second, .val (.int p_), .val (.long pw), .second, .val (.long cp), .second, .val (.double ex), .second]) X5 hx (hb hby at_345) rfl rfl ?_
          refine go_iload (q := 349) X5 hx (hb hby at_347) rfl rfl ?_
          refine go_if_eq (q := 352) (q' := 369) X5 hx (hb hby at_349) rfl (by decide) rfl (fun hc349 => ?_) (fun hc349 => ?_)
          · exact absurd hc349 (by decide)
          · refine go_lload (q := 354) X5 hx (hb hby at_352) rfl rfl ?_
            refine go_lload (q := 356) X5 hx (hb hby at_354) rfl rfl ?_
            refine go_callS (q := 359) (W := 0) X5 hx hZ hown e5 (hw _ (List.mem_of_getElem? (i := 1) rfl)) (hw _ (List.mem_of_getElem? (i := 2) rfl)) (hw _ (List.mem_of_getElem? (i := 3) rfl)) (hw _ (List.mem_of_getElem? (i := 4) rfl)) (by decide) [(.long cp), (.long pw)] [] (rm1 l Z a0 hw [] cp pw h0 (own_nn hcp.1 hcp.2)) (by rw [hml]; rfl) rfl (lenOf pd_0 rfl) (Nat.le_of_eq rfl) (by decide) (by decide) (hb hby at_356) rfl (by decide) (by decide) ?_
            rintro T6 L6 v6 X6 ⟨Np6, rfl, e6⟩
            have N6 := Fr.app N5 (Np6 _)
            show Go p e below s (fun v h L => v = some (.int (1 : Int32)) ∧ Fr h0.size L) room_1.cells room_1.slots T6 (mkF m 359 #[.val (.long c_), .second, .val (.long d_), .second, .val (.long t_), .second, .val (.int kk), .val (.int jj), .val (.long x_), .second, .val (.long y_), .second, .val (.long z_), .second, q14, q15, .val (.double s1), .second, .val (.double s2), .second, .val (.int (1 : Int32)), .val (.long m_), .second, .val (.long ls_), .second, .val (.long ts_), .second, .val (.int p_), .val (.long pw), .second, .val (.long cp), .second, .val (.double ex), .second] [(.double (shr cp pw))])
            suffices Hs5 : ∀ s5 : UInt64, s5 = (shr cp pw) → Go p e below s (fun v h L => v = some (.int (1 : Int32)) ∧ Fr h0.size L) room_1.cells room_1.slots T6 (mkF m 359 #[.val (.long c_), .second, .val (.long d_), .second, .val (.long t_), .second, .val (.int kk), .val (.int jj), .val (.long x_), .second, .val (.long y_), .second, .val (.long z_), .second, q14, q15, .val (.double s1), .second, .val (.double s2), .second, .val (.int (1 : Int32)), .val (.long m_), .second, .val (.long ls_), .second, .val (.long ts_), .second, .val (.int p_), .val (.long pw), .second, .val (.long cp), .second, .val (.double ex), .second] [(.double s5)]) from Hs5 _ rfl
            intro s5 es5
            refine go_dload (q := 361) X6 hx (hb hby at_359) rfl rfl ?_
            refine go_dcmp (q := 362) X6 hx (hb hby at_361) rfl rfl ?_
            refine go_if_ne (q := 365) (q' := 369) X6 hx (hb hby at_362) rfl (by decide) rfl (fun hc362 => ?_) (fun hc362 => ?_)
            · exact absurd (by rw [es5, eex]; exact (own_exp hpw hp hcp.1).2 hcp.2) hc362
            · refine go_iconst (q := 366) (v := (1 : Int32)) X6 hx (hb hby at_365) rfl rfl ?_
              refine go_goto (q := 370) X6 hx (hb hby at_366) (by decide) rfl ?_
              refine go_istore (q := 372) (l' := #[.val (.long c_), .second, .val (.long d_), .second, .val (.long t_), .second, .val (.int kk), .val (.int jj), .val (.long x_), .second, .val (.long y_), .second, .val (.long z_), .second, q14, q15, .val (.double s1), .second, .val (.double s2), .second, .val (.int (1 : Int32)), .val (.long m_), .second, .val (.long ls_), .second, .val (.long ts_), .second, .val (.int p_), .val (.long pw), .second, .val (.long cp), .second, .val (.double ex), .second]) X6 hx (hb hby at_370) rfl rfl ?_
              refine go_iload (q := 374) X6 hx (hb hby at_372) rfl rfl ?_
              exact go_retN X6 hx (by simp) hret hlk (hb hby at_374) (by decide) (by decide) ⟨rfl, N6⟩
set_option maxRecDepth 65536 in
set_option maxHeartbeats 40000000 in
theorem comes_1 {Post : Tables → Env → Array Value → State → Outcome → State → Prop} (hpost : ∀ tb e args s v u, (limb_1_1.after args s (.returned v) u = true ∧ limb_1_2.after args s (.returned v) u = true ∧ True) → FrameEnd s (.returned v) u (Jvm.fieldLocs frame_1_writes args s ++ Jvm.arrayLocs frame_1_arrays args s ++ Jvm.staticLocs frame_1_statics s) 0 0 → Post tb e args s (.returned v) u) :
    ArmFor flags0 classFile x code maxLocals ret World_1 tables_1 room_1 Calls_1 rest_1 Pre_1 Post := by
  intro l hfl _ _ p e ha hc hk s m args below hf hA hF happ hP
  obtain ⟨hcalls, hrest, hpre⟩ := hP
  obtain ⟨-, -, -, hnamed, -, -, -, hat⟩ := (Spec.applies_iff hf).mp happ
  obtain ⟨hg, hn⟩ := and_e (Cond.before_iff.mp (show (Jvm.Cond.and given_1 narrow_1).before args s = true from hpre))
  obtain ⟨hcnt, hg0⟩ := and_e hg
  obtain ⟨ha0, hg1⟩ := and_e hg0
  obtain ⟨ha1, hg2⟩ := and_e hg1
  obtain ⟨ha2, hg3⟩ := and_e hg2
  obtain ⟨ha3, hg4⟩ := and_e hg3
  have ha4 := hg4
  obtain ⟨w0, w1, w2, w3, w4, rfl⟩ : ∃ w0 w1 w2 w3 w4 : Value, args = #[w0, w1, w2, w3, w4] := by
    have hs : args.size = 5 := by simpa [Cond.value, given_1] using hcnt
    obtain ⟨L⟩ := args
    match L, hs with
    | [w0, w1, w2, w3, w4], _ => exact ⟨w0, w1, w2, w3, w4, rfl⟩
  have hw := fun d (hd : d ∈ tables_1) => atoms_spec (ws := Jvm.Cond.code x code maxLocals ret :: tables_1) hat d (List.mem_cons_of_mem _ hd)
  obtain ⟨i0, ei0⟩ := isL_v ha0
  obtain rfl : w0 = (.long i0) := Option.some.inj ei0
  obtain ⟨i1, ei1⟩ := isL_v ha1
  obtain rfl : w1 = (.long i1) := Option.some.inj ei1
  obtain ⟨i2, ei2⟩ := isL_v ha2
  obtain rfl : w2 = (.long i2) := Option.some.inj ei2
  obtain ⟨i3, ei3⟩ := is_v ha3
  obtain rfl : w3 = (.int i3) := Option.some.inj ei3
  obtain ⟨i4, ei4⟩ := is_v ha4
  obtain rfl : w4 = (.int i4) := Option.some.inj ei4
  obtain ⟨n, o, h1, h2, h3, _, L, rfl, ⟨rfl, N⟩, hq⟩ := rm0 l s _ hw tables_1 i0 i1 i2 i3 i4  s.heap  p e ha hc hk s m _ below hf ((Spec.applies_iff_loose hf).mp happ).1 ⟨rfl, State.Warmed39.refl s, rfl⟩ trivial
  refine ⟨n, _, h1, h2, h3, hpost _ _ _ _ _ _ ⟨Cond.after_iff.mpr rfl, Cond.after_iff.mpr (eq_i res_at (Term.int_eval (1)) rfl), trivial⟩ ⟨hq.1, hq.2.1, (hq.2.2.sift fun y hy => Or.inr (N y hy)).mono (by decide) (by decide)⟩⟩
theorem main_1_1 : Claimed_1_1 := comes_1 fun _ _ _ _ _ _ h hF => ⟨h.1, hF⟩
theorem main_1_2 : Claimed_1_2 := comes_1 fun _ _ _ _ _ _ h hF => ⟨h.2.1, hF⟩

end Jvm.Pilot.@@N@@
namespace Jvm.Pilot.@@N@@
open Jvm Jvm.ClassFile Sem Op Lib Jvm.Free Jvm.Stand Jvm.Pilot.@@N@@.Jvm.D
/-! MADE BY PROGRAM (witnessworld.py) out of the Statement's table words and the real class files: 9 classes; the members and pool entries that the words name. The judged class is class 1, her method 1. -/
namespace start1
open Jvm.ClassFile
def u (s : String) : CpInfo := .utf8 (stringToUtf16 s)
/-- a pool by its gaps: so many unusable entries, then the entry; so many at the end -/
def gap : Nat → List CpInfo → List CpInfo
  | 0, r => r
  | n + 1, r => .unusable :: gap n r
def poolList (es : List (Nat × CpInfo)) (last : Nat) : List CpInfo := es.foldr (fun e r => gap e.1 (e.2 :: r)) (gap last [])
def pool (es : List (Nat × CpInfo)) (last : Nat) : Array CpInfo := ⟨poolList es last⟩
def fileOf (pool : Array CpInfo) (this : Nat) (attrs : Array Attribute := #[]) (ms : Array MethodInfo := #[]) (fl : Nat := 33) (sup : Nat := 0) (ifs : Array Nat := #[]) (fds : Array FieldInfo := #[]) : ClassFile where
  minorVersion := 0
  majorVersion := 65
  constantPool := pool
  accessFlags := fl
  thisClass := this
  superClass := sup
  interfaces := ifs
  fields := fds
  methods := ms
  attributes := attrs
def plain (name : String) (sup : Option ClassId) : Class where
  name := name
  kind := .ordinary
  loader := none
  accessFlags := 33
  super := sup
  interfaces := #[]
  cf := none
  fields := #[]
  methods := #[]
  instanceTypes := #[]
  staticTypes := #[]
  resolved := #[]
  callSites := []
  init := .initialized
  statics := none
  mirror := none

def pool0 : Array CpInfo := pool [(5, u "<init>"), (0, u "()V"), (1, .class_ 10), (1, u "java/lang/Object")] 113

def k0m0 : Method := { name := "<init>", desc := "()V", sig := { parameters := [], returnType := none }, accessFlags := 1, code := none }
/-- java/lang/Object -/
def k0 : Class := { plain "java/lang/Object" none with
  accessFlags := 33
  interfaces := #[]
  cf := some (fileOf pool0 8 #[] #[{ accessFlags := 1, nameIndex := 5, descriptorIndex := 6, attributes := #[] }] 33 0 #[] #[])
  fields := #[]
  methods := #[k0m0]
  instanceTypes := #[]
  staticTypes := #[]
  resolved := Array.replicate 124 none
  statics := none }

def pool1 : Array CpInfo := pool [(2, .class_ 4), (1, u "java/lang/Object"), (0, u "<init>"), (0, u "()V"), (2, .long 9223372036854775807), (1, .methodref 12 13), (0, .class_ 14), (0, .nameAndType 15 16), (0, u "com/example/forager/forager/ranking/Probabilities"), (0, u "share"), (0, u "(JJ)D"), (0, .integer 2147483647), (0, .class_ 19), (0, u "com/example/forager/forager/ranking/ProbabilitiesSharePinLaw"), (2, u "law"), (0, u "(JJJII)Z")] 3

def k1m0 : Method := { name := "<init>", desc := "()V", sig := { parameters := [], returnType := none }, accessFlags := 2, code := none }
def k1c1 : Code := { maxStack := 8, maxLocals := 34, code := code, exceptionTable := #[], attributes := #[] }
def k1m1 : Method := { name := "law", desc := "(JJJII)Z", sig := { parameters := [.long, .long, .long, .int, .int], returnType := some .boolean }, accessFlags := 9, code := some k1c1 }
/-- com/example/forager/forager/ranking/ProbabilitiesSharePinLaw -/
def k1 : Class := { plain "com/example/forager/forager/ranking/ProbabilitiesSharePinLaw" (some 0) with
  accessFlags := 49
  interfaces := #[]
  cf := some (fileOf pool1 18 #[] #[{ accessFlags := 2, nameIndex := 5, descriptorIndex := 6, attributes := #[] }, { accessFlags := 9, nameIndex := 22, descriptorIndex := 23, attributes := #[] }] 49 2 #[] #[])
  fields := #[]
  methods := #[k1m0, k1m1]
  instanceTypes := #[]
  staticTypes := #[]
  resolved := Array.replicate 27 none
  statics := none }

def pool2 : Array CpInfo := pool [(2, .class_ 4), (1, u "java/lang/Object"), (0, u "<init>"), (0, u "()V"), (7, .class_ 16), (1, u "com/example/forager/forager/ranking/Probabilities"), (0, u "LN_2"), (0, u "D"), (4, u "share"), (0, u "(JJ)D")] 5

def k2m0 : Method := { name := "<init>", desc := "()V", sig := { parameters := [], returnType := none }, accessFlags := 2, code := none }
def k2c1 : Code := { maxStack := 4, maxLocals := 6, code := prog_59_method_2_code, exceptionTable := #[], attributes := #[] }
def k2m1 : Method := { name := "share", desc := "(JJ)D", sig := { parameters := [.long, .long], returnType := some .double }, accessFlags := 8, code := some k2c1 }
/-- com/example/forager/forager/ranking/Probabilities -/
def k2 : Class := { plain "com/example/forager/forager/ranking/Probabilities" (some 0) with
  accessFlags := 48
  interfaces := #[]
  cf := some (fileOf pool2 14 #[] #[{ accessFlags := 2, nameIndex := 5, descriptorIndex := 6, attributes := #[] }, { accessFlags := 8, nameIndex := 23, descriptorIndex := 24, attributes := #[] }] 48 2 #[] #[{ accessFlags := 26, nameIndex := 17, descriptorIndex := 18, attributes := #[] }])
  fields := #[{ name := "LN_2", type := .double, accessFlags := 26, slot := 0, constantValue := 0 }]
  methods := #[k2m0, k2m1]
  instanceTypes := #[]
  staticTypes := #[.double]
  resolved := Array.replicate 30 none
  statics := none }

def pool3 : Array CpInfo := pool [(1, u "java/lang/Cloneable"), (0, .class_ 1), (0, u "java/lang/Object"), (0, .class_ 3)] 3

/-- java/lang/Cloneable -/
def k3 : Class := { plain "java/lang/Cloneable" (some 0) with
  accessFlags := 1537
  interfaces := #[]
  cf := some (fileOf pool3 2 #[] #[] 1537 4 #[] #[])
  fields := #[]
  methods := #[]
  instanceTypes := #[]
  staticTypes := #[]
  resolved := Array.replicate 8 none
  statics := none }

def pool4 : Array CpInfo := pool [(1, u "java/io/Serializable"), (0, .class_ 1), (0, u "java/lang/Object"), (0, .class_ 3)] 3

/-- java/io/Serializable -/
def k4 : Class := { plain "java/io/Serializable" (some 0) with
  accessFlags := 1537
  interfaces := #[]
  cf := some (fileOf pool4 2 #[] #[] 1537 4 #[] #[])
  fields := #[]
  methods := #[]
  instanceTypes := #[]
  staticTypes := #[]
  resolved := Array.replicate 8 none
  statics := none }

/-- the primitive byte -/
def k5 : Class := { plain "byte" none with kind := .primitive 'B', accessFlags := 0x411 }
/-- [B -/
def k6 : Class := { plain "[B" (some 0) with kind := .array 5 .byte, interfaces := #[3, 4], accessFlags := 1041 }

/-- the primitive int -/
def k7 : Class := { plain "int" none with kind := .primitive 'I', accessFlags := 0x411 }
/-- [I -/
def k8 : Class := { plain "[I" (some 0) with kind := .array 7 .int, interfaces := #[3, 4], accessFlags := 1041 }

def heap : Heap := #[]
def classes : Array Class := #[k0, k1, k2, k3, k4, k5, k6, k7, k8]
def interned : List (Array UInt16 × Addr) := []
def slotsUsed : Nat := 0
def theMethod : MethodId := ⟨1, 1⟩
def args0 : Array Value := #[.long 5, .long 7, .long 9, .int 3, .int 4]
def aboutOver (below : List Frame) : State where
  vm := { classes := classes, interned := interned.toArray }
  heap := heap
  slotsUsed := slotsUsed
  threads := #[{ frames := .invoking theMethod args0 :: below }]
def below0 : List Frame := [.native { method := ⟨0, 0⟩, args := #[] }]
def about1 : State := aboutOver below0
def p0 : Program := .bare "" "" ""
def e0 : Env := launch0.env 0 0 0
theorem w_frames : about1.frames = Frame.invoking theMethod args0 :: below0 := rfl
set_option maxRecDepth 65536 in
theorem w_args : argsFit about1.vm theMethod args0 = true := by decide +kernel
set_option maxRecDepth 65536 in
theorem w_heap : heapFits about1 = true := by decide +kernel
set_option maxRecDepth 65536 in
theorem w_runnable : about1.curStatus? = some .runnable := by decide +kernel
set_option maxRecDepth 65536 in
theorem w_alone : about1.alone = true := by decide +kernel
set_option maxRecDepth 65536 in
theorem w_named : about1.methodNamed? x = some theMethod := by decide +kernel
set_option maxRecDepth 65536 in
theorem w_hears : about1.hears theMethod below0 = true := by decide +kernel
set_option maxRecDepth 65536 in
theorem w_ripe : about1.ripe theMethod args0 below0 = true := by decide +kernel
theorem w_running : about1.status = .running := rfl
set_option maxRecDepth 65536 in
theorem w_room : about1.hasRoom e0.platform room_1 = true :=
  launch0.hasRoom_least _ room_1 (by decide +kernel) (by decide +kernel) (by decide +kernel) (by decide +kernel) (by decide +kernel) (by decide +kernel)
theorem allAtoms_all (ts : List Jvm.Cond) (a : Array Jvm.Value) (st : Jvm.State) : (allAtoms ts).before a st = ts.all (fun c => c.before a st) := by
  induction ts with
  | nil => rfl
  | cons c t ih =>
    show (Jvm.Cond.and c (allAtoms t)).before a st = _
    rw [Jvm.Cond.before_and, ih, List.all_cons]
def words1 : List Jvm.Cond := Jvm.Cond.code x code maxLocals ret :: tables_1
/-- a 'code' word, met by the world's own term for the bytes: nothing is compared byte by byte -/
theorem code_word {y : MethodName} {bytes : ByteArray} {mx : Nat} {rt : Option FieldType} {a : Array Value} {s : State} {m : MethodId} {meth : Method} {c : Code} (h1 : s.methodNamed? y = some m) (h2 : s.vm.method? m = some meth) (h3 : meth.code = some c) (h4 : c.code = bytes)
    (h5 : (c.maxLocals == mx && c.exceptionTable.isEmpty && decide (c.maxStack ≤ mostOperands) && decide (meth.sig.returnType = rt) && !meth.locks && decide (parseMethodDescriptor y.desc = some meth.sig)) = true) : (Jvm.Cond.code y bytes mx rt).before a s = true := by
  simp only [Bool.and_eq_true, beq_iff_eq, Bool.not_eq_true', decide_eq_true_eq] at h5
  obtain ⟨⟨⟨⟨⟨g1, g2⟩, g3⟩, g4⟩, g5⟩, g6⟩ := h5
  simp [Cond.before, Cond.holds, Cond.value, h1, h2, h3, h4, g1, g2, g3, g4, g5, g6]
def isCode : Jvm.Cond → Bool
  | .code _ _ _ _ => true
  | _ => false
theorem all_split {L : List Jvm.Cond} {P : Jvm.Cond → Bool} (h1 : L.all (fun c => isCode c || P c) = true) (h2 : ∀ c ∈ L.filter isCode, P c = true) : L.all P = true := by
  refine List.all_eq_true.mpr fun c hc => ?_
  have h := List.all_eq_true.mp h1 c hc
  rcases Bool.eq_false_or_eq_true (isCode c) with hi | hi
  · exact h2 c (List.mem_filter.mpr ⟨hc, hi⟩)
  · simpa [hi] using h
set_option maxRecDepth 65536 in
theorem w_c0 : (Jvm.Cond.code x code maxLocals ret).before args0 about1 = true := code_word (m := ⟨1, 1⟩) (meth := k1m1) (c := k1c1) (by decide +kernel) rfl rfl rfl (by decide +kernel)
set_option maxRecDepth 65536 in
theorem w_c1 : (Jvm.Cond.code ({ cls := "com/example/forager/forager/ranking/Probabilities", name := "share", desc := "(JJ)D" } : Jvm.MethodName) prog_59_method_2_code (6 : Nat) (Option.some Jvm.ClassFile.FieldType.double)).before args0 about1 = true := code_word (m := ⟨2, 1⟩) (meth := k2m1) (c := k2c1) (by decide +kernel) rfl rfl rfl (by decide +kernel)
def codes1 : List Jvm.Cond := [Jvm.Cond.code x code maxLocals ret, Jvm.Cond.code ({ cls := "com/example/forager/forager/ranking/Probabilities", name := "share", desc := "(JJ)D" } : Jvm.MethodName) prog_59_method_2_code (6 : Nat) (Option.some Jvm.ClassFile.FieldType.double)]
set_option maxRecDepth 65536 in
theorem codes_eq : words1.filter isCode = codes1 := rfl
theorem w_codes : ∀ c ∈ words1.filter isCode, c.before args0 about1 = true := by
  rw [codes_eq]
  intro c hc
  simp only [codes1, List.mem_cons, List.not_mem_nil, or_false] at hc
  rcases hc with rfl | rfl
  · exact w_c0
  · exact w_c1
set_option maxRecDepth 65536 in
theorem w_t1 : words1.all (fun c => isCode c || c.before args0 about1) = true := by decide +kernel
theorem w_tables : (allAtoms (Jvm.Cond.code x code maxLocals ret :: tables_1)).before args0 about1 = true := by
  rw [allAtoms_all]
  show words1.all (fun c => c.before args0 about1) = true
  refine all_split ?_ w_codes
  rw [w_t1]
set_option maxRecDepth 65536 in
theorem w_case : (Jvm.Cond.and given_1 narrow_1).before args0 about1 = true := by decide +kernel
theorem w_applies : (headSpec (Jvm.Cond.code x code maxLocals ret :: tables_1) room_1).applies x e0.platform about1 = true :=
  (Spec.applies_iff w_frames).mpr ⟨w_running, w_runnable, w_alone, w_named, w_hears, w_ripe, w_room, w_tables⟩
theorem atStart : AtStart classFile x code maxLocals ret World_1 tables_1 room_1 Calls_1 rest_1 Pre_1 launch0 p0 e0 about1 theMethod args0 below0 :=
  ⟨lists_1, trivial, launch0.admits_env _ _ _, launch0.least_env, fairChoices_fair.cas, fairChoices_fair.clock, w_frames, w_args, w_heap, w_applies, trivial, trivial, w_case⟩
end start1
theorem witness_1 : WitnessClaimed_1 := ⟨start1.p0, start1.e0, start1.about1, start1.theMethod, start1.args0, start1.below0, start1.atStart⟩
end Jvm.Pilot.@@N@@
