import JvmDerived
import JvmDerived.Pilot.@@N@@Statement
import JvmDerived.Pilot.@@N@@Code
set_option linter.unusedVariables false
set_option linter.unusedSimpArgs false
namespace Jvm.Pilot.@@N@@
open Jvm Jvm.ClassFile Sem Op Lib Jvm.Free Jvm.Stand Jvm.LawKit Jvm.RoadKit Bundle Jvm.Pilot.@@N@@.Jvm.D

section OwnWalk
variable {p : Program} {l : Launch} {e : Env} {R : Room} {s : State} {m : MethodId} {args : Array Value} {below : List Frame} {meth : Method} {c : Code} {T : State} {locs : List Loc} {cells slots : Nat} {Z : State} {h : Heap} {Q : Option Value → Heap → List Loc → Prop} {ce sl : Nat} {pc q q' : Nat} {ls : Array Slot} {st : List Value} {a0 : Array Value}
/-- the rest of a body's run, from the frame g on -/
def Go (p : Program) (e : Env) (below : List Frame) (s : State) (Q : Option Value → Heap → List Loc → Prop) (ce sl : Nat) (T : State) (g : JFrame) : Prop :=
  ∃ s₂ o, Steps p.tables e below (T.setTop g) s₂ ∧ s₂.status = .running ∧ Ended s₂ below o ∧ ∃ v L, o = .returned v ∧ Q v s₂.heap L ∧ FrameEnd s o s₂ L ce sl
theorem Go.to {T' : State} {g g' : JFrame} (k : Go p e below s Q ce sl T' g') (f : ∀ t, Steps p.tables e below (T'.setTop g') t → Steps p.tables e below (T.setTop g) t) : Go p e below s Q ce sl T g := by
  obtain ⟨s2, o, h1, r⟩ := k
  exact ⟨s2, o, f _ h1, r⟩
theorem Go.cast {g g' : JFrame} (w : g = g') (k : Go p e below s Q ce sl T g') : Go p e below s Q ce sl T g := w ▸ k
/-- a body's contract: from these arguments, over this heap, it returns with Q -/
abbrev Con (l : Launch) (y : MethodName) (bytes : ByteArray) (maxL : Nat) (ret : Option FieldType) (ws : List Jvm.Cond) (rm : Room) (Z : State) (as' : Array Value) (h : Heap) (Q : Option Value → Heap → List Loc → Prop) : Prop :=
  MetFree l y (head1 (Jvm.Cond.code y bytes maxL ret :: ws) rm) (fun a U => a = as' ∧ Z.Warmed39 U.vm ∧ U.heap = h) (fun _ _ _ _ _ => True) (fun _ U o U' => ∃ v L, o = .returned v ∧ Q v U'.heap L ∧ FrameEnd U o U' L rm.cells rm.slots)
theorem con_of {y : MethodName} {bytes : ByteArray} {maxL : Nat} {ret : Option FieldType} {ws : List Jvm.Cond} {rm : Room} {as' : Array Value} (hpl : plainFor y = true)
    (body : ∀ (p : Program) (e : Env) (s : State) (m : MethodId) (below : List Frame) (meth : Method) (c : Code) (s₁ : State), Stand p l e rm s m as' below meth c s₁ [] 0 0 → p.tables.exec = Jvm.exec → c.code = bytes → c.maxLocals = maxL → meth.sig.returnType = ret → meth.locks = false → s.vm.findClass y.cls = some m.cls → meth.name = y.name → Z.Warmed39 s.vm → s₁.heap = h → Go p e below s Q rm.cells rm.slots s₁ (entryFrame m as' maxL)) :
    Con l y bytes maxL ret ws rm Z as' h Q := by
  refine MetFree.of_bodySF hpl hisR ?_
  intro p e s m args below meth c s₁ Bd hml0 hP hK
  obtain ⟨rfl, hZ, hh⟩ := hP
  exact body p e s m below meth c s₁ (Stand.of_body Bd) Bd.exec Bd.bytes hml0 Bd.returns Bd.notSynchronized (findClass_of_methodNamed Bd.named) (name_of_methodNamed Bd.named Bd.method).1 hZ (by rw [← hh, Bd.state]; rfl)
theorem go_iload (X : Stand p l e R s m args below meth c T locs cells slots) (hx : p.tables.exec = Jvm.exec) {k : Nat} {v : Int32} (hd : decode c.code pc = .ok (.iload k, 2)) (hp : pc + 2 = q) (hl : ls[k]? = some (.val (.int v))) (K : Go p e below s Q ce sl T (mkF m q ls (.int v :: st))) : Go p e below s Q ce sl T (mkF m pc ls st) := by
  subst hp
  exact K.to fun _ r => XS.iload X.here hx rfl hd hl r
theorem go_iloadN (X : Stand p l e R s m args below meth c T locs cells slots) (hx : p.tables.exec = Jvm.exec) {k : Fin 4} {v : Int32} (hd : decode c.code pc = .ok (.iload_n k, 1)) (hp : pc + 1 = q) (hl : ls[k.val]? = some (.val (.int v))) (K : Go p e below s Q ce sl T (mkF m q ls (.int v :: st))) : Go p e below s Q ce sl T (mkF m pc ls st) := by
  subst hp
  exact K.to fun _ r => XS.iloadN X.here hx rfl hd hl r
theorem go_istore (X : Stand p l e R s m args below meth c T locs cells slots) (hx : p.tables.exec = Jvm.exec) {k : Nat} {v : Int32} {l' : Array Slot} (hd : decode c.code pc = .ok (.istore k, 2)) (hp : pc + 2 = q) (hl : storeLocals ls k (.int v) = some l') (K : Go p e below s Q ce sl T (mkF m q l' st)) : Go p e below s Q ce sl T (mkF m pc ls (.int v :: st)) := by
  subst hp
  exact K.to fun _ r => XS.istore X.here hx rfl hd rfl hl r
theorem go_istoreN (X : Stand p l e R s m args below meth c T locs cells slots) (hx : p.tables.exec = Jvm.exec) {k : Fin 4} {v : Int32} {l' : Array Slot} (hd : decode c.code pc = .ok (.istore_n k, 1)) (hp : pc + 1 = q) (hl : storeLocals ls k.val (.int v) = some l') (K : Go p e below s Q ce sl T (mkF m q l' st)) : Go p e below s Q ce sl T (mkF m pc ls (.int v :: st)) := by
  subst hp
  exact K.to fun _ r => XS.istoreN X.here hx rfl hd rfl hl r
theorem go_lload (X : Stand p l e R s m args below meth c T locs cells slots) (hx : p.tables.exec = Jvm.exec) {k : Nat} {v : Int64} (hd : decode c.code pc = .ok (.lload k, 2)) (hp : pc + 2 = q) (hl : ls[k]? = some (.val (.long v))) (K : Go p e below s Q ce sl T (mkF m q ls (.long v :: st))) : Go p e below s Q ce sl T (mkF m pc ls st) := by
  subst hp
  exact K.to fun _ r => XS.lload X.here hx rfl hd hl r
theorem go_lloadN (X : Stand p l e R s m args below meth c T locs cells slots) (hx : p.tables.exec = Jvm.exec) {k : Fin 4} {v : Int64} (hd : decode c.code pc = .ok (.lload_n k, 1)) (hp : pc + 1 = q) (hl : ls[k.val]? = some (.val (.long v))) (K : Go p e below s Q ce sl T (mkF m q ls (.long v :: st))) : Go p e below s Q ce sl T (mkF m pc ls st) := by
  subst hp
  exact K.to fun _ r => XS.lloadN X.here hx rfl hd hl r
theorem go_lstore (X : Stand p l e R s m args below meth c T locs cells slots) (hx : p.tables.exec = Jvm.exec) {k : Nat} {v : Int64} {l' : Array Slot} (hd : decode c.code pc = .ok (.lstore k, 2)) (hp : pc + 2 = q) (hl : storeLocals ls k (.long v) = some l') (K : Go p e below s Q ce sl T (mkF m q l' st)) : Go p e below s Q ce sl T (mkF m pc ls (.long v :: st)) := by
  subst hp
  exact K.to fun _ r => XS.lstore X.here hx rfl hd rfl hl r
theorem go_lstoreN (X : Stand p l e R s m args below meth c T locs cells slots) (hx : p.tables.exec = Jvm.exec) {k : Fin 4} {v : Int64} {l' : Array Slot} (hd : decode c.code pc = .ok (.lstore_n k, 1)) (hp : pc + 1 = q) (hl : storeLocals ls k.val (.long v) = some l') (K : Go p e below s Q ce sl T (mkF m q l' st)) : Go p e below s Q ce sl T (mkF m pc ls (.long v :: st)) := by
  subst hp
  exact K.to fun _ r => XS.lstoreN X.here hx rfl hd rfl hl r
theorem go_dload (X : Stand p l e R s m args below meth c T locs cells slots) (hx : p.tables.exec = Jvm.exec) {k : Nat} {v : UInt64} (hd : decode c.code pc = .ok (.dload k, 2)) (hp : pc + 2 = q) (hl : ls[k]? = some (.val (.double v))) (K : Go p e below s Q ce sl T (mkF m q ls (.double v :: st))) : Go p e below s Q ce sl T (mkF m pc ls st) := by
  subst hp
  exact K.to fun _ r => XS.dload X.here hx rfl hd hl r
theorem go_dloadN (X : Stand p l e R s m args below meth c T locs cells slots) (hx : p.tables.exec = Jvm.exec) {k : Fin 4} {v : UInt64} (hd : decode c.code pc = .ok (.dload_n k, 1)) (hp : pc + 1 = q) (hl : ls[k.val]? = some (.val (.double v))) (K : Go p e below s Q ce sl T (mkF m q ls (.double v :: st))) : Go p e below s Q ce sl T (mkF m pc ls st) := by
  subst hp
  exact K.to fun _ r => XS.dloadN X.here hx rfl hd hl r
theorem go_dstore (X : Stand p l e R s m args below meth c T locs cells slots) (hx : p.tables.exec = Jvm.exec) {k : Nat} {v : UInt64} {l' : Array Slot} (hd : decode c.code pc = .ok (.dstore k, 2)) (hp : pc + 2 = q) (hl : storeLocals ls k (.double v) = some l') (K : Go p e below s Q ce sl T (mkF m q l' st)) : Go p e below s Q ce sl T (mkF m pc ls (.double v :: st)) := by
  subst hp
  exact K.to fun _ r => XS.dstore X.here hx rfl hd rfl hl r
theorem go_dstoreN (X : Stand p l e R s m args below meth c T locs cells slots) (hx : p.tables.exec = Jvm.exec) {k : Fin 4} {v : UInt64} {l' : Array Slot} (hd : decode c.code pc = .ok (.dstore_n k, 1)) (hp : pc + 1 = q) (hl : storeLocals ls k.val (.double v) = some l') (K : Go p e below s Q ce sl T (mkF m q l' st)) : Go p e below s Q ce sl T (mkF m pc ls (.double v :: st)) := by
  subst hp
  exact K.to fun _ r => XS.dstoreN X.here hx rfl hd rfl hl r
theorem go_fload (X : Stand p l e R s m args below meth c T locs cells slots) (hx : p.tables.exec = Jvm.exec) {k : Nat} {v : UInt32} (hd : decode c.code pc = .ok (.fload k, 2)) (hp : pc + 2 = q) (hl : ls[k]? = some (.val (.float v))) (K : Go p e below s Q ce sl T (mkF m q ls (.float v :: st))) : Go p e below s Q ce sl T (mkF m pc ls st) := by
  subst hp
  exact K.to fun _ r => XS.fload X.here hx rfl hd hl r
theorem go_floadN (X : Stand p l e R s m args below meth c T locs cells slots) (hx : p.tables.exec = Jvm.exec) {k : Fin 4} {v : UInt32} (hd : decode c.code pc = .ok (.fload_n k, 1)) (hp : pc + 1 = q) (hl : ls[k.val]? = some (.val (.float v))) (K : Go p e below s Q ce sl T (mkF m q ls (.float v :: st))) : Go p e below s Q ce sl T (mkF m pc ls st) := by
  subst hp
  exact K.to fun _ r => XS.floadN X.here hx rfl hd hl r
theorem go_fstore (X : Stand p l e R s m args below meth c T locs cells slots) (hx : p.tables.exec = Jvm.exec) {k : Nat} {v : UInt32} {l' : Array Slot} (hd : decode c.code pc = .ok (.fstore k, 2)) (hp : pc + 2 = q) (hl : storeLocals ls k (.float v) = some l') (K : Go p e below s Q ce sl T (mkF m q l' st)) : Go p e below s Q ce sl T (mkF m pc ls (.float v :: st)) := by
  subst hp
  exact K.to fun _ r => XS.fstore X.here hx rfl hd rfl hl r
theorem go_fstoreN (X : Stand p l e R s m args below meth c T locs cells slots) (hx : p.tables.exec = Jvm.exec) {k : Fin 4} {v : UInt32} {l' : Array Slot} (hd : decode c.code pc = .ok (.fstore_n k, 1)) (hp : pc + 1 = q) (hl : storeLocals ls k.val (.float v) = some l') (K : Go p e below s Q ce sl T (mkF m q l' st)) : Go p e below s Q ce sl T (mkF m pc ls (.float v :: st)) := by
  subst hp
  exact K.to fun _ r => XS.fstoreN X.here hx rfl hd rfl hl r
theorem go_aload (X : Stand p l e R s m args below meth c T locs cells slots) (hx : p.tables.exec = Jvm.exec) {k : Nat} {v : Value} (hd : decode c.code pc = .ok (.aload k, 2)) (hp : pc + 2 = q) (hl : ls[k]? = some (.val v)) (hv : v.isRef = true) (K : Go p e below s Q ce sl T (mkF m q ls (v :: st))) : Go p e below s Q ce sl T (mkF m pc ls st) := by
  subst hp
  exact K.to fun _ r => XS.aload X.here hx rfl hd hl hv r
theorem go_aloadN (X : Stand p l e R s m args below meth c T locs cells slots) (hx : p.tables.exec = Jvm.exec) {k : Fin 4} {v : Value} (hd : decode c.code pc = .ok (.aload_n k, 1)) (hp : pc + 1 = q) (hl : ls[k.val]? = some (.val v)) (hv : v.isRef = true) (K : Go p e below s Q ce sl T (mkF m q ls (v :: st))) : Go p e below s Q ce sl T (mkF m pc ls st) := by
  subst hp
  exact K.to fun _ r => XS.aloadN X.here hx rfl hd hl hv r
theorem go_astore (X : Stand p l e R s m args below meth c T locs cells slots) (hx : p.tables.exec = Jvm.exec) {k : Nat} {v : Value} {l' : Array Slot} (hd : decode c.code pc = .ok (.astore k, 2)) (hp : pc + 2 = q) (hv : v.isRef = true) (hl : storeLocals ls k v = some l') (K : Go p e below s Q ce sl T (mkF m q l' st)) : Go p e below s Q ce sl T (mkF m pc ls (v :: st)) := by
  subst hp
  exact K.to fun _ r => XS.astore X.here hx rfl hd rfl hv hl r
theorem go_astoreN (X : Stand p l e R s m args below meth c T locs cells slots) (hx : p.tables.exec = Jvm.exec) {k : Fin 4} {v : Value} {l' : Array Slot} (hd : decode c.code pc = .ok (.astore_n k, 1)) (hp : pc + 1 = q) (hv : v.isRef = true) (hl : storeLocals ls k.val v = some l') (K : Go p e below s Q ce sl T (mkF m q l' st)) : Go p e below s Q ce sl T (mkF m pc ls (v :: st)) := by
  subst hp
  exact K.to fun _ r => XS.astoreN X.here hx rfl hd rfl hv hl r
theorem go_iconst (X : Stand p l e R s m args below meth c T locs cells slots) (hx : p.tables.exec = Jvm.exec) {i : Int} {v : Int32} (hd : decode c.code pc = .ok (.iconst i, 1)) (hp : pc + 1 = q) (hv : Int32.ofInt i = v) (K : Go p e below s Q ce sl T (mkF m q ls (.int v :: st))) : Go p e below s Q ce sl T (mkF m pc ls st) := by
  subst hp
  exact K.to fun _ r => XS.iconst X.here hx rfl hd (hv ▸ r)
theorem go_bipush (X : Stand p l e R s m args below meth c T locs cells slots) (hx : p.tables.exec = Jvm.exec) {i : Int} {v : Int32} (hd : decode c.code pc = .ok (.bipush i, 2)) (hp : pc + 2 = q) (hv : (Int8.ofInt i).toInt32 = v) (K : Go p e below s Q ce sl T (mkF m q ls (.int v :: st))) : Go p e below s Q ce sl T (mkF m pc ls st) := by
  subst hp
  exact K.to fun _ r => XS.bipush X.here hx rfl hd (hv ▸ r)
theorem go_sipush (X : Stand p l e R s m args below meth c T locs cells slots) (hx : p.tables.exec = Jvm.exec) {i : Int} {v : Int32} (hd : decode c.code pc = .ok (.sipush i, 3)) (hp : pc + 3 = q) (hv : (Int16.ofInt i).toInt32 = v) (K : Go p e below s Q ce sl T (mkF m q ls (.int v :: st))) : Go p e below s Q ce sl T (mkF m pc ls st) := by
  subst hp
  exact K.to fun _ r => XS.sipush X.here hx rfl hd (hv ▸ r)
theorem go_lconst (X : Stand p l e R s m args below meth c T locs cells slots) (hx : p.tables.exec = Jvm.exec) {k : Fin 2} {v : Int64} (hd : decode c.code pc = .ok (.lconst k, 1)) (hp : pc + 1 = q) (hv : Int64.ofNat k = v) (K : Go p e below s Q ce sl T (mkF m q ls (.long v :: st))) : Go p e below s Q ce sl T (mkF m pc ls st) := by
  subst hp
  exact K.to fun _ r => XS.lconst X.here hx rfl hd (hv ▸ r)
theorem go_aconstNull (X : Stand p l e R s m args below meth c T locs cells slots) (hx : p.tables.exec = Jvm.exec)  (hd : decode c.code pc = .ok (.aconst_null, 1)) (hp : pc + 1 = q)  (K : Go p e below s Q ce sl T (mkF m q ls (.null :: st))) : Go p e below s Q ce sl T (mkF m pc ls st) := by
  subst hp
  exact K.to fun _ r => XS.aconstNull X.here hx rfl hd r
theorem go_dconst0 (X : Stand p l e R s m args below meth c T locs cells slots) (hx : p.tables.exec = Jvm.exec) {v : UInt64} (hd : decode c.code pc = .ok (.dconst 0, 1)) (hp : pc + 1 = q) (hv : FP.dconst0 = v) (K : Go p e below s Q ce sl T (mkF m q ls (.double v :: st))) : Go p e below s Q ce sl T (mkF m pc ls st) := by
  subst hp
  exact K.to fun _ r => XS.dconst0 X.here hx rfl hd hv r
theorem go_dconst1 (X : Stand p l e R s m args below meth c T locs cells slots) (hx : p.tables.exec = Jvm.exec) {v : UInt64} (hd : decode c.code pc = .ok (.dconst 1, 1)) (hp : pc + 1 = q) (hv : FP.dconst1 = v) (K : Go p e below s Q ce sl T (mkF m q ls (.double v :: st))) : Go p e below s Q ce sl T (mkF m pc ls st) := by
  subst hp
  exact K.to fun _ r => XS.dconst1 X.here hx rfl hd hv r
theorem go_iadd (X : Stand p l e R s m args below meth c T locs cells slots) (hx : p.tables.exec = Jvm.exec) {x y v : Int32} (hd : decode c.code pc = .ok (.iadd, 1)) (hp : pc + 1 = q) (hv : x + y = v) (K : Go p e below s Q ce sl T (mkF m q ls (.int v :: st))) : Go p e below s Q ce sl T (mkF m pc ls (.int y :: .int x :: st)) := by
  subst hp
  exact K.to fun _ r => XS.iadd X.here hx rfl hd rfl (hv ▸ r)
theorem go_isub (X : Stand p l e R s m args below meth c T locs cells slots) (hx : p.tables.exec = Jvm.exec) {x y v : Int32} (hd : decode c.code pc = .ok (.isub, 1)) (hp : pc + 1 = q) (hv : x - y = v) (K : Go p e below s Q ce sl T (mkF m q ls (.int v :: st))) : Go p e below s Q ce sl T (mkF m pc ls (.int y :: .int x :: st)) := by
  subst hp
  exact K.to fun _ r => XS.isub X.here hx rfl hd rfl (hv ▸ r)
theorem go_imul (X : Stand p l e R s m args below meth c T locs cells slots) (hx : p.tables.exec = Jvm.exec) {x y v : Int32} (hd : decode c.code pc = .ok (.imul, 1)) (hp : pc + 1 = q) (hv : x * y = v) (K : Go p e below s Q ce sl T (mkF m q ls (.int v :: st))) : Go p e below s Q ce sl T (mkF m pc ls (.int y :: .int x :: st)) := by
  subst hp
  exact K.to fun _ r => XS.imul X.here hx rfl hd rfl (hv ▸ r)
theorem go_iand (X : Stand p l e R s m args below meth c T locs cells slots) (hx : p.tables.exec = Jvm.exec) {x y v : Int32} (hd : decode c.code pc = .ok (.iand, 1)) (hp : pc + 1 = q) (hv : x &&& y = v) (K : Go p e below s Q ce sl T (mkF m q ls (.int v :: st))) : Go p e below s Q ce sl T (mkF m pc ls (.int y :: .int x :: st)) := by
  subst hp
  exact K.to fun _ r => XS.iand X.here hx rfl hd rfl (hv ▸ r)
theorem go_ior (X : Stand p l e R s m args below meth c T locs cells slots) (hx : p.tables.exec = Jvm.exec) {x y v : Int32} (hd : decode c.code pc = .ok (.ior, 1)) (hp : pc + 1 = q) (hv : x ||| y = v) (K : Go p e below s Q ce sl T (mkF m q ls (.int v :: st))) : Go p e below s Q ce sl T (mkF m pc ls (.int y :: .int x :: st)) := by
  subst hp
  exact K.to fun _ r => XS.ior X.here hx rfl hd rfl (hv ▸ r)
theorem go_ixor (X : Stand p l e R s m args below meth c T locs cells slots) (hx : p.tables.exec = Jvm.exec) {x y v : Int32} (hd : decode c.code pc = .ok (.ixor, 1)) (hp : pc + 1 = q) (hv : x ^^^ y = v) (K : Go p e below s Q ce sl T (mkF m q ls (.int v :: st))) : Go p e below s Q ce sl T (mkF m pc ls (.int y :: .int x :: st)) := by
  subst hp
  exact K.to fun _ r => XS.ixor X.here hx rfl hd rfl (hv ▸ r)
theorem go_ineg (X : Stand p l e R s m args below meth c T locs cells slots) (hx : p.tables.exec = Jvm.exec) {x v : Int32} (hd : decode c.code pc = .ok (.ineg, 1)) (hp : pc + 1 = q) (hv : -x = v) (K : Go p e below s Q ce sl T (mkF m q ls (.int v :: st))) : Go p e below s Q ce sl T (mkF m pc ls (.int x :: st)) := by
  subst hp
  exact K.to fun _ r => XS.ineg X.here hx rfl hd rfl (hv ▸ r)
theorem go_idiv (X : Stand p l e R s m args below meth c T locs cells slots) (hx : p.tables.exec = Jvm.exec) {x y v : Int32} (hd : decode c.code pc = .ok (.idiv, 1)) (hp : pc + 1 = q) (hy : y ≠ 0) (hv : x / y = v) (K : Go p e below s Q ce sl T (mkF m q ls (.int v :: st))) : Go p e below s Q ce sl T (mkF m pc ls (.int y :: .int x :: st)) := by
  subst hp
  exact K.to fun _ r => XS.idiv X.here hx rfl hd rfl hy (hv ▸ r)
theorem go_ladd (X : Stand p l e R s m args below meth c T locs cells slots) (hx : p.tables.exec = Jvm.exec) {x y v : Int64} (hd : decode c.code pc = .ok (.ladd, 1)) (hp : pc + 1 = q) (hv : x + y = v) (K : Go p e below s Q ce sl T (mkF m q ls (.long v :: st))) : Go p e below s Q ce sl T (mkF m pc ls (.long y :: .long x :: st)) := by
  subst hp
  exact K.to fun _ r => XS.ladd X.here hx rfl hd rfl (hv ▸ r)
theorem go_lsub (X : Stand p l e R s m args below meth c T locs cells slots) (hx : p.tables.exec = Jvm.exec) {x y v : Int64} (hd : decode c.code pc = .ok (.lsub, 1)) (hp : pc + 1 = q) (hv : x - y = v) (K : Go p e below s Q ce sl T (mkF m q ls (.long v :: st))) : Go p e below s Q ce sl T (mkF m pc ls (.long y :: .long x :: st)) := by
  subst hp
  exact K.to fun _ r => XS.lsub X.here hx rfl hd rfl (hv ▸ r)
theorem go_lmul (X : Stand p l e R s m args below meth c T locs cells slots) (hx : p.tables.exec = Jvm.exec) {x y v : Int64} (hd : decode c.code pc = .ok (.lmul, 1)) (hp : pc + 1 = q) (hv : x * y = v) (K : Go p e below s Q ce sl T (mkF m q ls (.long v :: st))) : Go p e below s Q ce sl T (mkF m pc ls (.long y :: .long x :: st)) := by
  subst hp
  exact K.to fun _ r => XS.lmul X.here hx rfl hd rfl (hv ▸ r)
theorem go_land (X : Stand p l e R s m args below meth c T locs cells slots) (hx : p.tables.exec = Jvm.exec) {x y v : Int64} (hd : decode c.code pc = .ok (.land, 1)) (hp : pc + 1 = q) (hv : x &&& y = v) (K : Go p e below s Q ce sl T (mkF m q ls (.long v :: st))) : Go p e below s Q ce sl T (mkF m pc ls (.long y :: .long x :: st)) := by
  subst hp
  exact K.to fun _ r => XS.land X.here hx rfl hd rfl (hv ▸ r)
theorem go_lor (X : Stand p l e R s m args below meth c T locs cells slots) (hx : p.tables.exec = Jvm.exec) {x y v : Int64} (hd : decode c.code pc = .ok (.lor, 1)) (hp : pc + 1 = q) (hv : x ||| y = v) (K : Go p e below s Q ce sl T (mkF m q ls (.long v :: st))) : Go p e below s Q ce sl T (mkF m pc ls (.long y :: .long x :: st)) := by
  subst hp
  exact K.to fun _ r => XS.lor X.here hx rfl hd rfl (hv ▸ r)
theorem go_lxor (X : Stand p l e R s m args below meth c T locs cells slots) (hx : p.tables.exec = Jvm.exec) {x y v : Int64} (hd : decode c.code pc = .ok (.lxor, 1)) (hp : pc + 1 = q) (hv : x ^^^ y = v) (K : Go p e below s Q ce sl T (mkF m q ls (.long v :: st))) : Go p e below s Q ce sl T (mkF m pc ls (.long y :: .long x :: st)) := by
  subst hp
  exact K.to fun _ r => XS.lxor X.here hx rfl hd rfl (hv ▸ r)
theorem go_lneg (X : Stand p l e R s m args below meth c T locs cells slots) (hx : p.tables.exec = Jvm.exec) {x v : Int64} (hd : decode c.code pc = .ok (.lneg, 1)) (hp : pc + 1 = q) (hv : -x = v) (K : Go p e below s Q ce sl T (mkF m q ls (.long v :: st))) : Go p e below s Q ce sl T (mkF m pc ls (.long x :: st)) := by
  subst hp
  exact K.to fun _ r => XS.lneg X.here hx rfl hd rfl (hv ▸ r)
theorem go_ldiv (X : Stand p l e R s m args below meth c T locs cells slots) (hx : p.tables.exec = Jvm.exec) {x y v : Int64} (hd : decode c.code pc = .ok (.ldiv, 1)) (hp : pc + 1 = q) (hy : y ≠ 0) (hv : x / y = v) (K : Go p e below s Q ce sl T (mkF m q ls (.long v :: st))) : Go p e below s Q ce sl T (mkF m pc ls (.long y :: .long x :: st)) := by
  subst hp
  exact K.to fun _ r => XS.ldiv X.here hx rfl hd rfl hy (hv ▸ r)
theorem go_irem (X : Stand p l e R s m args below meth c T locs cells slots) (hx : p.tables.exec = Jvm.exec) {x y v : Int32} (hd : decode c.code pc = .ok (.irem, 1)) (hp : pc + 1 = q) (hy : y ≠ 0) (hv : x % y = v) (K : Go p e below s Q ce sl T (mkF m q ls (.int v :: st))) : Go p e below s Q ce sl T (mkF m pc ls (.int y :: .int x :: st)) := by
  subst hp
  exact K.to fun _ r => iremM X hx rfl hd rfl hy (hv ▸ r)
theorem go_lrem (X : Stand p l e R s m args below meth c T locs cells slots) (hx : p.tables.exec = Jvm.exec) {x y v : Int64} (hd : decode c.code pc = .ok (.lrem, 1)) (hp : pc + 1 = q) (hy : y ≠ 0) (hv : x % y = v) (K : Go p e below s Q ce sl T (mkF m q ls (.long v :: st))) : Go p e below s Q ce sl T (mkF m pc ls (.long y :: .long x :: st)) := by
  subst hp
  exact K.to fun _ r => XS.lrem X.here hx rfl hd rfl hy ((lrem_mod x y).symm ▸ hv ▸ r)
theorem go_ishl (X : Stand p l e R s m args below meth c T locs cells slots) (hx : p.tables.exec = Jvm.exec) {x v : Int32} {y : Int32} (hd : decode c.code pc = .ok (.ishl, 1)) (hp : pc + 1 = q) (hv : (x <<< (y &&& 31)) = v) (K : Go p e below s Q ce sl T (mkF m q ls (.int v :: st))) : Go p e below s Q ce sl T (mkF m pc ls (.int y :: .int x :: st)) := by
  subst hp
  exact K.to fun _ r => XS.ishl X.here hx rfl hd rfl (hv ▸ r)
theorem go_ishr (X : Stand p l e R s m args below meth c T locs cells slots) (hx : p.tables.exec = Jvm.exec) {x v : Int32} {y : Int32} (hd : decode c.code pc = .ok (.ishr, 1)) (hp : pc + 1 = q) (hv : (x >>> (y &&& 31)) = v) (K : Go p e below s Q ce sl T (mkF m q ls (.int v :: st))) : Go p e below s Q ce sl T (mkF m pc ls (.int y :: .int x :: st)) := by
  subst hp
  exact K.to fun _ r => XS.ishr X.here hx rfl hd rfl (hv ▸ r)
theorem go_iushr (X : Stand p l e R s m args below meth c T locs cells slots) (hx : p.tables.exec = Jvm.exec) {x v : Int32} {y : Int32} (hd : decode c.code pc = .ok (.iushr, 1)) (hp : pc + 1 = q) (hv : ((x.toUInt32 >>> (y &&& 31).toUInt32).toInt32) = v) (K : Go p e below s Q ce sl T (mkF m q ls (.int v :: st))) : Go p e below s Q ce sl T (mkF m pc ls (.int y :: .int x :: st)) := by
  subst hp
  exact K.to fun _ r => XS.iushr X.here hx rfl hd rfl (hv ▸ r)
theorem go_lshl (X : Stand p l e R s m args below meth c T locs cells slots) (hx : p.tables.exec = Jvm.exec) {x v : Int64} {y : Int32} (hd : decode c.code pc = .ok (.lshl, 1)) (hp : pc + 1 = q) (hv : (x <<< (y &&& 0x3f).toInt64) = v) (K : Go p e below s Q ce sl T (mkF m q ls (.long v :: st))) : Go p e below s Q ce sl T (mkF m pc ls (.int y :: .long x :: st)) := by
  subst hp
  exact K.to fun _ r => XS.lshl X.here hx rfl hd rfl (hv ▸ r)
theorem go_lshr (X : Stand p l e R s m args below meth c T locs cells slots) (hx : p.tables.exec = Jvm.exec) {x v : Int64} {y : Int32} (hd : decode c.code pc = .ok (.lshr, 1)) (hp : pc + 1 = q) (hv : (x >>> (y &&& 0x3f).toInt64) = v) (K : Go p e below s Q ce sl T (mkF m q ls (.long v :: st))) : Go p e below s Q ce sl T (mkF m pc ls (.int y :: .long x :: st)) := by
  subst hp
  exact K.to fun _ r => XS.lshr X.here hx rfl hd rfl (hv ▸ r)
theorem go_lushr (X : Stand p l e R s m args below meth c T locs cells slots) (hx : p.tables.exec = Jvm.exec) {x v : Int64} {y : Int32} (hd : decode c.code pc = .ok (.lushr, 1)) (hp : pc + 1 = q) (hv : ((x.toUInt64 >>> (y &&& 0x3f).toInt64.toUInt64).toInt64) = v) (K : Go p e below s Q ce sl T (mkF m q ls (.long v :: st))) : Go p e below s Q ce sl T (mkF m pc ls (.int y :: .long x :: st)) := by
  subst hp
  exact K.to fun _ r => XS.lushr X.here hx rfl hd rfl (hv ▸ r)
theorem go_i2l (X : Stand p l e R s m args below meth c T locs cells slots) (hx : p.tables.exec = Jvm.exec) {x : Int32} {v : Int64} (hd : decode c.code pc = .ok (.i2l, 1)) (hp : pc + 1 = q) (hv : x.toInt64 = v) (K : Go p e below s Q ce sl T (mkF m q ls (.long v :: st))) : Go p e below s Q ce sl T (mkF m pc ls (.int x :: st)) := by
  subst hp
  exact K.to fun _ r => XS.i2l X.here hx rfl hd rfl (hv ▸ r)
theorem go_l2i (X : Stand p l e R s m args below meth c T locs cells slots) (hx : p.tables.exec = Jvm.exec) {x : Int64} {v : Int32} (hd : decode c.code pc = .ok (.l2i, 1)) (hp : pc + 1 = q) (hv : x.toInt32 = v) (K : Go p e below s Q ce sl T (mkF m q ls (.int v :: st))) : Go p e below s Q ce sl T (mkF m pc ls (.long x :: st)) := by
  subst hp
  exact K.to fun _ r => XS.l2i X.here hx rfl hd rfl (hv ▸ r)
theorem go_i2b (X : Stand p l e R s m args below meth c T locs cells slots) (hx : p.tables.exec = Jvm.exec) {x : Int32} {v : Int32} (hd : decode c.code pc = .ok (.i2b, 1)) (hp : pc + 1 = q) (hv : x.toInt8.toInt32 = v) (K : Go p e below s Q ce sl T (mkF m q ls (.int v :: st))) : Go p e below s Q ce sl T (mkF m pc ls (.int x :: st)) := by
  subst hp
  exact K.to fun _ r => XS.i2b X.here hx rfl hd rfl (hv ▸ r)
theorem go_i2s (X : Stand p l e R s m args below meth c T locs cells slots) (hx : p.tables.exec = Jvm.exec) {x : Int32} {v : Int32} (hd : decode c.code pc = .ok (.i2s, 1)) (hp : pc + 1 = q) (hv : x.toInt16.toInt32 = v) (K : Go p e below s Q ce sl T (mkF m q ls (.int v :: st))) : Go p e below s Q ce sl T (mkF m pc ls (.int x :: st)) := by
  subst hp
  exact K.to fun _ r => XS.i2s X.here hx rfl hd rfl (hv ▸ r)
theorem go_i2c (X : Stand p l e R s m args below meth c T locs cells slots) (hx : p.tables.exec = Jvm.exec) {x : Int32} {v : Int32} (hd : decode c.code pc = .ok (.i2c, 1)) (hp : pc + 1 = q) (hv : x.toUInt32.toUInt16.toUInt32.toInt32 = v) (K : Go p e below s Q ce sl T (mkF m q ls (.int v :: st))) : Go p e below s Q ce sl T (mkF m pc ls (.int x :: st)) := by
  subst hp
  exact K.to fun _ r => XS.i2c X.here hx rfl hd rfl (hv ▸ r)
theorem go_lcmp (X : Stand p l e R s m args below meth c T locs cells slots) (hx : p.tables.exec = Jvm.exec) {x y : Int64} (hd : decode c.code pc = .ok (.lcmp, 1)) (hp : pc + 1 = q)  (K : Go p e below s Q ce sl T (mkF m q ls (.int (lcmpW x y) :: st))) : Go p e below s Q ce sl T (mkF m pc ls (.long y :: .long x :: st)) := by
  subst hp
  exact K.to fun _ r => XS.lcmp X.here hx rfl hd rfl r
theorem go_i2d (X : Stand p l e R s m args below meth c T locs cells slots) (hx : p.tables.exec = Jvm.exec) {x : Int32} {v : UInt64} (hd : decode c.code pc = .ok (.i2d, 1)) (hp : pc + 1 = q) (hv : FP.i2d x = v) (K : Go p e below s Q ce sl T (mkF m q ls (.double v :: st))) : Go p e below s Q ce sl T (mkF m pc ls (.int x :: st)) := by
  subst hp
  exact K.to fun _ r => XS.i2dS X.here hx rfl hd rfl hv r
theorem go_l2d (X : Stand p l e R s m args below meth c T locs cells slots) (hx : p.tables.exec = Jvm.exec) {x : Int64} {v : UInt64} (hd : decode c.code pc = .ok (.l2d, 1)) (hp : pc + 1 = q) (hv : FP.l2d x = v) (K : Go p e below s Q ce sl T (mkF m q ls (.double v :: st))) : Go p e below s Q ce sl T (mkF m pc ls (.long x :: st)) := by
  subst hp
  exact K.to fun _ r => XS.l2dS X.here hx rfl hd rfl hv r
theorem go_d2l (X : Stand p l e R s m args below meth c T locs cells slots) (hx : p.tables.exec = Jvm.exec) {x : UInt64} {v : Int64} (hd : decode c.code pc = .ok (.d2l, 1)) (hp : pc + 1 = q) (hv : FP.d2l x = v) (K : Go p e below s Q ce sl T (mkF m q ls (.long v :: st))) : Go p e below s Q ce sl T (mkF m pc ls (.double x :: st)) := by
  subst hp
  exact K.to fun _ r => XS.d2lS X.here hx rfl hd rfl hv r
theorem go_i2f (X : Stand p l e R s m args below meth c T locs cells slots) (hx : p.tables.exec = Jvm.exec) {x : Int32} {v : UInt32} (hd : decode c.code pc = .ok (.i2f, 1)) (hp : pc + 1 = q) (hv : FP.i2f x = v) (K : Go p e below s Q ce sl T (mkF m q ls (.float v :: st))) : Go p e below s Q ce sl T (mkF m pc ls (.int x :: st)) := by
  subst hp
  exact K.to fun _ r => XS.i2fS X.here hx rfl hd rfl hv r
theorem go_f2d (X : Stand p l e R s m args below meth c T locs cells slots) (hx : p.tables.exec = Jvm.exec) {x : UInt32} {v : UInt64} (hd : decode c.code pc = .ok (.f2d, 1)) (hp : pc + 1 = q) (hn : Jvm.Free.Fl.NoNaN64 (FP.f2d x)) (hv : FP.f2d x = v) (K : Go p e below s Q ce sl T (mkF m q ls (.double v :: st))) : Go p e below s Q ce sl T (mkF m pc ls (.float x :: st)) := by
  subst hp
  exact K.to fun _ r => XS.f2dS X.here hx rfl hd rfl hn hv r
theorem go_dcmp (X : Stand p l e R s m args below meth c T locs cells slots) (hx : p.tables.exec = Jvm.exec) {o : CmpOp} {x y : UInt64} {v : Int32} (hd : decode c.code pc = .ok (.dcmp o, 1)) (hp : pc + 1 = q) (hv : cmpValue (FP.dcmp x y) o = v) (K : Go p e below s Q ce sl T (mkF m q ls (.int v :: st))) : Go p e below s Q ce sl T (mkF m pc ls (.double y :: .double x :: st)) := by
  subst hp
  exact K.to fun _ r => XS.dcmpS X.here hx rfl hd rfl hv r
theorem go_dadd (X : Stand p l e R s m args below meth c T locs cells slots) (hx : p.tables.exec = Jvm.exec) {x y v : UInt64} (hd : decode c.code pc = .ok (.dadd, 1)) (hp : pc + 1 = q) (hn : Jvm.Free.Fl.NoNaN64 (FP.dadd x y)) (hv : FP.dadd x y = v) (K : Go p e below s Q ce sl T (mkF m q ls (.double v :: st))) : Go p e below s Q ce sl T (mkF m pc ls (.double y :: .double x :: st)) := by
  subst hp
  exact K.to fun _ r => XS.daddS X.here hx rfl hd rfl hn hv r
theorem go_dsub (X : Stand p l e R s m args below meth c T locs cells slots) (hx : p.tables.exec = Jvm.exec) {x y v : UInt64} (hd : decode c.code pc = .ok (.dsub, 1)) (hp : pc + 1 = q) (hn : Jvm.Free.Fl.NoNaN64 (FP.dsub x y)) (hv : FP.dsub x y = v) (K : Go p e below s Q ce sl T (mkF m q ls (.double v :: st))) : Go p e below s Q ce sl T (mkF m pc ls (.double y :: .double x :: st)) := by
  subst hp
  exact K.to fun _ r => XS.dsubS X.here hx rfl hd rfl hn hv r
theorem go_dmul (X : Stand p l e R s m args below meth c T locs cells slots) (hx : p.tables.exec = Jvm.exec) {x y v : UInt64} (hd : decode c.code pc = .ok (.dmul, 1)) (hp : pc + 1 = q) (hn : Jvm.Free.Fl.NoNaN64 (FP.dmul x y)) (hv : FP.dmul x y = v) (K : Go p e below s Q ce sl T (mkF m q ls (.double v :: st))) : Go p e below s Q ce sl T (mkF m pc ls (.double y :: .double x :: st)) := by
  subst hp
  exact K.to fun _ r => XS.dmulS X.here hx rfl hd rfl hn hv r
theorem go_ddiv (X : Stand p l e R s m args below meth c T locs cells slots) (hx : p.tables.exec = Jvm.exec) {x y v : UInt64} (hd : decode c.code pc = .ok (.ddiv, 1)) (hp : pc + 1 = q) (hn : Jvm.Free.Fl.NoNaN64 (FP.ddiv x y)) (hv : FP.ddiv x y = v) (K : Go p e below s Q ce sl T (mkF m q ls (.double v :: st))) : Go p e below s Q ce sl T (mkF m pc ls (.double y :: .double x :: st)) := by
  subst hp
  exact K.to fun _ r => XS.ddivS X.here hx rfl hd rfl hn hv r
theorem go_dup (X : Stand p l e R s m args below meth c T locs cells slots) (hx : p.tables.exec = Jvm.exec) {v : Value} (hd : decode c.code pc = .ok (.dup, 1)) (hp : pc + 1 = q) (hv : v.category = 1) (K : Go p e below s Q ce sl T (mkF m q ls (v :: v :: st))) : Go p e below s Q ce sl T (mkF m pc ls (v :: st)) := by
  subst hp
  exact K.to fun _ r => XS.dup X.here hx rfl hd rfl hv r
theorem go_pop (X : Stand p l e R s m args below meth c T locs cells slots) (hx : p.tables.exec = Jvm.exec) {v : Value} (hd : decode c.code pc = .ok (.pop, 1)) (hp : pc + 1 = q) (hv : v.category = 1) (K : Go p e below s Q ce sl T (mkF m q ls st)) : Go p e below s Q ce sl T (mkF m pc ls (v :: st)) := by
  subst hp
  exact K.to fun _ r => XS.pop X.here hx rfl hd rfl hv r
theorem go_iinc (X : Stand p l e R s m args below meth c T locs cells slots) (hx : p.tables.exec = Jvm.exec) {k : Nat} {i : Int} {v : Int32} {l' : Array Slot} (hd : decode c.code pc = .ok (.iinc k i, 3)) (hp : pc + 3 = q) (hl : ls[k]? = some (.val (.int v))) (hs : storeLocals ls k (.int (v + Int32.ofInt i)) = some l') (K : Go p e below s Q ce sl T (mkF m q l' st)) : Go p e below s Q ce sl T (mkF m pc ls st) := by
  subst hp
  exact K.to fun _ r => XS.iinc X.here hx rfl hd hl hs r
theorem go_goto (X : Stand p l e R s m args below meth c T locs cells slots) (hx : p.tables.exec = Jvm.exec) {o : Int} (hd : decode c.code pc = .ok (.goto o, 3)) (ho : 0 ≤ (pc : Int) + o) (hq : ((pc : Int) + o).toNat = q) (K : Go p e below s Q ce sl T (mkF m q ls st)) : Go p e below s Q ce sl T (mkF m pc ls st) :=
  K.to fun _ r => XS.goto X.here hx rfl (pc0 := pc) rfl hd ho hq r
theorem go_icmp_lt (X : Stand p l e R s m args below meth c T locs cells slots) (hx : p.tables.exec = Jvm.exec) {x y : Int32} {o : Int} (hd : decode c.code pc = .ok (.if_icmp .lt o, 3)) (hp : pc + 3 = q) (ho : 0 ≤ (pc : Int) + o) (hq : ((pc : Int) + o).toNat = q') (KY : x < y → Go p e below s Q ce sl T (mkF m q' ls st)) (KN : ¬ x < y → Go p e below s Q ce sl T (mkF m q ls st)) : Go p e below s Q ce sl T (mkF m pc ls (.int y :: .int x :: st)) := by
  subst hp
  by_cases hc : x < y
  · exact (KY hc).to fun _ r => XS.icmpYes X.here hx rfl (pc0 := pc) rfl hd rfl (tlt hc).1 ho hq r
  · exact (KN hc).to fun _ r => XS.icmpNo X.here hx rfl hd rfl (flt hc).1 r
theorem go_if_lt (X : Stand p l e R s m args below meth c T locs cells slots) (hx : p.tables.exec = Jvm.exec) {x : Int32} {o : Int} (hd : decode c.code pc = .ok (.ifCond .lt o, 3)) (hp : pc + 3 = q) (ho : 0 ≤ (pc : Int) + o) (hq : ((pc : Int) + o).toNat = q') (KY : x < (0 : Int32) → Go p e below s Q ce sl T (mkF m q' ls st)) (KN : ¬ x < (0 : Int32) → Go p e below s Q ce sl T (mkF m q ls st)) : Go p e below s Q ce sl T (mkF m pc ls (.int x :: st)) := by
  subst hp
  by_cases hc : x < (0 : Int32)
  · exact (KY hc).to fun _ r => XS.ifYes X.here hx rfl (pc0 := pc) rfl hd rfl ((if0 _ _).trans (tlt hc).1) ho hq r
  · exact (KN hc).to fun _ r => XS.ifNo X.here hx rfl hd rfl ((if0 _ _).trans (flt hc).1) r
theorem go_lif_lt (X : Stand p l e R s m args below meth c T locs cells slots) (hx : p.tables.exec = Jvm.exec) {a b : Int64} {o : Int} (hd : decode c.code pc = .ok (.ifCond .lt o, 3)) (hp : pc + 3 = q) (ho : 0 ≤ (pc : Int) + o) (hq : ((pc : Int) + o).toNat = q') (KY : a < b → Go p e below s Q ce sl T (mkF m q' ls st)) (KN : ¬ a < b → Go p e below s Q ce sl T (mkF m q ls st)) : Go p e below s Q ce sl T (mkF m pc ls (.int (lcmpW a b) :: st)) :=
  go_if_lt X hx hd hp ho hq (fun w => KY ((lw_lt _ _).mp w)) (fun w => KN (fun z => w ((lw_lt _ _).mpr z)))
theorem go_icmp_ge (X : Stand p l e R s m args below meth c T locs cells slots) (hx : p.tables.exec = Jvm.exec) {x y : Int32} {o : Int} (hd : decode c.code pc = .ok (.if_icmp .ge o, 3)) (hp : pc + 3 = q) (ho : 0 ≤ (pc : Int) + o) (hq : ((pc : Int) + o).toNat = q') (KY : ¬ x < y → Go p e below s Q ce sl T (mkF m q' ls st)) (KN : x < y → Go p e below s Q ce sl T (mkF m q ls st)) : Go p e below s Q ce sl T (mkF m pc ls (.int y :: .int x :: st)) := by
  subst hp
  by_cases hc : x < y
  · exact (KN hc).to fun _ r => XS.icmpNo X.here hx rfl hd rfl (tlt hc).2.1 r
  · exact (KY hc).to fun _ r => XS.icmpYes X.here hx rfl (pc0 := pc) rfl hd rfl (flt hc).2.1 ho hq r
theorem go_if_ge (X : Stand p l e R s m args below meth c T locs cells slots) (hx : p.tables.exec = Jvm.exec) {x : Int32} {o : Int} (hd : decode c.code pc = .ok (.ifCond .ge o, 3)) (hp : pc + 3 = q) (ho : 0 ≤ (pc : Int) + o) (hq : ((pc : Int) + o).toNat = q') (KY : ¬ x < (0 : Int32) → Go p e below s Q ce sl T (mkF m q' ls st)) (KN : x < (0 : Int32) → Go p e below s Q ce sl T (mkF m q ls st)) : Go p e below s Q ce sl T (mkF m pc ls (.int x :: st)) := by
  subst hp
  by_cases hc : x < (0 : Int32)
  · exact (KN hc).to fun _ r => XS.ifNo X.here hx rfl hd rfl ((if0 _ _).trans (tlt hc).2.1) r
  · exact (KY hc).to fun _ r => XS.ifYes X.here hx rfl (pc0 := pc) rfl hd rfl ((if0 _ _).trans (flt hc).2.1) ho hq r
theorem go_lif_ge (X : Stand p l e R s m args below meth c T locs cells slots) (hx : p.tables.exec = Jvm.exec) {a b : Int64} {o : Int} (hd : decode c.code pc = .ok (.ifCond .ge o, 3)) (hp : pc + 3 = q) (ho : 0 ≤ (pc : Int) + o) (hq : ((pc : Int) + o).toNat = q') (KY : ¬ a < b → Go p e below s Q ce sl T (mkF m q' ls st)) (KN : a < b → Go p e below s Q ce sl T (mkF m q ls st)) : Go p e below s Q ce sl T (mkF m pc ls (.int (lcmpW a b) :: st)) :=
  go_if_ge X hx hd hp ho hq (fun w => KY (fun z => w ((lw_lt _ _).mpr z))) (fun w => KN ((lw_lt _ _).mp w))
theorem go_icmp_gt (X : Stand p l e R s m args below meth c T locs cells slots) (hx : p.tables.exec = Jvm.exec) {x y : Int32} {o : Int} (hd : decode c.code pc = .ok (.if_icmp .gt o, 3)) (hp : pc + 3 = q) (ho : 0 ≤ (pc : Int) + o) (hq : ((pc : Int) + o).toNat = q') (KY : y < x → Go p e below s Q ce sl T (mkF m q' ls st)) (KN : ¬ y < x → Go p e below s Q ce sl T (mkF m q ls st)) : Go p e below s Q ce sl T (mkF m pc ls (.int y :: .int x :: st)) := by
  subst hp
  by_cases hc : y < x
  · exact (KY hc).to fun _ r => XS.icmpYes X.here hx rfl (pc0 := pc) rfl hd rfl (tlt hc).2.2.1 ho hq r
  · exact (KN hc).to fun _ r => XS.icmpNo X.here hx rfl hd rfl (flt hc).2.2.1 r
theorem go_if_gt (X : Stand p l e R s m args below meth c T locs cells slots) (hx : p.tables.exec = Jvm.exec) {x : Int32} {o : Int} (hd : decode c.code pc = .ok (.ifCond .gt o, 3)) (hp : pc + 3 = q) (ho : 0 ≤ (pc : Int) + o) (hq : ((pc : Int) + o).toNat = q') (KY : (0 : Int32) < x → Go p e below s Q ce sl T (mkF m q' ls st)) (KN : ¬ (0 : Int32) < x → Go p e below s Q ce sl T (mkF m q ls st)) : Go p e below s Q ce sl T (mkF m pc ls (.int x :: st)) := by
  subst hp
  by_cases hc : (0 : Int32) < x
  · exact (KY hc).to fun _ r => XS.ifYes X.here hx rfl (pc0 := pc) rfl hd rfl ((if0 _ _).trans (tlt hc).2.2.1) ho hq r
  · exact (KN hc).to fun _ r => XS.ifNo X.here hx rfl hd rfl ((if0 _ _).trans (flt hc).2.2.1) r
theorem go_lif_gt (X : Stand p l e R s m args below meth c T locs cells slots) (hx : p.tables.exec = Jvm.exec) {a b : Int64} {o : Int} (hd : decode c.code pc = .ok (.ifCond .gt o, 3)) (hp : pc + 3 = q) (ho : 0 ≤ (pc : Int) + o) (hq : ((pc : Int) + o).toNat = q') (KY : b < a → Go p e below s Q ce sl T (mkF m q' ls st)) (KN : ¬ b < a → Go p e below s Q ce sl T (mkF m q ls st)) : Go p e below s Q ce sl T (mkF m pc ls (.int (lcmpW a b) :: st)) :=
  go_if_gt X hx hd hp ho hq (fun w => KY ((lw_gt _ _).mp w)) (fun w => KN (fun z => w ((lw_gt _ _).mpr z)))
theorem go_icmp_le (X : Stand p l e R s m args below meth c T locs cells slots) (hx : p.tables.exec = Jvm.exec) {x y : Int32} {o : Int} (hd : decode c.code pc = .ok (.if_icmp .le o, 3)) (hp : pc + 3 = q) (ho : 0 ≤ (pc : Int) + o) (hq : ((pc : Int) + o).toNat = q') (KY : ¬ y < x → Go p e below s Q ce sl T (mkF m q' ls st)) (KN : y < x → Go p e below s Q ce sl T (mkF m q ls st)) : Go p e below s Q ce sl T (mkF m pc ls (.int y :: .int x :: st)) := by
  subst hp
  by_cases hc : y < x
  · exact (KN hc).to fun _ r => XS.icmpNo X.here hx rfl hd rfl (tlt hc).2.2.2 r
  · exact (KY hc).to fun _ r => XS.icmpYes X.here hx rfl (pc0 := pc) rfl hd rfl (flt hc).2.2.2 ho hq r
theorem go_if_le (X : Stand p l e R s m args below meth c T locs cells slots) (hx : p.tables.exec = Jvm.exec) {x : Int32} {o : Int} (hd : decode c.code pc = .ok (.ifCond .le o, 3)) (hp : pc + 3 = q) (ho : 0 ≤ (pc : Int) + o) (hq : ((pc : Int) + o).toNat = q') (KY : ¬ (0 : Int32) < x → Go p e below s Q ce sl T (mkF m q' ls st)) (KN : (0 : Int32) < x → Go p e below s Q ce sl T (mkF m q ls st)) : Go p e below s Q ce sl T (mkF m pc ls (.int x :: st)) := by
  subst hp
  by_cases hc : (0 : Int32) < x
  · exact (KN hc).to fun _ r => XS.ifNo X.here hx rfl hd rfl ((if0 _ _).trans (tlt hc).2.2.2) r
  · exact (KY hc).to fun _ r => XS.ifYes X.here hx rfl (pc0 := pc) rfl hd rfl ((if0 _ _).trans (flt hc).2.2.2) ho hq r
theorem go_lif_le (X : Stand p l e R s m args below meth c T locs cells slots) (hx : p.tables.exec = Jvm.exec) {a b : Int64} {o : Int} (hd : decode c.code pc = .ok (.ifCond .le o, 3)) (hp : pc + 3 = q) (ho : 0 ≤ (pc : Int) + o) (hq : ((pc : Int) + o).toNat = q') (KY : ¬ b < a → Go p e below s Q ce sl T (mkF m q' ls st)) (KN : b < a → Go p e below s Q ce sl T (mkF m q ls st)) : Go p e below s Q ce sl T (mkF m pc ls (.int (lcmpW a b) :: st)) :=
  go_if_le X hx hd hp ho hq (fun w => KY (fun z => w ((lw_gt _ _).mpr z))) (fun w => KN ((lw_gt _ _).mp w))
theorem go_icmp_eq (X : Stand p l e R s m args below meth c T locs cells slots) (hx : p.tables.exec = Jvm.exec) {x y : Int32} {o : Int} (hd : decode c.code pc = .ok (.if_icmp .eq o, 3)) (hp : pc + 3 = q) (ho : 0 ≤ (pc : Int) + o) (hq : ((pc : Int) + o).toNat = q') (KY : x = y → Go p e below s Q ce sl T (mkF m q' ls st)) (KN : ¬ x = y → Go p e below s Q ce sl T (mkF m q ls st)) : Go p e below s Q ce sl T (mkF m pc ls (.int y :: .int x :: st)) := by
  subst hp
  by_cases hc : x = y
  · exact (KY hc).to fun _ r => XS.icmpYes X.here hx rfl (pc0 := pc) rfl hd rfl (teq hc).1 ho hq r
  · exact (KN hc).to fun _ r => XS.icmpNo X.here hx rfl hd rfl (feq hc).1 r
theorem go_if_eq (X : Stand p l e R s m args below meth c T locs cells slots) (hx : p.tables.exec = Jvm.exec) {x : Int32} {o : Int} (hd : decode c.code pc = .ok (.ifCond .eq o, 3)) (hp : pc + 3 = q) (ho : 0 ≤ (pc : Int) + o) (hq : ((pc : Int) + o).toNat = q') (KY : x = (0 : Int32) → Go p e below s Q ce sl T (mkF m q' ls st)) (KN : ¬ x = (0 : Int32) → Go p e below s Q ce sl T (mkF m q ls st)) : Go p e below s Q ce sl T (mkF m pc ls (.int x :: st)) := by
  subst hp
  by_cases hc : x = (0 : Int32)
  · exact (KY hc).to fun _ r => XS.ifYes X.here hx rfl (pc0 := pc) rfl hd rfl ((if0 _ _).trans (teq hc).1) ho hq r
  · exact (KN hc).to fun _ r => XS.ifNo X.here hx rfl hd rfl ((if0 _ _).trans (feq hc).1) r
theorem go_lif_eq (X : Stand p l e R s m args below meth c T locs cells slots) (hx : p.tables.exec = Jvm.exec) {a b : Int64} {o : Int} (hd : decode c.code pc = .ok (.ifCond .eq o, 3)) (hp : pc + 3 = q) (ho : 0 ≤ (pc : Int) + o) (hq : ((pc : Int) + o).toNat = q') (KY : a = b → Go p e below s Q ce sl T (mkF m q' ls st)) (KN : ¬ a = b → Go p e below s Q ce sl T (mkF m q ls st)) : Go p e below s Q ce sl T (mkF m pc ls (.int (lcmpW a b) :: st)) :=
  go_if_eq X hx hd hp ho hq (fun w => KY ((lw_eq _ _).mp w)) (fun w => KN (fun z => w ((lw_eq _ _).mpr z)))
theorem go_icmp_ne (X : Stand p l e R s m args below meth c T locs cells slots) (hx : p.tables.exec = Jvm.exec) {x y : Int32} {o : Int} (hd : decode c.code pc = .ok (.if_icmp .ne o, 3)) (hp : pc + 3 = q) (ho : 0 ≤ (pc : Int) + o) (hq : ((pc : Int) + o).toNat = q') (KY : ¬ x = y → Go p e below s Q ce sl T (mkF m q' ls st)) (KN : x = y → Go p e below s Q ce sl T (mkF m q ls st)) : Go p e below s Q ce sl T (mkF m pc ls (.int y :: .int x :: st)) := by
  subst hp
  by_cases hc : x = y
  · exact (KN hc).to fun _ r => XS.icmpNo X.here hx rfl hd rfl (teq hc).2 r
  · exact (KY hc).to fun _ r => XS.icmpYes X.here hx rfl (pc0 := pc) rfl hd rfl (feq hc).2 ho hq r
theorem go_if_ne (X : Stand p l e R s m args below meth c T locs cells slots) (hx : p.tables.exec = Jvm.exec) {x : Int32} {o : Int} (hd : decode c.code pc = .ok (.ifCond .ne o, 3)) (hp : pc + 3 = q) (ho : 0 ≤ (pc : Int) + o) (hq : ((pc : Int) + o).toNat = q') (KY : ¬ x = (0 : Int32) → Go p e below s Q ce sl T (mkF m q' ls st)) (KN : x = (0 : Int32) → Go p e below s Q ce sl T (mkF m q ls st)) : Go p e below s Q ce sl T (mkF m pc ls (.int x :: st)) := by
  subst hp
  by_cases hc : x = (0 : Int32)
  · exact (KN hc).to fun _ r => XS.ifNo X.here hx rfl hd rfl ((if0 _ _).trans (teq hc).2) r
  · exact (KY hc).to fun _ r => XS.ifYes X.here hx rfl (pc0 := pc) rfl hd rfl ((if0 _ _).trans (feq hc).2) ho hq r
theorem go_lif_ne (X : Stand p l e R s m args below meth c T locs cells slots) (hx : p.tables.exec = Jvm.exec) {a b : Int64} {o : Int} (hd : decode c.code pc = .ok (.ifCond .ne o, 3)) (hp : pc + 3 = q) (ho : 0 ≤ (pc : Int) + o) (hq : ((pc : Int) + o).toNat = q') (KY : ¬ a = b → Go p e below s Q ce sl T (mkF m q' ls st)) (KN : a = b → Go p e below s Q ce sl T (mkF m q ls st)) : Go p e below s Q ce sl T (mkF m pc ls (.int (lcmpW a b) :: st)) :=
  go_if_ne X hx hd hp ho hq (fun w => KY (fun z => w ((lw_eq _ _).mpr z))) (fun w => KN ((lw_eq _ _).mp w))
theorem go_ret (X : Stand p l e R s m args below meth c T locs cells slots) (hx : p.tables.exec = Jvm.exec) {w : Value} {t : FieldType} {i : Instr} (hret : meth.sig.returnType = some t) (hlk : meth.locks = false) (hn : narrow t w = w)
    (hi : (i = .ireturn ∧ (t = .int ∨ t = .boolean ∨ t = .byte ∨ t = .char ∨ t = .short) ∧ ∃ z, w = .int z) ∨ (i = .lreturn ∧ t = .long ∧ ∃ z, w = .long z) ∨ (i = .dreturn ∧ t = .double ∧ ∃ z, w = .double z) ∨ (i = .freturn ∧ t = .float ∧ ∃ z, w = .float z) ∨ (i = .areturn ∧ t.isReference = true ∧ w.isRef = true))
    (hd : decode c.code pc = .ok (i, 1)) (hc : cells ≤ ce) (hs : slots ≤ sl) (hQ : Q (some w) T.heap locs) : Go p e below s Q ce sl T (mkF m pc ls (w :: st)) := by
  obtain ⟨fs, hr, hrun, hended, hW, hsame⟩ := X.leave (v := some w) (fun h => by rw [hret] at h; cases h) hlk
  exact ⟨_, _, retOut X hx hret hn hi hd hr, hrun, hended, _, _, rfl, hQ, ⟨_, rfl⟩, hW, hsame.mono hc hs⟩
theorem go_retD (X : Stand p l e R s m args below meth c T locs cells slots) (hx : p.tables.exec = Jvm.exec) {v : UInt64} (hret : meth.sig.returnType = some .double) (hlk : meth.locks = false) (hd : decode c.code pc = .ok (.dreturn, 1)) (hc : cells ≤ ce) (hs : slots ≤ sl) (hQ : Q (some (.double v)) T.heap locs) : Go p e below s Q ce sl T (mkF m pc ls (.double v :: st)) :=
  go_ret X hx hret hlk rfl (Or.inr (Or.inr (Or.inl ⟨rfl, rfl, v, rfl⟩))) hd hc hs hQ
theorem go_retJ (X : Stand p l e R s m args below meth c T locs cells slots) (hx : p.tables.exec = Jvm.exec) {v : Int64} (hret : meth.sig.returnType = some .long) (hlk : meth.locks = false) (hd : decode c.code pc = .ok (.lreturn, 1)) (hc : cells ≤ ce) (hs : slots ≤ sl) (hQ : Q (some (.long v)) T.heap locs) : Go p e below s Q ce sl T (mkF m pc ls (.long v :: st)) :=
  go_ret X hx hret hlk rfl (Or.inr (Or.inl ⟨rfl, rfl, v, rfl⟩)) hd hc hs hQ
theorem go_retI (X : Stand p l e R s m args below meth c T locs cells slots) (hx : p.tables.exec = Jvm.exec) {v : Int32} (hret : meth.sig.returnType = some .int) (hlk : meth.locks = false) (hd : decode c.code pc = .ok (.ireturn, 1)) (hc : cells ≤ ce) (hs : slots ≤ sl) (hQ : Q (some (.int v)) T.heap locs) : Go p e below s Q ce sl T (mkF m pc ls (.int v :: st)) :=
  go_ret X hx hret hlk rfl (Or.inl ⟨rfl, Or.inl rfl, v, rfl⟩) hd hc hs hQ
theorem go_retA (X : Stand p l e R s m args below meth c T locs cells slots) (hx : p.tables.exec = Jvm.exec) {v : Value} {t : FieldType} (hret : meth.sig.returnType = some t) (hlk : meth.locks = false) (ht : t.isReference = true) (hv : v.isRef = true) (hn : narrow t v = v) (hd : decode c.code pc = .ok (.areturn, 1)) (hc : cells ≤ ce) (hs : slots ≤ sl) (hQ : Q (some v) T.heap locs) : Go p e below s Q ce sl T (mkF m pc ls (v :: st)) :=
  go_ret X hx hret hlk hn (Or.inr (Or.inr (Or.inr (Or.inr ⟨rfl, ht, hv⟩)))) hd hc hs hQ
theorem go_retN (X : Stand p l e R s m args below meth c T locs cells slots) (hx : p.tables.exec = Jvm.exec) {z : Int32} {t : FieldType} (ht : t = .boolean ∨ t = .byte ∨ t = .char ∨ t = .short) (hret : meth.sig.returnType = some t) (hlk : meth.locks = false) (hd : decode c.code pc = .ok (.ireturn, 1)) (hc : cells ≤ ce) (hs : slots ≤ sl) (hQ : Q (some (.int (nar t z))) T.heap locs) : Go p e below s Q ce sl T (mkF m pc ls (.int z :: st)) := by
  obtain ⟨fs, hr, hrun, hended, hW, hsame⟩ := X.leave (v := some (.int (nar t z))) (fun h => by rw [hret] at h; cases h) hlk
  exact ⟨_, _, retN X hx hret ht hd hr, hrun, hended, _, _, rfl, hQ, ⟨_, rfl⟩, hW, hsame.mono hc hs⟩
theorem go_retV (X : Stand p l e R s m args below meth c T locs cells slots) (hx : p.tables.exec = Jvm.exec) (hret : meth.sig.returnType = none) (hlk : meth.locks = false) (hd : decode c.code pc = .ok (.return_, 1)) (hc : cells ≤ ce) (hs : slots ≤ sl) (hQ : Q none T.heap locs) : Go p e below s Q ce sl T (mkF m pc ls []) := by
  obtain ⟨fs, hr, hrun, hended, hW, hsame⟩ := X.leave (v := none) (fun _ => rfl) hlk
  exact ⟨_, _, X.returnOut hx hret hd hr, hrun, hended, _, _, rfl, hQ, ⟨_, rfl⟩, hW, hsame.mono hc hs⟩
theorem go_ldcI (X : Stand p l e R s m args below meth c T locs cells slots) (hx : p.tables.exec = Jvm.exec) (hZ : Z.Warmed39 s.vm) {own : String} {index : Nat} {v : Int32} (hown : s.vm.findClass own = some m.cls) (w : (Jvm.Cond.constant own index v).before a0 Z = true) (hd : decode c.code pc = .ok (.ldc index, 2)) (hp : pc + 2 = q) (K : Go p e below s Q ce sl T (mkF m q ls (.int v :: st))) : Go p e below s Q ce sl T (mkF m pc ls st) := by
  subst hp
  exact K.to fun t r => X.ldcInt hx hown (mvT hZ w) (g := mkF m pc ls st) rfl hd t r
theorem go_ldc2J (X : Stand p l e R s m args below meth c T locs cells slots) (hx : p.tables.exec = Jvm.exec) (hZ : Z.Warmed39 s.vm) {own : String} {index : Nat} {v : Int64} (hown : s.vm.findClass own = some m.cls) (w : (Jvm.Cond.constantLong own index v).before a0 Z = true) (hd : decode c.code pc = .ok (.ldc2_w index, 3)) (hp : pc + 3 = q) (K : Go p e below s Q ce sl T (mkF m q ls (.long v :: st))) : Go p e below s Q ce sl T (mkF m pc ls st) := by
  subst hp
  exact K.to fun t r => X.ldc2Long hx hown (mvT hZ w) (g := mkF m pc ls st) rfl hd t r
theorem go_ldc2D (X : Stand p l e R s m args below meth c T locs cells slots) (hx : p.tables.exec = Jvm.exec) (hZ : Z.Warmed39 s.vm) {own : String} {index : Nat} {v : UInt64} (hown : s.vm.findClass own = some m.cls) (w : (Jvm.Cond.constantDouble own index v).before a0 Z = true) (hd : decode c.code pc = .ok (.ldc2_w index, 3)) (hp : pc + 3 = q) (K : Go p e below s Q ce sl T (mkF m q ls (.double v :: st))) : Go p e below s Q ce sl T (mkF m pc ls st) := by
  subst hp
  exact K.to fun t r => X.ldc2DoubleC hx hown (mvT hZ w) (g := mkF m pc ls st) rfl hd t r
theorem go_callS (X : Stand p l e R s m args below meth c T locs cells slots) (hx : p.tables.exec = Jvm.exec) (hZ : Z.Warmed39 s.vm) {own : String} {index : Nat} {y : MethodName} {bytes : ByteArray} {maxL : Nat} {ret : Option FieldType} {rm : Room} {W : Nat} {Qc : Option Value → Heap → List Loc → Prop} (hown : s.vm.findClass own = some m.cls) (eT : T.heap = h)
    (w1 : (Jvm.Cond.methodLink own index y).before a0 Z = true) (w2 : (Jvm.Cond.static y).before a0 Z = true) (w3 : (Jvm.Cond.initialized y.cls).before a0 Z = true) (w4 : (Jvm.Cond.code y bytes maxL ret).before a0 Z = true) (hy : y.cls ≠ "java/lang/invoke/MethodHandle" ∧ y.cls ≠ "java/lang/invoke/VarHandle")
    (argsL rest : List Value) (hM : Con l y bytes maxL ret [] rm Z argsL.toArray h Qc) (hsz : ls.size = c.maxLocals) (hst : st = argsL.reverse ++ rest) (hlen : ∀ sig, parseMethodDescriptor y.desc = some sig → argsL.length = sig.parameters.length) (hW : (rest.map fun v => v.category).sum ≤ W)
    (hf : rm.frames + 1 ≤ R.frames) (hl : W + (maxL + 11) + rm.locals ≤ R.locals) (hd : decode c.code pc = .ok (.invokestatic index, 3)) (hp : pc + 3 = q) (hc : cells + rm.cells ≤ R.cells) (hs : slots + rm.slots ≤ R.slots)
    (K : ∀ (T' : State) (L : List Loc) (v : Option Value), Stand p l e R s m args below meth c T' (locs ++ L) (cells + rm.cells) (slots + rm.slots) → Qc v T'.heap L → Go p e below s Q ce sl T' (mkF m q ls (v.toList ++ rest))) : Go p e below s Q ce sl T (mkF m pc ls st) := by
  subst hp
  obtain ⟨v, _, ⟨T', L', k', n'⟩, -, X', ⟨Lc, hQ, l1, y1, z1⟩, stp⟩ := Jvm.LawKit.callS X hx (y := y) hown (mvT hZ w1) (mvT hZ w2) (mvT hZ w3) (mvT hZ w4) hy (backOf (W := W) hM hZ w4 w3 hf hl) (g := mkF m pc ls st) rfl hsz (argsL := argsL) (rest := rest) hlen hst (by show 2 * 0 + _ ≤ _; omega) hd (fun _ _ => ⟨rfl, eT, hc, hs⟩)
  dsimp only [Pt.U, Pt.locs, Pt.cells, Pt.slots] at X' l1 y1 z1 stp hQ
  subst l1 y1 z1
  exact (K T' Lc v X' hQ).to fun t r => stp t r
theorem go_callI (X : Stand p l e R s m args below meth c T locs cells slots) (hx : p.tables.exec = Jvm.exec) (hZ : Z.Warmed39 s.vm) {own : String} {index : Nat} {y : MethodName} {bytes : ByteArray} {maxL : Nat} {rm : Room} {W : Nat} {Qc : Option Value → Heap → List Loc → Prop} (hown : s.vm.findClass own = some m.cls) (eT : T.heap = h) (hy1 : y.name = "<init>")
    (w1 : (Jvm.Cond.methodLink own index y).before a0 Z = true) (w2 : (Jvm.Cond.instanceMethod y).before a0 Z = true) (w3 : (Jvm.Cond.initialized y.cls).before a0 Z = true) (w4 : (Jvm.Cond.code y bytes maxL none).before a0 Z = true) (hy : y.cls ≠ "java/lang/invoke/MethodHandle" ∧ y.cls ≠ "java/lang/invoke/VarHandle")
    (a : Addr) (argsL rest : List Value) (hM : Con l y bytes maxL none [] rm Z (.ref a :: argsL).toArray h Qc) (hsz : ls.size = c.maxLocals) (hst : st = argsL.reverse ++ .ref a :: rest) (hlen : ∀ sig, parseMethodDescriptor y.desc = some sig → argsL.length = sig.parameters.length) (hW : (rest.map fun v => v.category).sum ≤ W)
    (hf : rm.frames + 1 ≤ R.frames) (hl : W + (maxL + 11) + rm.locals ≤ R.locals) (hd : decode c.code pc = .ok (.invokespecial index, 3)) (hp : pc + 3 = q) (hc : cells + rm.cells ≤ R.cells) (hs : slots + rm.slots ≤ R.slots)
    (K : ∀ (T' : State) (L : List Loc) (v : Option Value), Stand p l e R s m args below meth c T' (locs ++ L) (cells + rm.cells) (slots + rm.slots) → Qc v T'.heap L → Go p e below s Q ce sl T' (mkF m q ls (v.toList ++ rest))) : Go p e below s Q ce sl T (mkF m pc ls st) := by
  subst hp
  obtain ⟨v, _, ⟨T', L', k', n'⟩, -, X', ⟨Lc, hQ, l1, y1, z1⟩, stp⟩ := X.specialBack hx (y := y) hy1 hown (mvT hZ w1) (mvT hZ w2) (mvT hZ w4) hy (backOf (W := W) hM hZ w4 w3 hf hl) (g := mkF m pc ls st) rfl hsz (Steps.refl _) (a := a) (argsL := argsL) (rest := rest) hlen hst (by show 2 * 0 + _ ≤ _; omega) hd (fun _ _ => ⟨rfl, eT, hc, hs⟩)
  dsimp only [Pt.U, Pt.locs, Pt.cells, Pt.slots] at X' l1 y1 z1 stp hQ
  subst l1 y1 z1
  exact (K T' Lc v X' hQ).to fun t r => stp.trans r
theorem go_callV (X : Stand p l e R s m args below meth c T locs cells slots) (hx : p.tables.exec = Jvm.exec) (hZ : Z.Warmed39 s.vm) {own C : String} {index : Nat} {y : MethodName} {bytes : ByteArray} {maxL : Nat} {ret : Option FieldType} {rm : Room} {W : Nat} {Qc : Option Value → Heap → List Loc → Prop} {z : MethodName} (hown : s.vm.findClass own = some m.cls) (eT : T.heap = h)
    (w1 : (Jvm.Cond.methodLink own index y).before a0 Z = true) (w2 : (Jvm.Cond.declares y).before a0 Z = true) (hnf : NotFace s y) (w3 : (Jvm.Cond.selects C y z).before a0 Z = true) (w5 : (Jvm.Cond.instanceMethod z).before a0 Z = true) (w6 : (Jvm.Cond.initialized z.cls).before a0 Z = true) (w4 : (Jvm.Cond.code z bytes maxL ret).before a0 Z = true) (hy : y.cls ≠ "java/lang/invoke/MethodHandle" ∧ y.cls ≠ "java/lang/invoke/VarHandle")
    (a : Addr) (argsL rest : List Value) (E : Exa Z h a C) (hM : Con l z bytes maxL ret [] rm Z (.ref a :: argsL).toArray h Qc) (hsz : ls.size = c.maxLocals) (hst : st = argsL.reverse ++ .ref a :: rest) (hlen : ∀ sig, parseMethodDescriptor y.desc = some sig → argsL.length = sig.parameters.length) (hW : (rest.map fun v => v.category).sum ≤ W)
    (hf : rm.frames + 1 ≤ R.frames) (hl : W + (maxL + 11) + rm.locals ≤ R.locals) (hd : decode c.code pc = .ok (.invokevirtual index, 3)) (hp : pc + 3 = q) (hc : cells + rm.cells ≤ R.cells) (hs : slots + rm.slots ≤ R.slots)
    (K : ∀ (T' : State) (L : List Loc) (v : Option Value), Stand p l e R s m args below meth c T' (locs ++ L) (cells + rm.cells) (slots + rm.slots) → Qc v T'.heap L → Go p e below s Q ce sl T' (mkF m q ls (v.toList ++ rest))) : Go p e below s Q ce sl T (mkF m pc ls st) := by
  subst hp
  obtain ⟨cq, kq, qa, qb, qc⟩ := isOf hZ eT E
  obtain ⟨v, _, ⟨T', L', k', n'⟩, -, X', ⟨Lc, hQ, l1, y1, z1⟩, stp⟩ := X.virtualBack hx (y := y) (z := z) hown (mvT hZ w1) (mvT hZ w2) hnf (mvT hZ w3) (mvT hZ w5) hy (backOf (W := W) hM hZ w4 w6 hf hl) qa qc (g := mkF m pc ls st) rfl hsz (Steps.refl _) (argsL := argsL) (rest := rest) hlen hst (by show 2 * 0 + _ ≤ _; omega) hd (fun _ _ => ⟨rfl, eT, hc, hs⟩)
  dsimp only [Pt.U, Pt.locs, Pt.cells, Pt.slots] at X' l1 y1 z1 stp hQ
  subst l1 y1 z1
  exact (K T' Lc v X' hQ).to fun t r => stp.trans r
end OwnWalk

section OwnHeap
variable {p : Program} {l : Launch} {e : Env} {R : Room} {s : State} {m : MethodId} {args : Array Value} {below : List Frame} {meth : Method} {c : Code} {T : State} {locs : List Loc} {cells slots : Nat} {Z : State} {h : Heap} {Q : Option Value → Heap → List Loc → Prop} {ce sl : Nat} {pc q q' : Nat} {ls : Array Slot} {st : List Value} {a0 : Array Value} {n0 : Nat} {a : Addr}
theorem go_getS (X : Stand p l e R s m args below meth c T locs cells slots) (hx : p.tables.exec = Jvm.exec) (hZ : Z.Warmed39 s.vm) {own R0 O n d host : String} {index : Nat} (hown : s.vm.findClass own = some m.cls) (w : (Jvm.Cond.fieldLink own index R0 n d).before a0 Z = true ∨ (Jvm.Cond.fieldLinkNest own index R0 n d host).before a0 Z = true) (via : Via Z R0 O n d) (eT : T.heap = h) {v : Value} (F : Sta Z h O n d v) (hd : decode c.code pc = .ok (.getstatic index, 3)) (hp : pc + 3 = q) (K : ∀ T', Stand p l e R s m args below meth c T' locs cells slots → T'.heap = h → Go p e below s Q ce sl T' (mkF m q ls (v :: st))) : Go p e below s Q ce sl T (mkF m pc ls st) := by
  subst hp
  obtain ⟨T', X', e', st'⟩ := getS2 X hx hZ hown w via eT F (g := mkF m pc ls st) rfl hd
  exact (K T' X' e').to fun t r => st' t r
theorem go_getF (X : Stand p l e R s m args below meth c T locs cells slots) (hx : p.tables.exec = Jvm.exec) (hZ : Z.Warmed39 s.vm) {own R0 O n d host : String} {index : Nat} (hown : s.vm.findClass own = some m.cls) (w : (Jvm.Cond.fieldLink own index R0 n d).before a0 Z = true ∨ (Jvm.Cond.fieldLinkNest own index R0 n d host).before a0 Z = true) (via : Via Z R0 O n d) (eT : T.heap = h) {v : Value} (F : Fld Z h a O n d v) (hd : decode c.code pc = .ok (.getfield index, 3)) (hp : pc + 3 = q) (K : ∀ T', Stand p l e R s m args below meth c T' locs cells slots → T'.heap = h → Go p e below s Q ce sl T' (mkF m q ls (v :: st))) : Go p e below s Q ce sl T (mkF m pc ls (.ref a :: st)) := by
  subst hp
  obtain ⟨T', X', e', st'⟩ := getF X hx hZ hown w via eT F (g := mkF m pc ls (.ref a :: st)) rfl rfl hd
  exact (K T' X' e').to fun t r => st' t r
theorem go_putF (X : Stand p l e R s m args below meth c T locs cells slots) (hx : p.tables.exec = Jvm.exec) (hZ : Z.Warmed39 s.vm) {own R0 O n d host : String} {index : Nat} (hown : s.vm.findClass own = some m.cls) (w : (Jvm.Cond.fieldLink own index R0 n d).before a0 Z = true ∨ (Jvm.Cond.fieldLinkNest own index R0 n d host).before a0 Z = true) (via : Via Z R0 O n d) (eT : T.heap = h) {C : String} {kk : Nat} {ty : FieldType} {v old : Value} (F : Fld Z h a O n d old) (E : Exa Z h a C) (L : (Jvm.Cond.lays C O n d).before a0 Z = true ∨ ((Jvm.Cond.laysFinal C O n d).before a0 Z = true ∧ own = O ∧ meth.name = "<init>")) (wi : (Jvm.Cond.instantiable C kk).before a0 Z = true) (hty : parseFieldDescriptor d = some ty) (hn : narrow ty v = v) (hf : fits ty v = true) (N : Fr n0 locs) (ha : n0 ≤ a) (hd : decode c.code pc = .ok (.putfield index, 3)) (hp : pc + 3 = q)
    (K : ∀ T' h' locs', Stand p l e R s m args below meth c T' locs' cells slots → Fr n0 locs' → T'.heap = h' → Wr h h' a (Jvm.RoadKit.slotOf Z O n d) v → Go p e below s Q ce sl T' (mkF m q ls st)) : Go p e below s Q ce sl T (mkF m pc ls (v :: .ref a :: st)) := by
  subst hp
  obtain ⟨T', h', X', e', W', st'⟩ := putF X hx hZ hown w via eT F E L wi hty hn hf (g := mkF m pc ls (v :: .ref a :: st)) rfl rfl hd
  exact (K T' h' _ X' (Fr.snoc X' N ha) e' W').to fun t r => st' t r
theorem go_newO (X : Stand p l e R s m args below meth c T locs cells slots) (hx : p.tables.exec = Jvm.exec) (hZ : Z.Warmed39 s.vm) {own C : String} {index n : Nat} (hown : s.vm.findClass own = some m.cls) (w : (Jvm.Cond.classLink own index C).before a0 Z = true) (wi : (Jvm.Cond.instantiable C n).before a0 Z = true) (wz : (Jvm.Cond.initialized C).before a0 Z = true) (eT : T.heap = h) (hd : decode c.code pc = .ok (.new index, 3)) (hp : pc + 3 = q) (hc : cells + 1 ≤ R.cells) (hl : slots + n ≤ R.slots)
    (K : ∀ T' h' b, b = h.size → Stand p l e R s m args below meth c T' locs (cells + 1) (slots + n) → T'.heap = h' → Ext h h' → Exa Z h' b C → (∀ {O nm d : String} {ty : FieldType}, Laid Z a0 C O nm d → parseFieldDescriptor d = some ty → Fld Z h' b O nm d (defaultValue ty)) → Go p e below s Q ce sl T' (mkF m q ls (.ref b :: st))) : Go p e below s Q ce sl T (mkF m pc ls st) := by
  subst hp
  obtain ⟨T', h', X', e', E', A', D', -, st'⟩ := newO X hx hZ hown w wi wz eT (g := mkF m pc ls st) rfl hd hc hl
  exact (K T' h' _ rfl X' e' E' A' D').to fun t r => st' t r
theorem go_newP (X : Stand p l e R s m args below meth c T locs cells slots) (hx : p.tables.exec = Jvm.exec) (hZ : Z.Warmed39 s.vm) {aty : ArrayType} (w : (Jvm.Cond.arrayClass (newarray.typeOf aty)).before a0 Z = true) (eT : T.heap = h) (hd : decode c.code pc = .ok (.newarray aty, 2)) (hp : pc + 2 = q) {n : Int32} (hn : ¬ n < 0) (cap : Nat) (hcap : n.toNatClampNeg ≤ cap) (hb : cap * 8 ≤ 536870912) (hc : cells + 1 ≤ R.cells) (hl : slots + cap ≤ R.slots)
    (K : ∀ T' h' kc b, b = h.size → Stand p l e R s m args below meth c T' locs (cells + 1) (slots + cap) → T'.heap = h' → Ext h h' → Arv Z h' b kc (newarray.typeOf aty) n [] (defaultValue (newarray.typeOf aty)) → Go p e below s Q ce sl T' (mkF m q ls (.ref b :: st))) : Go p e below s Q ce sl T (mkF m pc ls (.int n :: st)) := by
  subst hp
  obtain ⟨T', h', kc, X', e', E', A', st'⟩ := newP X hx hZ w eT (g := mkF m pc ls (.int n :: st)) rfl hd rfl hn (cap := cap) hcap hb hc hl
  exact (K T' h' kc _ rfl X' e' E' (Arv.new A' hn)).to fun t r => st' t r
theorem go_initO (X : Stand p l e R s m args below meth c T locs cells slots) (hx : p.tables.exec = Jvm.exec) (hZ : Z.Warmed39 s.vm) {own : String} {index W : Nat} (hown : s.vm.findClass own = some m.cls) (w1 : (Jvm.Cond.methodLink own index Lib.objectInit).before a0 Z = true) (w2 : (Jvm.Cond.instanceMethod Lib.objectInit).before a0 Z = true) (w3 : (Jvm.Cond.code Lib.objectInit ⟨#[0xb1]⟩ 1 none).before a0 Z = true) (eT : T.heap = h) (hsz : ls.size = c.maxLocals) (hd : decode c.code pc = .ok (.invokespecial index, 3)) (hp : pc + 3 = q) (hf : 1 ≤ R.frames) (hW : (st.map fun v => v.category).sum ≤ W) (hl : W + 12 ≤ R.locals) (K : ∀ T', Stand p l e R s m args below meth c T' locs cells slots → T'.heap = h → Go p e below s Q ce sl T' (mkF m q ls st)) : Go p e below s Q ce sl T (mkF m pc ls (.ref a :: st)) := by
  subst hp
  obtain ⟨T', X', e', st'⟩ := initO X hx hZ hown w1 w2 w3 eT (g := mkF m pc ls (.ref a :: st)) rfl hsz rfl hd hf (W := W) (by show 2 * 0 + _ ≤ _; omega) hl
  exact (K T' X' e').to fun t r => st' t r
theorem go_iaload (X : Stand p l e R s m args below meth c T locs cells slots) (hx : p.tables.exec = Jvm.exec) (hZ : Z.Warmed39 s.vm) (eT : T.heap = h) {k : ClassId} {z j : Int32} {vs : List Value} {dv : Value} {v : Value} (F : Arv Z h a k .int z vs dv) (hj : ¬ j < 0 ∧ j < z) (hv : vs.getD j.toNatClampNeg dv = v) (hd : decode c.code pc = .ok (.iaload, 1)) (hp : pc + 1 = q) (K : Go p e below s Q ce sl T (mkF m q ls (v :: st))) : Go p e below s Q ce sl T (mkF m pc ls (.int j :: .ref a :: st)) := by
  subst hp
  obtain ⟨cl, A, -, S, -, H, -⟩ := F
  exact K.to fun t r => X.iaload hx (by rw [eT]; exact A.1) (State.isArrayOf_alike hZ.alike A.2.1) A.2.2 (inb_of S hj) (H.at (inb_of S hj) hv) (g := mkF m pc ls (.int j :: .ref a :: st)) rfl rfl hd t r
theorem go_daload (X : Stand p l e R s m args below meth c T locs cells slots) (hx : p.tables.exec = Jvm.exec) (hZ : Z.Warmed39 s.vm) (eT : T.heap = h) {k : ClassId} {z j : Int32} {vs : List Value} {dv : Value} {v : Value} (F : Arv Z h a k .double z vs dv) (hj : ¬ j < 0 ∧ j < z) (hv : vs.getD j.toNatClampNeg dv = v) (hd : decode c.code pc = .ok (.daload, 1)) (hp : pc + 1 = q) (K : Go p e below s Q ce sl T (mkF m q ls (v :: st))) : Go p e below s Q ce sl T (mkF m pc ls (.int j :: .ref a :: st)) := by
  subst hp
  obtain ⟨cl, A, -, S, -, H, -⟩ := F
  exact K.to fun t r => X.daload hx (by rw [eT]; exact A.1) (State.isArrayOf_alike hZ.alike A.2.1) A.2.2 (inb_of S hj) (H.at (inb_of S hj) hv) (g := mkF m pc ls (.int j :: .ref a :: st)) rfl rfl hd t r
theorem go_faload (X : Stand p l e R s m args below meth c T locs cells slots) (hx : p.tables.exec = Jvm.exec) (hZ : Z.Warmed39 s.vm) (eT : T.heap = h) {k : ClassId} {z j : Int32} {vs : List Value} {dv : Value} {v : Value} (F : Arv Z h a k .float z vs dv) (hj : ¬ j < 0 ∧ j < z) (hv : vs.getD j.toNatClampNeg dv = v) (hd : decode c.code pc = .ok (.faload, 1)) (hp : pc + 1 = q) (K : Go p e below s Q ce sl T (mkF m q ls (v :: st))) : Go p e below s Q ce sl T (mkF m pc ls (.int j :: .ref a :: st)) := by
  subst hp
  obtain ⟨cl, A, -, S, -, H, -⟩ := F
  exact K.to fun t r => X.faload hx (by rw [eT]; exact A.1) (State.isArrayOf_alike hZ.alike A.2.1) A.2.2 (inb_of S hj) (H.at (inb_of S hj) hv) (g := mkF m pc ls (.int j :: .ref a :: st)) rfl rfl hd t r
theorem go_baload (X : Stand p l e R s m args below meth c T locs cells slots) (hx : p.tables.exec = Jvm.exec) (hZ : Z.Warmed39 s.vm) (eT : T.heap = h) {k : ClassId} {z j : Int32} {vs : List Value} {dv : Value} {v : Value} (F : Arv Z h a k .boolean z vs dv) (hj : ¬ j < 0 ∧ j < z) (hv : vs.getD j.toNatClampNeg dv = v) (hd : decode c.code pc = .ok (.baload, 1)) (hp : pc + 1 = q) (K : Go p e below s Q ce sl T (mkF m q ls (v :: st))) : Go p e below s Q ce sl T (mkF m pc ls (.int j :: .ref a :: st)) := by
  subst hp
  obtain ⟨cl, A, -, S, -, H, -⟩ := F
  exact K.to fun t r => X.baloadBooleans hx (by rw [eT]; exact A.1) (State.isArrayOf_alike hZ.alike A.2.1) A.2.2 (inb_of S hj) (H.at (inb_of S hj) hv) (g := mkF m pc ls (.int j :: .ref a :: st)) rfl rfl hd t r
theorem go_baloadB (X : Stand p l e R s m args below meth c T locs cells slots) (hx : p.tables.exec = Jvm.exec) (hZ : Z.Warmed39 s.vm) (eT : T.heap = h) {k : ClassId} {z j : Int32} {vs : List Value} {dv : Value} {v : Value} (F : Arv Z h a k .byte z vs dv) (hj : ¬ j < 0 ∧ j < z) (hv : vs.getD j.toNatClampNeg dv = v) (hd : decode c.code pc = .ok (.baload, 1)) (hp : pc + 1 = q) (K : Go p e below s Q ce sl T (mkF m q ls (v :: st))) : Go p e below s Q ce sl T (mkF m pc ls (.int j :: .ref a :: st)) := by
  subst hp
  obtain ⟨cl, A, -, S, -, H, -⟩ := F
  exact K.to fun t r => X.baloadBytes hx (by rw [eT]; exact A.1) (State.isArrayOf_alike hZ.alike A.2.1) A.2.2 (inb_of S hj) (H.at (inb_of S hj) hv) (g := mkF m pc ls (.int j :: .ref a :: st)) rfl rfl hd t r
theorem go_caload (X : Stand p l e R s m args below meth c T locs cells slots) (hx : p.tables.exec = Jvm.exec) (hZ : Z.Warmed39 s.vm) (eT : T.heap = h) {k : ClassId} {z j : Int32} {vs : List Value} {dv : Value} {v : Value} (F : Arv Z h a k .char z vs dv) (hj : ¬ j < 0 ∧ j < z) (hv : vs.getD j.toNatClampNeg dv = v) (hd : decode c.code pc = .ok (.caload, 1)) (hp : pc + 1 = q) (K : Go p e below s Q ce sl T (mkF m q ls (v :: st))) : Go p e below s Q ce sl T (mkF m pc ls (.int j :: .ref a :: st)) := by
  subst hp
  obtain ⟨cl, A, -, S, -, H, -⟩ := F
  exact K.to fun t r => X.caload hx (by rw [eT]; exact A.1) (State.isArrayOf_alike hZ.alike A.2.1) A.2.2 (inb_of S hj) (H.at (inb_of S hj) hv) (g := mkF m pc ls (.int j :: .ref a :: st)) rfl rfl hd t r
theorem go_alen (X : Stand p l e R s m args below meth c T locs cells slots) (hx : p.tables.exec = Jvm.exec) (hZ : Z.Warmed39 s.vm) (eT : T.heap = h) {k : ClassId} {z : Int32} {vs : List Value} {dv : Value} {ty : FieldType} (F : Arv Z h a k ty z vs dv) (hd : decode c.code pc = .ok (.arraylength, 1)) (hp : pc + 1 = q) (K : Go p e below s Q ce sl T (mkF m q ls (.int z :: st))) : Go p e below s Q ce sl T (mkF m pc ls (.ref a :: st)) := by
  subst hp
  obtain ⟨cl, A, -, S, N, -, -⟩ := F
  exact K.to fun t r => X.arraylength hx (by rw [eT]; exact A.1) (State.isArrayOf_alike hZ.alike A.2.1) (g := mkF m pc ls (.ref a :: st)) rfl rfl hd t (by rw [len_of S N]; exact r)
theorem go_iastore (X : Stand p l e R s m args below meth c T locs cells slots) (hx : p.tables.exec = Jvm.exec) (hZ : Z.Warmed39 s.vm) (eT : T.heap = h) {k : ClassId} {z j : Int32} {vs : List Value} {dv : Value} {x : Int32} (F : Arv Z h a k .int z vs dv) (hj : ¬ j < 0 ∧ j < z) (i : Nat) (hi : j.toNatClampNeg = i) (hl : i < vs.length) (N : Fr n0 locs) (ha : n0 ≤ a) (hd : decode c.code pc = .ok (.iastore, 1)) (hp : pc + 1 = q)
    (K : ∀ T' h' locs', Stand p l e R s m args below meth c T' locs' cells slots → Fr n0 locs' → T'.heap = h' → Wr h h' a j.toNatClampNeg (.int x) → Arv Z h' a k .int z (vs.set i (.int x)) dv → Go p e below s Q ce sl T' (mkF m q ls st)) : Go p e below s Q ce sl T (mkF m pc ls ((.int x) :: .int j :: .ref a :: st)) := by
  subst hp
  obtain ⟨cl, A, q1, S, q3, H, G⟩ := F
  obtain ⟨T', h', X', e', W', st'⟩ := stI X hx hZ eT A (inb_of S hj) (g := mkF m pc ls ((.int x) :: .int j :: .ref a :: st)) rfl rfl hd
  exact (K T' h' _ X' (Fr.snoc X' N ha) e' W' (Arv.set A q1 S q3 H G rfl W' i hi hl)).to fun t r => st' t r
theorem go_dastore (X : Stand p l e R s m args below meth c T locs cells slots) (hx : p.tables.exec = Jvm.exec) (hZ : Z.Warmed39 s.vm) (eT : T.heap = h) {k : ClassId} {z j : Int32} {vs : List Value} {dv : Value} {x : UInt64} (F : Arv Z h a k .double z vs dv) (hj : ¬ j < 0 ∧ j < z) (i : Nat) (hi : j.toNatClampNeg = i) (hl : i < vs.length) (N : Fr n0 locs) (ha : n0 ≤ a) (hd : decode c.code pc = .ok (.dastore, 1)) (hp : pc + 1 = q)
    (K : ∀ T' h' locs', Stand p l e R s m args below meth c T' locs' cells slots → Fr n0 locs' → T'.heap = h' → Wr h h' a j.toNatClampNeg (.double x) → Arv Z h' a k .double z (vs.set i (.double x)) dv → Go p e below s Q ce sl T' (mkF m q ls st)) : Go p e below s Q ce sl T (mkF m pc ls ((.double x) :: .int j :: .ref a :: st)) := by
  subst hp
  obtain ⟨cl, A, q1, S, q3, H, G⟩ := F
  obtain ⟨T', h', X', e', W', st'⟩ := stD X hx hZ eT A (inb_of S hj) (g := mkF m pc ls ((.double x) :: .int j :: .ref a :: st)) rfl rfl hd
  exact (K T' h' _ X' (Fr.snoc X' N ha) e' W' (Arv.set A q1 S q3 H G rfl W' i hi hl)).to fun t r => st' t r
theorem go_fastore (X : Stand p l e R s m args below meth c T locs cells slots) (hx : p.tables.exec = Jvm.exec) (hZ : Z.Warmed39 s.vm) (eT : T.heap = h) {k : ClassId} {z j : Int32} {vs : List Value} {dv : Value} {x : UInt32} (F : Arv Z h a k .float z vs dv) (hj : ¬ j < 0 ∧ j < z) (i : Nat) (hi : j.toNatClampNeg = i) (hl : i < vs.length) (N : Fr n0 locs) (ha : n0 ≤ a) (hd : decode c.code pc = .ok (.fastore, 1)) (hp : pc + 1 = q)
    (K : ∀ T' h' locs', Stand p l e R s m args below meth c T' locs' cells slots → Fr n0 locs' → T'.heap = h' → Wr h h' a j.toNatClampNeg (.float x) → Arv Z h' a k .float z (vs.set i (.float x)) dv → Go p e below s Q ce sl T' (mkF m q ls st)) : Go p e below s Q ce sl T (mkF m pc ls ((.float x) :: .int j :: .ref a :: st)) := by
  subst hp
  obtain ⟨cl, A, q1, S, q3, H, G⟩ := F
  obtain ⟨T', h', X', e', W', st'⟩ := stF X hx hZ eT A (inb_of S hj) (g := mkF m pc ls ((.float x) :: .int j :: .ref a :: st)) rfl rfl hd
  exact (K T' h' _ X' (Fr.snoc X' N ha) e' W' (Arv.set A q1 S q3 H G rfl W' i hi hl)).to fun t r => st' t r
theorem go_bastore (X : Stand p l e R s m args below meth c T locs cells slots) (hx : p.tables.exec = Jvm.exec) (hZ : Z.Warmed39 s.vm) (eT : T.heap = h) {k : ClassId} {z j : Int32} {vs : List Value} {dv : Value} {x : Int32} (F : Arv Z h a k .boolean z vs dv) (hj : ¬ j < 0 ∧ j < z) (i : Nat) (hi : j.toNatClampNeg = i) (hl : i < vs.length) (N : Fr n0 locs) (ha : n0 ≤ a) (hd : decode c.code pc = .ok (.bastore, 1)) (hp : pc + 1 = q)
    (K : ∀ T' h' locs', Stand p l e R s m args below meth c T' locs' cells slots → Fr n0 locs' → T'.heap = h' → Wr h h' a j.toNatClampNeg (.int (nar .boolean x)) → Arv Z h' a k .boolean z (vs.set i (.int (nar .boolean x))) dv → Go p e below s Q ce sl T' (mkF m q ls st)) : Go p e below s Q ce sl T (mkF m pc ls ((.int x) :: .int j :: .ref a :: st)) := by
  subst hp
  obtain ⟨cl, A, q1, S, q3, H, G⟩ := F
  obtain ⟨T', h', X', e', W', st'⟩ := stZ X hx hZ eT A (inb_of S hj) (g := mkF m pc ls ((.int x) :: .int j :: .ref a :: st)) rfl rfl hd
  exact (K T' h' _ X' (Fr.snoc X' N ha) e' W' (Arv.set A q1 S q3 H G (fits_nar_bool _) W' i hi hl)).to fun t r => st' t r
theorem go_castore (X : Stand p l e R s m args below meth c T locs cells slots) (hx : p.tables.exec = Jvm.exec) (hZ : Z.Warmed39 s.vm) (eT : T.heap = h) {k : ClassId} {z j : Int32} {vs : List Value} {dv : Value} {x : Int32} (F : Arv Z h a k .char z vs dv) (hj : ¬ j < 0 ∧ j < z) (i : Nat) (hi : j.toNatClampNeg = i) (hl : i < vs.length) (N : Fr n0 locs) (ha : n0 ≤ a) (hd : decode c.code pc = .ok (.castore, 1)) (hp : pc + 1 = q)
    (K : ∀ T' h' locs', Stand p l e R s m args below meth c T' locs' cells slots → Fr n0 locs' → T'.heap = h' → Wr h h' a j.toNatClampNeg (.int (nar .char x)) → Arv Z h' a k .char z (vs.set i (.int (nar .char x))) dv → Go p e below s Q ce sl T' (mkF m q ls st)) : Go p e below s Q ce sl T (mkF m pc ls ((.int x) :: .int j :: .ref a :: st)) := by
  subst hp
  obtain ⟨cl, A, q1, S, q3, H, G⟩ := F
  obtain ⟨T', h', X', e', W', st'⟩ := stC X hx hZ eT A (inb_of S hj) (g := mkF m pc ls ((.int x) :: .int j :: .ref a :: st)) rfl rfl hd
  exact (K T' h' _ X' (Fr.snoc X' N ha) e' W' (Arv.set A q1 S q3 H G (fits_nar_char _) W' i hi hl)).to fun t r => st' t r
theorem go_bastoreB (X : Stand p l e R s m args below meth c T locs cells slots) (hx : p.tables.exec = Jvm.exec) (hZ : Z.Warmed39 s.vm) (eT : T.heap = h) {k : ClassId} {z j : Int32} {vs : List Value} {dv : Value} {x : Int32} (F : Arv Z h a k .byte z vs dv) (hj : ¬ j < 0 ∧ j < z) (i : Nat) (hi : j.toNatClampNeg = i) (hl : i < vs.length) (N : Fr n0 locs) (ha : n0 ≤ a) (hd : decode c.code pc = .ok (.bastore, 1)) (hp : pc + 1 = q)
    (K : ∀ T' h' locs', Stand p l e R s m args below meth c T' locs' cells slots → Fr n0 locs' → T'.heap = h' → Wr h h' a j.toNatClampNeg (.int (nar .byte x)) → Arv Z h' a k .byte z (vs.set i (.int (nar .byte x))) dv → Go p e below s Q ce sl T' (mkF m q ls st)) : Go p e below s Q ce sl T (mkF m pc ls ((.int x) :: .int j :: .ref a :: st)) := by
  subst hp
  obtain ⟨cl, A, q1, S, q3, H, G⟩ := F
  obtain ⟨T', h', X', e', W', st'⟩ := stB X hx hZ eT A (inb_of S hj) (g := mkF m pc ls ((.int x) :: .int j :: .ref a :: st)) rfl rfl hd
  exact (K T' h' _ X' (Fr.snoc X' N ha) e' W' (Arv.set A q1 S q3 H G (fits_nar_byte _) W' i hi hl)).to fun t r => st' t r
theorem go_acmp_eq (X : Stand p l e R s m args below meth c T locs cells slots) (hx : p.tables.exec = Jvm.exec) {x y : Value} (h1 : x.isRef = true) (h2 : y.isRef = true) {o : Int} (hd : decode c.code pc = .ok (.if_acmp .eq o, 3)) (hp : pc + 3 = q) (ho : 0 ≤ (pc : Int) + o) (hq : ((pc : Int) + o).toNat = q') (KY : x = y → Go p e below s Q ce sl T (mkF m q' ls st)) (KN : ¬ x = y → Go p e below s Q ce sl T (mkF m q ls st)) : Go p e below s Q ce sl T (mkF m pc ls (y :: x :: st)) := by
  subst hp hq
  by_cases w : x = y
  · exact (KY w).to fun t r => Jvm.RoadKit.acmp (g := mkF m pc ls (y :: x :: st)) X hx rfl h1 h2 (pc0 := pc) (same := true) rfl hd rfl (decide_eq_true w) ho rfl r
  · exact (KN w).to fun t r => Jvm.RoadKit.acmp (g := mkF m pc ls (y :: x :: st)) X hx rfl h1 h2 (pc0 := pc) (same := false) rfl hd rfl (decide_eq_false w) ho rfl r
theorem go_acmp_ne (X : Stand p l e R s m args below meth c T locs cells slots) (hx : p.tables.exec = Jvm.exec) {x y : Value} (h1 : x.isRef = true) (h2 : y.isRef = true) {o : Int} (hd : decode c.code pc = .ok (.if_acmp .ne o, 3)) (hp : pc + 3 = q) (ho : 0 ≤ (pc : Int) + o) (hq : ((pc : Int) + o).toNat = q') (KY : ¬ x = y → Go p e below s Q ce sl T (mkF m q' ls st)) (KN : x = y → Go p e below s Q ce sl T (mkF m q ls st)) : Go p e below s Q ce sl T (mkF m pc ls (y :: x :: st)) := by
  subst hp hq
  by_cases w : x = y
  · exact (KN w).to fun t r => Jvm.RoadKit.acmp (g := mkF m pc ls (y :: x :: st)) X hx rfl h1 h2 (pc0 := pc) (same := true) rfl hd rfl (decide_eq_true w) ho rfl r
  · exact (KY w).to fun t r => Jvm.RoadKit.acmp (g := mkF m pc ls (y :: x :: st)) X hx rfl h1 h2 (pc0 := pc) (same := false) rfl hd rfl (decide_eq_false w) ho rfl r
theorem go_ifnullR (X : Stand p l e R s m args below meth c T locs cells slots) (hx : p.tables.exec = Jvm.exec) {b : Addr} {o : Int} (hd : decode c.code pc = .ok (.ifnull o, 3)) (hp : pc + 3 = q) (K : Go p e below s Q ce sl T (mkF m q ls st)) : Go p e below s Q ce sl T (mkF m pc ls (.ref b :: st)) := by
  subst hp
  exact K.to fun t r => XS.ifnullNo X.here hx rfl hd rfl r
theorem go_ifnonnullR (X : Stand p l e R s m args below meth c T locs cells slots) (hx : p.tables.exec = Jvm.exec) {b : Addr} {o : Int} (hd : decode c.code pc = .ok (.ifnonnull o, 3)) (ho : 0 ≤ (pc : Int) + o) (hq : ((pc : Int) + o).toNat = q') (K : Go p e below s Q ce sl T (mkF m q' ls st)) : Go p e below s Q ce sl T (mkF m pc ls (.ref b :: st)) :=
  K.to fun t r => XS.ifnonnullYes X.here hx rfl (pc0 := pc) rfl hd rfl ho hq r
theorem go_tsw (X : Stand p l e R s m args below meth c T locs cells slots) (hx : p.tables.exec = Jvm.exec) {dflt low high off : Int} {offs : Array Int} {len : Nat} {i : Int32} (hd : decode c.code pc = .ok (.tableswitch dflt low high offs, len)) (hin : ¬ (i.toInt < low ∨ i.toInt > high)) (hoff : offs[(i.toInt - low).toNat]? = some off) (ho : 0 ≤ (pc : Int) + off) (hq : ((pc : Int) + off).toNat = q) (K : Go p e below s Q ce sl T (mkF m q ls st)) : Go p e below s Q ce sl T (mkF m pc ls (.int i :: st)) :=
  K.to fun t r => XS.tswIn X.here hx rfl (pc0 := pc) rfl hd rfl hin hoff ho hq r
theorem go_callVU (X : Stand p l e R s m args below meth c T locs cells slots) (hx : p.tables.exec = Jvm.exec) (hZ : Z.Warmed39 s.vm) {own C owner : String} {index : Nat} {y : MethodName} {bytes : ByteArray} {maxL : Nat} {ret : Option FieldType} {rm : Room} {W : Nat} {Qc : Option Value → Heap → List Loc → Prop} {z : MethodName} (hown : s.vm.findClass own = some m.cls) (eT : T.heap = h)
    (w1 : (Jvm.Cond.methodLink own index y).before a0 Z = true) (w2 : (Jvm.Cond.sameMethod y.cls owner y.name y.desc).before a0 Z = true) (w7 : (Jvm.Cond.declares ⟨owner, y.name, y.desc⟩).before a0 Z = true) (hy : owner ≠ "java/lang/invoke/MethodHandle" ∧ owner ≠ "java/lang/invoke/VarHandle") (w3 : (Jvm.Cond.selects C y z).before a0 Z = true) (w5 : (Jvm.Cond.instanceMethod z).before a0 Z = true) (w6 : (Jvm.Cond.initialized z.cls).before a0 Z = true) (w4 : (Jvm.Cond.code z bytes maxL ret).before a0 Z = true)
    (a : Addr) (argsL rest : List Value) (E : Exa Z h a C) (hM : Con l z bytes maxL ret [] rm Z (.ref a :: argsL).toArray h Qc) (hsz : ls.size = c.maxLocals) (hst : st = argsL.reverse ++ .ref a :: rest) (hlen : ∀ sig, parseMethodDescriptor y.desc = some sig → argsL.length = sig.parameters.length) (hW : (rest.map fun v => v.category).sum ≤ W)
    (hf : rm.frames + 1 ≤ R.frames) (hl : W + (maxL + 11) + rm.locals ≤ R.locals) (hd : decode c.code pc = .ok (.invokevirtual index, 3)) (hp : pc + 3 = q) (hc : cells + rm.cells ≤ R.cells) (hs : slots + rm.slots ≤ R.slots)
    (K : ∀ (T' : State) (L : List Loc) (v : Option Value), Stand p l e R s m args below meth c T' (locs ++ L) (cells + rm.cells) (slots + rm.slots) → Qc v T'.heap L → Go p e below s Q ce sl T' (mkF m q ls (v.toList ++ rest))) : Go p e below s Q ce sl T (mkF m pc ls st) := by
  subst hp
  obtain ⟨cq, kq, qa, qb, qc⟩ := isOf hZ eT E
  obtain ⟨v, _, ⟨T', L', k', n'⟩, -, X', ⟨Lc, hQ, l1, y1, z1⟩, stp⟩ := X.virtualBackUp hx (x := y) (y := z) hown (mvT hZ w1) (mvT hZ w2) (mvT hZ w7) hy (mvT hZ w3) (mvT hZ w5) (backOf (W := W) hM hZ w4 w6 hf hl) qa qc (g := mkF m pc ls st) rfl hsz (Steps.refl _) (argsL := argsL) (rest := rest) hlen hst (by show 2 * 0 + _ ≤ _; omega) hd (fun _ _ => ⟨rfl, eT, hc, hs⟩)
  dsimp only [Pt.U, Pt.locs, Pt.cells, Pt.slots] at X' l1 y1 z1 stp hQ
  subst l1 y1 z1
  exact (K T' Lc v X' hQ).to fun t r => stp.trans r
end OwnHeap

section OwnFloat
open Jvm.FP Jvm.FP.Core
/-- the datum with its exponent moved down by k -/
def sh (k : Int) : Datum → Datum
  | .fin s c q => .fin s c (q - k)
  | d => d
/-- the datum's value is i * 2^k -/
def Dy (k i : Int) (d : Datum) : Prop := Whole i (sh k d)
theorem dy_zero_iff {i : Int} {d : Datum} : Dy 0 i d ↔ Whole i d := by
  cases d <;> simp [Dy, sh]
theorem sh_sum (k : Int) (x y : Datum) : exactSum (sh k x) (sh k y) = sh k (exactSum x y) := by
  cases x <;> cases y <;> try rfl
  · rename_i a b; by_cases q : a = b <;> simp [sh, exactSum, q]
  · rename_i s c q t d r
    have e1 : min (q - k) (r - k) = min q r - k := by omega
    have e2 : q - k - (min q r - k) = q - min q r := by omega
    have e3 : r - k - (min q r - k) = r - min q r := by omega
    simp [sh, exactSum, sumUnits, inUnits, e1, e2, e3]
theorem sh_product (k l : Int) {x y : Datum} {s t : Bool} {c d : Nat} {q r : Int} (hx : x = .fin s c q) (hy : y = .fin t d r) : exactProduct (sh k x) (sh l y) = sh (k + l) (exactProduct x y) := by
  subst hx hy
  have e1 : q - k + (r - l) = q + r - (k + l) := by omega
  simp [sh, exactProduct, e1]
theorem sh_negate (k : Int) (x : Datum) : negate (sh k x) = sh k (negate x) := by cases x <;> rfl
theorem sh_order (k : Int) (x y : Datum) : order (sh k x) (sh k y) = order x y := by
  cases x <;> cases y <;> try rfl
  rename_i s c q t d r
  have e1 : min (q - k) (r - k) = min q r - k := by omega
  have e2 : q - k - (min q r - k) = q - min q r := by omega
  have e3 : r - k - (min q r - k) = r - min q r := by omega
  simp [sh, order, inUnits, e1, e2, e3]
theorem dy_fin {k i : Int} {d : Datum} (h : Dy k i d) : ∃ s c q, d = .fin s c q := by
  cases d with
  | nan => exact h.elim
  | inf s => exact h.elim
  | fin s c q => exact ⟨s, c, q, rfl⟩
theorem dy_sum {k i j : Int} {x y : Datum} (hx : Dy k i x) (hy : Dy k j y) : Dy k (i + j) (exactSum x y) := by
  unfold Dy; rw [← sh_sum]; exact whole_sum hx hy
theorem dy_negate {k i : Int} {x : Datum} (hx : Dy k i x) : Dy k (-i) (negate x) := by
  unfold Dy; rw [← sh_negate]; exact whole_negate hx
theorem dy_product {k l i j : Int} {x y : Datum} (hx : Dy k i x) (hy : Dy l j y) : Dy (k + l) (i * j) (exactProduct x y) := by
  obtain ⟨s, c, q, ex⟩ := dy_fin hx
  obtain ⟨t, d, r, ey⟩ := dy_fin hy
  unfold Dy; rw [← sh_product k l ex ey]; exact whole_product hx hy
theorem dy_order {k i j : Int} {x y : Datum} (hx : Dy k i x) (hy : Dy k j y) : order x y = some (compare i j) := by
  rw [← sh_order k]; exact order_whole hx hy
/-- c * 2^q and A * 2^k are alike: by differences, or with both exponents raised -/
theorem p2 {c A : Nat} {q k : Int} (N : Nat) (h1 : 0 ≤ q + N) (h2 : 0 ≤ k + N) : c * 2 ^ (q - k).toNat = A * 2 ^ (k - q).toNat ↔ c * 2 ^ (q + N).toNat = A * 2 ^ (k + N).toNat := by
  rcases Int.le_total q k with hqk | hqk
  · have e1 : (q - k).toNat = 0 := by omega
    have e2 : (k + N).toNat = (k - q).toNat + (q + N).toNat := by omega
    rw [e1, e2, Nat.pow_zero, Nat.mul_one, Nat.pow_add, ← Nat.mul_assoc]
    exact ⟨fun h => by rw [h], fun h => Nat.eq_of_mul_eq_mul_right (Nat.two_pow_pos _) h⟩
  · have e1 : (k - q).toNat = 0 := by omega
    have e2 : (q + N).toNat = (q - k).toNat + (k + N).toNat := by omega
    rw [e1, e2, Nat.pow_zero, Nat.mul_one, Nat.pow_add, ← Nat.mul_assoc]
    exact ⟨fun h => by rw [h], fun h => Nat.eq_of_mul_eq_mul_right (Nat.two_pow_pos _) h⟩
theorem dy_abs {k i : Int} {s : Bool} {c : Nat} {q : Int} (h : Dy k i (.fin s c q)) : c * 2 ^ (q - k).toNat = i.natAbs * 2 ^ (k - q).toNat := by
  have h' : signed s (c * 2 ^ (q - k).toNat) = i * ((2 ^ (-(q - k)).toNat : Nat) : Int) := h
  have e := congrArg Int.natAbs h'
  rw [natAbs_signed, Int.natAbs_mul, Int.natAbs_natCast, show -(q - k) = k - q by omega] at e
  exact e
theorem dy_sgn {k i : Int} {s : Bool} {c : Nat} {q : Int} (h : Dy k i (.fin s c q)) : signed s i.natAbs = i := by
  have h' : signed s (c * 2 ^ (q - k).toNat) = i * ((2 ^ (-(q - k)).toNat : Nat) : Int) := h
  rw [dy_abs h, signed_mul, show -(q - k) = k - q by omega] at h'
  exact Int.eq_of_mul_eq_mul_right (by have := Nat.two_pow_pos (k - q).toNat; omega) h'
theorem dy_mk {k i : Int} {s : Bool} {c : Nat} {q : Int} (h1 : c * 2 ^ (q - k).toNat = i.natAbs * 2 ^ (k - q).toNat) (h2 : signed s i.natAbs = i) : Dy k i (.fin s c q) := by
  show signed s (c * 2 ^ (q - k).toNat) = i * ((2 ^ (-(q - k)).toNat : Nat) : Int)
  rw [h1, signed_mul, h2, show -(q - k) = k - q by omega]
theorem dy_of_units {k i : Int} {s : Bool} {c' : Nat} {q' : Int} (hq : -1074 ≤ q') (hk : -1074 ≤ k) (e2 : inUnits c' q' (-1074) = inUnits i.natAbs k (-1074)) (h2 : signed s i.natAbs = i) : Dy k i (.fin s c' q') := by
  refine dy_mk ?_ h2
  rw [p2 1074 (by omega) (by omega)]
  unfold inUnits at e2
  rw [show q' - -1074 = q' + (1074 : Nat) by omega, show k - -1074 = k + (1074 : Nat) by omega] at e2
  exact e2
theorem dy_roundRatio {k m : Int} {S : Bool} {c d : Nat} {e : Int} (hd : 0 < d) (h : c * 2 ^ (e - k).toNat = m.natAbs * d * 2 ^ (k - e).toNat) (hm : m.natAbs < 2 ^ 53) (k1 : -1074 ≤ k) (k2 : k ≤ 971) (h2 : signed S m.natAbs = m) : Dy k m (roundRatio b64 S c d e) := by
  have hr : roundRatio b64 S c d e = round b64 (.fin S m.natAbs k) := roundRatio_congr (A := c) (B := d) (A' := m.natAbs) (B' := 1) (e := e) (e' := k) hd (by decide) (by rw [Nat.mul_one]; exact h)
  obtain ⟨c', q', e1, e2⟩ := round_exact good_b64 S (c := m.natAbs) (q := k) hm (by rw [qmin_b64]; exact k1) (by show k ≤ 971; exact k2)
  have hf : Core.fits b64 (.fin S c' q') := by rw [← e1]; exact round_fits good_b64 _
  have hq : -1074 ≤ q' := by have := hf.2.1; rw [qmin_b64] at this; exact this
  rw [hr, e1]
  rw [qmin_b64] at e2
  exact dy_of_units hq k1 e2 h2
theorem dy_round {k i : Int} {d : Datum} (h : Dy k i d) (hi : i.natAbs < 2 ^ 53) (k1 : -1074 ≤ k) (k2 : k ≤ 971) : Dy k i (round b64 d) := by
  obtain ⟨s, c, q, rfl⟩ := dy_fin h
  exact dy_roundRatio (d := 1) (by decide) (by rw [Nat.mul_one]; exact dy_abs h) hi k1 k2 (dy_sgn h)
theorem signed_xor1 (s t : Bool) (a b : Nat) : signed (s != t) (a * b) = signed s a * signed t b := signed_xor s t a b
theorem dy_quotient {k l i j m : Int} {x y : Datum} (hx : Dy k i x) (hy : Dy l j y) (hj : j ≠ 0) (hm : i = m * j) (hb : m.natAbs < 2 ^ 53) (k1 : -1074 ≤ k - l) (k2 : k - l ≤ 971) : Dy (k - l) m (quotient b64 x y) := by
  obtain ⟨s, c, q, rfl⟩ := dy_fin hx
  obtain ⟨t, d, r, rfl⟩ := dy_fin hy
  have a1 := dy_abs hx
  have a2 := dy_abs hy
  have jpos : 0 < j.natAbs := by omega
  have dpos : 0 < d := by
    rcases Nat.eq_zero_or_pos d with rfl | h
    · rw [Nat.zero_mul] at a2
      have := Nat.mul_pos jpos (Nat.two_pow_pos (l - r).toNat)
      omega
    · exact h
  have ea : i.natAbs = m.natAbs * j.natAbs := by rw [hm, Int.natAbs_mul]
  show Dy (k - l) m (if d = 0 then (if c = 0 then .nan else .inf (s != t)) else roundRatio b64 (s != t) c d (q - r))
  rw [if_neg (by omega)]
  refine dy_roundRatio dpos ?_ hb k1 k2 ?_
  · have N : Nat := 0
    obtain ⟨M, hM⟩ : ∃ M : Nat, 0 ≤ q + M ∧ 0 ≤ k + M ∧ 0 ≤ r + M ∧ 0 ≤ l + M := ⟨q.natAbs + k.natAbs + r.natAbs + l.natAbs, by omega, by omega, by omega, by omega⟩
    rw [p2 M hM.1 hM.2.1] at a1
    rw [p2 M hM.2.2.1 hM.2.2.2] at a2
    have e1 : q - r - (k - l) = (q + l) - (k + r) := by omega
    have e2 : k - l - (q - r) = (k + r) - (q + l) := by omega
    rw [e1, e2, p2 (2 * M) (by omega) (by omega)]
    have f1 : (q + l + ((2 * M : Nat) : Int)).toNat = (q + M).toNat + (l + M).toNat := by omega
    have f2 : (k + r + ((2 * M : Nat) : Int)).toNat = (k + M).toNat + (r + M).toNat := by omega
    rw [f1, f2, Nat.pow_add, Nat.pow_add]
    refine Nat.eq_of_mul_eq_mul_right jpos ?_
    calc c * (2 ^ (q + M).toNat * 2 ^ (l + M).toNat) * j.natAbs
        = (c * 2 ^ (q + M).toNat) * (j.natAbs * 2 ^ (l + M).toNat) := by ac_rfl
      _ = (i.natAbs * 2 ^ (k + M).toNat) * (d * 2 ^ (r + M).toNat) := by rw [a1, a2]
      _ = m.natAbs * d * (2 ^ (k + M).toNat * 2 ^ (r + M).toNat) * j.natAbs := by rw [ea]; ac_rfl
  · have s1 := dy_sgn hx
    have s2 := dy_sgn hy
    have s3 : signed (s != t) (i.natAbs * j.natAbs) = i * j := by rw [signed_xor, s1, s2]
    have e3 : i.natAbs * j.natAbs = m.natAbs * (j.natAbs * j.natAbs) := by rw [ea, Nat.mul_assoc]
    rw [e3, signed_mul, Int.natAbs_mul_self, hm, Int.mul_assoc] at s3
    exact Int.eq_of_mul_eq_mul_right (Int.mul_ne_zero hj hj) s3
theorem dy_scale {k i : Int} {d : Datum} (h : Dy k i d) (n : Nat) : Dy (k - n) (i * 2 ^ n) d := by
  obtain ⟨s, c, q, rfl⟩ := dy_fin h
  have a1 := dy_abs h
  have s1 := dy_sgn h
  have e0 : (i * 2 ^ n).natAbs = i.natAbs * 2 ^ n := by rw [Int.natAbs_mul, Int.natAbs_pow]; rfl
  refine dy_mk ?_ ?_
  · obtain ⟨M, h1, h2⟩ : ∃ M : Nat, 0 ≤ q + M ∧ 0 ≤ k - n + M := ⟨q.natAbs + k.natAbs + n, by omega, by omega⟩
    rw [p2 M h1 (by omega)] at a1
    rw [p2 M h1 h2, a1, e0]
    have : (k + (M : Int)).toNat = n + (k - n + M).toNat := by omega
    rw [this, Nat.pow_add, Nat.mul_assoc]
  · rw [e0, signed_mul, s1]; congr 1
/-- the double x is worth i * 2^k, and |i| is at most A -/
def DB (k : Int) (A : Nat) (i : Int) (x : UInt64) : Prop := Dy k i (val64 x) ∧ i.natAbs ≤ A
theorem DB.fin {k i : Int} {A : Nat} {x : UInt64} (h : DB k A i x) : DFin x := dy_fin h.1
theorem DB.nn {k i : Int} {A : Nat} {x : UInt64} (h : DB k A i x) : Jvm.Free.Fl.NoNaN64 x := Jvm.Free.Fl.noNaN64_no.mpr h.fin.notNaN
theorem DB.le {k i : Int} {A B : Nat} {x : UInt64} (h : DB k A i x) (hb : i.natAbs ≤ B) : DB k B i x := ⟨h.1, hb⟩
theorem DB.eqv {k i j : Int} {A : Nat} {x : UInt64} (h : DB k A i x) (e : i = j) : DB k A j x := e ▸ h
theorem db_add {k i j : Int} {A B : Nat} {x y : UInt64} (hx : DB k A i x) (hy : DB k B j y) (hA : A + B < 9007199254740992) (k1 : -1074 ≤ k) (k2 : k ≤ 971) : DB k (A + B) (i + j) (FP.dadd x y) := by
  have h1 := hx.2; have h2 := hy.2
  have hb : (i + j).natAbs ≤ A + B := by omega
  refine ⟨?_, hb⟩
  show Dy k (i + j) (val64 (Core.dadd x y))
  rw [val64_dadd]; exact dy_round (dy_sum hx.1 hy.1) (by omega) k1 k2
theorem db_sub {k i j : Int} {A B : Nat} {x y : UInt64} (hx : DB k A i x) (hy : DB k B j y) (hA : A + B < 9007199254740992) (k1 : -1074 ≤ k) (k2 : k ≤ 971) : DB k (A + B) (i - j) (FP.dsub x y) := by
  have h1 := hx.2; have h2 := hy.2
  have hb : (i - j).natAbs ≤ A + B := by omega
  refine ⟨?_, hb⟩
  show Dy k (i - j) (val64 (Core.dsub x y))
  rw [val64_dsub]; exact dy_round (by rw [Int.sub_eq_add_neg]; exact dy_sum hx.1 (dy_negate hy.1)) (by omega) k1 k2
theorem db_mul {k l i j : Int} {A B : Nat} {x y : UInt64} (hx : DB k A i x) (hy : DB l B j y) (hA : A * B < 9007199254740992) (k1 : -1074 ≤ k + l) (k2 : k + l ≤ 971) : DB (k + l) (A * B) (i * j) (FP.dmul x y) := by
  have hb : (i * j).natAbs ≤ A * B := by rw [Int.natAbs_mul]; exact Nat.mul_le_mul hx.2 hy.2
  refine ⟨?_, hb⟩
  show Dy (k + l) (i * j) (val64 (Core.dmul x y))
  rw [val64_dmul]; exact dy_round (dy_product hx.1 hy.1) (by omega) k1 k2
theorem db_div {k l i j : Int} {A B : Nat} {x y : UInt64} (m : Int) (hx : DB k A i x) (hy : DB l B j y) (hj : j ≠ 0) (hm : i = m * j) (hA : A < 9007199254740992) (k1 : -1074 ≤ k - l) (k2 : k - l ≤ 971) : DB (k - l) A m (FP.ddiv x y) := by
  have h1 : m.natAbs ≤ i.natAbs := by rw [hm, Int.natAbs_mul]; exact Nat.le_mul_of_pos_right _ (by omega)
  have h2 := hx.2
  refine ⟨?_, by omega⟩
  show Dy (k - l) m (val64 (Core.ddiv x y))
  rw [val64_ddiv]; exact dy_quotient hx.1 hy.1 hj hm (by omega) k1 k2
theorem DB.scale {k i : Int} {A : Nat} {x : UInt64} (h : DB k A i x) (n : Nat) : DB (k - n) (A * 2 ^ n) (i * 2 ^ n) x :=
  ⟨dy_scale h.1 n, by rw [Int.natAbs_mul, Int.natAbs_pow]; exact Nat.mul_le_mul_right _ h.2⟩
theorem db_i2d (v : Int32) : DB 0 2147483648 v.toInt (FP.i2d v) := ⟨dy_zero_iff.mpr (i2d_int v), by have := Int32.toInt_lt v; have := Int32.le_toInt v; omega⟩
theorem db_i2d' {v : Int32} {A : Nat} (h : v.toInt.natAbs ≤ A) : DB 0 A v.toInt (FP.i2d v) := (db_i2d v).le h
theorem db_l2d {v : Int64} {A : Nat} (h : v.toInt.natAbs ≤ A) (hA : A ≤ 9007199254740992) : DB 0 A v.toInt (FP.l2d v) := ⟨dy_zero_iff.mpr (l2d_int (by omega)), h⟩
theorem db_dcmp {k i j : Int} {A B : Nat} {x y : UInt64} (hx : DB k A i x) (hy : DB k B j y) : FP.dcmp x y = some (compare i j) := dy_order hx.1 hy.1
theorem db_cv {k i j : Int} {A B : Nat} {x y : UInt64} (hx : DB k A i x) (hy : DB k B j y) (o : CmpOp) : cmpValue (FP.dcmp x y) o = if i < j then -1 else if i = j then 0 else 1 := by
  rw [db_dcmp hx hy, compare_ite]
  by_cases h1 : i < j
  · simp [h1]; rfl
  · by_cases h2 : i = j
    · simp [h2]; rfl
    · simp [h1, h2]; rfl
theorem db_lt {k i j : Int} {A B : Nat} {x y : UInt64} (hx : DB k A i x) (hy : DB k B j y) (o : CmpOp) : cmpValue (FP.dcmp x y) o < 0 ↔ i < j := by
  rw [db_cv hx hy]
  by_cases h1 : i < j
  · simp [h1]
  · by_cases h2 : i = j
    · simp [h2]
    · simp [h1, h2]
theorem db_gt {k i j : Int} {A B : Nat} {x y : UInt64} (hx : DB k A i x) (hy : DB k B j y) (o : CmpOp) : 0 < cmpValue (FP.dcmp x y) o ↔ j < i := by
  rw [db_cv hx hy]
  by_cases h1 : i < j
  · simp [h1, show ¬ j < i by omega]
  · by_cases h2 : i = j
    · simp [h2]
    · simp [h1, h2, show j < i by omega]
theorem db_eq {k i j : Int} {A B : Nat} {x y : UInt64} (hx : DB k A i x) (hy : DB k B j y) (o : CmpOp) : cmpValue (FP.dcmp x y) o = 0 ↔ i = j := by
  rw [db_cv hx hy]
  by_cases h1 : i < j
  · simp [h1, show ¬ i = j by omega]
  · by_cases h2 : i = j
    · simp [h2]
    · simp [h1, h2]
theorem db_c0 : DB 0 0 0 0 := ⟨by rw [show val64 0 = .fin false 0 (-1074) by decide +kernel]; exact dy_mk (by simp) rfl, by decide⟩
theorem db_c1 : DB 0 1 1 4607182418800017408 := ⟨by rw [show val64 4607182418800017408 = .fin false (2 ^ 52) (-52) by decide +kernel]; exact dy_mk (by decide +kernel) rfl, by decide⟩
theorem db_c2 : DB 0 2 2 4611686018427387904 := ⟨by rw [show val64 4611686018427387904 = .fin false (2 ^ 52) (-51) by decide +kernel]; exact dy_mk (by decide +kernel) rfl, by decide⟩
end OwnFloat

section OwnFloatGo
variable {p : Program} {l : Launch} {e : Env} {R : Room} {s : State} {m : MethodId} {args : Array Value} {below : List Frame} {meth : Method} {c : Code} {T : State} {locs : List Loc} {cells slots : Nat} {Z : State} {h : Heap} {Q : Option Value → Heap → List Loc → Prop} {ce sl : Nat} {pc q q' : Nat} {ls : Array Slot} {st : List Value} {a0 : Array Value}
theorem go_i2dB (X : Stand p l e R s m args below meth c T locs cells slots) (hx : p.tables.exec = Jvm.exec) {x : Int32} {A : Nat} {i : Int} (hd : decode c.code pc = .ok (.i2d, 1)) (hp : pc + 1 = q) (hA : DB 0 A i (FP.i2d x)) (K : ∀ z, DB 0 A i z → Go p e below s Q ce sl T (mkF m q ls (.double z :: st))) : Go p e below s Q ce sl T (mkF m pc ls (.int x :: st)) :=
  go_i2d X hx hd hp rfl (K _ hA)
theorem go_l2dB (X : Stand p l e R s m args below meth c T locs cells slots) (hx : p.tables.exec = Jvm.exec) {x : Int64} {A : Nat} {i : Int} (hd : decode c.code pc = .ok (.l2d, 1)) (hp : pc + 1 = q) (hA : DB 0 A i (FP.l2d x)) (K : ∀ z, DB 0 A i z → Go p e below s Q ce sl T (mkF m q ls (.double z :: st))) : Go p e below s Q ce sl T (mkF m pc ls (.long x :: st)) :=
  go_l2d X hx hd hp rfl (K _ hA)
theorem go_f2dB (X : Stand p l e R s m args below meth c T locs cells slots) (hx : p.tables.exec = Jvm.exec) {x : UInt32} {A : Nat} {i : Int} (hd : decode c.code pc = .ok (.f2d, 1)) (hp : pc + 1 = q) (hA : DB 0 A i (FP.f2d x)) (K : ∀ z, DB 0 A i z → Go p e below s Q ce sl T (mkF m q ls (.double z :: st))) : Go p e below s Q ce sl T (mkF m pc ls (.float x :: st)) :=
  go_f2d X hx hd hp hA.nn rfl (K _ hA)
theorem go_daddB (X : Stand p l e R s m args below meth c T locs cells slots) (hx : p.tables.exec = Jvm.exec) {x y : UInt64} {k i j : Int} {A B C : Nat} (hd : decode c.code pc = .ok (.dadd, 1)) (hp : pc + 1 = q) (hA : DB k A i x) (hB : DB k B j y) (b1 : A + B < 9007199254740992) (k1 : -1074 ≤ k) (k2 : k ≤ 971) (hC : A + B = C) (K : ∀ z, DB k C (i + j) z → Go p e below s Q ce sl T (mkF m q ls (.double z :: st))) : Go p e below s Q ce sl T (mkF m pc ls (.double y :: .double x :: st)) :=
  go_dadd X hx hd hp (db_add hA hB b1 k1 k2).nn rfl (K _ (hC ▸ db_add hA hB b1 k1 k2))
theorem go_dsubB (X : Stand p l e R s m args below meth c T locs cells slots) (hx : p.tables.exec = Jvm.exec) {x y : UInt64} {k i j : Int} {A B C : Nat} (hd : decode c.code pc = .ok (.dsub, 1)) (hp : pc + 1 = q) (hA : DB k A i x) (hB : DB k B j y) (b1 : A + B < 9007199254740992) (k1 : -1074 ≤ k) (k2 : k ≤ 971) (hC : A + B = C) (K : ∀ z, DB k C (i - j) z → Go p e below s Q ce sl T (mkF m q ls (.double z :: st))) : Go p e below s Q ce sl T (mkF m pc ls (.double y :: .double x :: st)) :=
  go_dsub X hx hd hp (db_sub hA hB b1 k1 k2).nn rfl (K _ (hC ▸ db_sub hA hB b1 k1 k2))
theorem go_dmulB (X : Stand p l e R s m args below meth c T locs cells slots) (hx : p.tables.exec = Jvm.exec) {x y : UInt64} {k k' kk i j : Int} {A B C : Nat} (hd : decode c.code pc = .ok (.dmul, 1)) (hp : pc + 1 = q) (hA : DB k A i x) (hB : DB k' B j y) (b1 : A * B < 9007199254740992) (k1 : -1074 ≤ k + k') (k2 : k + k' ≤ 971) (hk : k + k' = kk) (hC : A * B = C) (K : ∀ z, DB kk C (i * j) z → Go p e below s Q ce sl T (mkF m q ls (.double z :: st))) : Go p e below s Q ce sl T (mkF m pc ls (.double y :: .double x :: st)) :=
  go_dmul X hx hd hp (db_mul hA hB b1 k1 k2).nn rfl (K _ (hC ▸ hk ▸ db_mul hA hB b1 k1 k2))
theorem go_ddivB (X : Stand p l e R s m args below meth c T locs cells slots) (hx : p.tables.exec = Jvm.exec) {x y : UInt64} {k k' kk i j w0 : Int} {A B : Nat} (hd : decode c.code pc = .ok (.ddiv, 1)) (hp : pc + 1 = q) (hA : DB k A i x) (hB : DB k' B j y) (hj : j ≠ 0) (hm : i = w0 * j) (b1 : A < 9007199254740992) (k1 : -1074 ≤ k - k') (k2 : k - k' ≤ 971) (hk : k - k' = kk) (K : ∀ z, DB kk A w0 z → Go p e below s Q ce sl T (mkF m q ls (.double z :: st))) : Go p e below s Q ce sl T (mkF m pc ls (.double y :: .double x :: st)) :=
  go_ddiv X hx hd hp (db_div w0 hA hB hj hm b1 k1 k2).nn rfl (K _ (hk ▸ db_div w0 hA hB hj hm b1 k1 k2))
theorem go_dif_lt (X : Stand p l e R s m args below meth c T locs cells slots) (hx : p.tables.exec = Jvm.exec) {x y : UInt64} {k i j : Int} {A B : Nat} {cm : CmpOp} {o : Int} (hd : decode c.code pc = .ok (.ifCond .lt o, 3)) (hp : pc + 3 = q) (ho : 0 ≤ (pc : Int) + o) (hq : ((pc : Int) + o).toNat = q') (hA : DB k A i x) (hB : DB k B j y) (KY : i < j → Go p e below s Q ce sl T (mkF m q' ls st)) (KN : ¬ i < j → Go p e below s Q ce sl T (mkF m q ls st)) : Go p e below s Q ce sl T (mkF m pc ls (.int (cmpValue (FP.dcmp x y) cm) :: st)) :=
  go_if_lt X hx hd hp ho hq (fun w => KY ((db_lt hA hB _).mp w)) (fun w => KN (fun z => w ((db_lt hA hB _).mpr z)))
theorem go_dif_ge (X : Stand p l e R s m args below meth c T locs cells slots) (hx : p.tables.exec = Jvm.exec) {x y : UInt64} {k i j : Int} {A B : Nat} {cm : CmpOp} {o : Int} (hd : decode c.code pc = .ok (.ifCond .ge o, 3)) (hp : pc + 3 = q) (ho : 0 ≤ (pc : Int) + o) (hq : ((pc : Int) + o).toNat = q') (hA : DB k A i x) (hB : DB k B j y) (KY : ¬ i < j → Go p e below s Q ce sl T (mkF m q' ls st)) (KN : i < j → Go p e below s Q ce sl T (mkF m q ls st)) : Go p e below s Q ce sl T (mkF m pc ls (.int (cmpValue (FP.dcmp x y) cm) :: st)) :=
  go_if_ge X hx hd hp ho hq (fun w => KY (fun z => w ((db_lt hA hB _).mpr z))) (fun w => KN ((db_lt hA hB _).mp w))
theorem go_dif_gt (X : Stand p l e R s m args below meth c T locs cells slots) (hx : p.tables.exec = Jvm.exec) {x y : UInt64} {k i j : Int} {A B : Nat} {cm : CmpOp} {o : Int} (hd : decode c.code pc = .ok (.ifCond .gt o, 3)) (hp : pc + 3 = q) (ho : 0 ≤ (pc : Int) + o) (hq : ((pc : Int) + o).toNat = q') (hA : DB k A i x) (hB : DB k B j y) (KY : j < i → Go p e below s Q ce sl T (mkF m q' ls st)) (KN : ¬ j < i → Go p e below s Q ce sl T (mkF m q ls st)) : Go p e below s Q ce sl T (mkF m pc ls (.int (cmpValue (FP.dcmp x y) cm) :: st)) :=
  go_if_gt X hx hd hp ho hq (fun w => KY ((db_gt hA hB _).mp w)) (fun w => KN (fun z => w ((db_gt hA hB _).mpr z)))
theorem go_dif_le (X : Stand p l e R s m args below meth c T locs cells slots) (hx : p.tables.exec = Jvm.exec) {x y : UInt64} {k i j : Int} {A B : Nat} {cm : CmpOp} {o : Int} (hd : decode c.code pc = .ok (.ifCond .le o, 3)) (hp : pc + 3 = q) (ho : 0 ≤ (pc : Int) + o) (hq : ((pc : Int) + o).toNat = q') (hA : DB k A i x) (hB : DB k B j y) (KY : ¬ j < i → Go p e below s Q ce sl T (mkF m q' ls st)) (KN : j < i → Go p e below s Q ce sl T (mkF m q ls st)) : Go p e below s Q ce sl T (mkF m pc ls (.int (cmpValue (FP.dcmp x y) cm) :: st)) :=
  go_if_le X hx hd hp ho hq (fun w => KY (fun z => w ((db_gt hA hB _).mpr z))) (fun w => KN ((db_gt hA hB _).mp w))
theorem go_dif_eq (X : Stand p l e R s m args below meth c T locs cells slots) (hx : p.tables.exec = Jvm.exec) {x y : UInt64} {k i j : Int} {A B : Nat} {cm : CmpOp} {o : Int} (hd : decode c.code pc = .ok (.ifCond .eq o, 3)) (hp : pc + 3 = q) (ho : 0 ≤ (pc : Int) + o) (hq : ((pc : Int) + o).toNat = q') (hA : DB k A i x) (hB : DB k B j y) (KY : i = j → Go p e below s Q ce sl T (mkF m q' ls st)) (KN : ¬ i = j → Go p e below s Q ce sl T (mkF m q ls st)) : Go p e below s Q ce sl T (mkF m pc ls (.int (cmpValue (FP.dcmp x y) cm) :: st)) :=
  go_if_eq X hx hd hp ho hq (fun w => KY ((db_eq hA hB _).mp w)) (fun w => KN (fun z => w ((db_eq hA hB _).mpr z)))
theorem go_dif_ne (X : Stand p l e R s m args below meth c T locs cells slots) (hx : p.tables.exec = Jvm.exec) {x y : UInt64} {k i j : Int} {A B : Nat} {cm : CmpOp} {o : Int} (hd : decode c.code pc = .ok (.ifCond .ne o, 3)) (hp : pc + 3 = q) (ho : 0 ≤ (pc : Int) + o) (hq : ((pc : Int) + o).toNat = q') (hA : DB k A i x) (hB : DB k B j y) (KY : ¬ i = j → Go p e below s Q ce sl T (mkF m q' ls st)) (KN : i = j → Go p e below s Q ce sl T (mkF m q ls st)) : Go p e below s Q ce sl T (mkF m pc ls (.int (cmpValue (FP.dcmp x y) cm) :: st)) :=
  go_if_ne X hx hd hp ho hq (fun w => KY (fun z => w ((db_eq hA hB _).mpr z))) (fun w => KN ((db_eq hA hB _).mp w))
end OwnFloatGo

def cnt4 (m c0 c1 c2 c3 : Int32) : Int32 := (((((0 : Int32) + (if (0 : Int32) < m then c0 else 0)) + (if (1 : Int32) < m then c1 else 0)) + (if (2 : Int32) < m then c2 else 0)) + (if (3 : Int32) < m then c3 else 0))
theorem own_up {m i j : Int32} (h : ¬ i < m) (hj : i.toInt ≤ j.toInt) : ¬ j < m := by rw [Int32.lt_iff_toInt_lt] at h ⊢; omega
theorem own_cnt0 {m c0 c1 c2 c3 : Int32}  (h0 : ¬ (0 : Int32) < m) : cnt4 m c0 c1 c2 c3 = (0 : Int32) := by
  unfold cnt4
  rw [if_neg (show ¬ (0 : Int32) < m from own_up h0 (by decide)), if_neg (show ¬ (1 : Int32) < m from own_up h0 (by decide)), if_neg (show ¬ (2 : Int32) < m from own_up h0 (by decide)), if_neg (show ¬ (3 : Int32) < m from own_up h0 (by decide))]
  simp only [Int32.add_zero]
theorem own_cnt1 {m c0 c1 c2 c3 : Int32} (h0 : (0 : Int32) < m) (h1 : ¬ (1 : Int32) < m) : cnt4 m c0 c1 c2 c3 = (0 + c0) := by
  unfold cnt4
  rw [if_pos h0, if_neg (show ¬ (1 : Int32) < m from own_up h1 (by decide)), if_neg (show ¬ (2 : Int32) < m from own_up h1 (by decide)), if_neg (show ¬ (3 : Int32) < m from own_up h1 (by decide))]
  simp only [Int32.add_zero]
theorem own_cnt2 {m c0 c1 c2 c3 : Int32} (h0 : (0 : Int32) < m) (h1 : (1 : Int32) < m) (h2 : ¬ (2 : Int32) < m) : cnt4 m c0 c1 c2 c3 = ((0 + c0) + c1) := by
  unfold cnt4
  rw [if_pos h0, if_pos h1, if_neg (show ¬ (2 : Int32) < m from own_up h2 (by decide)), if_neg (show ¬ (3 : Int32) < m from own_up h2 (by decide))]
  simp only [Int32.add_zero]
theorem own_cnt3 {m c0 c1 c2 c3 : Int32} (h0 : (0 : Int32) < m) (h1 : (1 : Int32) < m) (h2 : (2 : Int32) < m) (h3 : ¬ (3 : Int32) < m) : cnt4 m c0 c1 c2 c3 = (((0 + c0) + c1) + c2) := by
  unfold cnt4
  rw [if_pos h0, if_pos h1, if_pos h2, if_neg (show ¬ (3 : Int32) < m from own_up h3 (by decide))]
  simp only [Int32.add_zero]
theorem own_cnt4 {m c0 c1 c2 c3 : Int32} (h0 : (0 : Int32) < m) (h1 : (1 : Int32) < m) (h2 : (2 : Int32) < m) (h3 : (3 : Int32) < m) (h4 : ¬ (4 : Int32) < m) : cnt4 m c0 c1 c2 c3 = ((((0 + c0) + c1) + c2) + c3) := by
  unfold cnt4
  rw [if_pos h0, if_pos h1, if_pos h2, if_pos h3]
theorem own_nlt0 (c : Int32) : ¬ (0 : Int32) < (if (0 : Int32) < c then (0 : Int32) else c) := by
  by_cases h : (0 : Int32) < c
  · rw [if_pos h]; decide
  · rw [if_neg h]; exact h
theorem own_nlt1 (c : Int32) : ¬ (1 : Int32) < (if (1 : Int32) < c then (1 : Int32) else c) := by
  by_cases h : (1 : Int32) < c
  · rw [if_pos h]; decide
  · rw [if_neg h]; exact h
theorem own_nlt2 (c : Int32) : ¬ (2 : Int32) < (if (2 : Int32) < c then (2 : Int32) else c) := by
  by_cases h : (2 : Int32) < c
  · rw [if_pos h]; decide
  · rw [if_neg h]; exact h
theorem own_nlt3 (c : Int32) : ¬ (3 : Int32) < (if (3 : Int32) < c then (3 : Int32) else c) := by
  by_cases h : (3 : Int32) < c
  · rw [if_pos h]; decide
  · rw [if_neg h]; exact h
theorem own_nlt4 (c : Int32) : ¬ (4 : Int32) < (if (4 : Int32) < c then (4 : Int32) else c) := by
  by_cases h : (4 : Int32) < c
  · rw [if_pos h]; decide
  · rw [if_neg h]; exact h
theorem own_dn {c : Int32} (h : ¬ c < 1) (f : Int32) : Jvm.Free.Fl.NoNaN64 (FP.ddiv (FP.i2d f) (FP.i2d c)) := by
  have hc : c ≠ 0 := fun q => h (by rw [q]; decide)
  exact Jvm.Free.Fl.noNaN64_no.mpr (FP.Core.ddiv_out (FP.Core.i2d_fin f).notNaN (FP.Core.i2d_fin c) (fun q => FP.Core.i2d_ne_zero hc ((FP.Core.zero_bits2 _).mp q)))
theorem own_nar {b : Int32} (h : b = 0 ∨ b = 1) : nar .boolean b = b := by rcases h with rfl | rfl <;> rfl
theorem own_ge1 (y : Int32) (h : ¬ (y &&& (2147483647 : Int32)) = 0) : ¬ (y &&& (2147483647 : Int32)) < 1 := by
  have h1 := c_and y 2147483647 (by decide)
  rw [Int32.lt_iff_toInt_lt]
  have e1 : (1 : Int32).toInt = 1 := rfl
  have h2 : (y &&& 2147483647).toInt ≠ 0 := fun q => h (Int32.toInt_inj.mp q)
  omega
theorem own_len (y : Int32) : ((y.toUInt32 >>> ((4 : Int32) &&& 31).toUInt32).toInt32) % (5 : Int32) = 0 ∨ ((y.toUInt32 >>> ((4 : Int32) &&& 31).toUInt32).toInt32) % (5 : Int32) = 1 ∨ ((y.toUInt32 >>> ((4 : Int32) &&& 31).toUInt32).toInt32) % (5 : Int32) = 2 ∨ ((y.toUInt32 >>> ((4 : Int32) &&& 31).toUInt32).toInt32) % (5 : Int32) = 3 ∨ ((y.toUInt32 >>> ((4 : Int32) &&& 31).toUInt32).toInt32) % (5 : Int32) = 4 := by
  have h1 := c_iushr y 4 4 (by decide) (by decide)
  generalize (y.toUInt32 >>> ((4 : Int32) &&& 31).toUInt32).toInt32 = w at *
  have h0 : 0 ≤ w.toInt := by rw [h1, show ((2 ^ 4 : Nat) : Int) = 16 from rfl]; omega
  have h2 := (c_irem w 5 5 rfl).1 h0
  simp only [← Int32.toInt_inj]
  show (w % 5).toInt = 0 ∨ (w % 5).toInt = 1 ∨ (w % 5).toInt = 2 ∨ (w % 5).toInt = 3 ∨ (w % 5).toInt = 4
  omega

theorem pd_0 : parseMethodDescriptor "(II)I" = some ⟨[.int, .int], some .int⟩ := by decide +kernel
theorem pd_1 : parseMethodDescriptor "([ZI)V" = some ⟨[(.array .boolean), .int], none⟩ := by decide +kernel
theorem pd_2 : parseMethodDescriptor "(I)D" = some ⟨[.int], some .double⟩ := by decide +kernel
theorem d3_0 : decode jdk_29_method_69_code 0 = .ok (.iload_n 0, 1) := by decide +kernel
theorem d3_1 : decode jdk_29_method_69_code 1 = .ok (.iload_n 1, 1) := by decide +kernel
theorem d3_2 : decode jdk_29_method_69_code 2 = .ok (.if_icmp .gt 7, 3) := by decide +kernel
theorem d3_5 : decode jdk_29_method_69_code 5 = .ok (.iload_n 0, 1) := by decide +kernel
theorem d3_6 : decode jdk_29_method_69_code 6 = .ok (.goto 4, 3) := by decide +kernel
theorem d3_9 : decode jdk_29_method_69_code 9 = .ok (.iload_n 1, 1) := by decide +kernel
theorem d3_10 : decode jdk_29_method_69_code 10 = .ok (.ireturn, 1) := by decide +kernel
theorem ef_3 (m : MethodId) (x0 : Int32) (x1 : Int32) : entryFrame m #[(.int x0), (.int x1)] 2 = mkF m 0 #[.val (.int x0), .val (.int x1)] [] := by first | (simp [entryFrame, mkF, argsToLocals, Value.category]; done) | rfl
set_option maxRecDepth 65536 in
set_option maxHeartbeats 40000000 in
theorem rm3 (l : Launch) (Z : State) (a0 : Array Value) (hw : ∀ d ∈ tables_1, d.before a0 Z = true) (ws : List Jvm.Cond) (p_ : Int32) (q_ : Int32)  (h0 : Heap)  :
    Con l (⟨"java/lang/Math", "min", "(II)I"⟩ : MethodName) jdk_29_method_69_code 2 (some .int) ws ({ frames := 0, cells := 0, slots := 0, locals := 0 } : Room) Z #[(.int p_), (.int q_)] h0 (fun v h L => (∀ n, Fr n L) ∧ v = some (.int (if q_ < p_ then q_ else p_)) ∧ h = h0) := by
  refine con_of (Jvm.Free.JP.mathPlain rfl (by decide +kernel)) ?_
  intro p e s m below meth c s₁ X0 hx hby hml hret hlk hown hnm hZ e0
  refine Go.cast (ef_3 m p_ q_) ?_
  refine go_iloadN (q := 1) X0 hx (hb hby d3_0) rfl rfl ?_
  refine go_iloadN (q := 2) X0 hx (hb hby d3_1) rfl rfl ?_
  refine go_icmp_gt (q := 5) (q' := 9) X0 hx (hb hby d3_2) rfl (by decide) rfl (fun hc2 => ?_) (fun hc2 => ?_)
  · refine go_iloadN (q := 10) X0 hx (hb hby d3_9) rfl rfl ?_
    exact go_retI X0 hx hret hlk (hb hby d3_10) (by decide) (by decide) ⟨fun _ => Fr.nil _, by rw [if_pos hc2], e0⟩
  · refine go_iloadN (q := 6) X0 hx (hb hby d3_5) rfl rfl ?_
    refine go_goto (q := 10) X0 hx (hb hby d3_6) (by decide) rfl ?_
    exact go_retI X0 hx hret hlk (hb hby d3_10) (by decide) (by decide) ⟨fun _ => Fr.nil _, by rw [if_neg hc2], e0⟩
theorem d1_0 : decode prog_3_method_1_code 0 = .ok (.aload_n 0, 1) := by decide +kernel
theorem d1_1 : decode prog_3_method_1_code 1 = .ok (.invokespecial 1, 3) := by decide +kernel
theorem d1_4 : decode prog_3_method_1_code 4 = .ok (.aload_n 1, 1) := by decide +kernel
theorem d1_5 : decode prog_3_method_1_code 5 = .ok (.ifnull 8, 3) := by decide +kernel
theorem d1_8 : decode prog_3_method_1_code 8 = .ok (.iload_n 2, 1) := by decide +kernel
theorem d1_9 : decode prog_3_method_1_code 9 = .ok (.iconst 1, 1) := by decide +kernel
theorem d1_10 : decode prog_3_method_1_code 10 = .ok (.if_icmp .ge 11, 3) := by decide +kernel
theorem d1_21 : decode prog_3_method_1_code 21 = .ok (.aload_n 0, 1) := by decide +kernel
theorem d1_22 : decode prog_3_method_1_code 22 = .ok (.aload_n 1, 1) := by decide +kernel
theorem d1_23 : decode prog_3_method_1_code 23 = .ok (.putfield 10, 3) := by decide +kernel
theorem d1_26 : decode prog_3_method_1_code 26 = .ok (.aload_n 0, 1) := by decide +kernel
theorem d1_27 : decode prog_3_method_1_code 27 = .ok (.iload_n 2, 1) := by decide +kernel
theorem d1_28 : decode prog_3_method_1_code 28 = .ok (.putfield 16, 3) := by decide +kernel
theorem d1_31 : decode prog_3_method_1_code 31 = .ok (.return_, 1) := by decide +kernel
theorem pn_1 : plainName "com/example/forager/forager/eval/Ranking" = true := by first | (simp [plainName, overriddenIn]; done) | decide +kernel
theorem ef_1 (m : MethodId) (x0 : Addr) (x1 : Addr) (x2 : Int32) : entryFrame m #[(.ref x0), (.ref x1), (.int x2)] 3 = mkF m 0 #[.val (.ref x0), .val (.ref x1), .val (.int x2)] [] := by first | (simp [entryFrame, mkF, argsToLocals, Value.category]; done) | rfl
set_option maxRecDepth 65536 in
set_option maxHeartbeats 40000000 in
theorem rm1 (l : Launch) (Z : State) (a0 : Array Value) (hw : ∀ d ∈ tables_1, d.before a0 Z = true) (ws : List Jvm.Cond) (ao : Addr) (ar : Addr) (n_ : Int32) (n0 : Nat) (u1 u2 : Value) (h0 : Heap) (hs0 : n0 ≤ h0.size) (g_ao : n0 ≤ ao) (E_ao : Exa Z h0 ao "com/example/forager/forager/eval/Ranking") (F1 : Fld Z h0 ao "com/example/forager/forager/eval/Ranking" "relevant" "[Z" u1) (F2 : Fld Z h0 ao "com/example/forager/forager/eval/Ranking" "relevantCount" "I" u2) (p1 : ¬ n_ < 1) :
    Con l (⟨"com/example/forager/forager/eval/Ranking", "<init>", "([ZI)V"⟩ : MethodName) prog_3_method_1_code 3 none ws ({ frames := 1, cells := 0, slots := 0, locals := 12 } : Room) Z #[(.ref ao), (.ref ar), (.int n_)] h0 (fun v h L => Fr n0 L ∧ v = none ∧ Keep h0 h [ao] ∧ Fld Z h ao "com/example/forager/forager/eval/Ranking" "relevant" "[Z" (.ref ar) ∧ Fld Z h ao "com/example/forager/forager/eval/Ranking" "relevantCount" "I" (.int n_)) := by
  refine con_of (plainFor_of_name pn_1) ?_
  intro p e s m below meth c s₁ X0 hx hby hml hret hlk hown hnm hZ e0
  refine Go.cast (ef_1 m ao ar n_) ?_
  have N0 := Fr.nil n0
  have hsz : n0 ≤ h0.size := hs0
  have K0 := Keep.refl h0 [ao]
  refine go_aloadN (q := 1) X0 hx (hb hby d1_0) rfl rfl rfl ?_
  refine go_initO (q := 4) (W := 0) X0 hx hZ hown (hw _ (List.mem_of_getElem? (i := 8) rfl)) (hw _ (List.mem_of_getElem? (i := 9) rfl)) (hw _ (List.mem_of_getElem? (i := 10) rfl)) e0 (by rw [hml]; rfl) (hb hby d1_1) rfl (by decide) (Nat.le_of_eq rfl) (by decide) (fun T1 X1 e1 => ?_)
  refine go_aloadN (q := 5) X1 hx (hb hby d1_4) rfl rfl rfl ?_
  refine go_ifnullR (q := 8) X1 hx (hb hby d1_5) rfl ?_
  refine go_iloadN (q := 9) X1 hx (hb hby d1_8) rfl rfl ?_
  refine go_iconst (q := 10) (v := (1 : Int32)) X1 hx (hb hby d1_9) rfl rfl ?_
  refine go_icmp_ge (q := 13) (q' := 21) X1 hx (hb hby d1_10) rfl (by decide) rfl (fun hc10 => ?_) (fun hc10 => ?_)
  · refine go_aloadN (q := 22) X1 hx (hb hby d1_21) rfl rfl rfl ?_
    refine go_aloadN (q := 23) X1 hx (hb hby d1_22) rfl rfl rfl ?_
    refine go_putF (q := 26) X1 hx hZ (host := "") hown (Or.inl (hw _ (List.mem_of_getElem? (i := 11) rfl))) Via.refl e1 F1 E_ao (Or.inr ⟨(hw _ (List.mem_of_getElem? (i := 12) rfl)), rfl, hnm⟩) (hw _ (List.mem_of_getElem? (i := 3) rfl)) (ty := (.array .boolean)) (by decide) rfl rfl N0 g_ao (hb hby d1_23) rfl (fun T2 h2 l2 X2 N2 e2 W2 => ?_)
    replace F1 := F1.same W2
    replace E_ao := E_ao.wr W2
    replace F2 := F2.other W2 (Or.inr (slot_ne (Or.inr (hw _ (List.mem_of_getElem? (i := 14) rfl))) (Or.inr (hw _ (List.mem_of_getElem? (i := 12) rfl))) (by decide) (t := .int) (t' := (.array .boolean)) (by decide) (by decide)))
    replace hsz := Nat.le_trans hsz (Nat.le_of_eq W2.size.symm)
    have KW2 : Keep h0 h2 [ao] := K0.wr W2 (Or.inl (by simp))
    refine go_aloadN (q := 27) X2 hx (hb hby d1_26) rfl rfl rfl ?_
    refine go_iloadN (q := 28) X2 hx (hb hby d1_27) rfl rfl ?_
    refine go_putF (q := 31) X2 hx hZ (host := "") hown (Or.inl (hw _ (List.mem_of_getElem? (i := 13) rfl))) Via.refl e2 F2 E_ao (Or.inr ⟨(hw _ (List.mem_of_getElem? (i := 14) rfl)), rfl, hnm⟩) (hw _ (List.mem_of_getElem? (i := 3) rfl)) (ty := .int) (by decide) rfl rfl N2 g_ao (hb hby d1_28) rfl (fun T3 h3 l3 X3 N3 e3 W3 => ?_)
    replace F2 := F2.same W3
    replace E_ao := E_ao.wr W3
    replace F1 := F1.other W3 (Or.inr (slot_ne (Or.inr (hw _ (List.mem_of_getElem? (i := 12) rfl))) (Or.inr (hw _ (List.mem_of_getElem? (i := 14) rfl))) (by decide) (t := (.array .boolean)) (t' := .int) (by decide) (by decide)))
    replace hsz := Nat.le_trans hsz (Nat.le_of_eq W3.size.symm)
    have KW3 : Keep h0 h3 [ao] := KW2.wr W3 (Or.inl (by simp))
    exact go_retV X3 hx hret hlk (hb hby d1_31) (by decide) (by decide) ⟨N3, rfl, by rw [e3]; exact ⟨KW3, F1, F2⟩⟩
  · exact absurd hc10 p1
theorem d4_0 : decode prog_3_method_2_code 0 = .ok (.iconst 0, 1) := by decide +kernel
theorem d4_1 : decode prog_3_method_2_code 1 = .ok (.istore_n 2, 1) := by decide +kernel
theorem d4_2 : decode prog_3_method_2_code 2 = .ok (.iconst 0, 1) := by decide +kernel
theorem d4_3 : decode prog_3_method_2_code 3 = .ok (.istore_n 3, 1) := by decide +kernel
theorem d4_4 : decode prog_3_method_2_code 4 = .ok (.iload_n 3, 1) := by decide +kernel
theorem d4_5 : decode prog_3_method_2_code 5 = .ok (.iload_n 1, 1) := by decide +kernel
theorem d4_6 : decode prog_3_method_2_code 6 = .ok (.aload_n 0, 1) := by decide +kernel
theorem d4_7 : decode prog_3_method_2_code 7 = .ok (.getfield 10, 3) := by decide +kernel
theorem d4_10 : decode prog_3_method_2_code 10 = .ok (.arraylength, 1) := by decide +kernel
theorem d4_11 : decode prog_3_method_2_code 11 = .ok (.invokestatic 20, 3) := by decide +kernel
theorem d4_14 : decode prog_3_method_2_code 14 = .ok (.if_icmp .ge 21, 3) := by decide +kernel
theorem d4_35 : decode prog_3_method_2_code 35 = .ok (.iload_n 2, 1) := by decide +kernel
theorem d4_36 : decode prog_3_method_2_code 36 = .ok (.i2d, 1) := by decide +kernel
theorem d4_37 : decode prog_3_method_2_code 37 = .ok (.iload_n 1, 1) := by decide +kernel
theorem d4_38 : decode prog_3_method_2_code 38 = .ok (.i2d, 1) := by decide +kernel
theorem d4_39 : decode prog_3_method_2_code 39 = .ok (.ddiv, 1) := by decide +kernel
theorem d4_40 : decode prog_3_method_2_code 40 = .ok (.dreturn, 1) := by decide +kernel
theorem pn_4 : plainName "com/example/forager/forager/eval/Ranking" = true := by first | (simp [plainName, overriddenIn]; done) | decide +kernel
theorem ef_4 (m : MethodId) (x0 : Addr) (x1 : Int32) : entryFrame m #[(.ref x0), (.int x1)] 4 = mkF m 0 #[.val (.ref x0), .val (.int x1), .unset, .unset] [] := by first | (simp [entryFrame, mkF, argsToLocals, Value.category]; done) | rfl
set_option maxRecDepth 65536 in
set_option maxHeartbeats 40000000 in
theorem rm4_0 (l : Launch) (Z : State) (a0 : Array Value) (hw : ∀ d ∈ tables_1, d.before a0 Z = true) (ws : List Jvm.Cond) (ao : Addr) (cut : Int32) (n0 : Nat) (ar : Addr) (kr : ClassId) (dr : Value) (c0 c1 c2 c3 : Int32) (h0 : Heap) (F1 : Fld Z h0 ao "com/example/forager/forager/eval/Ranking" "relevant" "[Z" (.ref ar)) (V_ar : Arv Z h0 ar kr .boolean (0 : Int32) [] dr) (hcut : ¬ cut < 1) :
    Con l (⟨"com/example/forager/forager/eval/Ranking", "precision", "(I)D"⟩ : MethodName) prog_3_method_2_code 4 (some .double) ws ({ frames := 1, cells := 0, slots := 0, locals := 16 } : Room) Z #[(.ref ao), (.int cut)] h0 (fun v h L => Fr n0 L ∧ v = some (.double (FP.ddiv (FP.i2d (cnt4 (if (0 : Int32) < cut then (0 : Int32) else cut) c0 c1 c2 c3)) (FP.i2d cut))) ∧ h = h0) := by
  refine con_of (plainFor_of_name pn_4) ?_
  intro p e s m below meth c s₁ X0 hx hby hml hret hlk hown hnm hZ e0
  refine Go.cast (ef_4 m ao cut) ?_
  have N0 := Fr.nil n0
  refine go_iconst (q := 1) (v := (0 : Int32)) X0 hx (hb hby d4_0) rfl rfl ?_
  refine go_istoreN (q := 2) (l' := #[.val (.ref ao), .val (.int cut), .val (.int (0 : Int32)), .unset]) X0 hx (hb hby d4_1) rfl rfl ?_
  refine go_iconst (q := 3) (v := (0 : Int32)) X0 hx (hb hby d4_2) rfl rfl ?_
  refine go_istoreN (q := 4) (l' := #[.val (.ref ao), .val (.int cut), .val (.int (0 : Int32)), .val (.int (0 : Int32))]) X0 hx (hb hby d4_3) rfl rfl ?_
  refine go_iloadN (q := 5) X0 hx (hb hby d4_4) rfl rfl ?_
  refine go_iloadN (q := 6) X0 hx (hb hby d4_5) rfl rfl ?_
  refine go_aloadN (q := 7) X0 hx (hb hby d4_6) rfl rfl rfl ?_
  refine go_getF (q := 10) X0 hx hZ (host := "") hown (Or.inl (hw _ (List.mem_of_getElem? (i := 11) rfl))) Via.refl e0 F1 (hb hby d4_7) rfl (fun T1 X1 e1 => ?_)
  refine go_alen (q := 11) X1 hx hZ e1 V_ar (hb hby d4_10) rfl ?_
  refine go_callS (q := 14) (W := 1) X1 hx hZ hown e1 (hw _ (List.mem_of_getElem? (i := 24) rfl)) (hw _ (List.mem_of_getElem? (i := 16) rfl)) (hw _ (List.mem_of_getElem? (i := 17) rfl)) (hw _ (List.mem_of_getElem? (i := 18) rfl)) (by decide) [(.int cut), (.int (0 : Int32))] [(.int (0 : Int32))] (rm3 l Z a0 hw [] cut (0 : Int32) h0) (by rw [hml]; rfl) rfl (lenOf pd_0 rfl) (Nat.le_of_eq rfl) (by decide) (by decide) (hb hby d4_11) rfl (by decide) (by decide) ?_
  rintro T2 L2 v2 X2 ⟨Np2, rfl, e2⟩
  have N2 := Fr.app N0 (Np2 _)
  show Go p e below s (fun v h L => Fr n0 L ∧ v = some (.double (FP.ddiv (FP.i2d (cnt4 (if (0 : Int32) < cut then (0 : Int32) else cut) c0 c1 c2 c3)) (FP.i2d cut))) ∧ h = h0) ({ frames := 1, cells := 0, slots := 0, locals := 16 } : Room).cells ({ frames := 1, cells := 0, slots := 0, locals := 16 } : Room).slots T2 (mkF m 14 #[.val (.ref ao), .val (.int cut), .val (.int (0 : Int32)), .val (.int (0 : Int32))] [(.int (if (0 : Int32) < cut then (0 : Int32) else cut)), (.int (0 : Int32))])
  refine go_icmp_ge (q := 17) (q' := 35) X2 hx (hb hby d4_14) rfl (by decide) rfl (fun hl0 => ?_) (fun hl0 => ?_)
  · refine go_iloadN (q := 36) X2 hx (hb hby d4_35) rfl rfl ?_
    refine go_i2d (q := 37) X2 hx (hb hby d4_36) rfl rfl ?_
    refine go_iloadN (q := 38) X2 hx (hb hby d4_37) rfl rfl ?_
    refine go_i2d (q := 39) X2 hx (hb hby d4_38) rfl rfl ?_
    refine go_ddiv (q := 40) X2 hx (hb hby d4_39) rfl (own_dn hcut _) rfl ?_
    exact go_retD X2 hx hret hlk (hb hby d4_40) (by decide) (by decide) ⟨N2, by rw [own_cnt0 hl0], e2⟩
  · exact absurd hl0 (own_nlt0 _)
theorem d4_17 : decode prog_3_method_2_code 17 = .ok (.aload_n 0, 1) := by decide +kernel
theorem d4_18 : decode prog_3_method_2_code 18 = .ok (.getfield 10, 3) := by decide +kernel
theorem d4_21 : decode prog_3_method_2_code 21 = .ok (.iload_n 3, 1) := by decide +kernel
theorem d4_22 : decode prog_3_method_2_code 22 = .ok (.baload, 1) := by decide +kernel
theorem d4_23 : decode prog_3_method_2_code 23 = .ok (.ifCond .eq 6, 3) := by decide +kernel
theorem d4_26 : decode prog_3_method_2_code 26 = .ok (.iinc 2 1, 3) := by decide +kernel
theorem d4_29 : decode prog_3_method_2_code 29 = .ok (.iinc 3 1, 3) := by decide +kernel
theorem d4_32 : decode prog_3_method_2_code 32 = .ok (.goto (-28), 3) := by decide +kernel
set_option maxRecDepth 65536 in
set_option maxHeartbeats 40000000 in
theorem rm4_1 (l : Launch) (Z : State) (a0 : Array Value) (hw : ∀ d ∈ tables_1, d.before a0 Z = true) (ws : List Jvm.Cond) (ao : Addr) (cut : Int32) (n0 : Nat) (ar : Addr) (kr : ClassId) (dr : Value) (c0 c1 c2 c3 : Int32) (h0 : Heap) (F1 : Fld Z h0 ao "com/example/forager/forager/eval/Ranking" "relevant" "[Z" (.ref ar)) (V_ar : Arv Z h0 ar kr .boolean (1 : Int32) [.int c0] dr) (hcut : ¬ cut < 1) (hb0 : c0 = 0 ∨ c0 = 1) :
    Con l (⟨"com/example/forager/forager/eval/Ranking", "precision", "(I)D"⟩ : MethodName) prog_3_method_2_code 4 (some .double) ws ({ frames := 1, cells := 0, slots := 0, locals := 16 } : Room) Z #[(.ref ao), (.int cut)] h0 (fun v h L => Fr n0 L ∧ v = some (.double (FP.ddiv (FP.i2d (cnt4 (if (1 : Int32) < cut then (1 : Int32) else cut) c0 c1 c2 c3)) (FP.i2d cut))) ∧ h = h0) := by
  refine con_of (plainFor_of_name pn_4) ?_
  intro p e s m below meth c s₁ X0 hx hby hml hret hlk hown hnm hZ e0
  refine Go.cast (ef_4 m ao cut) ?_
  have N0 := Fr.nil n0
  refine go_iconst (q := 1) (v := (0 : Int32)) X0 hx (hb hby d4_0) rfl rfl ?_
  refine go_istoreN (q := 2) (l' := #[.val (.ref ao), .val (.int cut), .val (.int (0 : Int32)), .unset]) X0 hx (hb hby d4_1) rfl rfl ?_
  refine go_iconst (q := 3) (v := (0 : Int32)) X0 hx (hb hby d4_2) rfl rfl ?_
  refine go_istoreN (q := 4) (l' := #[.val (.ref ao), .val (.int cut), .val (.int (0 : Int32)), .val (.int (0 : Int32))]) X0 hx (hb hby d4_3) rfl rfl ?_
  refine go_iloadN (q := 5) X0 hx (hb hby d4_4) rfl rfl ?_
  refine go_iloadN (q := 6) X0 hx (hb hby d4_5) rfl rfl ?_
  refine go_aloadN (q := 7) X0 hx (hb hby d4_6) rfl rfl rfl ?_
  refine go_getF (q := 10) X0 hx hZ (host := "") hown (Or.inl (hw _ (List.mem_of_getElem? (i := 11) rfl))) Via.refl e0 F1 (hb hby d4_7) rfl (fun T1 X1 e1 => ?_)
  refine go_alen (q := 11) X1 hx hZ e1 V_ar (hb hby d4_10) rfl ?_
  refine go_callS (q := 14) (W := 1) X1 hx hZ hown e1 (hw _ (List.mem_of_getElem? (i := 24) rfl)) (hw _ (List.mem_of_getElem? (i := 16) rfl)) (hw _ (List.mem_of_getElem? (i := 17) rfl)) (hw _ (List.mem_of_getElem? (i := 18) rfl)) (by decide) [(.int cut), (.int (1 : Int32))] [(.int (0 : Int32))] (rm3 l Z a0 hw [] cut (1 : Int32) h0) (by rw [hml]; rfl) rfl (lenOf pd_0 rfl) (Nat.le_of_eq rfl) (by decide) (by decide) (hb hby d4_11) rfl (by decide) (by decide) ?_
  rintro T2 L2 v2 X2 ⟨Np2, rfl, e2⟩
  have N2 := Fr.app N0 (Np2 _)
  show Go p e below s (fun v h L => Fr n0 L ∧ v = some (.double (FP.ddiv (FP.i2d (cnt4 (if (1 : Int32) < cut then (1 : Int32) else cut) c0 c1 c2 c3)) (FP.i2d cut))) ∧ h = h0) ({ frames := 1, cells := 0, slots := 0, locals := 16 } : Room).cells ({ frames := 1, cells := 0, slots := 0, locals := 16 } : Room).slots T2 (mkF m 14 #[.val (.ref ao), .val (.int cut), .val (.int (0 : Int32)), .val (.int (0 : Int32))] [(.int (if (1 : Int32) < cut then (1 : Int32) else cut)), (.int (0 : Int32))])
  refine go_icmp_ge (q := 17) (q' := 35) X2 hx (hb hby d4_14) rfl (by decide) rfl (fun hl0 => ?_) (fun hl0 => ?_)
  · refine go_iloadN (q := 36) X2 hx (hb hby d4_35) rfl rfl ?_
    refine go_i2d (q := 37) X2 hx (hb hby d4_36) rfl rfl ?_
    refine go_iloadN (q := 38) X2 hx (hb hby d4_37) rfl rfl ?_
    refine go_i2d (q := 39) X2 hx (hb hby d4_38) rfl rfl ?_
    refine go_ddiv (q := 40) X2 hx (hb hby d4_39) rfl (own_dn hcut _) rfl ?_
    exact go_retD X2 hx hret hlk (hb hby d4_40) (by decide) (by decide) ⟨N2, by rw [own_cnt0 hl0], e2⟩
  · refine go_aloadN (q := 18) X2 hx (hb hby d4_17) rfl rfl rfl ?_
    refine go_getF (q := 21) X2 hx hZ (host := "") hown (Or.inl (hw _ (List.mem_of_getElem? (i := 11) rfl))) Via.refl e2 F1 (hb hby d4_18) rfl (fun T3 X3 e3 => ?_)
    refine go_iloadN (q := 22) X3 hx (hb hby d4_21) rfl rfl ?_
    refine go_baload (q := 23) (v := (.int c0)) X3 hx hZ e3 V_ar ⟨by decide, by decide⟩ rfl (hb hby d4_22) rfl ?_
    suffices J0 : ∀ f1 : Int32, f1 = (0 : Int32) + c0 → Go p e below s (fun v h L => Fr n0 L ∧ v = some (.double (FP.ddiv (FP.i2d (cnt4 (if (1 : Int32) < cut then (1 : Int32) else cut) c0 c1 c2 c3)) (FP.i2d cut))) ∧ h = h0) ({ frames := 1, cells := 0, slots := 0, locals := 16 } : Room).cells ({ frames := 1, cells := 0, slots := 0, locals := 16 } : Room).slots T3 (mkF m 29 #[.val (.ref ao), .val (.int cut), .val (.int f1), .val (.int (0 : Int32))] []) by
      refine go_if_eq (q := 26) (q' := 29) X3 hx (hb hby d4_23) rfl (by decide) rfl (fun hz0 => ?_) (fun hz0 => ?_)
      · exact J0 _ (by rw [hz0]; exact (Int32.add_zero _).symm)
      · refine go_iinc (q := 29) (l' := #[.val (.ref ao), .val (.int cut), .val (.int (1 : Int32)), .val (.int (0 : Int32))]) X3 hx (hb hby d4_26) rfl rfl rfl ?_
        exact J0 _ (by rw [hb0.resolve_left hz0]; try rfl)
    intro f1 ef1
    refine go_iinc (q := 32) (l' := #[.val (.ref ao), .val (.int cut), .val (.int f1), .val (.int (1 : Int32))]) X3 hx (hb hby d4_29) rfl rfl rfl ?_
    refine go_goto (q := 4) X3 hx (hb hby d4_32) (by decide) rfl ?_
    refine go_iloadN (q := 5) X3 hx (hb hby d4_4) rfl rfl ?_
    refine go_iloadN (q := 6) X3 hx (hb hby d4_5) rfl rfl ?_
    refine go_aloadN (q := 7) X3 hx (hb hby d4_6) rfl rfl rfl ?_
    refine go_getF (q := 10) X3 hx hZ (host := "") hown (Or.inl (hw _ (List.mem_of_getElem? (i := 11) rfl))) Via.refl e3 F1 (hb hby d4_7) rfl (fun T4 X4 e4 => ?_)
    refine go_alen (q := 11) X4 hx hZ e4 V_ar (hb hby d4_10) rfl ?_
    refine go_callS (q := 14) (W := 1) X4 hx hZ hown e4 (hw _ (List.mem_of_getElem? (i := 24) rfl)) (hw _ (List.mem_of_getElem? (i := 16) rfl)) (hw _ (List.mem_of_getElem? (i := 17) rfl)) (hw _ (List.mem_of_getElem? (i := 18) rfl)) (by decide) [(.int cut), (.int (1 : Int32))] [(.int (1 : Int32))] (rm3 l Z a0 hw [] cut (1 : Int32) h0) (by rw [hml]; rfl) rfl (lenOf pd_0 rfl) (Nat.le_of_eq rfl) (by decide) (by decide) (hb hby d4_11) rfl (by decide) (by decide) ?_
    rintro T5 L5 v5 X5 ⟨Np5, rfl, e5⟩
    have N5 := Fr.app N2 (Np5 _)
    show Go p e below s (fun v h L => Fr n0 L ∧ v = some (.double (FP.ddiv (FP.i2d (cnt4 (if (1 : Int32) < cut then (1 : Int32) else cut) c0 c1 c2 c3)) (FP.i2d cut))) ∧ h = h0) ({ frames := 1, cells := 0, slots := 0, locals := 16 } : Room).cells ({ frames := 1, cells := 0, slots := 0, locals := 16 } : Room).slots T5 (mkF m 14 #[.val (.ref ao), .val (.int cut), .val (.int f1), .val (.int (1 : Int32))] [(.int (if (1 : Int32) < cut then (1 : Int32) else cut)), (.int (1 : Int32))])
    refine go_icmp_ge (q := 17) (q' := 35) X5 hx (hb hby d4_14) rfl (by decide) rfl (fun hl1 => ?_) (fun hl1 => ?_)
    · refine go_iloadN (q := 36) X5 hx (hb hby d4_35) rfl rfl ?_
      refine go_i2d (q := 37) X5 hx (hb hby d4_36) rfl rfl ?_
      refine go_iloadN (q := 38) X5 hx (hb hby d4_37) rfl rfl ?_
      refine go_i2d (q := 39) X5 hx (hb hby d4_38) rfl rfl ?_
      refine go_ddiv (q := 40) X5 hx (hb hby d4_39) rfl (own_dn hcut _) rfl ?_
      exact go_retD X5 hx hret hlk (hb hby d4_40) (by decide) (by decide) ⟨N5, by rw [own_cnt1 hl0 hl1, ef1], e5⟩
    · exact absurd hl1 (own_nlt1 _)
set_option maxRecDepth 65536 in
set_option maxHeartbeats 40000000 in
theorem rm4_2 (l : Launch) (Z : State) (a0 : Array Value) (hw : ∀ d ∈ tables_1, d.before a0 Z = true) (ws : List Jvm.Cond) (ao : Addr) (cut : Int32) (n0 : Nat) (ar : Addr) (kr : ClassId) (dr : Value) (c0 c1 c2 c3 : Int32) (h0 : Heap) (F1 : Fld Z h0 ao "com/example/forager/forager/eval/Ranking" "relevant" "[Z" (.ref ar)) (V_ar : Arv Z h0 ar kr .boolean (2 : Int32) [.int c0, .int c1] dr) (hcut : ¬ cut < 1) (hb0 : c0 = 0 ∨ c0 = 1) (hb1 : c1 = 0 ∨ c1 = 1) :
    Con l (⟨"com/example/forager/forager/eval/Ranking", "precision", "(I)D"⟩ : MethodName) prog_3_method_2_code 4 (some .double) ws ({ frames := 1, cells := 0, slots := 0, locals := 16 } : Room) Z #[(.ref ao), (.int cut)] h0 (fun v h L => Fr n0 L ∧ v = some (.double (FP.ddiv (FP.i2d (cnt4 (if (2 : Int32) < cut then (2 : Int32) else cut) c0 c1 c2 c3)) (FP.i2d cut))) ∧ h = h0) := by
  refine con_of (plainFor_of_name pn_4) ?_
  intro p e s m below meth c s₁ X0 hx hby hml hret hlk hown hnm hZ e0
  refine Go.cast (ef_4 m ao cut) ?_
  have N0 := Fr.nil n0
  refine go_iconst (q := 1) (v := (0 : Int32)) X0 hx (hb hby d4_0) rfl rfl ?_
  refine go_istoreN (q := 2) (l' := #[.val (.ref ao), .val (.int cut), .val (.int (0 : Int32)), .unset]) X0 hx (hb hby d4_1) rfl rfl ?_
  refine go_iconst (q := 3) (v := (0 : Int32)) X0 hx (hb hby d4_2) rfl rfl ?_
  refine go_istoreN (q := 4) (l' := #[.val (.ref ao), .val (.int cut), .val (.int (0 : Int32)), .val (.int (0 : Int32))]) X0 hx (hb hby d4_3) rfl rfl ?_
  refine go_iloadN (q := 5) X0 hx (hb hby d4_4) rfl rfl ?_
  refine go_iloadN (q := 6) X0 hx (hb hby d4_5) rfl rfl ?_
  refine go_aloadN (q := 7) X0 hx (hb hby d4_6) rfl rfl rfl ?_
  refine go_getF (q := 10) X0 hx hZ (host := "") hown (Or.inl (hw _ (List.mem_of_getElem? (i := 11) rfl))) Via.refl e0 F1 (hb hby d4_7) rfl (fun T1 X1 e1 => ?_)
  refine go_alen (q := 11) X1 hx hZ e1 V_ar (hb hby d4_10) rfl ?_
  refine go_callS (q := 14) (W := 1) X1 hx hZ hown e1 (hw _ (List.mem_of_getElem? (i := 24) rfl)) (hw _ (List.mem_of_getElem? (i := 16) rfl)) (hw _ (List.mem_of_getElem? (i := 17) rfl)) (hw _ (List.mem_of_getElem? (i := 18) rfl)) (by decide) [(.int cut), (.int (2 : Int32))] [(.int (0 : Int32))] (rm3 l Z a0 hw [] cut (2 : Int32) h0) (by rw [hml]; rfl) rfl (lenOf pd_0 rfl) (Nat.le_of_eq rfl) (by decide) (by decide) (hb hby d4_11) rfl (by decide) (by decide) ?_
  rintro T2 L2 v2 X2 ⟨Np2, rfl, e2⟩
  have N2 := Fr.app N0 (Np2 _)
  show Go p e below s (fun v h L => Fr n0 L ∧ v = some (.double (FP.ddiv (FP.i2d (cnt4 (if (2 : Int32) < cut then (2 : Int32) else cut) c0 c1 c2 c3)) (FP.i2d cut))) ∧ h = h0) ({ frames := 1, cells := 0, slots := 0, locals := 16 } : Room).cells ({ frames := 1, cells := 0, slots := 0, locals := 16 } : Room).slots T2 (mkF m 14 #[.val (.ref ao), .val (.int cut), .val (.int (0 : Int32)), .val (.int (0 : Int32))] [(.int (if (2 : Int32) < cut then (2 : Int32) else cut)), (.int (0 : Int32))])
  refine go_icmp_ge (q := 17) (q' := 35) X2 hx (hb hby d4_14) rfl (by decide) rfl (fun hl0 => ?_) (fun hl0 => ?_)
  · refine go_iloadN (q := 36) X2 hx (hb hby d4_35) rfl rfl ?_
    refine go_i2d (q := 37) X2 hx (hb hby d4_36) rfl rfl ?_
    refine go_iloadN (q := 38) X2 hx (hb hby d4_37) rfl rfl ?_
    refine go_i2d (q := 39) X2 hx (hb hby d4_38) rfl rfl ?_
    refine go_ddiv (q := 40) X2 hx (hb hby d4_39) rfl (own_dn hcut _) rfl ?_
    exact go_retD X2 hx hret hlk (hb hby d4_40) (by decide) (by decide) ⟨N2, by rw [own_cnt0 hl0], e2⟩
  · refine go_aloadN (q := 18) X2 hx (hb hby d4_17) rfl rfl rfl ?_
    refine go_getF (q := 21) X2 hx hZ (host := "") hown (Or.inl (hw _ (List.mem_of_getElem? (i := 11) rfl))) Via.refl e2 F1 (hb hby d4_18) rfl (fun T3 X3 e3 => ?_)
    refine go_iloadN (q := 22) X3 hx (hb hby d4_21) rfl rfl ?_
    refine go_baload (q := 23) (v := (.int c0)) X3 hx hZ e3 V_ar ⟨by decide, by decide⟩ rfl (hb hby d4_22) rfl ?_
    suffices J0 : ∀ f1 : Int32, f1 = (0 : Int32) + c0 → Go p e below s (fun v h L => Fr n0 L ∧ v = some (.double (FP.ddiv (FP.i2d (cnt4 (if (2 : Int32) < cut then (2 : Int32) else cut) c0 c1 c2 c3)) (FP.i2d cut))) ∧ h = h0) ({ frames := 1, cells := 0, slots := 0, locals := 16 } : Room).cells ({ frames := 1, cells := 0, slots := 0, locals := 16 } : Room).slots T3 (mkF m 29 #[.val (.ref ao), .val (.int cut), .val (.int f1), .val (.int (0 : Int32))] []) by
      refine go_if_eq (q := 26) (q' := 29) X3 hx (hb hby d4_23) rfl (by decide) rfl (fun hz0 => ?_) (fun hz0 => ?_)
      · exact J0 _ (by rw [hz0]; exact (Int32.add_zero _).symm)
      · refine go_iinc (q := 29) (l' := #[.val (.ref ao), .val (.int cut), .val (.int (1 : Int32)), .val (.int (0 : Int32))]) X3 hx (hb hby d4_26) rfl rfl rfl ?_
        exact J0 _ (by rw [hb0.resolve_left hz0]; try rfl)
    intro f1 ef1
    refine go_iinc (q := 32) (l' := #[.val (.ref ao), .val (.int cut), .val (.int f1), .val (.int (1 : Int32))]) X3 hx (hb hby d4_29) rfl rfl rfl ?_
    refine go_goto (q := 4) X3 hx (hb hby d4_32) (by decide) rfl ?_
    refine go_iloadN (q := 5) X3 hx (hb hby d4_4) rfl rfl ?_
    refine go_iloadN (q := 6) X3 hx (hb hby d4_5) rfl rfl ?_
    refine go_aloadN (q := 7) X3 hx (hb hby d4_6) rfl rfl rfl ?_
    refine go_getF (q := 10) X3 hx hZ (host := "") hown (Or.inl (hw _ (List.mem_of_getElem? (i := 11) rfl))) Via.refl e3 F1 (hb hby d4_7) rfl (fun T4 X4 e4 => ?_)
    refine go_alen (q := 11) X4 hx hZ e4 V_ar (hb hby d4_10) rfl ?_
    refine go_callS (q := 14) (W := 1) X4 hx hZ hown e4 (hw _ (List.mem_of_getElem? (i := 24) rfl)) (hw _ (List.mem_of_getElem? (i := 16) rfl)) (hw _ (List.mem_of_getElem? (i := 17) rfl)) (hw _ (List.mem_of_getElem? (i := 18) rfl)) (by decide) [(.int cut), (.int (2 : Int32))] [(.int (1 : Int32))] (rm3 l Z a0 hw [] cut (2 : Int32) h0) (by rw [hml]; rfl) rfl (lenOf pd_0 rfl) (Nat.le_of_eq rfl) (by decide) (by decide) (hb hby d4_11) rfl (by decide) (by decide) ?_
    rintro T5 L5 v5 X5 ⟨Np5, rfl, e5⟩
    have N5 := Fr.app N2 (Np5 _)
    show Go p e below s (fun v h L => Fr n0 L ∧ v = some (.double (FP.ddiv (FP.i2d (cnt4 (if (2 : Int32) < cut then (2 : Int32) else cut) c0 c1 c2 c3)) (FP.i2d cut))) ∧ h = h0) ({ frames := 1, cells := 0, slots := 0, locals := 16 } : Room).cells ({ frames := 1, cells := 0, slots := 0, locals := 16 } : Room).slots T5 (mkF m 14 #[.val (.ref ao), .val (.int cut), .val (.int f1), .val (.int (1 : Int32))] [(.int (if (2 : Int32) < cut then (2 : Int32) else cut)), (.int (1 : Int32))])
    refine go_icmp_ge (q := 17) (q' := 35) X5 hx (hb hby d4_14) rfl (by decide) rfl (fun hl1 => ?_) (fun hl1 => ?_)
    · refine go_iloadN (q := 36) X5 hx (hb hby d4_35) rfl rfl ?_
      refine go_i2d (q := 37) X5 hx (hb hby d4_36) rfl rfl ?_
      refine go_iloadN (q := 38) X5 hx (hb hby d4_37) rfl rfl ?_
      refine go_i2d (q := 39) X5 hx (hb hby d4_38) rfl rfl ?_
      refine go_ddiv (q := 40) X5 hx (hb hby d4_39) rfl (own_dn hcut _) rfl ?_
      exact go_retD X5 hx hret hlk (hb hby d4_40) (by decide) (by decide) ⟨N5, by rw [own_cnt1 hl0 hl1, ef1], e5⟩
    · refine go_aloadN (q := 18) X5 hx (hb hby d4_17) rfl rfl rfl ?_
      refine go_getF (q := 21) X5 hx hZ (host := "") hown (Or.inl (hw _ (List.mem_of_getElem? (i := 11) rfl))) Via.refl e5 F1 (hb hby d4_18) rfl (fun T6 X6 e6 => ?_)
      refine go_iloadN (q := 22) X6 hx (hb hby d4_21) rfl rfl ?_
      refine go_baload (q := 23) (v := (.int c1)) X6 hx hZ e6 V_ar ⟨by decide, by decide⟩ rfl (hb hby d4_22) rfl ?_
      suffices J1 : ∀ f2 : Int32, f2 = f1 + c1 → Go p e below s (fun v h L => Fr n0 L ∧ v = some (.double (FP.ddiv (FP.i2d (cnt4 (if (2 : Int32) < cut then (2 : Int32) else cut) c0 c1 c2 c3)) (FP.i2d cut))) ∧ h = h0) ({ frames := 1, cells := 0, slots := 0, locals := 16 } : Room).cells ({ frames := 1, cells := 0, slots := 0, locals := 16 } : Room).slots T6 (mkF m 29 #[.val (.ref ao), .val (.int cut), .val (.int f2), .val (.int (1 : Int32))] []) by
        refine go_if_eq (q := 26) (q' := 29) X6 hx (hb hby d4_23) rfl (by decide) rfl (fun hz1 => ?_) (fun hz1 => ?_)
        · exact J1 _ (by rw [hz1]; exact (Int32.add_zero _).symm)
        · refine go_iinc (q := 29) (l' := #[.val (.ref ao), .val (.int cut), .val (.int (f1 + (1 : Int32))), .val (.int (1 : Int32))]) X6 hx (hb hby d4_26) rfl rfl rfl ?_
          exact J1 _ (by rw [hb1.resolve_left hz1]; try rfl)
      intro f2 ef2
      refine go_iinc (q := 32) (l' := #[.val (.ref ao), .val (.int cut), .val (.int f2), .val (.int (2 : Int32))]) X6 hx (hb hby d4_29) rfl rfl rfl ?_
      refine go_goto (q := 4) X6 hx (hb hby d4_32) (by decide) rfl ?_
      refine go_iloadN (q := 5) X6 hx (hb hby d4_4) rfl rfl ?_
      refine go_iloadN (q := 6) X6 hx (hb hby d4_5) rfl rfl ?_
      refine go_aloadN (q := 7) X6 hx (hb hby d4_6) rfl rfl rfl ?_
      refine go_getF (q := 10) X6 hx hZ (host := "") hown (Or.inl (hw _ (List.mem_of_getElem? (i := 11) rfl))) Via.refl e6 F1 (hb hby d4_7) rfl (fun T7 X7 e7 => ?_)
      refine go_alen (q := 11) X7 hx hZ e7 V_ar (hb hby d4_10) rfl ?_
      refine go_callS (q := 14) (W := 1) X7 hx hZ hown e7 (hw _ (List.mem_of_getElem? (i := 24) rfl)) (hw _ (List.mem_of_getElem? (i := 16) rfl)) (hw _ (List.mem_of_getElem? (i := 17) rfl)) (hw _ (List.mem_of_getElem? (i := 18) rfl)) (by decide) [(.int cut), (.int (2 : Int32))] [(.int (2 : Int32))] (rm3 l Z a0 hw [] cut (2 : Int32) h0) (by rw [hml]; rfl) rfl (lenOf pd_0 rfl) (Nat.le_of_eq rfl) (by decide) (by decide) (hb hby d4_11) rfl (by decide) (by decide) ?_
      rintro T8 L8 v8 X8 ⟨Np8, rfl, e8⟩
      have N8 := Fr.app N5 (Np8 _)
      show Go p e below s (fun v h L => Fr n0 L ∧ v = some (.double (FP.ddiv (FP.i2d (cnt4 (if (2 : Int32) < cut then (2 : Int32) else cut) c0 c1 c2 c3)) (FP.i2d cut))) ∧ h = h0) ({ frames := 1, cells := 0, slots := 0, locals := 16 } : Room).cells ({ frames := 1, cells := 0, slots := 0, locals := 16 } : Room).slots T8 (mkF m 14 #[.val (.ref ao), .val (.int cut), .val (.int f2), .val (.int (2 : Int32))] [(.int (if (2 : Int32) < cut then (2 : Int32) else cut)), (.int (2 : Int32))])
      refine go_icmp_ge (q := 17) (q' := 35) X8 hx (hb hby d4_14) rfl (by decide) rfl (fun hl2 => ?_) (fun hl2 => ?_)
      · refine go_iloadN (q := 36) X8 hx (hb hby d4_35) rfl rfl ?_
        refine go_i2d (q := 37) X8 hx (hb hby d4_36) rfl rfl ?_
        refine go_iloadN (q := 38) X8 hx (hb hby d4_37) rfl rfl ?_
        refine go_i2d (q := 39) X8 hx (hb hby d4_38) rfl rfl ?_
        refine go_ddiv (q := 40) X8 hx (hb hby d4_39) rfl (own_dn hcut _) rfl ?_
        exact go_retD X8 hx hret hlk (hb hby d4_40) (by decide) (by decide) ⟨N8, by rw [own_cnt2 hl0 hl1 hl2, ef2, ef1], e8⟩
      · exact absurd hl2 (own_nlt2 _)
set_option maxRecDepth 65536 in
set_option maxHeartbeats 40000000 in
theorem rm4_3 (l : Launch) (Z : State) (a0 : Array Value) (hw : ∀ d ∈ tables_1, d.before a0 Z = true) (ws : List Jvm.Cond) (ao : Addr) (cut : Int32) (n0 : Nat) (ar : Addr) (kr : ClassId) (dr : Value) (c0 c1 c2 c3 : Int32) (h0 : Heap) (F1 : Fld Z h0 ao "com/example/forager/forager/eval/Ranking" "relevant" "[Z" (.ref ar)) (V_ar : Arv Z h0 ar kr .boolean (3 : Int32) [.int c0, .int c1, .int c2] dr) (hcut : ¬ cut < 1) (hb0 : c0 = 0 ∨ c0 = 1) (hb1 : c1 = 0 ∨ c1 = 1) (hb2 : c2 = 0 ∨ c2 = 1) :
    Con l (⟨"com/example/forager/forager/eval/Ranking", "precision", "(I)D"⟩ : MethodName) prog_3_method_2_code 4 (some .double) ws ({ frames := 1, cells := 0, slots := 0, locals := 16 } : Room) Z #[(.ref ao), (.int cut)] h0 (fun v h L => Fr n0 L ∧ v = some (.double (FP.ddiv (FP.i2d (cnt4 (if (3 : Int32) < cut then (3 : Int32) else cut) c0 c1 c2 c3)) (FP.i2d cut))) ∧ h = h0) := by
  refine con_of (plainFor_of_name pn_4) ?_
  intro p e s m below meth c s₁ X0 hx hby hml hret hlk hown hnm hZ e0
  refine Go.cast (ef_4 m ao cut) ?_
  have N0 := Fr.nil n0
  refine go_iconst (q := 1) (v := (0 : Int32)) X0 hx (hb hby d4_0) rfl rfl ?_
  refine go_istoreN (q := 2) (l' := #[.val (.ref ao), .val (.int cut), .val (.int (0 : Int32)), .unset]) X0 hx (hb hby d4_1) rfl rfl ?_
  refine go_iconst (q := 3) (v := (0 : Int32)) X0 hx (hb hby d4_2) rfl rfl ?_
  refine go_istoreN (q := 4) (l' := #[.val (.ref ao), .val (.int cut), .val (.int (0 : Int32)), .val (.int (0 : Int32))]) X0 hx (hb hby d4_3) rfl rfl ?_
  refine go_iloadN (q := 5) X0 hx (hb hby d4_4) rfl rfl ?_
  refine go_iloadN (q := 6) X0 hx (hb hby d4_5) rfl rfl ?_
  refine go_aloadN (q := 7) X0 hx (hb hby d4_6) rfl rfl rfl ?_
  refine go_getF (q := 10) X0 hx hZ (host := "") hown (Or.inl (hw _ (List.mem_of_getElem? (i := 11) rfl))) Via.refl e0 F1 (hb hby d4_7) rfl (fun T1 X1 e1 => ?_)
  refine go_alen (q := 11) X1 hx hZ e1 V_ar (hb hby d4_10) rfl ?_
  refine go_callS (q := 14) (W := 1) X1 hx hZ hown e1 (hw _ (List.mem_of_getElem? (i := 24) rfl)) (hw _ (List.mem_of_getElem? (i := 16) rfl)) (hw _ (List.mem_of_getElem? (i := 17) rfl)) (hw _ (List.mem_of_getElem? (i := 18) rfl)) (by decide) [(.int cut), (.int (3 : Int32))] [(.int (0 : Int32))] (rm3 l Z a0 hw [] cut (3 : Int32) h0) (by rw [hml]; rfl) rfl (lenOf pd_0 rfl) (Nat.le_of_eq rfl) (by decide) (by decide) (hb hby d4_11) rfl (by decide) (by decide) ?_
  rintro T2 L2 v2 X2 ⟨Np2, rfl, e2⟩
  have N2 := Fr.app N0 (Np2 _)
  show Go p e below s (fun v h L => Fr n0 L ∧ v = some (.double (FP.ddiv (FP.i2d (cnt4 (if (3 : Int32) < cut then (3 : Int32) else cut) c0 c1 c2 c3)) (FP.i2d cut))) ∧ h = h0) ({ frames := 1, cells := 0, slots := 0, locals := 16 } : Room).cells ({ frames := 1, cells := 0, slots := 0, locals := 16 } : Room).slots T2 (mkF m 14 #[.val (.ref ao), .val (.int cut), .val (.int (0 : Int32)), .val (.int (0 : Int32))] [(.int (if (3 : Int32) < cut then (3 : Int32) else cut)), (.int (0 : Int32))])
  refine go_icmp_ge (q := 17) (q' := 35) X2 hx (hb hby d4_14) rfl (by decide) rfl (fun hl0 => ?_) (fun hl0 => ?_)
  · refine go_iloadN (q := 36) X2 hx (hb hby d4_35) rfl rfl ?_
    refine go_i2d (q := 37) X2 hx (hb hby d4_36) rfl rfl ?_
    refine go_iloadN (q := 38) X2 hx (hb hby d4_37) rfl rfl ?_
    refine go_i2d (q := 39) X2 hx (hb hby d4_38) rfl rfl ?_
    refine go_ddiv (q := 40) X2 hx (hb hby d4_39) rfl (own_dn hcut _) rfl ?_
    exact go_retD X2 hx hret hlk (hb hby d4_40) (by decide) (by decide) ⟨N2, by rw [own_cnt0 hl0], e2⟩
  · refine go_aloadN (q := 18) X2 hx (hb hby d4_17) rfl rfl rfl ?_
    refine go_getF (q := 21) X2 hx hZ (host := "") hown (Or.inl (hw _ (List.mem_of_getElem? (i := 11) rfl))) Via.refl e2 F1 (hb hby d4_18) rfl (fun T3 X3 e3 => ?_)
    refine go_iloadN (q := 22) X3 hx (hb hby d4_21) rfl rfl ?_
    refine go_baload (q := 23) (v := (.int c0)) X3 hx hZ e3 V_ar ⟨by decide, by decide⟩ rfl (hb hby d4_22) rfl ?_
    suffices J0 : ∀ f1 : Int32, f1 = (0 : Int32) + c0 → Go p e below s (fun v h L => Fr n0 L ∧ v = some (.double (FP.ddiv (FP.i2d (cnt4 (if (3 : Int32) < cut then (3 : Int32) else cut) c0 c1 c2 c3)) (FP.i2d cut))) ∧ h = h0) ({ frames := 1, cells := 0, slots := 0, locals := 16 } : Room).cells ({ frames := 1, cells := 0, slots := 0, locals := 16 } : Room).slots T3 (mkF m 29 #[.val (.ref ao), .val (.int cut), .val (.int f1), .val (.int (0 : Int32))] []) by
      refine go_if_eq (q := 26) (q' := 29) X3 hx (hb hby d4_23) rfl (by decide) rfl (fun hz0 => ?_) (fun hz0 => ?_)
      · exact J0 _ (by rw [hz0]; exact (Int32.add_zero _).symm)
      · refine go_iinc (q := 29) (l' := #[.val (.ref ao), .val (.int cut), .val (.int (1 : Int32)), .val (.int (0 : Int32))]) X3 hx (hb hby d4_26) rfl rfl rfl ?_
        exact J0 _ (by rw [hb0.resolve_left hz0]; try rfl)
    intro f1 ef1
    refine go_iinc (q := 32) (l' := #[.val (.ref ao), .val (.int cut), .val (.int f1), .val (.int (1 : Int32))]) X3 hx (hb hby d4_29) rfl rfl rfl ?_
    refine go_goto (q := 4) X3 hx (hb hby d4_32) (by decide) rfl ?_
    refine go_iloadN (q := 5) X3 hx (hb hby d4_4) rfl rfl ?_
    refine go_iloadN (q := 6) X3 hx (hb hby d4_5) rfl rfl ?_
    refine go_aloadN (q := 7) X3 hx (hb hby d4_6) rfl rfl rfl ?_
    refine go_getF (q := 10) X3 hx hZ (host := "") hown (Or.inl (hw _ (List.mem_of_getElem? (i := 11) rfl))) Via.refl e3 F1 (hb hby d4_7) rfl (fun T4 X4 e4 => ?_)
    refine go_alen (q := 11) X4 hx hZ e4 V_ar (hb hby d4_10) rfl ?_
    refine go_callS (q := 14) (W := 1) X4 hx hZ hown e4 (hw _ (List.mem_of_getElem? (i := 24) rfl)) (hw _ (List.mem_of_getElem? (i := 16) rfl)) (hw _ (List.mem_of_getElem? (i := 17) rfl)) (hw _ (List.mem_of_getElem? (i := 18) rfl)) (by decide) [(.int cut), (.int (3 : Int32))] [(.int (1 : Int32))] (rm3 l Z a0 hw [] cut (3 : Int32) h0) (by rw [hml]; rfl) rfl (lenOf pd_0 rfl) (Nat.le_of_eq rfl) (by decide) (by decide) (hb hby d4_11) rfl (by decide) (by decide) ?_
    rintro T5 L5 v5 X5 ⟨Np5, rfl, e5⟩
    have N5 := Fr.app N2 (Np5 _)
    show Go p e below s (fun v h L => Fr n0 L ∧ v = some (.double (FP.ddiv (FP.i2d (cnt4 (if (3 : Int32) < cut then (3 : Int32) else cut) c0 c1 c2 c3)) (FP.i2d cut))) ∧ h = h0) ({ frames := 1, cells := 0, slots := 0, locals := 16 } : Room).cells ({ frames := 1, cells := 0, slots := 0, locals := 16 } : Room).slots T5 (mkF m 14 #[.val (.ref ao), .val (.int cut), .val (.int f1), .val (.int (1 : Int32))] [(.int (if (3 : Int32) < cut then (3 : Int32) else cut)), (.int (1 : Int32))])
    refine go_icmp_ge (q := 17) (q' := 35) X5 hx (hb hby d4_14) rfl (by decide) rfl (fun hl1 => ?_) (fun hl1 => ?_)
    · refine go_iloadN (q := 36) X5 hx (hb hby d4_35) rfl rfl ?_
      refine go_i2d (q := 37) X5 hx (hb hby d4_36) rfl rfl ?_
      refine go_iloadN (q := 38) X5 hx (hb hby d4_37) rfl rfl ?_
      refine go_i2d (q := 39) X5 hx (hb hby d4_38) rfl rfl ?_
      refine go_ddiv (q := 40) X5 hx (hb hby d4_39) rfl (own_dn hcut _) rfl ?_
      exact go_retD X5 hx hret hlk (hb hby d4_40) (by decide) (by decide) ⟨N5, by rw [own_cnt1 hl0 hl1, ef1], e5⟩
    · refine go_aloadN (q := 18) X5 hx (hb hby d4_17) rfl rfl rfl ?_
      refine go_getF (q := 21) X5 hx hZ (host := "") hown (Or.inl (hw _ (List.mem_of_getElem? (i := 11) rfl))) Via.refl e5 F1 (hb hby d4_18) rfl (fun T6 X6 e6 => ?_)
      refine go_iloadN (q := 22) X6 hx (hb hby d4_21) rfl rfl ?_
      refine go_baload (q := 23) (v := (.int c1)) X6 hx hZ e6 V_ar ⟨by decide, by decide⟩ rfl (hb hby d4_22) rfl ?_
      suffices J1 : ∀ f2 : Int32, f2 = f1 + c1 → Go p e below s (fun v h L => Fr n0 L ∧ v = some (.double (FP.ddiv (FP.i2d (cnt4 (if (3 : Int32) < cut then (3 : Int32) else cut) c0 c1 c2 c3)) (FP.i2d cut))) ∧ h = h0) ({ frames := 1, cells := 0, slots := 0, locals := 16 } : Room).cells ({ frames := 1, cells := 0, slots := 0, locals := 16 } : Room).slots T6 (mkF m 29 #[.val (.ref ao), .val (.int cut), .val (.int f2), .val (.int (1 : Int32))] []) by
        refine go_if_eq (q := 26) (q' := 29) X6 hx (hb hby d4_23) rfl (by decide) rfl (fun hz1 => ?_) (fun hz1 => ?_)
        · exact J1 _ (by rw [hz1]; exact (Int32.add_zero _).symm)
        · refine go_iinc (q := 29) (l' := #[.val (.ref ao), .val (.int cut), .val (.int (f1 + (1 : Int32))), .val (.int (1 : Int32))]) X6 hx (hb hby d4_26) rfl rfl rfl ?_
          exact J1 _ (by rw [hb1.resolve_left hz1]; try rfl)
      intro f2 ef2
      refine go_iinc (q := 32) (l' := #[.val (.ref ao), .val (.int cut), .val (.int f2), .val (.int (2 : Int32))]) X6 hx (hb hby d4_29) rfl rfl rfl ?_
      refine go_goto (q := 4) X6 hx (hb hby d4_32) (by decide) rfl ?_
      refine go_iloadN (q := 5) X6 hx (hb hby d4_4) rfl rfl ?_
      refine go_iloadN (q := 6) X6 hx (hb hby d4_5) rfl rfl ?_
      refine go_aloadN (q := 7) X6 hx (hb hby d4_6) rfl rfl rfl ?_
      refine go_getF (q := 10) X6 hx hZ (host := "") hown (Or.inl (hw _ (List.mem_of_getElem? (i := 11) rfl))) Via.refl e6 F1 (hb hby d4_7) rfl (fun T7 X7 e7 => ?_)
      refine go_alen (q := 11) X7 hx hZ e7 V_ar (hb hby d4_10) rfl ?_
      refine go_callS (q := 14) (W := 1) X7 hx hZ hown e7 (hw _ (List.mem_of_getElem? (i := 24) rfl)) (hw _ (List.mem_of_getElem? (i := 16) rfl)) (hw _ (List.mem_of_getElem? (i := 17) rfl)) (hw _ (List.mem_of_getElem? (i := 18) rfl)) (by decide) [(.int cut), (.int (3 : Int32))] [(.int (2 : Int32))] (rm3 l Z a0 hw [] cut (3 : Int32) h0) (by rw [hml]; rfl) rfl (lenOf pd_0 rfl) (Nat.le_of_eq rfl) (by decide) (by decide) (hb hby d4_11) rfl (by decide) (by decide) ?_
      rintro T8 L8 v8 X8 ⟨Np8, rfl, e8⟩
      have N8 := Fr.app N5 (Np8 _)
      show Go p e below s (fun v h L => Fr n0 L ∧ v = some (.double (FP.ddiv (FP.i2d (cnt4 (if (3 : Int32) < cut then (3 : Int32) else cut) c0 c1 c2 c3)) (FP.i2d cut))) ∧ h = h0) ({ frames := 1, cells := 0, slots := 0, locals := 16 } : Room).cells ({ frames := 1, cells := 0, slots := 0, locals := 16 } : Room).slots T8 (mkF m 14 #[.val (.ref ao), .val (.int cut), .val (.int f2), .val (.int (2 : Int32))] [(.int (if (3 : Int32) < cut then (3 : Int32) else cut)), (.int (2 : Int32))])
      refine go_icmp_ge (q := 17) (q' := 35) X8 hx (hb hby d4_14) rfl (by decide) rfl (fun hl2 => ?_) (fun hl2 => ?_)
      · refine go_iloadN (q := 36) X8 hx (hb hby d4_35) rfl rfl ?_
        refine go_i2d (q := 37) X8 hx (hb hby d4_36) rfl rfl ?_
        refine go_iloadN (q := 38) X8 hx (hb hby d4_37) rfl rfl ?_
        refine go_i2d (q := 39) X8 hx (hb hby d4_38) rfl rfl ?_
        refine go_ddiv (q := 40) X8 hx (hb hby d4_39) rfl (own_dn hcut _) rfl ?_
        exact go_retD X8 hx hret hlk (hb hby d4_40) (by decide) (by decide) ⟨N8, by rw [own_cnt2 hl0 hl1 hl2, ef2, ef1], e8⟩
      · refine go_aloadN (q := 18) X8 hx (hb hby d4_17) rfl rfl rfl ?_
        refine go_getF (q := 21) X8 hx hZ (host := "") hown (Or.inl (hw _ (List.mem_of_getElem? (i := 11) rfl))) Via.refl e8 F1 (hb hby d4_18) rfl (fun T9 X9 e9 => ?_)
        refine go_iloadN (q := 22) X9 hx (hb hby d4_21) rfl rfl ?_
        refine go_baload (q := 23) (v := (.int c2)) X9 hx hZ e9 V_ar ⟨by decide, by decide⟩ rfl (hb hby d4_22) rfl ?_
        suffices J2 : ∀ f3 : Int32, f3 = f2 + c2 → Go p e below s (fun v h L => Fr n0 L ∧ v = some (.double (FP.ddiv (FP.i2d (cnt4 (if (3 : Int32) < cut then (3 : Int32) else cut) c0 c1 c2 c3)) (FP.i2d cut))) ∧ h = h0) ({ frames := 1, cells := 0, slots := 0, locals := 16 } : Room).cells ({ frames := 1, cells := 0, slots := 0, locals := 16 } : Room).slots T9 (mkF m 29 #[.val (.ref ao), .val (.int cut), .val (.int f3), .val (.int (2 : Int32))] []) by
          refine go_if_eq (q := 26) (q' := 29) X9 hx (hb hby d4_23) rfl (by decide) rfl (fun hz2 => ?_) (fun hz2 => ?_)
          · exact J2 _ (by rw [hz2]; exact (Int32.add_zero _).symm)
          · refine go_iinc (q := 29) (l' := #[.val (.ref ao), .val (.int cut), .val (.int (f2 + (1 : Int32))), .val (.int (2 : Int32))]) X9 hx (hb hby d4_26) rfl rfl rfl ?_
            exact J2 _ (by rw [hb2.resolve_left hz2]; try rfl)
        intro f3 ef3
        refine go_iinc (q := 32) (l' := #[.val (.ref ao), .val (.int cut), .val (.int f3), .val (.int (3 : Int32))]) X9 hx (hb hby d4_29) rfl rfl rfl ?_
        refine go_goto (q := 4) X9 hx (hb hby d4_32) (by decide) rfl ?_
        refine go_iloadN (q := 5) X9 hx (hb hby d4_4) rfl rfl ?_
        refine go_iloadN (q := 6) X9 hx (hb hby d4_5) rfl rfl ?_
        refine go_aloadN (q := 7) X9 hx (hb hby d4_6) rfl rfl rfl ?_
        refine go_getF (q := 10) X9 hx hZ (host := "") hown (Or.inl (hw _ (List.mem_of_getElem? (i := 11) rfl))) Via.refl e9 F1 (hb hby d4_7) rfl (fun T10 X10 e10 => ?_)
        refine go_alen (q := 11) X10 hx hZ e10 V_ar (hb hby d4_10) rfl ?_
        refine go_callS (q := 14) (W := 1) X10 hx hZ hown e10 (hw _ (List.mem_of_getElem? (i := 24) rfl)) (hw _ (List.mem_of_getElem? (i := 16) rfl)) (hw _ (List.mem_of_getElem? (i := 17) rfl)) (hw _ (List.mem_of_getElem? (i := 18) rfl)) (by decide) [(.int cut), (.int (3 : Int32))] [(.int (3 : Int32))] (rm3 l Z a0 hw [] cut (3 : Int32) h0) (by rw [hml]; rfl) rfl (lenOf pd_0 rfl) (Nat.le_of_eq rfl) (by decide) (by decide) (hb hby d4_11) rfl (by decide) (by decide) ?_
        rintro T11 L11 v11 X11 ⟨Np11, rfl, e11⟩
        have N11 := Fr.app N8 (Np11 _)
        show Go p e below s (fun v h L => Fr n0 L ∧ v = some (.double (FP.ddiv (FP.i2d (cnt4 (if (3 : Int32) < cut then (3 : Int32) else cut) c0 c1 c2 c3)) (FP.i2d cut))) ∧ h = h0) ({ frames := 1, cells := 0, slots := 0, locals := 16 } : Room).cells ({ frames := 1, cells := 0, slots := 0, locals := 16 } : Room).slots T11 (mkF m 14 #[.val (.ref ao), .val (.int cut), .val (.int f3), .val (.int (3 : Int32))] [(.int (if (3 : Int32) < cut then (3 : Int32) else cut)), (.int (3 : Int32))])
        refine go_icmp_ge (q := 17) (q' := 35) X11 hx (hb hby d4_14) rfl (by decide) rfl (fun hl3 => ?_) (fun hl3 => ?_)
        · refine go_iloadN (q := 36) X11 hx (hb hby d4_35) rfl rfl ?_
          refine go_i2d (q := 37) X11 hx (hb hby d4_36) rfl rfl ?_
          refine go_iloadN (q := 38) X11 hx (hb hby d4_37) rfl rfl ?_
          refine go_i2d (q := 39) X11 hx (hb hby d4_38) rfl rfl ?_
          refine go_ddiv (q := 40) X11 hx (hb hby d4_39) rfl (own_dn hcut _) rfl ?_
          exact go_retD X11 hx hret hlk (hb hby d4_40) (by decide) (by decide) ⟨N11, by rw [own_cnt3 hl0 hl1 hl2 hl3, ef3, ef2, ef1], e11⟩
        · exact absurd hl3 (own_nlt3 _)
set_option maxRecDepth 65536 in
set_option maxHeartbeats 40000000 in
theorem rm4_4 (l : Launch) (Z : State) (a0 : Array Value) (hw : ∀ d ∈ tables_1, d.before a0 Z = true) (ws : List Jvm.Cond) (ao : Addr) (cut : Int32) (n0 : Nat) (ar : Addr) (kr : ClassId) (dr : Value) (c0 c1 c2 c3 : Int32) (h0 : Heap) (F1 : Fld Z h0 ao "com/example/forager/forager/eval/Ranking" "relevant" "[Z" (.ref ar)) (V_ar : Arv Z h0 ar kr .boolean (4 : Int32) [.int c0, .int c1, .int c2, .int c3] dr) (hcut : ¬ cut < 1) (hb0 : c0 = 0 ∨ c0 = 1) (hb1 : c1 = 0 ∨ c1 = 1) (hb2 : c2 = 0 ∨ c2 = 1) (hb3 : c3 = 0 ∨ c3 = 1) :
    Con l (⟨"com/example/forager/forager/eval/Ranking", "precision", "(I)D"⟩ : MethodName) prog_3_method_2_code 4 (some .double) ws ({ frames := 1, cells := 0, slots := 0, locals := 16 } : Room) Z #[(.ref ao), (.int cut)] h0 (fun v h L => Fr n0 L ∧ v = some (.double (FP.ddiv (FP.i2d (cnt4 (if (4 : Int32) < cut then (4 : Int32) else cut) c0 c1 c2 c3)) (FP.i2d cut))) ∧ h = h0) := by
  refine con_of (plainFor_of_name pn_4) ?_
  intro p e s m below meth c s₁ X0 hx hby hml hret hlk hown hnm hZ e0
  refine Go.cast (ef_4 m ao cut) ?_
  have N0 := Fr.nil n0
  refine go_iconst (q := 1) (v := (0 : Int32)) X0 hx (hb hby d4_0) rfl rfl ?_
  refine go_istoreN (q := 2) (l' := #[.val (.ref ao), .val (.int cut), .val (.int (0 : Int32)), .unset]) X0 hx (hb hby d4_1) rfl rfl ?_
  refine go_iconst (q := 3) (v := (0 : Int32)) X0 hx (hb hby d4_2) rfl rfl ?_
  refine go_istoreN (q := 4) (l' := #[.val (.ref ao), .val (.int cut), .val (.int (0 : Int32)), .val (.int (0 : Int32))]) X0 hx (hb hby d4_3) rfl rfl ?_
  refine go_iloadN (q := 5) X0 hx (hb hby d4_4) rfl rfl ?_
  refine go_iloadN (q := 6) X0 hx (hb hby d4_5) rfl rfl ?_
  refine go_aloadN (q := 7) X0 hx (hb hby d4_6) rfl rfl rfl ?_
  refine go_getF (q := 10) X0 hx hZ (host := "") hown (Or.inl (hw _ (List.mem_of_getElem? (i := 11) rfl))) Via.refl e0 F1 (hb hby d4_7) rfl (fun T1 X1 e1 => ?_)
  refine go_alen (q := 11) X1 hx hZ e1 V_ar (hb hby d4_10) rfl ?_
  refine go_callS (q := 14) (W := 1) X1 hx hZ hown e1 (hw _ (List.mem_of_getElem? (i := 24) rfl)) (hw _ (List.mem_of_getElem? (i := 16) rfl)) (hw _ (List.mem_of_getElem? (i := 17) rfl)) (hw _ (List.mem_of_getElem? (i := 18) rfl)) (by decide) [(.int cut), (.int (4 : Int32))] [(.int (0 : Int32))] (rm3 l Z a0 hw [] cut (4 : Int32) h0) (by rw [hml]; rfl) rfl (lenOf pd_0 rfl) (Nat.le_of_eq rfl) (by decide) (by decide) (hb hby d4_11) rfl (by decide) (by decide) ?_
  rintro T2 L2 v2 X2 ⟨Np2, rfl, e2⟩
  have N2 := Fr.app N0 (Np2 _)
  show Go p e below s (fun v h L => Fr n0 L ∧ v = some (.double (FP.ddiv (FP.i2d (cnt4 (if (4 : Int32) < cut then (4 : Int32) else cut) c0 c1 c2 c3)) (FP.i2d cut))) ∧ h = h0) ({ frames := 1, cells := 0, slots := 0, locals := 16 } : Room).cells ({ frames := 1, cells := 0, slots := 0, locals := 16 } : Room).slots T2 (mkF m 14 #[.val (.ref ao), .val (.int cut), .val (.int (0 : Int32)), .val (.int (0 : Int32))] [(.int (if (4 : Int32) < cut then (4 : Int32) else cut)), (.int (0 : Int32))])
  refine go_icmp_ge (q := 17) (q' := 35) X2 hx (hb hby d4_14) rfl (by decide) rfl (fun hl0 => ?_) (fun hl0 => ?_)
  · refine go_iloadN (q := 36) X2 hx (hb hby d4_35) rfl rfl ?_
    refine go_i2d (q := 37) X2 hx (hb hby d4_36) rfl rfl ?_
    refine go_iloadN (q := 38) X2 hx (hb hby d4_37) rfl rfl ?_
    refine go_i2d (q := 39) X2 hx (hb hby d4_38) rfl rfl ?_
    refine go_ddiv (q := 40) X2 hx (hb hby d4_39) rfl (own_dn hcut _) rfl ?_
    exact go_retD X2 hx hret hlk (hb hby d4_40) (by decide) (by decide) ⟨N2, by rw [own_cnt0 hl0], e2⟩
  · refine go_aloadN (q := 18) X2 hx (hb hby d4_17) rfl rfl rfl ?_
    refine go_getF (q := 21) X2 hx hZ (host := "") hown (Or.inl (hw _ (List.mem_of_getElem? (i := 11) rfl))) Via.refl e2 F1 (hb hby d4_18) rfl (fun T3 X3 e3 => ?_)
    refine go_iloadN (q := 22) X3 hx (hb hby d4_21) rfl rfl ?_
    refine go_baload (q := 23) (v := (.int c0)) X3 hx hZ e3 V_ar ⟨by decide, by decide⟩ rfl (hb hby d4_22) rfl ?_
    suffices J0 : ∀ f1 : Int32, f1 = (0 : Int32) + c0 → Go p e below s (fun v h L => Fr n0 L ∧ v = some (.double (FP.ddiv (FP.i2d (cnt4 (if (4 : Int32) < cut then (4 : Int32) else cut) c0 c1 c2 c3)) (FP.i2d cut))) ∧ h = h0) ({ frames := 1, cells := 0, slots := 0, locals := 16 } : Room).cells ({ frames := 1, cells := 0, slots := 0, locals := 16 } : Room).slots T3 (mkF m 29 #[.val (.ref ao), .val (.int cut), .val (.int f1), .val (.int (0 : Int32))] []) by
      refine go_if_eq (q := 26) (q' := 29) X3 hx (hb hby d4_23) rfl (by decide) rfl (fun hz0 => ?_) (fun hz0 => ?_)
      · exact J0 _ (by rw [hz0]; exact (Int32.add_zero _).symm)
      · refine go_iinc (q := 29) (l' := #[.val (.ref ao), .val (.int cut), .val (.int (1 : Int32)), .val (.int (0 : Int32))]) X3 hx (hb hby d4_26) rfl rfl rfl ?_
        exact J0 _ (by rw [hb0.resolve_left hz0]; try rfl)
    intro f1 ef1
    refine go_iinc (q := 32) (l' := #[.val (.ref ao), .val (.int cut), .val (.int f1), .val (.int (1 : Int32))]) X3 hx (hb hby d4_29) rfl rfl rfl ?_
    refine go_goto (q := 4) X3 hx (hb hby d4_32) (by decide) rfl ?_
    refine go_iloadN (q := 5) X3 hx (hb hby d4_4) rfl rfl ?_
    refine go_iloadN (q := 6) X3 hx (hb hby d4_5) rfl rfl ?_
    refine go_aloadN (q := 7) X3 hx (hb hby d4_6) rfl rfl rfl ?_
    refine go_getF (q := 10) X3 hx hZ (host := "") hown (Or.inl (hw _ (List.mem_of_getElem? (i := 11) rfl))) Via.refl e3 F1 (hb hby d4_7) rfl (fun T4 X4 e4 => ?_)
    refine go_alen (q := 11) X4 hx hZ e4 V_ar (hb hby d4_10) rfl ?_
    refine go_callS (q := 14) (W := 1) X4 hx hZ hown e4 (hw _ (List.mem_of_getElem? (i := 24) rfl)) (hw _ (List.mem_of_getElem? (i := 16) rfl)) (hw _ (List.mem_of_getElem? (i := 17) rfl)) (hw _ (List.mem_of_getElem? (i := 18) rfl)) (by decide) [(.int cut), (.int (4 : Int32))] [(.int (1 : Int32))] (rm3 l Z a0 hw [] cut (4 : Int32) h0) (by rw [hml]; rfl) rfl (lenOf pd_0 rfl) (Nat.le_of_eq rfl) (by decide) (by decide) (hb hby d4_11) rfl (by decide) (by decide) ?_
    rintro T5 L5 v5 X5 ⟨Np5, rfl, e5⟩
    have N5 := Fr.app N2 (Np5 _)
    show Go p e below s (fun v h L => Fr n0 L ∧ v = some (.double (FP.ddiv (FP.i2d (cnt4 (if (4 : Int32) < cut then (4 : Int32) else cut) c0 c1 c2 c3)) (FP.i2d cut))) ∧ h = h0) ({ frames := 1, cells := 0, slots := 0, locals := 16 } : Room).cells ({ frames := 1, cells := 0, slots := 0, locals := 16 } : Room).slots T5 (mkF m 14 #[.val (.ref ao), .val (.int cut), .val (.int f1), .val (.int (1 : Int32))] [(.int (if (4 : Int32) < cut then (4 : Int32) else cut)), (.int (1 : Int32))])
    refine go_icmp_ge (q := 17) (q' := 35) X5 hx (hb hby d4_14) rfl (by decide) rfl (fun hl1 => ?_) (fun hl1 => ?_)
    · refine go_iloadN (q := 36) X5 hx (hb hby d4_35) rfl rfl ?_
      refine go_i2d (q := 37) X5 hx (hb hby d4_36) rfl rfl ?_
      refine go_iloadN (q := 38) X5 hx (hb hby d4_37) rfl rfl ?_
      refine go_i2d (q := 39) X5 hx (hb hby d4_38) rfl rfl ?_
      refine go_ddiv (q := 40) X5 hx (hb hby d4_39) rfl (own_dn hcut _) rfl ?_
      exact go_retD X5 hx hret hlk (hb hby d4_40) (by decide) (by decide) ⟨N5, by rw [own_cnt1 hl0 hl1, ef1], e5⟩
    · refine go_aloadN (q := 18) X5 hx (hb hby d4_17) rfl rfl rfl ?_
      refine go_getF (q := 21) X5 hx hZ (host := "") hown (Or.inl (hw _ (List.mem_of_getElem? (i := 11) rfl))) Via.refl e5 F1 (hb hby d4_18) rfl (fun T6 X6 e6 => ?_)
      refine go_iloadN (q := 22) X6 hx (hb hby d4_21) rfl rfl ?_
      refine go_baload (q := 23) (v := (.int c1)) X6 hx hZ e6 V_ar ⟨by decide, by decide⟩ rfl (hb hby d4_22) rfl ?_
      suffices J1 : ∀ f2 : Int32, f2 = f1 + c1 → Go p e below s (fun v h L => Fr n0 L ∧ v = some (.double (FP.ddiv (FP.i2d (cnt4 (if (4 : Int32) < cut then (4 : Int32) else cut) c0 c1 c2 c3)) (FP.i2d cut))) ∧ h = h0) ({ frames := 1, cells := 0, slots := 0, locals := 16 } : Room).cells ({ frames := 1, cells := 0, slots := 0, locals := 16 } : Room).slots T6 (mkF m 29 #[.val (.ref ao), .val (.int cut), .val (.int f2), .val (.int (1 : Int32))] []) by
        refine go_if_eq (q := 26) (q' := 29) X6 hx (hb hby d4_23) rfl (by decide) rfl (fun hz1 => ?_) (fun hz1 => ?_)
        · exact J1 _ (by rw [hz1]; exact (Int32.add_zero _).symm)
        · refine go_iinc (q := 29) (l' := #[.val (.ref ao), .val (.int cut), .val (.int (f1 + (1 : Int32))), .val (.int (1 : Int32))]) X6 hx (hb hby d4_26) rfl rfl rfl ?_
          exact J1 _ (by rw [hb1.resolve_left hz1]; try rfl)
      intro f2 ef2
      refine go_iinc (q := 32) (l' := #[.val (.ref ao), .val (.int cut), .val (.int f2), .val (.int (2 : Int32))]) X6 hx (hb hby d4_29) rfl rfl rfl ?_
      refine go_goto (q := 4) X6 hx (hb hby d4_32) (by decide) rfl ?_
      refine go_iloadN (q := 5) X6 hx (hb hby d4_4) rfl rfl ?_
      refine go_iloadN (q := 6) X6 hx (hb hby d4_5) rfl rfl ?_
      refine go_aloadN (q := 7) X6 hx (hb hby d4_6) rfl rfl rfl ?_
      refine go_getF (q := 10) X6 hx hZ (host := "") hown (Or.inl (hw _ (List.mem_of_getElem? (i := 11) rfl))) Via.refl e6 F1 (hb hby d4_7) rfl (fun T7 X7 e7 => ?_)
      refine go_alen (q := 11) X7 hx hZ e7 V_ar (hb hby d4_10) rfl ?_
      refine go_callS (q := 14) (W := 1) X7 hx hZ hown e7 (hw _ (List.mem_of_getElem? (i := 24) rfl)) (hw _ (List.mem_of_getElem? (i := 16) rfl)) (hw _ (List.mem_of_getElem? (i := 17) rfl)) (hw _ (List.mem_of_getElem? (i := 18) rfl)) (by decide) [(.int cut), (.int (4 : Int32))] [(.int (2 : Int32))] (rm3 l Z a0 hw [] cut (4 : Int32) h0) (by rw [hml]; rfl) rfl (lenOf pd_0 rfl) (Nat.le_of_eq rfl) (by decide) (by decide) (hb hby d4_11) rfl (by decide) (by decide) ?_
      rintro T8 L8 v8 X8 ⟨Np8, rfl, e8⟩
      have N8 := Fr.app N5 (Np8 _)
      show Go p e below s (fun v h L => Fr n0 L ∧ v = some (.double (FP.ddiv (FP.i2d (cnt4 (if (4 : Int32) < cut then (4 : Int32) else cut) c0 c1 c2 c3)) (FP.i2d cut))) ∧ h = h0) ({ frames := 1, cells := 0, slots := 0, locals := 16 } : Room).cells ({ frames := 1, cells := 0, slots := 0, locals := 16 } : Room).slots T8 (mkF m 14 #[.val (.ref ao), .val (.int cut), .val (.int f2), .val (.int (2 : Int32))] [(.int (if (4 : Int32) < cut then (4 : Int32) else cut)), (.int (2 : Int32))])
      refine go_icmp_ge (q := 17) (q' := 35) X8 hx (hb hby d4_14) rfl (by decide) rfl (fun hl2 => ?_) (fun hl2 => ?_)
      · refine go_iloadN (q := 36) X8 hx (hb hby d4_35) rfl rfl ?_
        refine go_i2d (q := 37) X8 hx (hb hby d4_36) rfl rfl ?_
        refine go_iloadN (q := 38) X8 hx (hb hby d4_37) rfl rfl ?_
        refine go_i2d (q := 39) X8 hx (hb hby d4_38) rfl rfl ?_
        refine go_ddiv (q := 40) X8 hx (hb hby d4_39) rfl (own_dn hcut _) rfl ?_
        exact go_retD X8 hx hret hlk (hb hby d4_40) (by decide) (by decide) ⟨N8, by rw [own_cnt2 hl0 hl1 hl2, ef2, ef1], e8⟩
      · refine go_aloadN (q := 18) X8 hx (hb hby d4_17) rfl rfl rfl ?_
        refine go_getF (q := 21) X8 hx hZ (host := "") hown (Or.inl (hw _ (List.mem_of_getElem? (i := 11) rfl))) Via.refl e8 F1 (hb hby d4_18) rfl (fun T9 X9 e9 => ?_)
        refine go_iloadN (q := 22) X9 hx (hb hby d4_21) rfl rfl ?_
        refine go_baload (q := 23) (v := (.int c2)) X9 hx hZ e9 V_ar ⟨by decide, by decide⟩ rfl (hb hby d4_22) rfl ?_
        suffices J2 : ∀ f3 : Int32, f3 = f2 + c2 → Go p e below s (fun v h L => Fr n0 L ∧ v = some (.double (FP.ddiv (FP.i2d (cnt4 (if (4 : Int32) < cut then (4 : Int32) else cut) c0 c1 c2 c3)) (FP.i2d cut))) ∧ h = h0) ({ frames := 1, cells := 0, slots := 0, locals := 16 } : Room).cells ({ frames := 1, cells := 0, slots := 0, locals := 16 } : Room).slots T9 (mkF m 29 #[.val (.ref ao), .val (.int cut), .val (.int f3), .val (.int (2 : Int32))] []) by
          refine go_if_eq (q := 26) (q' := 29) X9 hx (hb hby d4_23) rfl (by decide) rfl (fun hz2 => ?_) (fun hz2 => ?_)
          · exact J2 _ (by rw [hz2]; exact (Int32.add_zero _).symm)
          · refine go_iinc (q := 29) (l' := #[.val (.ref ao), .val (.int cut), .val (.int (f2 + (1 : Int32))), .val (.int (2 : Int32))]) X9 hx (hb hby d4_26) rfl rfl rfl ?_
            exact J2 _ (by rw [hb2.resolve_left hz2]; try rfl)
        intro f3 ef3
        refine go_iinc (q := 32) (l' := #[.val (.ref ao), .val (.int cut), .val (.int f3), .val (.int (3 : Int32))]) X9 hx (hb hby d4_29) rfl rfl rfl ?_
        refine go_goto (q := 4) X9 hx (hb hby d4_32) (by decide) rfl ?_
        refine go_iloadN (q := 5) X9 hx (hb hby d4_4) rfl rfl ?_
        refine go_iloadN (q := 6) X9 hx (hb hby d4_5) rfl rfl ?_
        refine go_aloadN (q := 7) X9 hx (hb hby d4_6) rfl rfl rfl ?_
        refine go_getF (q := 10) X9 hx hZ (host := "") hown (Or.inl (hw _ (List.mem_of_getElem? (i := 11) rfl))) Via.refl e9 F1 (hb hby d4_7) rfl (fun T10 X10 e10 => ?_)
        refine go_alen (q := 11) X10 hx hZ e10 V_ar (hb hby d4_10) rfl ?_
        refine go_callS (q := 14) (W := 1) X10 hx hZ hown e10 (hw _ (List.mem_of_getElem? (i := 24) rfl)) (hw _ (List.mem_of_getElem? (i := 16) rfl)) (hw _ (List.mem_of_getElem? (i := 17) rfl)) (hw _ (List.mem_of_getElem? (i := 18) rfl)) (by decide) [(.int cut), (.int (4 : Int32))] [(.int (3 : Int32))] (rm3 l Z a0 hw [] cut (4 : Int32) h0) (by rw [hml]; rfl) rfl (lenOf pd_0 rfl) (Nat.le_of_eq rfl) (by decide) (by decide) (hb hby d4_11) rfl (by decide) (by decide) ?_
        rintro T11 L11 v11 X11 ⟨Np11, rfl, e11⟩
        have N11 := Fr.app N8 (Np11 _)
        show Go p e below s (fun v h L => Fr n0 L ∧ v = some (.double (FP.ddiv (FP.i2d (cnt4 (if (4 : Int32) < cut then (4 : Int32) else cut) c0 c1 c2 c3)) (FP.i2d cut))) ∧ h = h0) ({ frames := 1, cells := 0, slots := 0, locals := 16 } : Room).cells ({ frames := 1, cells := 0, slots := 0, locals := 16 } : Room).slots T11 (mkF m 14 #[.val (.ref ao), .val (.int cut), .val (.int f3), .val (.int (3 : Int32))] [(.int (if (4 : Int32) < cut then (4 : Int32) else cut)), (.int (3 : Int32))])
        refine go_icmp_ge (q := 17) (q' := 35) X11 hx (hb hby d4_14) rfl (by decide) rfl (fun hl3 => ?_) (fun hl3 => ?_)
        · refine go_iloadN (q := 36) X11 hx (hb hby d4_35) rfl rfl ?_
          refine go_i2d (q := 37) X11 hx (hb hby d4_36) rfl rfl ?_
          refine go_iloadN (q := 38) X11 hx (hb hby d4_37) rfl rfl ?_
          refine go_i2d (q := 39) X11 hx (hb hby d4_38) rfl rfl ?_
          refine go_ddiv (q := 40) X11 hx (hb hby d4_39) rfl (own_dn hcut _) rfl ?_
          exact go_retD X11 hx hret hlk (hb hby d4_40) (by decide) (by decide) ⟨N11, by rw [own_cnt3 hl0 hl1 hl2 hl3, ef3, ef2, ef1], e11⟩
        · refine go_aloadN (q := 18) X11 hx (hb hby d4_17) rfl rfl rfl ?_
          refine go_getF (q := 21) X11 hx hZ (host := "") hown (Or.inl (hw _ (List.mem_of_getElem? (i := 11) rfl))) Via.refl e11 F1 (hb hby d4_18) rfl (fun T12 X12 e12 => ?_)
          refine go_iloadN (q := 22) X12 hx (hb hby d4_21) rfl rfl ?_
          refine go_baload (q := 23) (v := (.int c3)) X12 hx hZ e12 V_ar ⟨by decide, by decide⟩ rfl (hb hby d4_22) rfl ?_
          suffices J3 : ∀ f4 : Int32, f4 = f3 + c3 → Go p e below s (fun v h L => Fr n0 L ∧ v = some (.double (FP.ddiv (FP.i2d (cnt4 (if (4 : Int32) < cut then (4 : Int32) else cut) c0 c1 c2 c3)) (FP.i2d cut))) ∧ h = h0) ({ frames := 1, cells := 0, slots := 0, locals := 16 } : Room).cells ({ frames := 1, cells := 0, slots := 0, locals := 16 } : Room).slots T12 (mkF m 29 #[.val (.ref ao), .val (.int cut), .val (.int f4), .val (.int (3 : Int32))] []) by
            refine go_if_eq (q := 26) (q' := 29) X12 hx (hb hby d4_23) rfl (by decide) rfl (fun hz3 => ?_) (fun hz3 => ?_)
            · exact J3 _ (by rw [hz3]; exact (Int32.add_zero _).symm)
            · refine go_iinc (q := 29) (l' := #[.val (.ref ao), .val (.int cut), .val (.int (f3 + (1 : Int32))), .val (.int (3 : Int32))]) X12 hx (hb hby d4_26) rfl rfl rfl ?_
              exact J3 _ (by rw [hb3.resolve_left hz3]; try rfl)
          intro f4 ef4
          refine go_iinc (q := 32) (l' := #[.val (.ref ao), .val (.int cut), .val (.int f4), .val (.int (4 : Int32))]) X12 hx (hb hby d4_29) rfl rfl rfl ?_
          refine go_goto (q := 4) X12 hx (hb hby d4_32) (by decide) rfl ?_
          refine go_iloadN (q := 5) X12 hx (hb hby d4_4) rfl rfl ?_
          refine go_iloadN (q := 6) X12 hx (hb hby d4_5) rfl rfl ?_
          refine go_aloadN (q := 7) X12 hx (hb hby d4_6) rfl rfl rfl ?_
          refine go_getF (q := 10) X12 hx hZ (host := "") hown (Or.inl (hw _ (List.mem_of_getElem? (i := 11) rfl))) Via.refl e12 F1 (hb hby d4_7) rfl (fun T13 X13 e13 => ?_)
          refine go_alen (q := 11) X13 hx hZ e13 V_ar (hb hby d4_10) rfl ?_
          refine go_callS (q := 14) (W := 1) X13 hx hZ hown e13 (hw _ (List.mem_of_getElem? (i := 24) rfl)) (hw _ (List.mem_of_getElem? (i := 16) rfl)) (hw _ (List.mem_of_getElem? (i := 17) rfl)) (hw _ (List.mem_of_getElem? (i := 18) rfl)) (by decide) [(.int cut), (.int (4 : Int32))] [(.int (4 : Int32))] (rm3 l Z a0 hw [] cut (4 : Int32) h0) (by rw [hml]; rfl) rfl (lenOf pd_0 rfl) (Nat.le_of_eq rfl) (by decide) (by decide) (hb hby d4_11) rfl (by decide) (by decide) ?_
          rintro T14 L14 v14 X14 ⟨Np14, rfl, e14⟩
          have N14 := Fr.app N11 (Np14 _)
          show Go p e below s (fun v h L => Fr n0 L ∧ v = some (.double (FP.ddiv (FP.i2d (cnt4 (if (4 : Int32) < cut then (4 : Int32) else cut) c0 c1 c2 c3)) (FP.i2d cut))) ∧ h = h0) ({ frames := 1, cells := 0, slots := 0, locals := 16 } : Room).cells ({ frames := 1, cells := 0, slots := 0, locals := 16 } : Room).slots T14 (mkF m 14 #[.val (.ref ao), .val (.int cut), .val (.int f4), .val (.int (4 : Int32))] [(.int (if (4 : Int32) < cut then (4 : Int32) else cut)), (.int (4 : Int32))])
          refine go_icmp_ge (q := 17) (q' := 35) X14 hx (hb hby d4_14) rfl (by decide) rfl (fun hl4 => ?_) (fun hl4 => ?_)
          · refine go_iloadN (q := 36) X14 hx (hb hby d4_35) rfl rfl ?_
            refine go_i2d (q := 37) X14 hx (hb hby d4_36) rfl rfl ?_
            refine go_iloadN (q := 38) X14 hx (hb hby d4_37) rfl rfl ?_
            refine go_i2d (q := 39) X14 hx (hb hby d4_38) rfl rfl ?_
            refine go_ddiv (q := 40) X14 hx (hb hby d4_39) rfl (own_dn hcut _) rfl ?_
            exact go_retD X14 hx hret hlk (hb hby d4_40) (by decide) (by decide) ⟨N14, by rw [own_cnt4 hl0 hl1 hl2 hl3 hl4, ef4, ef3, ef2, ef1], e14⟩
          · exact absurd hl4 (own_nlt4 _)
theorem pn_0 : plainName "com/example/forager/forager/eval/RankingPrecisionPinLaw" = true := by first | (simp [plainName, overriddenIn]; done) | decide +kernel
theorem ef_0 (m : MethodId) (x0 : Int32) (x1 : Int32) (x2 : Int32) : entryFrame m #[(.int x0), (.int x1), (.int x2)] maxLocals = mkF m 0 #[.val (.int x0), .val (.int x1), .val (.int x2), .unset, .unset, .unset, .unset, .unset, .unset, .unset, .unset, .unset, .unset, .unset, .unset, .unset] [] := by first | (simp [entryFrame, mkF, argsToLocals, Value.category, maxLocals]; done) | rfl
set_option maxRecDepth 65536 in
set_option maxHeartbeats 40000000 in
theorem rm0 (l : Launch) (Z : State) (a0 : Array Value) (hw : ∀ d ∈ tables_1, d.before a0 Z = true) (ws : List Jvm.Cond) (flags : Int32) (cu : Int32) (cn : Int32)  (h0 : Heap)  :
    Con l x code maxLocals ret ws room_1 Z #[(.int flags), (.int cu), (.int cn)] h0 (fun v h L => v = some (.int (1 : Int32)) ∧ Fr h0.size L) := by
  refine con_of (plainFor_of_name pn_0) ?_
  intro p e s m below meth c s₁ X0 hx hby hml hret hlk hown hnm hZ e0
  refine Go.cast (ef_0 m flags cu cn) ?_
  have N0 := Fr.nil h0.size
  have hsz : h0.size ≤ h0.size := (Nat.le_refl _)
  refine go_iloadN (q := 1) X0 hx (hb hby at_0) rfl rfl ?_
  refine go_iconst (q := 2) (v := (1 : Int32)) X0 hx (hb hby at_1) rfl rfl ?_
  refine go_iand (q := 3) (v := (flags &&& (1 : Int32))) X0 hx (hb hby at_2) rfl rfl ?_
  suffices JB0 : ∀ b0 : Int32, b0 = 0 ∨ b0 = 1 → Go p e below s (fun v h L => v = some (.int (1 : Int32)) ∧ Fr h0.size L) room_1.cells room_1.slots s₁ (mkF m 12 #[.val (.int flags), .val (.int cu), .val (.int cn), .val (.int b0), .unset, .unset, .unset, .unset, .unset, .unset, .unset, .unset, .unset, .unset, .unset, .unset] []) by
    refine go_if_eq (q := 6) (q' := 10) X0 hx (hb hby at_3) rfl (by decide) rfl (fun hc3 => ?_) (fun hc3 => ?_)
    · refine go_iconst (q := 11) (v := (0 : Int32)) X0 hx (hb hby at_10) rfl rfl ?_
      refine go_istoreN (q := 12) (l' := #[.val (.int flags), .val (.int cu), .val (.int cn), .val (.int (0 : Int32)), .unset, .unset, .unset, .unset, .unset, .unset, .unset, .unset, .unset, .unset, .unset, .unset]) X0 hx (hb hby at_11) rfl rfl ?_
      exact JB0 _ (Or.inl rfl)
    · refine go_iconst (q := 7) (v := (1 : Int32)) X0 hx (hb hby at_6) rfl rfl ?_
      refine go_goto (q := 11) X0 hx (hb hby at_7) (by decide) rfl ?_
      refine go_istoreN (q := 12) (l' := #[.val (.int flags), .val (.int cu), .val (.int cn), .val (.int (1 : Int32)), .unset, .unset, .unset, .unset, .unset, .unset, .unset, .unset, .unset, .unset, .unset, .unset]) X0 hx (hb hby at_11) rfl rfl ?_
      exact JB0 _ (Or.inr rfl)
  intro b0 hb0
  refine go_iloadN (q := 13) X0 hx (hb hby at_12) rfl rfl ?_
  refine go_iconst (q := 14) (v := (2 : Int32)) X0 hx (hb hby at_13) rfl rfl ?_
  refine go_iand (q := 15) (v := (flags &&& (2 : Int32))) X0 hx (hb hby at_14) rfl rfl ?_
  suffices JB1 : ∀ b1 : Int32, b1 = 0 ∨ b1 = 1 → Go p e below s (fun v h L => v = some (.int (1 : Int32)) ∧ Fr h0.size L) room_1.cells room_1.slots s₁ (mkF m 25 #[.val (.int flags), .val (.int cu), .val (.int cn), .val (.int b0), .val (.int b1), .unset, .unset, .unset, .unset, .unset, .unset, .unset, .unset, .unset, .unset, .unset] []) by
    refine go_if_eq (q := 18) (q' := 22) X0 hx (hb hby at_15) rfl (by decide) rfl (fun hc15 => ?_) (fun hc15 => ?_)
    · refine go_iconst (q := 23) (v := (0 : Int32)) X0 hx (hb hby at_22) rfl rfl ?_
      refine go_istore (q := 25) (l' := #[.val (.int flags), .val (.int cu), .val (.int cn), .val (.int b0), .val (.int (0 : Int32)), .unset, .unset, .unset, .unset, .unset, .unset, .unset, .unset, .unset, .unset, .unset]) X0 hx (hb hby at_23) rfl rfl ?_
      exact JB1 _ (Or.inl rfl)
    · refine go_iconst (q := 19) (v := (1 : Int32)) X0 hx (hb hby at_18) rfl rfl ?_
      refine go_goto (q := 23) X0 hx (hb hby at_19) (by decide) rfl ?_
      refine go_istore (q := 25) (l' := #[.val (.int flags), .val (.int cu), .val (.int cn), .val (.int b0), .val (.int (1 : Int32)), .unset, .unset, .unset, .unset, .unset, .unset, .unset, .unset, .unset, .unset, .unset]) X0 hx (hb hby at_23) rfl rfl ?_
      exact JB1 _ (Or.inr rfl)
  intro b1 hb1
  refine go_iloadN (q := 26) X0 hx (hb hby at_25) rfl rfl ?_
  refine go_iconst (q := 27) (v := (4 : Int32)) X0 hx (hb hby at_26) rfl rfl ?_
  refine go_iand (q := 28) (v := (flags &&& (4 : Int32))) X0 hx (hb hby at_27) rfl rfl ?_
  suffices JB2 : ∀ b2 : Int32, b2 = 0 ∨ b2 = 1 → Go p e below s (fun v h L => v = some (.int (1 : Int32)) ∧ Fr h0.size L) room_1.cells room_1.slots s₁ (mkF m 38 #[.val (.int flags), .val (.int cu), .val (.int cn), .val (.int b0), .val (.int b1), .val (.int b2), .unset, .unset, .unset, .unset, .unset, .unset, .unset, .unset, .unset, .unset] []) by
    refine go_if_eq (q := 31) (q' := 35) X0 hx (hb hby at_28) rfl (by decide) rfl (fun hc28 => ?_) (fun hc28 => ?_)
    · refine go_iconst (q := 36) (v := (0 : Int32)) X0 hx (hb hby at_35) rfl rfl ?_
      refine go_istore (q := 38) (l' := #[.val (.int flags), .val (.int cu), .val (.int cn), .val (.int b0), .val (.int b1), .val (.int (0 : Int32)), .unset, .unset, .unset, .unset, .unset, .unset, .unset, .unset, .unset, .unset]) X0 hx (hb hby at_36) rfl rfl ?_
      exact JB2 _ (Or.inl rfl)
    · refine go_iconst (q := 32) (v := (1 : Int32)) X0 hx (hb hby at_31) rfl rfl ?_
      refine go_goto (q := 36) X0 hx (hb hby at_32) (by decide) rfl ?_
      refine go_istore (q := 38) (l' := #[.val (.int flags), .val (.int cu), .val (.int cn), .val (.int b0), .val (.int b1), .val (.int (1 : Int32)), .unset, .unset, .unset, .unset, .unset, .unset, .unset, .unset, .unset, .unset]) X0 hx (hb hby at_36) rfl rfl ?_
      exact JB2 _ (Or.inr rfl)
  intro b2 hb2
  refine go_iloadN (q := 39) X0 hx (hb hby at_38) rfl rfl ?_
  refine go_bipush (q := 41) (v := (8 : Int32)) X0 hx (hb hby at_39) rfl rfl ?_
  refine go_iand (q := 42) (v := (flags &&& (8 : Int32))) X0 hx (hb hby at_41) rfl rfl ?_
  suffices JB3 : ∀ b3 : Int32, b3 = 0 ∨ b3 = 1 → Go p e below s (fun v h L => v = some (.int (1 : Int32)) ∧ Fr h0.size L) room_1.cells room_1.slots s₁ (mkF m 52 #[.val (.int flags), .val (.int cu), .val (.int cn), .val (.int b0), .val (.int b1), .val (.int b2), .val (.int b3), .unset, .unset, .unset, .unset, .unset, .unset, .unset, .unset, .unset] []) by
    refine go_if_eq (q := 45) (q' := 49) X0 hx (hb hby at_42) rfl (by decide) rfl (fun hc42 => ?_) (fun hc42 => ?_)
    · refine go_iconst (q := 50) (v := (0 : Int32)) X0 hx (hb hby at_49) rfl rfl ?_
      refine go_istore (q := 52) (l' := #[.val (.int flags), .val (.int cu), .val (.int cn), .val (.int b0), .val (.int b1), .val (.int b2), .val (.int (0 : Int32)), .unset, .unset, .unset, .unset, .unset, .unset, .unset, .unset, .unset]) X0 hx (hb hby at_50) rfl rfl ?_
      exact JB3 _ (Or.inl rfl)
    · refine go_iconst (q := 46) (v := (1 : Int32)) X0 hx (hb hby at_45) rfl rfl ?_
      refine go_goto (q := 50) X0 hx (hb hby at_46) (by decide) rfl ?_
      refine go_istore (q := 52) (l' := #[.val (.int flags), .val (.int cu), .val (.int cn), .val (.int b0), .val (.int b1), .val (.int b2), .val (.int (1 : Int32)), .unset, .unset, .unset, .unset, .unset, .unset, .unset, .unset, .unset]) X0 hx (hb hby at_50) rfl rfl ?_
      exact JB3 _ (Or.inr rfl)
  intro b3 hb3
  refine go_iloadN (q := 53) X0 hx (hb hby at_52) rfl rfl ?_
  refine go_iconst (q := 54) (v := (4 : Int32)) X0 hx (hb hby at_53) rfl rfl ?_
  refine go_iushr (q := 55) (v := ((flags.toUInt32 >>> ((4 : Int32) &&& 31).toUInt32).toInt32)) X0 hx (hb hby at_54) rfl rfl ?_
  refine go_iconst (q := 56) (v := (5 : Int32)) X0 hx (hb hby at_55) rfl rfl ?_
  refine go_irem (q := 57) (v := (((flags.toUInt32 >>> ((4 : Int32) &&& 31).toUInt32).toInt32) % (5 : Int32))) X0 hx (hb hby at_56) rfl (by decide) rfl ?_
  refine go_istore (q := 59) (l' := #[.val (.int flags), .val (.int cu), .val (.int cn), .val (.int b0), .val (.int b1), .val (.int b2), .val (.int b3), .val (.int (((flags.toUInt32 >>> ((4 : Int32) &&& 31).toUInt32).toInt32) % (5 : Int32))), .unset, .unset, .unset, .unset, .unset, .unset, .unset, .unset]) X0 hx (hb hby at_57) rfl rfl ?_
  suffices Hlen : ∀ len : Int32, len = (((flags.toUInt32 >>> ((4 : Int32) &&& 31).toUInt32).toInt32) % (5 : Int32)) → Go p e below s (fun v h L => v = some (.int (1 : Int32)) ∧ Fr h0.size L) room_1.cells room_1.slots s₁ (mkF m 59 #[.val (.int flags), .val (.int cu), .val (.int cn), .val (.int b0), .val (.int b1), .val (.int b2), .val (.int b3), .val (.int len), .unset, .unset, .unset, .unset, .unset, .unset, .unset, .unset] []) from Hlen _ rfl
  intro len elen
  have hlen : len = 0 ∨ len = 1 ∨ len = 2 ∨ len = 3 ∨ len = 4 := by rw [elen]; exact own_len _
  rcases hlen with rfl | rfl | rfl | rfl | rfl
  · refine go_iload (q := 61) X0 hx (hb hby at_59) rfl rfl ?_
    refine go_if_ne (q := 64) (q' := 72) X0 hx (hb hby at_61) rfl (by decide) rfl (fun hc61 => ?_) (fun hc61 => ?_)
    · exact absurd rfl hc61
    · refine go_iconst (q := 65) (v := (0 : Int32)) X0 hx (hb hby at_64) rfl rfl ?_
      refine go_newP (q := 67) X0 hx hZ (hw _ (List.mem_of_getElem? (i := 0) rfl)) e0 (hb hby at_65) rfl (by decide) 0 (by decide) (by decide) (by decide) (by decide) (fun T1 h1 k_br br eb1 X1 e1 E1 V_br => ?_)
      have g_br : h0.size ≤ br := Nat.le_trans hsz (Nat.le_of_eq eb1.symm)
      replace hsz := Nat.le_trans hsz E1.1
      replace V_br : Arv Z h1 br k_br .boolean (0 : Int32) [] (.int (0 : Int32)) := V_br.pad (pad_rep [] (.int (0 : Int32)) 0)
      refine go_astore (q := 69) (l' := #[.val (.int flags), .val (.int cu), .val (.int cn), .val (.int b0), .val (.int b1), .val (.int b2), .val (.int b3), .val (.int (0 : Int32)), .val (.ref br), .unset, .unset, .unset, .unset, .unset, .unset, .unset]) X1 hx (hb hby at_67) rfl rfl rfl ?_
      refine go_goto (q := 165) X1 hx (hb hby at_69) (by decide) rfl ?_
      refine go_iloadN (q := 166) X1 hx (hb hby at_165) rfl rfl ?_
      refine go_ldcI (q := 168) (v := (2147483647 : Int32)) X1 hx hZ hown (hw _ (List.mem_of_getElem? (i := 1) rfl)) (hb hby at_166) rfl ?_
      refine go_iand (q := 169) (v := (cu &&& (2147483647 : Int32))) X1 hx (hb hby at_168) rfl rfl ?_
      refine go_istore (q := 171) (l' := #[.val (.int flags), .val (.int cu), .val (.int cn), .val (.int b0), .val (.int b1), .val (.int b2), .val (.int b3), .val (.int (0 : Int32)), .val (.ref br), .val (.int (cu &&& (2147483647 : Int32))), .unset, .unset, .unset, .unset, .unset, .unset]) X1 hx (hb hby at_169) rfl rfl ?_
      refine go_iload (q := 173) X1 hx (hb hby at_171) rfl rfl ?_
      suffices Jcut : ∀ cut : Int32, ¬ cut < 1 → Go p e below s (fun v h L => v = some (.int (1 : Int32)) ∧ Fr h0.size L) room_1.cells room_1.slots T1 (mkF m 179 #[.val (.int flags), .val (.int cu), .val (.int cn), .val (.int b0), .val (.int b1), .val (.int b2), .val (.int b3), .val (.int (0 : Int32)), .val (.ref br), .val (.int cut), .unset, .unset, .unset, .unset, .unset, .unset] []) by
        refine go_if_ne (q := 176) (q' := 179) X1 hx (hb hby at_173) rfl (by decide) rfl (fun hc173 => ?_) (fun hc173 => ?_)
        · exact Jcut _ (own_ge1 _ hc173)
        · refine go_iconst (q := 177) (v := (1 : Int32)) X1 hx (hb hby at_176) rfl rfl ?_
          refine go_istore (q := 179) (l' := #[.val (.int flags), .val (.int cu), .val (.int cn), .val (.int b0), .val (.int b1), .val (.int b2), .val (.int b3), .val (.int (0 : Int32)), .val (.ref br), .val (.int (1 : Int32)), .unset, .unset, .unset, .unset, .unset, .unset]) X1 hx (hb hby at_177) rfl rfl ?_
          exact Jcut _ (by decide)
      intro cut hcut
      refine go_iloadN (q := 180) X1 hx (hb hby at_179) rfl rfl ?_
      refine go_ldcI (q := 182) (v := (2147483647 : Int32)) X1 hx hZ hown (hw _ (List.mem_of_getElem? (i := 1) rfl)) (hb hby at_180) rfl ?_
      refine go_iand (q := 183) (v := (cn &&& (2147483647 : Int32))) X1 hx (hb hby at_182) rfl rfl ?_
      refine go_istore (q := 185) (l' := #[.val (.int flags), .val (.int cu), .val (.int cn), .val (.int b0), .val (.int b1), .val (.int b2), .val (.int b3), .val (.int (0 : Int32)), .val (.ref br), .val (.int cut), .val (.int (cn &&& (2147483647 : Int32))), .unset, .unset, .unset, .unset, .unset]) X1 hx (hb hby at_183) rfl rfl ?_
      refine go_iload (q := 187) X1 hx (hb hby at_185) rfl rfl ?_
      suffices Jrc : ∀ rc : Int32, ¬ rc < 1 → Go p e below s (fun v h L => v = some (.int (1 : Int32)) ∧ Fr h0.size L) room_1.cells room_1.slots T1 (mkF m 193 #[.val (.int flags), .val (.int cu), .val (.int cn), .val (.int b0), .val (.int b1), .val (.int b2), .val (.int b3), .val (.int (0 : Int32)), .val (.ref br), .val (.int cut), .val (.int rc), .unset, .unset, .unset, .unset, .unset] []) by
        refine go_if_ne (q := 190) (q' := 193) X1 hx (hb hby at_187) rfl (by decide) rfl (fun hc187 => ?_) (fun hc187 => ?_)
        · exact Jrc _ (own_ge1 _ hc187)
        · refine go_iconst (q := 191) (v := (1 : Int32)) X1 hx (hb hby at_190) rfl rfl ?_
          refine go_istore (q := 193) (l' := #[.val (.int flags), .val (.int cu), .val (.int cn), .val (.int b0), .val (.int b1), .val (.int b2), .val (.int b3), .val (.int (0 : Int32)), .val (.ref br), .val (.int cut), .val (.int (1 : Int32)), .unset, .unset, .unset, .unset, .unset]) X1 hx (hb hby at_191) rfl rfl ?_
          exact Jrc _ (by decide)
      intro rc hrc
      refine go_newO (q := 196) X1 hx hZ hown (hw _ (List.mem_of_getElem? (i := 2) rfl)) (hw _ (List.mem_of_getElem? (i := 3) rfl)) (hw _ (List.mem_of_getElem? (i := 4) rfl)) e1 (hb hby at_193) rfl (by decide) (by decide) (fun T2 h2 bo eb2 X2 e2 E2 A2 D2 => ?_)
      have g_bo : h0.size ≤ bo := Nat.le_trans hsz (Nat.le_of_eq eb2.symm)
      have ne_br_bo : br ≠ bo := Nat.ne_of_lt (Nat.lt_of_lt_of_eq V_br.lt eb2.symm)
      replace V_br := V_br.ext E2
      replace hsz := Nat.le_trans hsz E2.1
      have E_bo := A2
      have F_relevant_bo : Fld Z h2 bo "com/example/forager/forager/eval/Ranking" "relevant" "[Z" .null := D2 (Or.inr (hw _ (List.mem_of_getElem? (i := 12) rfl))) (ty := (.array .boolean)) (by decide)
      have F_relevantCount_bo : Fld Z h2 bo "com/example/forager/forager/eval/Ranking" "relevantCount" "I" (.int (0 : Int32)) := D2 (Or.inr (hw _ (List.mem_of_getElem? (i := 14) rfl))) (ty := .int) (by decide)
      refine go_dup (q := 197) X2 hx (hb hby at_196) rfl rfl ?_
      refine go_aload (q := 199) X2 hx (hb hby at_197) rfl rfl rfl ?_
      refine go_iload (q := 201) X2 hx (hb hby at_199) rfl rfl ?_
      refine go_callI (q := 204) (W := 1) X2 hx hZ hown e2 rfl (hw _ (List.mem_of_getElem? (i := 5) rfl)) (hw _ (List.mem_of_getElem? (i := 6) rfl)) (hw _ (List.mem_of_getElem? (i := 4) rfl)) (hw _ (List.mem_of_getElem? (i := 7) rfl)) (by decide) bo [(.ref br), (.int rc)] [(.ref bo)] (rm1 l Z a0 hw [] bo br rc h0.size _ _ h2 hsz g_bo E_bo F_relevant_bo F_relevantCount_bo hrc) (by rw [hml]; rfl) rfl (lenOf pd_1 rfl) (Nat.le_of_eq rfl) (by decide) (by decide) (hb hby at_201) rfl (by decide) (by decide) ?_
      rintro T3 L3 v3 X3 ⟨Nq3, rfl, K3, Fr_, Fc_⟩
      have N3 := Fr.app N0 Nq3
      replace V_br := V_br.keep K3 (ninS ne_br_bo nin0)
      replace E_bo := E_bo.keep K3
      replace hsz := Nat.le_trans hsz K3.1
      show Go p e below s (fun v h L => v = some (.int (1 : Int32)) ∧ Fr h0.size L) room_1.cells room_1.slots T3 (mkF m 204 #[.val (.int flags), .val (.int cu), .val (.int cn), .val (.int b0), .val (.int b1), .val (.int b2), .val (.int b3), .val (.int (0 : Int32)), .val (.ref br), .val (.int cut), .val (.int rc), .unset, .unset, .unset, .unset, .unset] [(.ref bo)])
      refine go_astore (q := 206) (l' := #[.val (.int flags), .val (.int cu), .val (.int cn), .val (.int b0), .val (.int b1), .val (.int b2), .val (.int b3), .val (.int (0 : Int32)), .val (.ref br), .val (.int cut), .val (.int rc), .val (.ref bo), .unset, .unset, .unset, .unset]) X3 hx (hb hby at_204) rfl rfl rfl ?_
      refine go_iload (q := 208) X3 hx (hb hby at_206) rfl rfl ?_
      refine go_iload (q := 210) X3 hx (hb hby at_208) rfl rfl ?_
      refine go_callS (q := 213) (W := 0) X3 hx hZ hown rfl (hw _ (List.mem_of_getElem? (i := 15) rfl)) (hw _ (List.mem_of_getElem? (i := 16) rfl)) (hw _ (List.mem_of_getElem? (i := 17) rfl)) (hw _ (List.mem_of_getElem? (i := 18) rfl)) (by decide) [(.int cut), (.int (0 : Int32))] [] (rm3 l Z a0 hw [] cut (0 : Int32) T3.heap) (by rw [hml]; rfl) rfl (lenOf pd_0 rfl) (Nat.le_of_eq rfl) (by decide) (by decide) (hb hby at_210) rfl (by decide) (by decide) ?_
      rintro T4 L4 v4 X4 ⟨Np4, rfl, e4⟩
      have N4 := Fr.app N3 (Np4 _)
      show Go p e below s (fun v h L => v = some (.int (1 : Int32)) ∧ Fr h0.size L) room_1.cells room_1.slots T4 (mkF m 213 #[.val (.int flags), .val (.int cu), .val (.int cn), .val (.int b0), .val (.int b1), .val (.int b2), .val (.int b3), .val (.int (0 : Int32)), .val (.ref br), .val (.int cut), .val (.int rc), .val (.ref bo), .unset, .unset, .unset, .unset] [(.int (if (0 : Int32) < cut then (0 : Int32) else cut))])
      suffices Hm_ : ∀ m_ : Int32, m_ = (if (0 : Int32) < cut then (0 : Int32) else cut) → Go p e below s (fun v h L => v = some (.int (1 : Int32)) ∧ Fr h0.size L) room_1.cells room_1.slots T4 (mkF m 213 #[.val (.int flags), .val (.int cu), .val (.int cn), .val (.int b0), .val (.int b1), .val (.int b2), .val (.int b3), .val (.int (0 : Int32)), .val (.ref br), .val (.int cut), .val (.int rc), .val (.ref bo), .unset, .unset, .unset, .unset] [(.int m_)]) from Hm_ _ rfl
      intro m_ em_
      refine go_istore (q := 215) (l' := #[.val (.int flags), .val (.int cu), .val (.int cn), .val (.int b0), .val (.int b1), .val (.int b2), .val (.int b3), .val (.int (0 : Int32)), .val (.ref br), .val (.int cut), .val (.int rc), .val (.ref bo), .val (.int m_), .unset, .unset, .unset]) X4 hx (hb hby at_213) rfl rfl ?_
      refine go_iconst (q := 216) (v := (0 : Int32)) X4 hx (hb hby at_215) rfl rfl ?_
      refine go_istore (q := 218) (l' := #[.val (.int flags), .val (.int cu), .val (.int cn), .val (.int b0), .val (.int b1), .val (.int b2), .val (.int b3), .val (.int (0 : Int32)), .val (.ref br), .val (.int cut), .val (.int rc), .val (.ref bo), .val (.int m_), .val (.int (0 : Int32)), .unset, .unset]) X4 hx (hb hby at_216) rfl rfl ?_
      refine go_iload (q := 220) X4 hx (hb hby at_218) rfl rfl ?_
      suffices JF0 : ∀ f1 : Int32, f1 = (0 : Int32) + (if (0 : Int32) < m_ then b0 else 0) → Go p e below s (fun v h L => v = some (.int (1 : Int32)) ∧ Fr h0.size L) room_1.cells room_1.slots T4 (mkF m 230 #[.val (.int flags), .val (.int cu), .val (.int cn), .val (.int b0), .val (.int b1), .val (.int b2), .val (.int b3), .val (.int (0 : Int32)), .val (.ref br), .val (.int cut), .val (.int rc), .val (.ref bo), .val (.int m_), .val (.int f1), .unset, .unset] []) by
        refine go_if_le (q := 223) (q' := 230) X4 hx (hb hby at_220) rfl (by decide) rfl (fun hm0 => ?_) (fun hm0 => ?_)
        · exact JF0 _ (by rw [if_neg hm0]; exact (Int32.add_zero _).symm)
        · refine go_iloadN (q := 224) X4 hx (hb hby at_223) rfl rfl ?_
          refine go_if_eq (q := 227) (q' := 230) X4 hx (hb hby at_224) rfl (by decide) rfl (fun hz0 => ?_) (fun hz0 => ?_)
          · exact JF0 _ (by rw [if_pos hm0, hz0]; exact (Int32.add_zero _).symm)
          · refine go_iinc (q := 230) (l' := #[.val (.int flags), .val (.int cu), .val (.int cn), .val (.int b0), .val (.int b1), .val (.int b2), .val (.int b3), .val (.int (0 : Int32)), .val (.ref br), .val (.int cut), .val (.int rc), .val (.ref bo), .val (.int m_), .val (.int (1 : Int32)), .unset, .unset]) X4 hx (hb hby at_227) rfl rfl rfl ?_
            exact JF0 _ (by rw [if_pos hm0, hb0.resolve_left hz0]; try rfl)
      intro f1 ef1
      refine go_iload (q := 232) X4 hx (hb hby at_230) rfl rfl ?_
      refine go_iconst (q := 233) (v := (1 : Int32)) X4 hx (hb hby at_232) rfl rfl ?_
      suffices JF1 : ∀ f2 : Int32, f2 = f1 + (if (1 : Int32) < m_ then b1 else 0) → Go p e below s (fun v h L => v = some (.int (1 : Int32)) ∧ Fr h0.size L) room_1.cells room_1.slots T4 (mkF m 244 #[.val (.int flags), .val (.int cu), .val (.int cn), .val (.int b0), .val (.int b1), .val (.int b2), .val (.int b3), .val (.int (0 : Int32)), .val (.ref br), .val (.int cut), .val (.int rc), .val (.ref bo), .val (.int m_), .val (.int f2), .unset, .unset] []) by
        refine go_icmp_le (q := 236) (q' := 244) X4 hx (hb hby at_233) rfl (by decide) rfl (fun hm1 => ?_) (fun hm1 => ?_)
        · exact JF1 _ (by rw [if_neg hm1]; exact (Int32.add_zero _).symm)
        · refine go_iload (q := 238) X4 hx (hb hby at_236) rfl rfl ?_
          refine go_if_eq (q := 241) (q' := 244) X4 hx (hb hby at_238) rfl (by decide) rfl (fun hz1 => ?_) (fun hz1 => ?_)
          · exact JF1 _ (by rw [if_pos hm1, hz1]; exact (Int32.add_zero _).symm)
          · refine go_iinc (q := 244) (l' := #[.val (.int flags), .val (.int cu), .val (.int cn), .val (.int b0), .val (.int b1), .val (.int b2), .val (.int b3), .val (.int (0 : Int32)), .val (.ref br), .val (.int cut), .val (.int rc), .val (.ref bo), .val (.int m_), .val (.int (f1 + (1 : Int32))), .unset, .unset]) X4 hx (hb hby at_241) rfl rfl rfl ?_
            exact JF1 _ (by rw [if_pos hm1, hb1.resolve_left hz1]; try rfl)
      intro f2 ef2
      refine go_iload (q := 246) X4 hx (hb hby at_244) rfl rfl ?_
      refine go_iconst (q := 247) (v := (2 : Int32)) X4 hx (hb hby at_246) rfl rfl ?_
      suffices JF2 : ∀ f3 : Int32, f3 = f2 + (if (2 : Int32) < m_ then b2 else 0) → Go p e below s (fun v h L => v = some (.int (1 : Int32)) ∧ Fr h0.size L) room_1.cells room_1.slots T4 (mkF m 258 #[.val (.int flags), .val (.int cu), .val (.int cn), .val (.int b0), .val (.int b1), .val (.int b2), .val (.int b3), .val (.int (0 : Int32)), .val (.ref br), .val (.int cut), .val (.int rc), .val (.ref bo), .val (.int m_), .val (.int f3), .unset, .unset] []) by
        refine go_icmp_le (q := 250) (q' := 258) X4 hx (hb hby at_247) rfl (by decide) rfl (fun hm2 => ?_) (fun hm2 => ?_)
        · exact JF2 _ (by rw [if_neg hm2]; exact (Int32.add_zero _).symm)
        · refine go_iload (q := 252) X4 hx (hb hby at_250) rfl rfl ?_
          refine go_if_eq (q := 255) (q' := 258) X4 hx (hb hby at_252) rfl (by decide) rfl (fun hz2 => ?_) (fun hz2 => ?_)
          · exact JF2 _ (by rw [if_pos hm2, hz2]; exact (Int32.add_zero _).symm)
          · refine go_iinc (q := 258) (l' := #[.val (.int flags), .val (.int cu), .val (.int cn), .val (.int b0), .val (.int b1), .val (.int b2), .val (.int b3), .val (.int (0 : Int32)), .val (.ref br), .val (.int cut), .val (.int rc), .val (.ref bo), .val (.int m_), .val (.int (f2 + (1 : Int32))), .unset, .unset]) X4 hx (hb hby at_255) rfl rfl rfl ?_
            exact JF2 _ (by rw [if_pos hm2, hb2.resolve_left hz2]; try rfl)
      intro f3 ef3
      refine go_iload (q := 260) X4 hx (hb hby at_258) rfl rfl ?_
      refine go_iconst (q := 261) (v := (3 : Int32)) X4 hx (hb hby at_260) rfl rfl ?_
      suffices JF3 : ∀ f4 : Int32, f4 = f3 + (if (3 : Int32) < m_ then b3 else 0) → Go p e below s (fun v h L => v = some (.int (1 : Int32)) ∧ Fr h0.size L) room_1.cells room_1.slots T4 (mkF m 272 #[.val (.int flags), .val (.int cu), .val (.int cn), .val (.int b0), .val (.int b1), .val (.int b2), .val (.int b3), .val (.int (0 : Int32)), .val (.ref br), .val (.int cut), .val (.int rc), .val (.ref bo), .val (.int m_), .val (.int f4), .unset, .unset] []) by
        refine go_icmp_le (q := 264) (q' := 272) X4 hx (hb hby at_261) rfl (by decide) rfl (fun hm3 => ?_) (fun hm3 => ?_)
        · exact JF3 _ (by rw [if_neg hm3]; exact (Int32.add_zero _).symm)
        · refine go_iload (q := 266) X4 hx (hb hby at_264) rfl rfl ?_
          refine go_if_eq (q := 269) (q' := 272) X4 hx (hb hby at_266) rfl (by decide) rfl (fun hz3 => ?_) (fun hz3 => ?_)
          · exact JF3 _ (by rw [if_pos hm3, hz3]; exact (Int32.add_zero _).symm)
          · refine go_iinc (q := 272) (l' := #[.val (.int flags), .val (.int cu), .val (.int cn), .val (.int b0), .val (.int b1), .val (.int b2), .val (.int b3), .val (.int (0 : Int32)), .val (.ref br), .val (.int cut), .val (.int rc), .val (.ref bo), .val (.int m_), .val (.int (f3 + (1 : Int32))), .unset, .unset]) X4 hx (hb hby at_269) rfl rfl rfl ?_
            exact JF3 _ (by rw [if_pos hm3, hb3.resolve_left hz3]; try rfl)
      intro f4 ef4
      refine go_iload (q := 274) X4 hx (hb hby at_272) rfl rfl ?_
      refine go_i2d (q := 275) X4 hx (hb hby at_274) rfl rfl ?_
      refine go_iload (q := 277) X4 hx (hb hby at_275) rfl rfl ?_
      refine go_i2d (q := 278) X4 hx (hb hby at_277) rfl rfl ?_
      refine go_ddiv (q := 279) X4 hx (hb hby at_278) rfl (own_dn hcut _) rfl ?_
      refine go_dstore (q := 281) (l' := #[.val (.int flags), .val (.int cu), .val (.int cn), .val (.int b0), .val (.int b1), .val (.int b2), .val (.int b3), .val (.int (0 : Int32)), .val (.ref br), .val (.int cut), .val (.int rc), .val (.ref bo), .val (.int m_), .val (.int f4), .val (.double (FP.ddiv (FP.i2d f4) (FP.i2d cut))), .second]) X4 hx (hb hby at_279) rfl rfl ?_
      refine go_aload (q := 283) X4 hx (hb hby at_281) rfl rfl rfl ?_
      refine go_iload (q := 285) X4 hx (hb hby at_283) rfl rfl ?_
      refine go_callV (q := 288) (W := 0) X4 hx hZ hown e4 (hw _ (List.mem_of_getElem? (i := 19) rfl)) (hw _ (List.mem_of_getElem? (i := 20) rfl)) (notFace_of_selects (args := #[]) (mvT hZ (hw _ (List.mem_of_getElem? (i := 22) rfl)))) (hw _ (List.mem_of_getElem? (i := 22) rfl)) (hw _ (List.mem_of_getElem? (i := 21) rfl)) (hw _ (List.mem_of_getElem? (i := 4) rfl)) (hw _ (List.mem_of_getElem? (i := 23) rfl)) (by decide) bo [(.int cut)] [] E_bo (rm4_0 l Z a0 hw [] bo cut h0.size br k_br _ b0 b1 b2 b3 T3.heap Fr_ V_br hcut) (by rw [hml]; rfl) rfl (lenOf pd_2 rfl) (Nat.le_of_eq rfl) (by decide) (by decide) (hb hby at_285) rfl (by decide) (by decide) ?_
      rintro T5 L5 v5 X5 ⟨Nq5, rfl, e5⟩
      have N5 := Fr.app N4 Nq5
      show Go p e below s (fun v h L => v = some (.int (1 : Int32)) ∧ Fr h0.size L) room_1.cells room_1.slots T5 (mkF m 288 #[.val (.int flags), .val (.int cu), .val (.int cn), .val (.int b0), .val (.int b1), .val (.int b2), .val (.int b3), .val (.int (0 : Int32)), .val (.ref br), .val (.int cut), .val (.int rc), .val (.ref bo), .val (.int m_), .val (.int f4), .val (.double (FP.ddiv (FP.i2d f4) (FP.i2d cut))), .second] [(.double (FP.ddiv (FP.i2d (cnt4 (if (0 : Int32) < cut then (0 : Int32) else cut) b0 b1 b2 b3)) (FP.i2d cut)))])
      suffices Hgot : ∀ got : UInt64, got = (FP.ddiv (FP.i2d (cnt4 (if (0 : Int32) < cut then (0 : Int32) else cut) b0 b1 b2 b3)) (FP.i2d cut)) → Go p e below s (fun v h L => v = some (.int (1 : Int32)) ∧ Fr h0.size L) room_1.cells room_1.slots T5 (mkF m 288 #[.val (.int flags), .val (.int cu), .val (.int cn), .val (.int b0), .val (.int b1), .val (.int b2), .val (.int b3), .val (.int (0 : Int32)), .val (.ref br), .val (.int cut), .val (.int rc), .val (.ref bo), .val (.int m_), .val (.int f4), .val (.double (FP.ddiv (FP.i2d f4) (FP.i2d cut))), .second] [(.double got)]) from Hgot _ rfl
      intro got egot
      have hgot : got = FP.ddiv (FP.i2d f4) (FP.i2d cut) := by rw [egot, ← em_, ef4, ef3, ef2, ef1]; rfl
      refine go_dload (q := 290) X5 hx (hb hby at_288) rfl rfl ?_
      refine go_dcmp (q := 291) X5 hx (hb hby at_290) rfl rfl ?_
      refine go_if_ne (q := 294) (q' := 298) X5 hx (hb hby at_291) rfl (by decide) rfl (fun hc291 => ?_) (fun hc291 => ?_)
      · exact absurd (dcmpV_eq hgot (hgot ▸ own_dn hcut _) _) hc291
      · refine go_iconst (q := 295) (v := (1 : Int32)) X5 hx (hb hby at_294) rfl rfl ?_
        refine go_goto (q := 299) X5 hx (hb hby at_295) (by decide) rfl ?_
        exact go_retN X5 hx (by simp) hret hlk (hb hby at_299) (by decide) (by decide) ⟨rfl, N5⟩
  · refine go_iload (q := 61) X0 hx (hb hby at_59) rfl rfl ?_
    refine go_if_ne (q := 64) (q' := 72) X0 hx (hb hby at_61) rfl (by decide) rfl (fun hc61 => ?_) (fun hc61 => ?_)
    · refine go_iload (q := 74) X0 hx (hb hby at_72) rfl rfl ?_
      refine go_iconst (q := 75) (v := (1 : Int32)) X0 hx (hb hby at_74) rfl rfl ?_
      refine go_icmp_ne (q := 78) (q' := 90) X0 hx (hb hby at_75) rfl (by decide) rfl (fun hc75 => ?_) (fun hc75 => ?_)
      · exact absurd rfl hc75
      · refine go_iconst (q := 79) (v := (1 : Int32)) X0 hx (hb hby at_78) rfl rfl ?_
        refine go_newP (q := 81) X0 hx hZ (hw _ (List.mem_of_getElem? (i := 0) rfl)) e0 (hb hby at_79) rfl (by decide) 1 (by decide) (by decide) (by decide) (by decide) (fun T6 h6 k_br br eb6 X6 e6 E6 V_br => ?_)
        have g_br : h0.size ≤ br := Nat.le_trans hsz (Nat.le_of_eq eb6.symm)
        replace hsz := Nat.le_trans hsz E6.1
        replace V_br : Arv Z h6 br k_br .boolean (1 : Int32) [(.int (0 : Int32))] (.int (0 : Int32)) := V_br.pad (pad_rep [] (.int (0 : Int32)) 1)
        refine go_dup (q := 82) X6 hx (hb hby at_81) rfl rfl ?_
        refine go_iconst (q := 83) (v := (0 : Int32)) X6 hx (hb hby at_82) rfl rfl ?_
        refine go_iloadN (q := 84) X6 hx (hb hby at_83) rfl rfl ?_
        refine go_bastore (q := 85) X6 hx hZ e6 V_br ⟨by decide, by decide⟩ 0 rfl (Nat.le_of_ble_eq_true rfl) N0 g_br (hb hby at_84) rfl (fun T7 h7 l7 X7 N7 e7 W7 V7 => ?_)
        replace hsz := Nat.le_trans hsz (Nat.le_of_eq W7.size.symm)
        replace V_br : Arv Z h7 br k_br .boolean (1 : Int32) [(.int (nar .boolean b0))] (.int (0 : Int32)) := V7
        rw [own_nar hb0] at V_br
        refine go_astore (q := 87) (l' := #[.val (.int flags), .val (.int cu), .val (.int cn), .val (.int b0), .val (.int b1), .val (.int b2), .val (.int b3), .val (.int (1 : Int32)), .val (.ref br), .unset, .unset, .unset, .unset, .unset, .unset, .unset]) X7 hx (hb hby at_85) rfl rfl rfl ?_
        refine go_goto (q := 165) X7 hx (hb hby at_87) (by decide) rfl ?_
        refine go_iloadN (q := 166) X7 hx (hb hby at_165) rfl rfl ?_
        refine go_ldcI (q := 168) (v := (2147483647 : Int32)) X7 hx hZ hown (hw _ (List.mem_of_getElem? (i := 1) rfl)) (hb hby at_166) rfl ?_
        refine go_iand (q := 169) (v := (cu &&& (2147483647 : Int32))) X7 hx (hb hby at_168) rfl rfl ?_
        refine go_istore (q := 171) (l' := #[.val (.int flags), .val (.int cu), .val (.int cn), .val (.int b0), .val (.int b1), .val (.int b2), .val (.int b3), .val (.int (1 : Int32)), .val (.ref br), .val (.int (cu &&& (2147483647 : Int32))), .unset, .unset, .unset, .unset, .unset, .unset]) X7 hx (hb hby at_169) rfl rfl ?_
        refine go_iload (q := 173) X7 hx (hb hby at_171) rfl rfl ?_
        suffices Jcut : ∀ cut : Int32, ¬ cut < 1 → Go p e below s (fun v h L => v = some (.int (1 : Int32)) ∧ Fr h0.size L) room_1.cells room_1.slots T7 (mkF m 179 #[.val (.int flags), .val (.int cu), .val (.int cn), .val (.int b0), .val (.int b1), .val (.int b2), .val (.int b3), .val (.int (1 : Int32)), .val (.ref br), .val (.int cut), .unset, .unset, .unset, .unset, .unset, .unset] []) by
          refine go_if_ne (q := 176) (q' := 179) X7 hx (hb hby at_173) rfl (by decide) rfl (fun hc173 => ?_) (fun hc173 => ?_)
          · exact Jcut _ (own_ge1 _ hc173)
          · refine go_iconst (q := 177) (v := (1 : Int32)) X7 hx (hb hby at_176) rfl rfl ?_
            refine go_istore (q := 179) (l' := #[.val (.int flags), .val (.int cu), .val (.int cn), .val (.int b0), .val (.int b1), .val (.int b2), .val (.int b3), .val (.int (1 : Int32)), .val (.ref br), .val (.int (1 : Int32)), .unset, .unset, .unset, .unset, .unset, .unset]) X7 hx (hb hby at_177) rfl rfl ?_
            exact Jcut _ (by decide)
        intro cut hcut
        refine go_iloadN (q := 180) X7 hx (hb hby at_179) rfl rfl ?_
        refine go_ldcI (q := 182) (v := (2147483647 : Int32)) X7 hx hZ hown (hw _ (List.mem_of_getElem? (i := 1) rfl)) (hb hby at_180) rfl ?_
        refine go_iand (q := 183) (v := (cn &&& (2147483647 : Int32))) X7 hx (hb hby at_182) rfl rfl ?_
        refine go_istore (q := 185) (l' := #[.val (.int flags), .val (.int cu), .val (.int cn), .val (.int b0), .val (.int b1), .val (.int b2), .val (.int b3), .val (.int (1 : Int32)), .val (.ref br), .val (.int cut), .val (.int (cn &&& (2147483647 : Int32))), .unset, .unset, .unset, .unset, .unset]) X7 hx (hb hby at_183) rfl rfl ?_
        refine go_iload (q := 187) X7 hx (hb hby at_185) rfl rfl ?_
        suffices Jrc : ∀ rc : Int32, ¬ rc < 1 → Go p e below s (fun v h L => v = some (.int (1 : Int32)) ∧ Fr h0.size L) room_1.cells room_1.slots T7 (mkF m 193 #[.val (.int flags), .val (.int cu), .val (.int cn), .val (.int b0), .val (.int b1), .val (.int b2), .val (.int b3), .val (.int (1 : Int32)), .val (.ref br), .val (.int cut), .val (.int rc), .unset, .unset, .unset, .unset, .unset] []) by
          refine go_if_ne (q := 190) (q' := 193) X7 hx (hb hby at_187) rfl (by decide) rfl (fun hc187 => ?_) (fun hc187 => ?_)
          · exact Jrc _ (own_ge1 _ hc187)
          · refine go_iconst (q := 191) (v := (1 : Int32)) X7 hx (hb hby at_190) rfl rfl ?_
            refine go_istore (q := 193) (l' := #[.val (.int flags), .val (.int cu), .val (.int cn), .val (.int b0), .val (.int b1), .val (.int b2), .val (.int b3), .val (.int (1 : Int32)), .val (.ref br), .val (.int cut), .val (.int (1 : Int32)), .unset, .unset, .unset, .unset, .unset]) X7 hx (hb hby at_191) rfl rfl ?_
            exact Jrc _ (by decide)
        intro rc hrc
        refine go_newO (q := 196) X7 hx hZ hown (hw _ (List.mem_of_getElem? (i := 2) rfl)) (hw _ (List.mem_of_getElem? (i := 3) rfl)) (hw _ (List.mem_of_getElem? (i := 4) rfl)) e7 (hb hby at_193) rfl (by decide) (by decide) (fun T8 h8 bo eb8 X8 e8 E8 A8 D8 => ?_)
        have g_bo : h0.size ≤ bo := Nat.le_trans hsz (Nat.le_of_eq eb8.symm)
        have ne_br_bo : br ≠ bo := Nat.ne_of_lt (Nat.lt_of_lt_of_eq V_br.lt eb8.symm)
        replace V_br := V_br.ext E8
        replace hsz := Nat.le_trans hsz E8.1
        have E_bo := A8
        have F_relevant_bo : Fld Z h8 bo "com/example/forager/forager/eval/Ranking" "relevant" "[Z" .null := D8 (Or.inr (hw _ (List.mem_of_getElem? (i := 12) rfl))) (ty := (.array .boolean)) (by decide)
        have F_relevantCount_bo : Fld Z h8 bo "com/example/forager/forager/eval/Ranking" "relevantCount" "I" (.int (0 : Int32)) := D8 (Or.inr (hw _ (List.mem_of_getElem? (i := 14) rfl))) (ty := .int) (by decide)
        refine go_dup (q := 197) X8 hx (hb hby at_196) rfl rfl ?_
        refine go_aload (q := 199) X8 hx (hb hby at_197) rfl rfl rfl ?_
        refine go_iload (q := 201) X8 hx (hb hby at_199) rfl rfl ?_
        refine go_callI (q := 204) (W := 1) X8 hx hZ hown e8 rfl (hw _ (List.mem_of_getElem? (i := 5) rfl)) (hw _ (List.mem_of_getElem? (i := 6) rfl)) (hw _ (List.mem_of_getElem? (i := 4) rfl)) (hw _ (List.mem_of_getElem? (i := 7) rfl)) (by decide) bo [(.ref br), (.int rc)] [(.ref bo)] (rm1 l Z a0 hw [] bo br rc h0.size _ _ h8 hsz g_bo E_bo F_relevant_bo F_relevantCount_bo hrc) (by rw [hml]; rfl) rfl (lenOf pd_1 rfl) (Nat.le_of_eq rfl) (by decide) (by decide) (hb hby at_201) rfl (by decide) (by decide) ?_
        rintro T9 L9 v9 X9 ⟨Nq9, rfl, K9, Fr_, Fc_⟩
        have N9 := Fr.app N7 Nq9
        replace V_br := V_br.keep K9 (ninS ne_br_bo nin0)
        replace E_bo := E_bo.keep K9
        replace hsz := Nat.le_trans hsz K9.1
        show Go p e below s (fun v h L => v = some (.int (1 : Int32)) ∧ Fr h0.size L) room_1.cells room_1.slots T9 (mkF m 204 #[.val (.int flags), .val (.int cu), .val (.int cn), .val (.int b0), .val (.int b1), .val (.int b2), .val (.int b3), .val (.int (1 : Int32)), .val (.ref br), .val (.int cut), .val (.int rc), .unset, .unset, .unset, .unset, .unset] [(.ref bo)])
        refine go_astore (q := 206) (l' := #[.val (.int flags), .val (.int cu), .val (.int cn), .val (.int b0), .val (.int b1), .val (.int b2), .val (.int b3), .val (.int (1 : Int32)), .val (.ref br), .val (.int cut), .val (.int rc), .val (.ref bo), .unset, .unset, .unset, .unset]) X9 hx (hb hby at_204) rfl rfl rfl ?_
        refine go_iload (q := 208) X9 hx (hb hby at_206) rfl rfl ?_
        refine go_iload (q := 210) X9 hx (hb hby at_208) rfl rfl ?_
        refine go_callS (q := 213) (W := 0) X9 hx hZ hown rfl (hw _ (List.mem_of_getElem? (i := 15) rfl)) (hw _ (List.mem_of_getElem? (i := 16) rfl)) (hw _ (List.mem_of_getElem? (i := 17) rfl)) (hw _ (List.mem_of_getElem? (i := 18) rfl)) (by decide) [(.int cut), (.int (1 : Int32))] [] (rm3 l Z a0 hw [] cut (1 : Int32) T9.heap) (by rw [hml]; rfl) rfl (lenOf pd_0 rfl) (Nat.le_of_eq rfl) (by decide) (by decide) (hb hby at_210) rfl (by decide) (by decide) ?_
        rintro T10 L10 v10 X10 ⟨Np10, rfl, e10⟩
        have N10 := Fr.app N9 (Np10 _)
        show Go p e below s (fun v h L => v = some (.int (1 : Int32)) ∧ Fr h0.size L) room_1.cells room_1.slots T10 (mkF m 213 #[.val (.int flags), .val (.int cu), .val (.int cn), .val (.int b0), .val (.int b1), .val (.int b2), .val (.int b3), .val (.int (1 : Int32)), .val (.ref br), .val (.int cut), .val (.int rc), .val (.ref bo), .unset, .unset, .unset, .unset] [(.int (if (1 : Int32) < cut then (1 : Int32) else cut))])
        suffices Hm_ : ∀ m_ : Int32, m_ = (if (1 : Int32) < cut then (1 : Int32) else cut) → Go p e below s (fun v h L => v = some (.int (1 : Int32)) ∧ Fr h0.size L) room_1.cells room_1.slots T10 (mkF m 213 #[.val (.int flags), .val (.int cu), .val (.int cn), .val (.int b0), .val (.int b1), .val (.int b2), .val (.int b3), .val (.int (1 : Int32)), .val (.ref br), .val (.int cut), .val (.int rc), .val (.ref bo), .unset, .unset, .unset, .unset] [(.int m_)]) from Hm_ _ rfl
        intro m_ em_
        refine go_istore (q := 215) (l' := #[.val (.int flags), .val (.int cu), .val (.int cn), .val (.int b0), .val (.int b1), .val (.int b2), .val (.int b3), .val (.int (1 : Int32)), .val (.ref br), .val (.int cut), .val (.int rc), .val (.ref bo), .val (.int m_), .unset, .unset, .unset]) X10 hx (hb hby at_213) rfl rfl ?_
        refine go_iconst (q := 216) (v := (0 : Int32)) X10 hx (hb hby at_215) rfl rfl ?_
        refine go_istore (q := 218) (l' := #[.val (.int flags), .val (.int cu), .val (.int cn), .val (.int b0), .val (.int b1), .val (.int b2), .val (.int b3), .val (.int (1 : Int32)), .val (.ref br), .val (.int cut), .val (.int rc), .val (.ref bo), .val (.int m_), .val (.int (0 : Int32)), .unset, .unset]) X10 hx (hb hby at_216) rfl rfl ?_
        refine go_iload (q := 220) X10 hx (hb hby at_218) rfl rfl ?_
        suffices JF0 : ∀ f1 : Int32, f1 = (0 : Int32) + (if (0 : Int32) < m_ then b0 else 0) → Go p e below s (fun v h L => v = some (.int (1 : Int32)) ∧ Fr h0.size L) room_1.cells room_1.slots T10 (mkF m 230 #[.val (.int flags), .val (.int cu), .val (.int cn), .val (.int b0), .val (.int b1), .val (.int b2), .val (.int b3), .val (.int (1 : Int32)), .val (.ref br), .val (.int cut), .val (.int rc), .val (.ref bo), .val (.int m_), .val (.int f1), .unset, .unset] []) by
          refine go_if_le (q := 223) (q' := 230) X10 hx (hb hby at_220) rfl (by decide) rfl (fun hm0 => ?_) (fun hm0 => ?_)
          · exact JF0 _ (by rw [if_neg hm0]; exact (Int32.add_zero _).symm)
          · refine go_iloadN (q := 224) X10 hx (hb hby at_223) rfl rfl ?_
            refine go_if_eq (q := 227) (q' := 230) X10 hx (hb hby at_224) rfl (by decide) rfl (fun hz0 => ?_) (fun hz0 => ?_)
            · exact JF0 _ (by rw [if_pos hm0, hz0]; exact (Int32.add_zero _).symm)
            · refine go_iinc (q := 230) (l' := #[.val (.int flags), .val (.int cu), .val (.int cn), .val (.int b0), .val (.int b1), .val (.int b2), .val (.int b3), .val (.int (1 : Int32)), .val (.ref br), .val (.int cut), .val (.int rc), .val (.ref bo), .val (.int m_), .val (.int (1 : Int32)), .unset, .unset]) X10 hx (hb hby at_227) rfl rfl rfl ?_
              exact JF0 _ (by rw [if_pos hm0, hb0.resolve_left hz0]; try rfl)
        intro f1 ef1
        refine go_iload (q := 232) X10 hx (hb hby at_230) rfl rfl ?_
        refine go_iconst (q := 233) (v := (1 : Int32)) X10 hx (hb hby at_232) rfl rfl ?_
        suffices JF1 : ∀ f2 : Int32, f2 = f1 + (if (1 : Int32) < m_ then b1 else 0) → Go p e below s (fun v h L => v = some (.int (1 : Int32)) ∧ Fr h0.size L) room_1.cells room_1.slots T10 (mkF m 244 #[.val (.int flags), .val (.int cu), .val (.int cn), .val (.int b0), .val (.int b1), .val (.int b2), .val (.int b3), .val (.int (1 : Int32)), .val (.ref br), .val (.int cut), .val (.int rc), .val (.ref bo), .val (.int m_), .val (.int f2), .unset, .unset] []) by
          refine go_icmp_le (q := 236) (q' := 244) X10 hx (hb hby at_233) rfl (by decide) rfl (fun hm1 => ?_) (fun hm1 => ?_)
          · exact JF1 _ (by rw [if_neg hm1]; exact (Int32.add_zero _).symm)
          · refine go_iload (q := 238) X10 hx (hb hby at_236) rfl rfl ?_
            refine go_if_eq (q := 241) (q' := 244) X10 hx (hb hby at_238) rfl (by decide) rfl (fun hz1 => ?_) (fun hz1 => ?_)
            · exact JF1 _ (by rw [if_pos hm1, hz1]; exact (Int32.add_zero _).symm)
            · refine go_iinc (q := 244) (l' := #[.val (.int flags), .val (.int cu), .val (.int cn), .val (.int b0), .val (.int b1), .val (.int b2), .val (.int b3), .val (.int (1 : Int32)), .val (.ref br), .val (.int cut), .val (.int rc), .val (.ref bo), .val (.int m_), .val (.int (f1 + (1 : Int32))), .unset, .unset]) X10 hx (hb hby at_241) rfl rfl rfl ?_
              exact JF1 _ (by rw [if_pos hm1, hb1.resolve_left hz1]; try rfl)
        intro f2 ef2
        refine go_iload (q := 246) X10 hx (hb hby at_244) rfl rfl ?_
        refine go_iconst (q := 247) (v := (2 : Int32)) X10 hx (hb hby at_246) rfl rfl ?_
        suffices JF2 : ∀ f3 : Int32, f3 = f2 + (if (2 : Int32) < m_ then b2 else 0) → Go p e below s (fun v h L => v = some (.int (1 : Int32)) ∧ Fr h0.size L) room_1.cells room_1.slots T10 (mkF m 258 #[.val (.int flags), .val (.int cu), .val (.int cn), .val (.int b0), .val (.int b1), .val (.int b2), .val (.int b3), .val (.int (1 : Int32)), .val (.ref br), .val (.int cut), .val (.int rc), .val (.ref bo), .val (.int m_), .val (.int f3), .unset, .unset] []) by
          refine go_icmp_le (q := 250) (q' := 258) X10 hx (hb hby at_247) rfl (by decide) rfl (fun hm2 => ?_) (fun hm2 => ?_)
          · exact JF2 _ (by rw [if_neg hm2]; exact (Int32.add_zero _).symm)
          · refine go_iload (q := 252) X10 hx (hb hby at_250) rfl rfl ?_
            refine go_if_eq (q := 255) (q' := 258) X10 hx (hb hby at_252) rfl (by decide) rfl (fun hz2 => ?_) (fun hz2 => ?_)
            · exact JF2 _ (by rw [if_pos hm2, hz2]; exact (Int32.add_zero _).symm)
            · refine go_iinc (q := 258) (l' := #[.val (.int flags), .val (.int cu), .val (.int cn), .val (.int b0), .val (.int b1), .val (.int b2), .val (.int b3), .val (.int (1 : Int32)), .val (.ref br), .val (.int cut), .val (.int rc), .val (.ref bo), .val (.int m_), .val (.int (f2 + (1 : Int32))), .unset, .unset]) X10 hx (hb hby at_255) rfl rfl rfl ?_
              exact JF2 _ (by rw [if_pos hm2, hb2.resolve_left hz2]; try rfl)
        intro f3 ef3
        refine go_iload (q := 260) X10 hx (hb hby at_258) rfl rfl ?_
        refine go_iconst (q := 261) (v := (3 : Int32)) X10 hx (hb hby at_260) rfl rfl ?_
        suffices JF3 : ∀ f4 : Int32, f4 = f3 + (if (3 : Int32) < m_ then b3 else 0) → Go p e below s (fun v h L => v = some (.int (1 : Int32)) ∧ Fr h0.size L) room_1.cells room_1.slots T10 (mkF m 272 #[.val (.int flags), .val (.int cu), .val (.int cn), .val (.int b0), .val (.int b1), .val (.int b2), .val (.int b3), .val (.int (1 : Int32)), .val (.ref br), .val (.int cut), .val (.int rc), .val (.ref bo), .val (.int m_), .val (.int f4), .unset, .unset] []) by
          refine go_icmp_le (q := 264) (q' := 272) X10 hx (hb hby at_261) rfl (by decide) rfl (fun hm3 => ?_) (fun hm3 => ?_)
          · exact JF3 _ (by rw [if_neg hm3]; exact (Int32.add_zero _).symm)
          · refine go_iload (q := 266) X10 hx (hb hby at_264) rfl rfl ?_
            refine go_if_eq (q := 269) (q' := 272) X10 hx (hb hby at_266) rfl (by decide) rfl (fun hz3 => ?_) (fun hz3 => ?_)
            · exact JF3 _ (by rw [if_pos hm3, hz3]; exact (Int32.add_zero _).symm)
            · refine go_iinc (q := 272) (l' := #[.val (.int flags), .val (.int cu), .val (.int cn), .val (.int b0), .val (.int b1), .val (.int b2), .val (.int b3), .val (.int (1 : Int32)), .val (.ref br), .val (.int cut), .val (.int rc), .val (.ref bo), .val (.int m_), .val (.int (f3 + (1 : Int32))), .unset, .unset]) X10 hx (hb hby at_269) rfl rfl rfl ?_
              exact JF3 _ (by rw [if_pos hm3, hb3.resolve_left hz3]; try rfl)
        intro f4 ef4
        refine go_iload (q := 274) X10 hx (hb hby at_272) rfl rfl ?_
        refine go_i2d (q := 275) X10 hx (hb hby at_274) rfl rfl ?_
        refine go_iload (q := 277) X10 hx (hb hby at_275) rfl rfl ?_
        refine go_i2d (q := 278) X10 hx (hb hby at_277) rfl rfl ?_
        refine go_ddiv (q := 279) X10 hx (hb hby at_278) rfl (own_dn hcut _) rfl ?_
        refine go_dstore (q := 281) (l' := #[.val (.int flags), .val (.int cu), .val (.int cn), .val (.int b0), .val (.int b1), .val (.int b2), .val (.int b3), .val (.int (1 : Int32)), .val (.ref br), .val (.int cut), .val (.int rc), .val (.ref bo), .val (.int m_), .val (.int f4), .val (.double (FP.ddiv (FP.i2d f4) (FP.i2d cut))), .second]) X10 hx (hb hby at_279) rfl rfl ?_
        refine go_aload (q := 283) X10 hx (hb hby at_281) rfl rfl rfl ?_
        refine go_iload (q := 285) X10 hx (hb hby at_283) rfl rfl ?_
        refine go_callV (q := 288) (W := 0) X10 hx hZ hown e10 (hw _ (List.mem_of_getElem? (i := 19) rfl)) (hw _ (List.mem_of_getElem? (i := 20) rfl)) (notFace_of_selects (args := #[]) (mvT hZ (hw _ (List.mem_of_getElem? (i := 22) rfl)))) (hw _ (List.mem_of_getElem? (i := 22) rfl)) (hw _ (List.mem_of_getElem? (i := 21) rfl)) (hw _ (List.mem_of_getElem? (i := 4) rfl)) (hw _ (List.mem_of_getElem? (i := 23) rfl)) (by decide) bo [(.int cut)] [] E_bo (rm4_1 l Z a0 hw [] bo cut h0.size br k_br _ b0 b1 b2 b3 T9.heap Fr_ V_br hcut hb0) (by rw [hml]; rfl) rfl (lenOf pd_2 rfl) (Nat.le_of_eq rfl) (by decide) (by decide) (hb hby at_285) rfl (by decide) (by decide) ?_
        rintro T11 L11 v11 X11 ⟨Nq11, rfl, e11⟩
        have N11 := Fr.app N10 Nq11
        show Go p e below s (fun v h L => v = some (.int (1 : Int32)) ∧ Fr h0.size L) room_1.cells room_1.slots T11 (mkF m 288 #[.val (.int flags), .val (.int cu), .val (.int cn), .val (.int b0), .val (.int b1), .val (.int b2), .val (.int b3), .val (.int (1 : Int32)), .val (.ref br), .val (.int cut), .val (.int rc), .val (.ref bo), .val (.int m_), .val (.int f4), .val (.double (FP.ddiv (FP.i2d f4) (FP.i2d cut))), .second] [(.double (FP.ddiv (FP.i2d (cnt4 (if (1 : Int32) < cut then (1 : Int32) else cut) b0 b1 b2 b3)) (FP.i2d cut)))])
        suffices Hgot : ∀ got : UInt64, got = (FP.ddiv (FP.i2d (cnt4 (if (1 : Int32) < cut then (1 : Int32) else cut) b0 b1 b2 b3)) (FP.i2d cut)) → Go p e below s (fun v h L => v = some (.int (1 : Int32)) ∧ Fr h0.size L) room_1.cells room_1.slots T11 (mkF m 288 #[.val (.int flags), .val (.int cu), .val (.int cn), .val (.int b0), .val (.int b1), .val (.int b2), .val (.int b3), .val (.int (1 : Int32)), .val (.ref br), .val (.int cut), .val (.int rc), .val (.ref bo), .val (.int m_), .val (.int f4), .val (.double (FP.ddiv (FP.i2d f4) (FP.i2d cut))), .second] [(.double got)]) from Hgot _ rfl
        intro got egot
        have hgot : got = FP.ddiv (FP.i2d f4) (FP.i2d cut) := by rw [egot, ← em_, ef4, ef3, ef2, ef1]; rfl
        refine go_dload (q := 290) X11 hx (hb hby at_288) rfl rfl ?_
        refine go_dcmp (q := 291) X11 hx (hb hby at_290) rfl rfl ?_
        refine go_if_ne (q := 294) (q' := 298) X11 hx (hb hby at_291) rfl (by decide) rfl (fun hc291 => ?_) (fun hc291 => ?_)
        · exact absurd (dcmpV_eq hgot (hgot ▸ own_dn hcut _) _) hc291
        · refine go_iconst (q := 295) (v := (1 : Int32)) X11 hx (hb hby at_294) rfl rfl ?_
          refine go_goto (q := 299) X11 hx (hb hby at_295) (by decide) rfl ?_
          exact go_retN X11 hx (by simp) hret hlk (hb hby at_299) (by decide) (by decide) ⟨rfl, N11⟩
    · exact absurd hc61 (by decide)
  · refine go_iload (q := 61) X0 hx (hb hby at_59) rfl rfl ?_
    refine go_if_ne (q := 64) (q' := 72) X0 hx (hb hby at_61) rfl (by decide) rfl (fun hc61 => ?_) (fun hc61 => ?_)
    · refine go_iload (q := 74) X0 hx (hb hby at_72) rfl rfl ?_
      refine go_iconst (q := 75) (v := (1 : Int32)) X0 hx (hb hby at_74) rfl rfl ?_
      refine go_icmp_ne (q := 78) (q' := 90) X0 hx (hb hby at_75) rfl (by decide) rfl (fun hc75 => ?_) (fun hc75 => ?_)
      · refine go_iload (q := 92) X0 hx (hb hby at_90) rfl rfl ?_
        refine go_iconst (q := 93) (v := (2 : Int32)) X0 hx (hb hby at_92) rfl rfl ?_
        refine go_icmp_ne (q := 96) (q' := 113) X0 hx (hb hby at_93) rfl (by decide) rfl (fun hc93 => ?_) (fun hc93 => ?_)
        · exact absurd rfl hc93
        · refine go_iconst (q := 97) (v := (2 : Int32)) X0 hx (hb hby at_96) rfl rfl ?_
          refine go_newP (q := 99) X0 hx hZ (hw _ (List.mem_of_getElem? (i := 0) rfl)) e0 (hb hby at_97) rfl (by decide) 2 (by decide) (by decide) (by decide) (by decide) (fun T12 h12 k_br br eb12 X12 e12 E12 V_br => ?_)
          have g_br : h0.size ≤ br := Nat.le_trans hsz (Nat.le_of_eq eb12.symm)
          replace hsz := Nat.le_trans hsz E12.1
          replace V_br : Arv Z h12 br k_br .boolean (2 : Int32) [(.int (0 : Int32)), (.int (0 : Int32))] (.int (0 : Int32)) := V_br.pad (pad_rep [] (.int (0 : Int32)) 2)
          refine go_dup (q := 100) X12 hx (hb hby at_99) rfl rfl ?_
          refine go_iconst (q := 101) (v := (0 : Int32)) X12 hx (hb hby at_100) rfl rfl ?_
          refine go_iloadN (q := 102) X12 hx (hb hby at_101) rfl rfl ?_
          refine go_bastore (q := 103) X12 hx hZ e12 V_br ⟨by decide, by decide⟩ 0 rfl (Nat.le_of_ble_eq_true rfl) N0 g_br (hb hby at_102) rfl (fun T13 h13 l13 X13 N13 e13 W13 V13 => ?_)
          replace hsz := Nat.le_trans hsz (Nat.le_of_eq W13.size.symm)
          replace V_br : Arv Z h13 br k_br .boolean (2 : Int32) [(.int (nar .boolean b0)), (.int (0 : Int32))] (.int (0 : Int32)) := V13
          rw [own_nar hb0] at V_br
          refine go_dup (q := 104) X13 hx (hb hby at_103) rfl rfl ?_
          refine go_iconst (q := 105) (v := (1 : Int32)) X13 hx (hb hby at_104) rfl rfl ?_
          refine go_iload (q := 107) X13 hx (hb hby at_105) rfl rfl ?_
          refine go_bastore (q := 108) X13 hx hZ e13 V_br ⟨by decide, by decide⟩ 1 rfl (Nat.le_of_ble_eq_true rfl) N13 g_br (hb hby at_107) rfl (fun T14 h14 l14 X14 N14 e14 W14 V14 => ?_)
          replace hsz := Nat.le_trans hsz (Nat.le_of_eq W14.size.symm)
          replace V_br : Arv Z h14 br k_br .boolean (2 : Int32) [(.int b0), (.int (nar .boolean b1))] (.int (0 : Int32)) := V14
          rw [own_nar hb1] at V_br
          refine go_astore (q := 110) (l' := #[.val (.int flags), .val (.int cu), .val (.int cn), .val (.int b0), .val (.int b1), .val (.int b2), .val (.int b3), .val (.int (2 : Int32)), .val (.ref br), .unset, .unset, .unset, .unset, .unset, .unset, .unset]) X14 hx (hb hby at_108) rfl rfl rfl ?_
          refine go_goto (q := 165) X14 hx (hb hby at_110) (by decide) rfl ?_
          refine go_iloadN (q := 166) X14 hx (hb hby at_165) rfl rfl ?_
          refine go_ldcI (q := 168) (v := (2147483647 : Int32)) X14 hx hZ hown (hw _ (List.mem_of_getElem? (i := 1) rfl)) (hb hby at_166) rfl ?_
          refine go_iand (q := 169) (v := (cu &&& (2147483647 : Int32))) X14 hx (hb hby at_168) rfl rfl ?_
          refine go_istore (q := 171) (l' := #[.val (.int flags), .val (.int cu), .val (.int cn), .val (.int b0), .val (.int b1), .val (.int b2), .val (.int b3), .val (.int (2 : Int32)), .val (.ref br), .val (.int (cu &&& (2147483647 : Int32))), .unset, .unset, .unset, .unset, .unset, .unset]) X14 hx (hb hby at_169) rfl rfl ?_
          refine go_iload (q := 173) X14 hx (hb hby at_171) rfl rfl ?_
          suffices Jcut : ∀ cut : Int32, ¬ cut < 1 → Go p e below s (fun v h L => v = some (.int (1 : Int32)) ∧ Fr h0.size L) room_1.cells room_1.slots T14 (mkF m 179 #[.val (.int flags), .val (.int cu), .val (.int cn), .val (.int b0), .val (.int b1), .val (.int b2), .val (.int b3), .val (.int (2 : Int32)), .val (.ref br), .val (.int cut), .unset, .unset, .unset, .unset, .unset, .unset] []) by
            refine go_if_ne (q := 176) (q' := 179) X14 hx (hb hby at_173) rfl (by decide) rfl (fun hc173 => ?_) (fun hc173 => ?_)
            · exact Jcut _ (own_ge1 _ hc173)
            · refine go_iconst (q := 177) (v := (1 : Int32)) X14 hx (hb hby at_176) rfl rfl ?_
              refine go_istore (q := 179) (l' := #[.val (.int flags), .val (.int cu), .val (.int cn), .val (.int b0), .val (.int b1), .val (.int b2), .val (.int b3), .val (.int (2 : Int32)), .val (.ref br), .val (.int (1 : Int32)), .unset, .unset, .unset, .unset, .unset, .unset]) X14 hx (hb hby at_177) rfl rfl ?_
              exact Jcut _ (by decide)
          intro cut hcut
          refine go_iloadN (q := 180) X14 hx (hb hby at_179) rfl rfl ?_
          refine go_ldcI (q := 182) (v := (2147483647 : Int32)) X14 hx hZ hown (hw _ (List.mem_of_getElem? (i := 1) rfl)) (hb hby at_180) rfl ?_
          refine go_iand (q := 183) (v := (cn &&& (2147483647 : Int32))) X14 hx (hb hby at_182) rfl rfl ?_
          refine go_istore (q := 185) (l' := #[.val (.int flags), .val (.int cu), .val (.int cn), .val (.int b0), .val (.int b1), .val (.int b2), .val (.int b3), .val (.int (2 : Int32)), .val (.ref br), .val (.int cut), .val (.int (cn &&& (2147483647 : Int32))), .unset, .unset, .unset, .unset, .unset]) X14 hx (hb hby at_183) rfl rfl ?_
          refine go_iload (q := 187) X14 hx (hb hby at_185) rfl rfl ?_
          suffices Jrc : ∀ rc : Int32, ¬ rc < 1 → Go p e below s (fun v h L => v = some (.int (1 : Int32)) ∧ Fr h0.size L) room_1.cells room_1.slots T14 (mkF m 193 #[.val (.int flags), .val (.int cu), .val (.int cn), .val (.int b0), .val (.int b1), .val (.int b2), .val (.int b3), .val (.int (2 : Int32)), .val (.ref br), .val (.int cut), .val (.int rc), .unset, .unset, .unset, .unset, .unset] []) by
            refine go_if_ne (q := 190) (q' := 193) X14 hx (hb hby at_187) rfl (by decide) rfl (fun hc187 => ?_) (fun hc187 => ?_)
            · exact Jrc _ (own_ge1 _ hc187)
            · refine go_iconst (q := 191) (v := (1 : Int32)) X14 hx (hb hby at_190) rfl rfl ?_
              refine go_istore (q := 193) (l' := #[.val (.int flags), .val (.int cu), .val (.int cn), .val (.int b0), .val (.int b1), .val (.int b2), .val (.int b3), .val (.int (2 : Int32)), .val (.ref br), .val (.int cut), .val (.int (1 : Int32)), .unset, .unset, .unset, .unset, .unset]) X14 hx (hb hby at_191) rfl rfl ?_
              exact Jrc _ (by decide)
          intro rc hrc
          refine go_newO (q := 196) X14 hx hZ hown (hw _ (List.mem_of_getElem? (i := 2) rfl)) (hw _ (List.mem_of_getElem? (i := 3) rfl)) (hw _ (List.mem_of_getElem? (i := 4) rfl)) e14 (hb hby at_193) rfl (by decide) (by decide) (fun T15 h15 bo eb15 X15 e15 E15 A15 D15 => ?_)
          have g_bo : h0.size ≤ bo := Nat.le_trans hsz (Nat.le_of_eq eb15.symm)
          have ne_br_bo : br ≠ bo := Nat.ne_of_lt (Nat.lt_of_lt_of_eq V_br.lt eb15.symm)
          replace V_br := V_br.ext E15
          replace hsz := Nat.le_trans hsz E15.1
          have E_bo := A15
          have F_relevant_bo : Fld Z h15 bo "com/example/forager/forager/eval/Ranking" "relevant" "[Z" .null := D15 (Or.inr (hw _ (List.mem_of_getElem? (i := 12) rfl))) (ty := (.array .boolean)) (by decide)
          have F_relevantCount_bo : Fld Z h15 bo "com/example/forager/forager/eval/Ranking" "relevantCount" "I" (.int (0 : Int32)) := D15 (Or.inr (hw _ (List.mem_of_getElem? (i := 14) rfl))) (ty := .int) (by decide)
          refine go_dup (q := 197) X15 hx (hb hby at_196) rfl rfl ?_
          refine go_aload (q := 199) X15 hx (hb hby at_197) rfl rfl rfl ?_
          refine go_iload (q := 201) X15 hx (hb hby at_199) rfl rfl ?_
          refine go_callI (q := 204) (W := 1) X15 hx hZ hown e15 rfl (hw _ (List.mem_of_getElem? (i := 5) rfl)) (hw _ (List.mem_of_getElem? (i := 6) rfl)) (hw _ (List.mem_of_getElem? (i := 4) rfl)) (hw _ (List.mem_of_getElem? (i := 7) rfl)) (by decide) bo [(.ref br), (.int rc)] [(.ref bo)] (rm1 l Z a0 hw [] bo br rc h0.size _ _ h15 hsz g_bo E_bo F_relevant_bo F_relevantCount_bo hrc) (by rw [hml]; rfl) rfl (lenOf pd_1 rfl) (Nat.le_of_eq rfl) (by decide) (by decide) (hb hby at_201) rfl (by decide) (by decide) ?_
          rintro T16 L16 v16 X16 ⟨Nq16, rfl, K16, Fr_, Fc_⟩
          have N16 := Fr.app N14 Nq16
          replace V_br := V_br.keep K16 (ninS ne_br_bo nin0)
          replace E_bo := E_bo.keep K16
          replace hsz := Nat.le_trans hsz K16.1
          show Go p e below s (fun v h L => v = some (.int (1 : Int32)) ∧ Fr h0.size L) room_1.cells room_1.slots T16 (mkF m 204 #[.val (.int flags), .val (.int cu), .val (.int cn), .val (.int b0), .val (.int b1), .val (.int b2), .val (.int b3), .val (.int (2 : Int32)), .val (.ref br), .val (.int cut), .val (.int rc), .unset, .unset, .unset, .unset, .unset] [(.ref bo)])
          refine go_astore (q := 206) (l' := #[.val (.int flags), .val (.int cu), .val (.int cn), .val (.int b0), .val (.int b1), .val (.int b2), .val (.int b3), .val (.int (2 : Int32)), .val (.ref br), .val (.int cut), .val (.int rc), .val (.ref bo), .unset, .unset, .unset, .unset]) X16 hx (hb hby at_204) rfl rfl rfl ?_
          refine go_iload (q := 208) X16 hx (hb hby at_206) rfl rfl ?_
          refine go_iload (q := 210) X16 hx (hb hby at_208) rfl rfl ?_
          refine go_callS (q := 213) (W := 0) X16 hx hZ hown rfl (hw _ (List.mem_of_getElem? (i := 15) rfl)) (hw _ (List.mem_of_getElem? (i := 16) rfl)) (hw _ (List.mem_of_getElem? (i := 17) rfl)) (hw _ (List.mem_of_getElem? (i := 18) rfl)) (by decide) [(.int cut), (.int (2 : Int32))] [] (rm3 l Z a0 hw [] cut (2 : Int32) T16.heap) (by rw [hml]; rfl) rfl (lenOf pd_0 rfl) (Nat.le_of_eq rfl) (by decide) (by decide) (hb hby at_210) rfl (by decide) (by decide) ?_
          rintro T17 L17 v17 X17 ⟨Np17, rfl, e17⟩
          have N17 := Fr.app N16 (Np17 _)
          show Go p e below s (fun v h L => v = some (.int (1 : Int32)) ∧ Fr h0.size L) room_1.cells room_1.slots T17 (mkF m 213 #[.val (.int flags), .val (.int cu), .val (.int cn), .val (.int b0), .val (.int b1), .val (.int b2), .val (.int b3), .val (.int (2 : Int32)), .val (.ref br), .val (.int cut), .val (.int rc), .val (.ref bo), .unset, .unset, .unset, .unset] [(.int (if (2 : Int32) < cut then (2 : Int32) else cut))])
          suffices Hm_ : ∀ m_ : Int32, m_ = (if (2 : Int32) < cut then (2 : Int32) else cut) → Go p e below s (fun v h L => v = some (.int (1 : Int32)) ∧ Fr h0.size L) room_1.cells room_1.slots T17 (mkF m 213 #[.val (.int flags), .val (.int cu), .val (.int cn), .val (.int b0), .val (.int b1), .val (.int b2), .val (.int b3), .val (.int (2 : Int32)), .val (.ref br), .val (.int cut), .val (.int rc), .val (.ref bo), .unset, .unset, .unset, .unset] [(.int m_)]) from Hm_ _ rfl
          intro m_ em_
          refine go_istore (q := 215) (l' := #[.val (.int flags), .val (.int cu), .val (.int cn), .val (.int b0), .val (.int b1), .val (.int b2), .val (.int b3), .val (.int (2 : Int32)), .val (.ref br), .val (.int cut), .val (.int rc), .val (.ref bo), .val (.int m_), .unset, .unset, .unset]) X17 hx (hb hby at_213) rfl rfl ?_
          refine go_iconst (q := 216) (v := (0 : Int32)) X17 hx (hb hby at_215) rfl rfl ?_
          refine go_istore (q := 218) (l' := #[.val (.int flags), .val (.int cu), .val (.int cn), .val (.int b0), .val (.int b1), .val (.int b2), .val (.int b3), .val (.int (2 : Int32)), .val (.ref br), .val (.int cut), .val (.int rc), .val (.ref bo), .val (.int m_), .val (.int (0 : Int32)), .unset, .unset]) X17 hx (hb hby at_216) rfl rfl ?_
          refine go_iload (q := 220) X17 hx (hb hby at_218) rfl rfl ?_
          suffices JF0 : ∀ f1 : Int32, f1 = (0 : Int32) + (if (0 : Int32) < m_ then b0 else 0) → Go p e below s (fun v h L => v = some (.int (1 : Int32)) ∧ Fr h0.size L) room_1.cells room_1.slots T17 (mkF m 230 #[.val (.int flags), .val (.int cu), .val (.int cn), .val (.int b0), .val (.int b1), .val (.int b2), .val (.int b3), .val (.int (2 : Int32)), .val (.ref br), .val (.int cut), .val (.int rc), .val (.ref bo), .val (.int m_), .val (.int f1), .unset, .unset] []) by
            refine go_if_le (q := 223) (q' := 230) X17 hx (hb hby at_220) rfl (by decide) rfl (fun hm0 => ?_) (fun hm0 => ?_)
            · exact JF0 _ (by rw [if_neg hm0]; exact (Int32.add_zero _).symm)
            · refine go_iloadN (q := 224) X17 hx (hb hby at_223) rfl rfl ?_
              refine go_if_eq (q := 227) (q' := 230) X17 hx (hb hby at_224) rfl (by decide) rfl (fun hz0 => ?_) (fun hz0 => ?_)
              · exact JF0 _ (by rw [if_pos hm0, hz0]; exact (Int32.add_zero _).symm)
              · refine go_iinc (q := 230) (l' := #[.val (.int flags), .val (.int cu), .val (.int cn), .val (.int b0), .val (.int b1), .val (.int b2), .val (.int b3), .val (.int (2 : Int32)), .val (.ref br), .val (.int cut), .val (.int rc), .val (.ref bo), .val (.int m_), .val (.int (1 : Int32)), .unset, .unset]) X17 hx (hb hby at_227) rfl rfl rfl ?_
                exact JF0 _ (by rw [if_pos hm0, hb0.resolve_left hz0]; try rfl)
          intro f1 ef1
          refine go_iload (q := 232) X17 hx (hb hby at_230) rfl rfl ?_
          refine go_iconst (q := 233) (v := (1 : Int32)) X17 hx (hb hby at_232) rfl rfl ?_
          suffices JF1 : ∀ f2 : Int32, f2 = f1 + (if (1 : Int32) < m_ then b1 else 0) → Go p e below s (fun v h L => v = some (.int (1 : Int32)) ∧ Fr h0.size L) room_1.cells room_1.slots T17 (mkF m 244 #[.val (.int flags), .val (.int cu), .val (.int cn), .val (.int b0), .val (.int b1), .val (.int b2), .val (.int b3), .val (.int (2 : Int32)), .val (.ref br), .val (.int cut), .val (.int rc), .val (.ref bo), .val (.int m_), .val (.int f2), .unset, .unset] []) by
            refine go_icmp_le (q := 236) (q' := 244) X17 hx (hb hby at_233) rfl (by decide) rfl (fun hm1 => ?_) (fun hm1 => ?_)
            · exact JF1 _ (by rw [if_neg hm1]; exact (Int32.add_zero _).symm)
            · refine go_iload (q := 238) X17 hx (hb hby at_236) rfl rfl ?_
              refine go_if_eq (q := 241) (q' := 244) X17 hx (hb hby at_238) rfl (by decide) rfl (fun hz1 => ?_) (fun hz1 => ?_)
              · exact JF1 _ (by rw [if_pos hm1, hz1]; exact (Int32.add_zero _).symm)
              · refine go_iinc (q := 244) (l' := #[.val (.int flags), .val (.int cu), .val (.int cn), .val (.int b0), .val (.int b1), .val (.int b2), .val (.int b3), .val (.int (2 : Int32)), .val (.ref br), .val (.int cut), .val (.int rc), .val (.ref bo), .val (.int m_), .val (.int (f1 + (1 : Int32))), .unset, .unset]) X17 hx (hb hby at_241) rfl rfl rfl ?_
                exact JF1 _ (by rw [if_pos hm1, hb1.resolve_left hz1]; try rfl)
          intro f2 ef2
          refine go_iload (q := 246) X17 hx (hb hby at_244) rfl rfl ?_
          refine go_iconst (q := 247) (v := (2 : Int32)) X17 hx (hb hby at_246) rfl rfl ?_
          suffices JF2 : ∀ f3 : Int32, f3 = f2 + (if (2 : Int32) < m_ then b2 else 0) → Go p e below s (fun v h L => v = some (.int (1 : Int32)) ∧ Fr h0.size L) room_1.cells room_1.slots T17 (mkF m 258 #[.val (.int flags), .val (.int cu), .val (.int cn), .val (.int b0), .val (.int b1), .val (.int b2), .val (.int b3), .val (.int (2 : Int32)), .val (.ref br), .val (.int cut), .val (.int rc), .val (.ref bo), .val (.int m_), .val (.int f3), .unset, .unset] []) by
            refine go_icmp_le (q := 250) (q' := 258) X17 hx (hb hby at_247) rfl (by decide) rfl (fun hm2 => ?_) (fun hm2 => ?_)
            · exact JF2 _ (by rw [if_neg hm2]; exact (Int32.add_zero _).symm)
            · refine go_iload (q := 252) X17 hx (hb hby at_250) rfl rfl ?_
              refine go_if_eq (q := 255) (q' := 258) X17 hx (hb hby at_252) rfl (by decide) rfl (fun hz2 => ?_) (fun hz2 => ?_)
              · exact JF2 _ (by rw [if_pos hm2, hz2]; exact (Int32.add_zero _).symm)
              · refine go_iinc (q := 258) (l' := #[.val (.int flags), .val (.int cu), .val (.int cn), .val (.int b0), .val (.int b1), .val (.int b2), .val (.int b3), .val (.int (2 : Int32)), .val (.ref br), .val (.int cut), .val (.int rc), .val (.ref bo), .val (.int m_), .val (.int (f2 + (1 : Int32))), .unset, .unset]) X17 hx (hb hby at_255) rfl rfl rfl ?_
                exact JF2 _ (by rw [if_pos hm2, hb2.resolve_left hz2]; try rfl)
          intro f3 ef3
          refine go_iload (q := 260) X17 hx (hb hby at_258) rfl rfl ?_
          refine go_iconst (q := 261) (v := (3 : Int32)) X17 hx (hb hby at_260) rfl rfl ?_
          suffices JF3 : ∀ f4 : Int32, f4 = f3 + (if (3 : Int32) < m_ then b3 else 0) → Go p e below s (fun v h L => v = some (.int (1 : Int32)) ∧ Fr h0.size L) room_1.cells room_1.slots T17 (mkF m 272 #[.val (.int flags), .val (.int cu), .val (.int cn), .val (.int b0), .val (.int b1), .val (.int b2), .val (.int b3), .val (.int (2 : Int32)), .val (.ref br), .val (.int cut), .val (.int rc), .val (.ref bo), .val (.int m_), .val (.int f4), .unset, .unset] []) by
            refine go_icmp_le (q := 264) (q' := 272) X17 hx (hb hby at_261) rfl (by decide) rfl (fun hm3 => ?_) (fun hm3 => ?_)
            · exact JF3 _ (by rw [if_neg hm3]; exact (Int32.add_zero _).symm)
            · refine go_iload (q := 266) X17 hx (hb hby at_264) rfl rfl ?_
              refine go_if_eq (q := 269) (q' := 272) X17 hx (hb hby at_266) rfl (by decide) rfl (fun hz3 => ?_) (fun hz3 => ?_)
              · exact JF3 _ (by rw [if_pos hm3, hz3]; exact (Int32.add_zero _).symm)
              · refine go_iinc (q := 272) (l' := #[.val (.int flags), .val (.int cu), .val (.int cn), .val (.int b0), .val (.int b1), .val (.int b2), .val (.int b3), .val (.int (2 : Int32)), .val (.ref br), .val (.int cut), .val (.int rc), .val (.ref bo), .val (.int m_), .val (.int (f3 + (1 : Int32))), .unset, .unset]) X17 hx (hb hby at_269) rfl rfl rfl ?_
                exact JF3 _ (by rw [if_pos hm3, hb3.resolve_left hz3]; try rfl)
          intro f4 ef4
          refine go_iload (q := 274) X17 hx (hb hby at_272) rfl rfl ?_
          refine go_i2d (q := 275) X17 hx (hb hby at_274) rfl rfl ?_
          refine go_iload (q := 277) X17 hx (hb hby at_275) rfl rfl ?_
          refine go_i2d (q := 278) X17 hx (hb hby at_277) rfl rfl ?_
          refine go_ddiv (q := 279) X17 hx (hb hby at_278) rfl (own_dn hcut _) rfl ?_
          refine go_dstore (q := 281) (l' := #[.val (.int flags), .val (.int cu), .val (.int cn), .val (.int b0), .val (.int b1), .val (.int b2), .val (.int b3), .val (.int (2 : Int32)), .val (.ref br), .val (.int cut), .val (.int rc), .val (.ref bo), .val (.int m_), .val (.int f4), .val (.double (FP.ddiv (FP.i2d f4) (FP.i2d cut))), .second]) X17 hx (hb hby at_279) rfl rfl ?_
          refine go_aload (q := 283) X17 hx (hb hby at_281) rfl rfl rfl ?_
          refine go_iload (q := 285) X17 hx (hb hby at_283) rfl rfl ?_
          refine go_callV (q := 288) (W := 0) X17 hx hZ hown e17 (hw _ (List.mem_of_getElem? (i := 19) rfl)) (hw _ (List.mem_of_getElem? (i := 20) rfl)) (notFace_of_selects (args := #[]) (mvT hZ (hw _ (List.mem_of_getElem? (i := 22) rfl)))) (hw _ (List.mem_of_getElem? (i := 22) rfl)) (hw _ (List.mem_of_getElem? (i := 21) rfl)) (hw _ (List.mem_of_getElem? (i := 4) rfl)) (hw _ (List.mem_of_getElem? (i := 23) rfl)) (by decide) bo [(.int cut)] [] E_bo (rm4_2 l Z a0 hw [] bo cut h0.size br k_br _ b0 b1 b2 b3 T16.heap Fr_ V_br hcut hb0 hb1) (by rw [hml]; rfl) rfl (lenOf pd_2 rfl) (Nat.le_of_eq rfl) (by decide) (by decide) (hb hby at_285) rfl (by decide) (by decide) ?_
          rintro T18 L18 v18 X18 ⟨Nq18, rfl, e18⟩
          have N18 := Fr.app N17 Nq18
          show Go p e below s (fun v h L => v = some (.int (1 : Int32)) ∧ Fr h0.size L) room_1.cells room_1.slots T18 (mkF m 288 #[.val (.int flags), .val (.int cu), .val (.int cn), .val (.int b0), .val (.int b1), .val (.int b2), .val (.int b3), .val (.int (2 : Int32)), .val (.ref br), .val (.int cut), .val (.int rc), .val (.ref bo), .val (.int m_), .val (.int f4), .val (.double (FP.ddiv (FP.i2d f4) (FP.i2d cut))), .second] [(.double (FP.ddiv (FP.i2d (cnt4 (if (2 : Int32) < cut then (2 : Int32) else cut) b0 b1 b2 b3)) (FP.i2d cut)))])
          suffices Hgot : ∀ got : UInt64, got = (FP.ddiv (FP.i2d (cnt4 (if (2 : Int32) < cut then (2 : Int32) else cut) b0 b1 b2 b3)) (FP.i2d cut)) → Go p e below s (fun v h L => v = some (.int (1 : Int32)) ∧ Fr h0.size L) room_1.cells room_1.slots T18 (mkF m 288 #[.val (.int flags), .val (.int cu), .val (.int cn), .val (.int b0), .val (.int b1), .val (.int b2), .val (.int b3), .val (.int (2 : Int32)), .val (.ref br), .val (.int cut), .val (.int rc), .val (.ref bo), .val (.int m_), .val (.int f4), .val (.double (FP.ddiv (FP.i2d f4) (FP.i2d cut))), .second] [(.double got)]) from Hgot _ rfl
          intro got egot
          have hgot : got = FP.ddiv (FP.i2d f4) (FP.i2d cut) := by rw [egot, ← em_, ef4, ef3, ef2, ef1]; rfl
          refine go_dload (q := 290) X18 hx (hb hby at_288) rfl rfl ?_
          refine go_dcmp (q := 291) X18 hx (hb hby at_290) rfl rfl ?_
          refine go_if_ne (q := 294) (q' := 298) X18 hx (hb hby at_291) rfl (by decide) rfl (fun hc291 => ?_) (fun hc291 => ?_)
          · exact absurd (dcmpV_eq hgot (hgot ▸ own_dn hcut _) _) hc291
          · refine go_iconst (q := 295) (v := (1 : Int32)) X18 hx (hb hby at_294) rfl rfl ?_
            refine go_goto (q := 299) X18 hx (hb hby at_295) (by decide) rfl ?_
            exact go_retN X18 hx (by simp) hret hlk (hb hby at_299) (by decide) (by decide) ⟨rfl, N18⟩
      · exact absurd hc75 (by decide)
    · exact absurd hc61 (by decide)
  · refine go_iload (q := 61) X0 hx (hb hby at_59) rfl rfl ?_
    refine go_if_ne (q := 64) (q' := 72) X0 hx (hb hby at_61) rfl (by decide) rfl (fun hc61 => ?_) (fun hc61 => ?_)
    · refine go_iload (q := 74) X0 hx (hb hby at_72) rfl rfl ?_
      refine go_iconst (q := 75) (v := (1 : Int32)) X0 hx (hb hby at_74) rfl rfl ?_
      refine go_icmp_ne (q := 78) (q' := 90) X0 hx (hb hby at_75) rfl (by decide) rfl (fun hc75 => ?_) (fun hc75 => ?_)
      · refine go_iload (q := 92) X0 hx (hb hby at_90) rfl rfl ?_
        refine go_iconst (q := 93) (v := (2 : Int32)) X0 hx (hb hby at_92) rfl rfl ?_
        refine go_icmp_ne (q := 96) (q' := 113) X0 hx (hb hby at_93) rfl (by decide) rfl (fun hc93 => ?_) (fun hc93 => ?_)
        · refine go_iload (q := 115) X0 hx (hb hby at_113) rfl rfl ?_
          refine go_iconst (q := 116) (v := (3 : Int32)) X0 hx (hb hby at_115) rfl rfl ?_
          refine go_icmp_ne (q := 119) (q' := 141) X0 hx (hb hby at_116) rfl (by decide) rfl (fun hc116 => ?_) (fun hc116 => ?_)
          · exact absurd rfl hc116
          · refine go_iconst (q := 120) (v := (3 : Int32)) X0 hx (hb hby at_119) rfl rfl ?_
            refine go_newP (q := 122) X0 hx hZ (hw _ (List.mem_of_getElem? (i := 0) rfl)) e0 (hb hby at_120) rfl (by decide) 3 (by decide) (by decide) (by decide) (by decide) (fun T19 h19 k_br br eb19 X19 e19 E19 V_br => ?_)
            have g_br : h0.size ≤ br := Nat.le_trans hsz (Nat.le_of_eq eb19.symm)
            replace hsz := Nat.le_trans hsz E19.1
            replace V_br : Arv Z h19 br k_br .boolean (3 : Int32) [(.int (0 : Int32)), (.int (0 : Int32)), (.int (0 : Int32))] (.int (0 : Int32)) := V_br.pad (pad_rep [] (.int (0 : Int32)) 3)
            refine go_dup (q := 123) X19 hx (hb hby at_122) rfl rfl ?_
            refine go_iconst (q := 124) (v := (0 : Int32)) X19 hx (hb hby at_123) rfl rfl ?_
            refine go_iloadN (q := 125) X19 hx (hb hby at_124) rfl rfl ?_
            refine go_bastore (q := 126) X19 hx hZ e19 V_br ⟨by decide, by decide⟩ 0 rfl (Nat.le_of_ble_eq_true rfl) N0 g_br (hb hby at_125) rfl (fun T20 h20 l20 X20 N20 e20 W20 V20 => ?_)
            replace hsz := Nat.le_trans hsz (Nat.le_of_eq W20.size.symm)
            replace V_br : Arv Z h20 br k_br .boolean (3 : Int32) [(.int (nar .boolean b0)), (.int (0 : Int32)), (.int (0 : Int32))] (.int (0 : Int32)) := V20
            rw [own_nar hb0] at V_br
            refine go_dup (q := 127) X20 hx (hb hby at_126) rfl rfl ?_
            refine go_iconst (q := 128) (v := (1 : Int32)) X20 hx (hb hby at_127) rfl rfl ?_
            refine go_iload (q := 130) X20 hx (hb hby at_128) rfl rfl ?_
            refine go_bastore (q := 131) X20 hx hZ e20 V_br ⟨by decide, by decide⟩ 1 rfl (Nat.le_of_ble_eq_true rfl) N20 g_br (hb hby at_130) rfl (fun T21 h21 l21 X21 N21 e21 W21 V21 => ?_)
            replace hsz := Nat.le_trans hsz (Nat.le_of_eq W21.size.symm)
            replace V_br : Arv Z h21 br k_br .boolean (3 : Int32) [(.int b0), (.int (nar .boolean b1)), (.int (0 : Int32))] (.int (0 : Int32)) := V21
            rw [own_nar hb1] at V_br
            refine go_dup (q := 132) X21 hx (hb hby at_131) rfl rfl ?_
            refine go_iconst (q := 133) (v := (2 : Int32)) X21 hx (hb hby at_132) rfl rfl ?_
            refine go_iload (q := 135) X21 hx (hb hby at_133) rfl rfl ?_
            refine go_bastore (q := 136) X21 hx hZ e21 V_br ⟨by decide, by decide⟩ 2 rfl (Nat.le_of_ble_eq_true rfl) N21 g_br (hb hby at_135) rfl (fun T22 h22 l22 X22 N22 e22 W22 V22 => ?_)
            replace hsz := Nat.le_trans hsz (Nat.le_of_eq W22.size.symm)
            replace V_br : Arv Z h22 br k_br .boolean (3 : Int32) [(.int b0), (.int b1), (.int (nar .boolean b2))] (.int (0 : Int32)) := V22
            rw [own_nar hb2] at V_br
            refine go_astore (q := 138) (l' := #[.val (.int flags), .val (.int cu), .val (.int cn), .val (.int b0), .val (.int b1), .val (.int b2), .val (.int b3), .val (.int (3 : Int32)), .val (.ref br), .unset, .unset, .unset, .unset, .unset, .unset, .unset]) X22 hx (hb hby at_136) rfl rfl rfl ?_
            refine go_goto (q := 165) X22 hx (hb hby at_138) (by decide) rfl ?_
            refine go_iloadN (q := 166) X22 hx (hb hby at_165) rfl rfl ?_
            refine go_ldcI (q := 168) (v := (2147483647 : Int32)) X22 hx hZ hown (hw _ (List.mem_of_getElem? (i := 1) rfl)) (hb hby at_166) rfl ?_
            refine go_iand (q := 169) (v := (cu &&& (2147483647 : Int32))) X22 hx (hb hby at_168) rfl rfl ?_
            refine go_istore (q := 171) (l' := #[.val (.int flags), .val (.int cu), .val (.int cn), .val (.int b0), .val (.int b1), .val (.int b2), .val (.int b3), .val (.int (3 : Int32)), .val (.ref br), .val (.int (cu &&& (2147483647 : Int32))), .unset, .unset, .unset, .unset, .unset, .unset]) X22 hx (hb hby at_169) rfl rfl ?_
            refine go_iload (q := 173) X22 hx (hb hby at_171) rfl rfl ?_
            suffices Jcut : ∀ cut : Int32, ¬ cut < 1 → Go p e below s (fun v h L => v = some (.int (1 : Int32)) ∧ Fr h0.size L) room_1.cells room_1.slots T22 (mkF m 179 #[.val (.int flags), .val (.int cu), .val (.int cn), .val (.int b0), .val (.int b1), .val (.int b2), .val (.int b3), .val (.int (3 : Int32)), .val (.ref br), .val (.int cut), .unset, .unset, .unset, .unset, .unset, .unset] []) by
              refine go_if_ne (q := 176) (q' := 179) X22 hx (hb hby at_173) rfl (by decide) rfl (fun hc173 => ?_) (fun hc173 => ?_)
              · exact Jcut _ (own_ge1 _ hc173)
              · refine go_iconst (q := 177) (v := (1 : Int32)) X22 hx (hb hby at_176) rfl rfl ?_
                refine go_istore (q := 179) (l' := #[.val (.int flags), .val (.int cu), .val (.int cn), .val (.int b0), .val (.int b1), .val (.int b2), .val (.int b3), .val (.int (3 : Int32)), .val (.ref br), .val (.int (1 : Int32)), .unset, .unset, .unset, .unset, .unset, .unset]) X22 hx (hb hby at_177) rfl rfl ?_
                exact Jcut _ (by decide)
            intro cut hcut
            refine go_iloadN (q := 180) X22 hx (hb hby at_179) rfl rfl ?_
            refine go_ldcI (q := 182) (v := (2147483647 : Int32)) X22 hx hZ hown (hw _ (List.mem_of_getElem? (i := 1) rfl)) (hb hby at_180) rfl ?_
            refine go_iand (q := 183) (v := (cn &&& (2147483647 : Int32))) X22 hx (hb hby at_182) rfl rfl ?_
            refine go_istore (q := 185) (l' := #[.val (.int flags), .val (.int cu), .val (.int cn), .val (.int b0), .val (.int b1), .val (.int b2), .val (.int b3), .val (.int (3 : Int32)), .val (.ref br), .val (.int cut), .val (.int (cn &&& (2147483647 : Int32))), .unset, .unset, .unset, .unset, .unset]) X22 hx (hb hby at_183) rfl rfl ?_
            refine go_iload (q := 187) X22 hx (hb hby at_185) rfl rfl ?_
            suffices Jrc : ∀ rc : Int32, ¬ rc < 1 → Go p e below s (fun v h L => v = some (.int (1 : Int32)) ∧ Fr h0.size L) room_1.cells room_1.slots T22 (mkF m 193 #[.val (.int flags), .val (.int cu), .val (.int cn), .val (.int b0), .val (.int b1), .val (.int b2), .val (.int b3), .val (.int (3 : Int32)), .val (.ref br), .val (.int cut), .val (.int rc), .unset, .unset, .unset, .unset, .unset] []) by
              refine go_if_ne (q := 190) (q' := 193) X22 hx (hb hby at_187) rfl (by decide) rfl (fun hc187 => ?_) (fun hc187 => ?_)
              · exact Jrc _ (own_ge1 _ hc187)
              · refine go_iconst (q := 191) (v := (1 : Int32)) X22 hx (hb hby at_190) rfl rfl ?_
                refine go_istore (q := 193) (l' := #[.val (.int flags), .val (.int cu), .val (.int cn), .val (.int b0), .val (.int b1), .val (.int b2), .val (.int b3), .val (.int (3 : Int32)), .val (.ref br), .val (.int cut), .val (.int (1 : Int32)), .unset, .unset, .unset, .unset, .unset]) X22 hx (hb hby at_191) rfl rfl ?_
                exact Jrc _ (by decide)
            intro rc hrc
            refine go_newO (q := 196) X22 hx hZ hown (hw _ (List.mem_of_getElem? (i := 2) rfl)) (hw _ (List.mem_of_getElem? (i := 3) rfl)) (hw _ (List.mem_of_getElem? (i := 4) rfl)) e22 (hb hby at_193) rfl (by decide) (by decide) (fun T23 h23 bo eb23 X23 e23 E23 A23 D23 => ?_)
            have g_bo : h0.size ≤ bo := Nat.le_trans hsz (Nat.le_of_eq eb23.symm)
            have ne_br_bo : br ≠ bo := Nat.ne_of_lt (Nat.lt_of_lt_of_eq V_br.lt eb23.symm)
            replace V_br := V_br.ext E23
            replace hsz := Nat.le_trans hsz E23.1
            have E_bo := A23
            have F_relevant_bo : Fld Z h23 bo "com/example/forager/forager/eval/Ranking" "relevant" "[Z" .null := D23 (Or.inr (hw _ (List.mem_of_getElem? (i := 12) rfl))) (ty := (.array .boolean)) (by decide)
            have F_relevantCount_bo : Fld Z h23 bo "com/example/forager/forager/eval/Ranking" "relevantCount" "I" (.int (0 : Int32)) := D23 (Or.inr (hw _ (List.mem_of_getElem? (i := 14) rfl))) (ty := .int) (by decide)
            refine go_dup (q := 197) X23 hx (hb hby at_196) rfl rfl ?_
            refine go_aload (q := 199) X23 hx (hb hby at_197) rfl rfl rfl ?_
            refine go_iload (q := 201) X23 hx (hb hby at_199) rfl rfl ?_
            refine go_callI (q := 204) (W := 1) X23 hx hZ hown e23 rfl (hw _ (List.mem_of_getElem? (i := 5) rfl)) (hw _ (List.mem_of_getElem? (i := 6) rfl)) (hw _ (List.mem_of_getElem? (i := 4) rfl)) (hw _ (List.mem_of_getElem? (i := 7) rfl)) (by decide) bo [(.ref br), (.int rc)] [(.ref bo)] (rm1 l Z a0 hw [] bo br rc h0.size _ _ h23 hsz g_bo E_bo F_relevant_bo F_relevantCount_bo hrc) (by rw [hml]; rfl) rfl (lenOf pd_1 rfl) (Nat.le_of_eq rfl) (by decide) (by decide) (hb hby at_201) rfl (by decide) (by decide) ?_
            rintro T24 L24 v24 X24 ⟨Nq24, rfl, K24, Fr_, Fc_⟩
            have N24 := Fr.app N22 Nq24
            replace V_br := V_br.keep K24 (ninS ne_br_bo nin0)
            replace E_bo := E_bo.keep K24
            replace hsz := Nat.le_trans hsz K24.1
            show Go p e below s (fun v h L => v = some (.int (1 : Int32)) ∧ Fr h0.size L) room_1.cells room_1.slots T24 (mkF m 204 #[.val (.int flags), .val (.int cu), .val (.int cn), .val (.int b0), .val (.int b1), .val (.int b2), .val (.int b3), .val (.int (3 : Int32)), .val (.ref br), .val (.int cut), .val (.int rc), .unset, .unset, .unset, .unset, .unset] [(.ref bo)])
            refine go_astore (q := 206) (l' := #[.val (.int flags), .val (.int cu), .val (.int cn), .val (.int b0), .val (.int b1), .val (.int b2), .val (.int b3), .val (.int (3 : Int32)), .val (.ref br), .val (.int cut), .val (.int rc), .val (.ref bo), .unset, .unset, .unset, .unset]) X24 hx (hb hby at_204) rfl rfl rfl ?_
            refine go_iload (q := 208) X24 hx (hb hby at_206) rfl rfl ?_
            refine go_iload (q := 210) X24 hx (hb hby at_208) rfl rfl ?_
            refine go_callS (q := 213) (W := 0) X24 hx hZ hown rfl (hw _ (List.mem_of_getElem? (i := 15) rfl)) (hw _ (List.mem_of_getElem? (i := 16) rfl)) (hw _ (List.mem_of_getElem? (i := 17) rfl)) (hw _ (List.mem_of_getElem? (i := 18) rfl)) (by decide) [(.int cut), (.int (3 : Int32))] [] (rm3 l Z a0 hw [] cut (3 : Int32) T24.heap) (by rw [hml]; rfl) rfl (lenOf pd_0 rfl) (Nat.le_of_eq rfl) (by decide) (by decide) (hb hby at_210) rfl (by decide) (by decide) ?_
            rintro T25 L25 v25 X25 ⟨Np25, rfl, e25⟩
            have N25 := Fr.app N24 (Np25 _)
            show Go p e below s (fun v h L => v = some (.int (1 : Int32)) ∧ Fr h0.size L) room_1.cells room_1.slots T25 (mkF m 213 #[.val (.int flags), .val (.int cu), .val (.int cn), .val (.int b0), .val (.int b1), .val (.int b2), .val (.int b3), .val (.int (3 : Int32)), .val (.ref br), .val (.int cut), .val (.int rc), .val (.ref bo), .unset, .unset, .unset, .unset] [(.int (if (3 : Int32) < cut then (3 : Int32) else cut))])
            suffices Hm_ : ∀ m_ : Int32, m_ = (if (3 : Int32) < cut then (3 : Int32) else cut) → Go p e below s (fun v h L => v = some (.int (1 : Int32)) ∧ Fr h0.size L) room_1.cells room_1.slots T25 (mkF m 213 #[.val (.int flags), .val (.int cu), .val (.int cn), .val (.int b0), .val (.int b1), .val (.int b2), .val (.int b3), .val (.int (3 : Int32)), .val (.ref br), .val (.int cut), .val (.int rc), .val (.ref bo), .unset, .unset, .unset, .unset] [(.int m_)]) from Hm_ _ rfl
            intro m_ em_
            refine go_istore (q := 215) (l' := #[.val (.int flags), .val (.int cu), .val (.int cn), .val (.int b0), .val (.int b1), .val (.int b2), .val (.int b3), .val (.int (3 : Int32)), .val (.ref br), .val (.int cut), .val (.int rc), .val (.ref bo), .val (.int m_), .unset, .unset, .unset]) X25 hx (hb hby at_213) rfl rfl ?_
            refine go_iconst (q := 216) (v := (0 : Int32)) X25 hx (hb hby at_215) rfl rfl ?_
            refine go_istore (q := 218) (l' := #[.val (.int flags), .val (.int cu), .val (.int cn), .val (.int b0), .val (.int b1), .val (.int b2), .val (.int b3), .val (.int (3 : Int32)), .val (.ref br), .val (.int cut), .val (.int rc), .val (.ref bo), .val (.int m_), .val (.int (0 : Int32)), .unset, .unset]) X25 hx (hb hby at_216) rfl rfl ?_
            refine go_iload (q := 220) X25 hx (hb hby at_218) rfl rfl ?_
            suffices JF0 : ∀ f1 : Int32, f1 = (0 : Int32) + (if (0 : Int32) < m_ then b0 else 0) → Go p e below s (fun v h L => v = some (.int (1 : Int32)) ∧ Fr h0.size L) room_1.cells room_1.slots T25 (mkF m 230 #[.val (.int flags), .val (.int cu), .val (.int cn), .val (.int b0), .val (.int b1), .val (.int b2), .val (.int b3), .val (.int (3 : Int32)), .val (.ref br), .val (.int cut), .val (.int rc), .val (.ref bo), .val (.int m_), .val (.int f1), .unset, .unset] []) by
              refine go_if_le (q := 223) (q' := 230) X25 hx (hb hby at_220) rfl (by decide) rfl (fun hm0 => ?_) (fun hm0 => ?_)
              · exact JF0 _ (by rw [if_neg hm0]; exact (Int32.add_zero _).symm)
              · refine go_iloadN (q := 224) X25 hx (hb hby at_223) rfl rfl ?_
                refine go_if_eq (q := 227) (q' := 230) X25 hx (hb hby at_224) rfl (by decide) rfl (fun hz0 => ?_) (fun hz0 => ?_)
                · exact JF0 _ (by rw [if_pos hm0, hz0]; exact (Int32.add_zero _).symm)
                · refine go_iinc (q := 230) (l' := #[.val (.int flags), .val (.int cu), .val (.int cn), .val (.int b0), .val (.int b1), .val (.int b2), .val (.int b3), .val (.int (3 : Int32)), .val (.ref br), .val (.int cut), .val (.int rc), .val (.ref bo), .val (.int m_), .val (.int (1 : Int32)), .unset, .unset]) X25 hx (hb hby at_227) rfl rfl rfl ?_
                  exact JF0 _ (by rw [if_pos hm0, hb0.resolve_left hz0]; try rfl)
            intro f1 ef1
            refine go_iload (q := 232) X25 hx (hb hby at_230) rfl rfl ?_
            refine go_iconst (q := 233) (v := (1 : Int32)) X25 hx (hb hby at_232) rfl rfl ?_
            suffices JF1 : ∀ f2 : Int32, f2 = f1 + (if (1 : Int32) < m_ then b1 else 0) → Go p e below s (fun v h L => v = some (.int (1 : Int32)) ∧ Fr h0.size L) room_1.cells room_1.slots T25 (mkF m 244 #[.val (.int flags), .val (.int cu), .val (.int cn), .val (.int b0), .val (.int b1), .val (.int b2), .val (.int b3), .val (.int (3 : Int32)), .val (.ref br), .val (.int cut), .val (.int rc), .val (.ref bo), .val (.int m_), .val (.int f2), .unset, .unset] []) by
              refine go_icmp_le (q := 236) (q' := 244) X25 hx (hb hby at_233) rfl (by decide) rfl (fun hm1 => ?_) (fun hm1 => ?_)
              · exact JF1 _ (by rw [if_neg hm1]; exact (Int32.add_zero _).symm)
              · refine go_iload (q := 238) X25 hx (hb hby at_236) rfl rfl ?_
                refine go_if_eq (q := 241) (q' := 244) X25 hx (hb hby at_238) rfl (by decide) rfl (fun hz1 => ?_) (fun hz1 => ?_)
                · exact JF1 _ (by rw [if_pos hm1, hz1]; exact (Int32.add_zero _).symm)
                · refine go_iinc (q := 244) (l' := #[.val (.int flags), .val (.int cu), .val (.int cn), .val (.int b0), .val (.int b1), .val (.int b2), .val (.int b3), .val (.int (3 : Int32)), .val (.ref br), .val (.int cut), .val (.int rc), .val (.ref bo), .val (.int m_), .val (.int (f1 + (1 : Int32))), .unset, .unset]) X25 hx (hb hby at_241) rfl rfl rfl ?_
                  exact JF1 _ (by rw [if_pos hm1, hb1.resolve_left hz1]; try rfl)
            intro f2 ef2
            refine go_iload (q := 246) X25 hx (hb hby at_244) rfl rfl ?_
            refine go_iconst (q := 247) (v := (2 : Int32)) X25 hx (hb hby at_246) rfl rfl ?_
            suffices JF2 : ∀ f3 : Int32, f3 = f2 + (if (2 : Int32) < m_ then b2 else 0) → Go p e below s (fun v h L => v = some (.int (1 : Int32)) ∧ Fr h0.size L) room_1.cells room_1.slots T25 (mkF m 258 #[.val (.int flags), .val (.int cu), .val (.int cn), .val (.int b0), .val (.int b1), .val (.int b2), .val (.int b3), .val (.int (3 : Int32)), .val (.ref br), .val (.int cut), .val (.int rc), .val (.ref bo), .val (.int m_), .val (.int f3), .unset, .unset] []) by
              refine go_icmp_le (q := 250) (q' := 258) X25 hx (hb hby at_247) rfl (by decide) rfl (fun hm2 => ?_) (fun hm2 => ?_)
              · exact JF2 _ (by rw [if_neg hm2]; exact (Int32.add_zero _).symm)
              · refine go_iload (q := 252) X25 hx (hb hby at_250) rfl rfl ?_
                refine go_if_eq (q := 255) (q' := 258) X25 hx (hb hby at_252) rfl (by decide) rfl (fun hz2 => ?_) (fun hz2 => ?_)
                · exact JF2 _ (by rw [if_pos hm2, hz2]; exact (Int32.add_zero _).symm)
                · refine go_iinc (q := 258) (l' := #[.val (.int flags), .val (.int cu), .val (.int cn), .val (.int b0), .val (.int b1), .val (.int b2), .val (.int b3), .val (.int (3 : Int32)), .val (.ref br), .val (.int cut), .val (.int rc), .val (.ref bo), .val (.int m_), .val (.int (f2 + (1 : Int32))), .unset, .unset]) X25 hx (hb hby at_255) rfl rfl rfl ?_
                  exact JF2 _ (by rw [if_pos hm2, hb2.resolve_left hz2]; try rfl)
            intro f3 ef3
            refine go_iload (q := 260) X25 hx (hb hby at_258) rfl rfl ?_
            refine go_iconst (q := 261) (v := (3 : Int32)) X25 hx (hb hby at_260) rfl rfl ?_
            suffices JF3 : ∀ f4 : Int32, f4 = f3 + (if (3 : Int32) < m_ then b3 else 0) → Go p e below s (fun v h L => v = some (.int (1 : Int32)) ∧ Fr h0.size L) room_1.cells room_1.slots T25 (mkF m 272 #[.val (.int flags), .val (.int cu), .val (.int cn), .val (.int b0), .val (.int b1), .val (.int b2), .val (.int b3), .val (.int (3 : Int32)), .val (.ref br), .val (.int cut), .val (.int rc), .val (.ref bo), .val (.int m_), .val (.int f4), .unset, .unset] []) by
              refine go_icmp_le (q := 264) (q' := 272) X25 hx (hb hby at_261) rfl (by decide) rfl (fun hm3 => ?_) (fun hm3 => ?_)
              · exact JF3 _ (by rw [if_neg hm3]; exact (Int32.add_zero _).symm)
              · refine go_iload (q := 266) X25 hx (hb hby at_264) rfl rfl ?_
                refine go_if_eq (q := 269) (q' := 272) X25 hx (hb hby at_266) rfl (by decide) rfl (fun hz3 => ?_) (fun hz3 => ?_)
                · exact JF3 _ (by rw [if_pos hm3, hz3]; exact (Int32.add_zero _).symm)
                · refine go_iinc (q := 272) (l' := #[.val (.int flags), .val (.int cu), .val (.int cn), .val (.int b0), .val (.int b1), .val (.int b2), .val (.int b3), .val (.int (3 : Int32)), .val (.ref br), .val (.int cut), .val (.int rc), .val (.ref bo), .val (.int m_), .val (.int (f3 + (1 : Int32))), .unset, .unset]) X25 hx (hb hby at_269) rfl rfl rfl ?_
                  exact JF3 _ (by rw [if_pos hm3, hb3.resolve_left hz3]; try rfl)
            intro f4 ef4
            refine go_iload (q := 274) X25 hx (hb hby at_272) rfl rfl ?_
            refine go_i2d (q := 275) X25 hx (hb hby at_274) rfl rfl ?_
            refine go_iload (q := 277) X25 hx (hb hby at_275) rfl rfl ?_
            refine go_i2d (q := 278) X25 hx (hb hby at_277) rfl rfl ?_
            refine go_ddiv (q := 279) X25 hx (hb hby at_278) rfl (own_dn hcut _) rfl ?_
            refine go_dstore (q := 281) (l' := #[.val (.int flags), .val (.int cu), .val (.int cn), .val (.int b0), .val (.int b1), .val (.int b2), .val (.int b3), .val (.int (3 : Int32)), .val (.ref br), .val (.int cut), .val (.int rc), .val (.ref bo), .val (.int m_), .val (.int f4), .val (.double (FP.ddiv (FP.i2d f4) (FP.i2d cut))), .second]) X25 hx (hb hby at_279) rfl rfl ?_
            refine go_aload (q := 283) X25 hx (hb hby at_281) rfl rfl rfl ?_
            refine go_iload (q := 285) X25 hx (hb hby at_283) rfl rfl ?_
            refine go_callV (q := 288) (W := 0) X25 hx hZ hown e25 (hw _ (List.mem_of_getElem? (i := 19) rfl)) (hw _ (List.mem_of_getElem? (i := 20) rfl)) (notFace_of_selects (args := #[]) (mvT hZ (hw _ (List.mem_of_getElem? (i := 22) rfl)))) (hw _ (List.mem_of_getElem? (i := 22) rfl)) (hw _ (List.mem_of_getElem? (i := 21) rfl)) (hw _ (List.mem_of_getElem? (i := 4) rfl)) (hw _ (List.mem_of_getElem? (i := 23) rfl)) (by decide) bo [(.int cut)] [] E_bo (rm4_3 l Z a0 hw [] bo cut h0.size br k_br _ b0 b1 b2 b3 T24.heap Fr_ V_br hcut hb0 hb1 hb2) (by rw [hml]; rfl) rfl (lenOf pd_2 rfl) (Nat.le_of_eq rfl) (by decide) (by decide) (hb hby at_285) rfl (by decide) (by decide) ?_
            rintro T26 L26 v26 X26 ⟨Nq26, rfl, e26⟩
            have N26 := Fr.app N25 Nq26
            show Go p e below s (fun v h L => v = some (.int (1 : Int32)) ∧ Fr h0.size L) room_1.cells room_1.slots T26 (mkF m 288 #[.val (.int flags), .val (.int cu), .val (.int cn), .val (.int b0), .val (.int b1), .val (.int b2), .val (.int b3), .val (.int (3 : Int32)), .val (.ref br), .val (.int cut), .val (.int rc), .val (.ref bo), .val (.int m_), .val (.int f4), .val (.double (FP.ddiv (FP.i2d f4) (FP.i2d cut))), .second] [(.double (FP.ddiv (FP.i2d (cnt4 (if (3 : Int32) < cut then (3 : Int32) else cut) b0 b1 b2 b3)) (FP.i2d cut)))])
            suffices Hgot : ∀ got : UInt64, got = (FP.ddiv (FP.i2d (cnt4 (if (3 : Int32) < cut then (3 : Int32) else cut) b0 b1 b2 b3)) (FP.i2d cut)) → Go p e below s (fun v h L => v = some (.int (1 : Int32)) ∧ Fr h0.size L) room_1.cells room_1.slots T26 (mkF m 288 #[.val (.int flags), .val (.int cu), .val (.int cn), .val (.int b0), .val (.int b1), .val (.int b2), .val (.int b3), .val (.int (3 : Int32)), .val (.ref br), .val (.int cut), .val (.int rc), .val (.ref bo), .val (.int m_), .val (.int f4), .val (.double (FP.ddiv (FP.i2d f4) (FP.i2d cut))), .second] [(.double got)]) from Hgot _ rfl
            intro got egot
            have hgot : got = FP.ddiv (FP.i2d f4) (FP.i2d cut) := by rw [egot, ← em_, ef4, ef3, ef2, ef1]; rfl
            refine go_dload (q := 290) X26 hx (hb hby at_288) rfl rfl ?_
            refine go_dcmp (q := 291) X26 hx (hb hby at_290) rfl rfl ?_
            refine go_if_ne (q := 294) (q' := 298) X26 hx (hb hby at_291) rfl (by decide) rfl (fun hc291 => ?_) (fun hc291 => ?_)
            · exact absurd (dcmpV_eq hgot (hgot ▸ own_dn hcut _) _) hc291
            · refine go_iconst (q := 295) (v := (1 : Int32)) X26 hx (hb hby at_294) rfl rfl ?_
              refine go_goto (q := 299) X26 hx (hb hby at_295) (by decide) rfl ?_
              exact go_retN X26 hx (by simp) hret hlk (hb hby at_299) (by decide) (by decide) ⟨rfl, N26⟩
        · exact absurd hc93 (by decide)
      · exact absurd hc75 (by decide)
    · exact absurd hc61 (by decide)
  · refine go_iload (q := 61) X0 hx (hb hby at_59) rfl rfl ?_
    refine go_if_ne (q := 64) (q' := 72) X0 hx (hb hby at_61) rfl (by decide) rfl (fun hc61 => ?_) (fun hc61 => ?_)
    · refine go_iload (q := 74) X0 hx (hb hby at_72) rfl rfl ?_
      refine go_iconst (q := 75) (v := (1 : Int32)) X0 hx (hb hby at_74) rfl rfl ?_
      refine go_icmp_ne (q := 78) (q' := 90) X0 hx (hb hby at_75) rfl (by decide) rfl (fun hc75 => ?_) (fun hc75 => ?_)
      · refine go_iload (q := 92) X0 hx (hb hby at_90) rfl rfl ?_
        refine go_iconst (q := 93) (v := (2 : Int32)) X0 hx (hb hby at_92) rfl rfl ?_
        refine go_icmp_ne (q := 96) (q' := 113) X0 hx (hb hby at_93) rfl (by decide) rfl (fun hc93 => ?_) (fun hc93 => ?_)
        · refine go_iload (q := 115) X0 hx (hb hby at_113) rfl rfl ?_
          refine go_iconst (q := 116) (v := (3 : Int32)) X0 hx (hb hby at_115) rfl rfl ?_
          refine go_icmp_ne (q := 119) (q' := 141) X0 hx (hb hby at_116) rfl (by decide) rfl (fun hc116 => ?_) (fun hc116 => ?_)
          · refine go_iconst (q := 142) (v := (4 : Int32)) X0 hx (hb hby at_141) rfl rfl ?_
            refine go_newP (q := 144) X0 hx hZ (hw _ (List.mem_of_getElem? (i := 0) rfl)) e0 (hb hby at_142) rfl (by decide) 4 (by decide) (by decide) (by decide) (by decide) (fun T27 h27 k_br br eb27 X27 e27 E27 V_br => ?_)
            have g_br : h0.size ≤ br := Nat.le_trans hsz (Nat.le_of_eq eb27.symm)
            replace hsz := Nat.le_trans hsz E27.1
            replace V_br : Arv Z h27 br k_br .boolean (4 : Int32) [(.int (0 : Int32)), (.int (0 : Int32)), (.int (0 : Int32)), (.int (0 : Int32))] (.int (0 : Int32)) := V_br.pad (pad_rep [] (.int (0 : Int32)) 4)
            refine go_dup (q := 145) X27 hx (hb hby at_144) rfl rfl ?_
            refine go_iconst (q := 146) (v := (0 : Int32)) X27 hx (hb hby at_145) rfl rfl ?_
            refine go_iloadN (q := 147) X27 hx (hb hby at_146) rfl rfl ?_
            refine go_bastore (q := 148) X27 hx hZ e27 V_br ⟨by decide, by decide⟩ 0 rfl (Nat.le_of_ble_eq_true rfl) N0 g_br (hb hby at_147) rfl (fun T28 h28 l28 X28 N28 e28 W28 V28 => ?_)
            replace hsz := Nat.le_trans hsz (Nat.le_of_eq W28.size.symm)
            replace V_br : Arv Z h28 br k_br .boolean (4 : Int32) [(.int (nar .boolean b0)), (.int (0 : Int32)), (.int (0 : Int32)), (.int (0 : Int32))] (.int (0 : Int32)) := V28
            rw [own_nar hb0] at V_br
            refine go_dup (q := 149) X28 hx (hb hby at_148) rfl rfl ?_
            refine go_iconst (q := 150) (v := (1 : Int32)) X28 hx (hb hby at_149) rfl rfl ?_
            refine go_iload (q := 152) X28 hx (hb hby at_150) rfl rfl ?_
            refine go_bastore (q := 153) X28 hx hZ e28 V_br ⟨by decide, by decide⟩ 1 rfl (Nat.le_of_ble_eq_true rfl) N28 g_br (hb hby at_152) rfl (fun T29 h29 l29 X29 N29 e29 W29 V29 => ?_)
            replace hsz := Nat.le_trans hsz (Nat.le_of_eq W29.size.symm)
            replace V_br : Arv Z h29 br k_br .boolean (4 : Int32) [(.int b0), (.int (nar .boolean b1)), (.int (0 : Int32)), (.int (0 : Int32))] (.int (0 : Int32)) := V29
            rw [own_nar hb1] at V_br
            refine go_dup (q := 154) X29 hx (hb hby at_153) rfl rfl ?_
            refine go_iconst (q := 155) (v := (2 : Int32)) X29 hx (hb hby at_154) rfl rfl ?_
            refine go_iload (q := 157) X29 hx (hb hby at_155) rfl rfl ?_
            refine go_bastore (q := 158) X29 hx hZ e29 V_br ⟨by decide, by decide⟩ 2 rfl (Nat.le_of_ble_eq_true rfl) N29 g_br (hb hby at_157) rfl (fun T30 h30 l30 X30 N30 e30 W30 V30 => ?_)
            replace hsz := Nat.le_trans hsz (Nat.le_of_eq W30.size.symm)
            replace V_br : Arv Z h30 br k_br .boolean (4 : Int32) [(.int b0), (.int b1), (.int (nar .boolean b2)), (.int (0 : Int32))] (.int (0 : Int32)) := V30
            rw [own_nar hb2] at V_br
            refine go_dup (q := 159) X30 hx (hb hby at_158) rfl rfl ?_
            refine go_iconst (q := 160) (v := (3 : Int32)) X30 hx (hb hby at_159) rfl rfl ?_
            refine go_iload (q := 162) X30 hx (hb hby at_160) rfl rfl ?_
            refine go_bastore (q := 163) X30 hx hZ e30 V_br ⟨by decide, by decide⟩ 3 rfl (Nat.le_of_ble_eq_true rfl) N30 g_br (hb hby at_162) rfl (fun T31 h31 l31 X31 N31 e31 W31 V31 => ?_)
            replace hsz := Nat.le_trans hsz (Nat.le_of_eq W31.size.symm)
            replace V_br : Arv Z h31 br k_br .boolean (4 : Int32) [(.int b0), (.int b1), (.int b2), (.int (nar .boolean b3))] (.int (0 : Int32)) := V31
            rw [own_nar hb3] at V_br
            refine go_astore (q := 165) (l' := #[.val (.int flags), .val (.int cu), .val (.int cn), .val (.int b0), .val (.int b1), .val (.int b2), .val (.int b3), .val (.int (4 : Int32)), .val (.ref br), .unset, .unset, .unset, .unset, .unset, .unset, .unset]) X31 hx (hb hby at_163) rfl rfl rfl ?_
            refine go_iloadN (q := 166) X31 hx (hb hby at_165) rfl rfl ?_
            refine go_ldcI (q := 168) (v := (2147483647 : Int32)) X31 hx hZ hown (hw _ (List.mem_of_getElem? (i := 1) rfl)) (hb hby at_166) rfl ?_
            refine go_iand (q := 169) (v := (cu &&& (2147483647 : Int32))) X31 hx (hb hby at_168) rfl rfl ?_
            refine go_istore (q := 171) (l' := #[.val (.int flags), .val (.int cu), .val (.int cn), .val (.int b0), .val (.int b1), .val (.int b2), .val (.int b3), .val (.int (4 : Int32)), .val (.ref br), .val (.int (cu &&& (2147483647 : Int32))), .unset, .unset, .unset, .unset, .unset, .unset]) X31 hx (hb hby at_169) rfl rfl ?_
            refine go_iload (q := 173) X31 hx (hb hby at_171) rfl rfl ?_
            suffices Jcut : ∀ cut : Int32, ¬ cut < 1 → Go p e below s (fun v h L => v = some (.int (1 : Int32)) ∧ Fr h0.size L) room_1.cells room_1.slots T31 (mkF m 179 #[.val (.int flags), .val (.int cu), .val (.int cn), .val (.int b0), .val (.int b1), .val (.int b2), .val (.int b3), .val (.int (4 : Int32)), .val (.ref br), .val (.int cut), .unset, .unset, .unset, .unset, .unset, .unset] []) by
              refine go_if_ne (q := 176) (q' := 179) X31 hx (hb hby at_173) rfl (by decide) rfl (fun hc173 => ?_) (fun hc173 => ?_)
              · exact Jcut _ (own_ge1 _ hc173)
              · refine go_iconst (q := 177) (v := (1 : Int32)) X31 hx (hb hby at_176) rfl rfl ?_
                refine go_istore (q := 179) (l' := #[.val (.int flags), .val (.int cu), .val (.int cn), .val (.int b0), .val (.int b1), .val (.int b2), .val (.int b3), .val (.int (4 : Int32)), .val (.ref br), .val (.int (1 : Int32)), .unset, .unset, .unset, .unset, .unset, .unset]) X31 hx (hb hby at_177) rfl rfl ?_
                exact Jcut _ (by decide)
            intro cut hcut
            refine go_iloadN (q := 180) X31 hx (hb hby at_179) rfl rfl ?_
            refine go_ldcI (q := 182) (v := (2147483647 : Int32)) X31 hx hZ hown (hw _ (List.mem_of_getElem? (i := 1) rfl)) (hb hby at_180) rfl ?_
            refine go_iand (q := 183) (v := (cn &&& (2147483647 : Int32))) X31 hx (hb hby at_182) rfl rfl ?_
            refine go_istore (q := 185) (l' := #[.val (.int flags), .val (.int cu), .val (.int cn), .val (.int b0), .val (.int b1), .val (.int b2), .val (.int b3), .val (.int (4 : Int32)), .val (.ref br), .val (.int cut), .val (.int (cn &&& (2147483647 : Int32))), .unset, .unset, .unset, .unset, .unset]) X31 hx (hb hby at_183) rfl rfl ?_
            refine go_iload (q := 187) X31 hx (hb hby at_185) rfl rfl ?_
            suffices Jrc : ∀ rc : Int32, ¬ rc < 1 → Go p e below s (fun v h L => v = some (.int (1 : Int32)) ∧ Fr h0.size L) room_1.cells room_1.slots T31 (mkF m 193 #[.val (.int flags), .val (.int cu), .val (.int cn), .val (.int b0), .val (.int b1), .val (.int b2), .val (.int b3), .val (.int (4 : Int32)), .val (.ref br), .val (.int cut), .val (.int rc), .unset, .unset, .unset, .unset, .unset] []) by
              refine go_if_ne (q := 190) (q' := 193) X31 hx (hb hby at_187) rfl (by decide) rfl (fun hc187 => ?_) (fun hc187 => ?_)
              · exact Jrc _ (own_ge1 _ hc187)
              · refine go_iconst (q := 191) (v := (1 : Int32)) X31 hx (hb hby at_190) rfl rfl ?_
                refine go_istore (q := 193) (l' := #[.val (.int flags), .val (.int cu), .val (.int cn), .val (.int b0), .val (.int b1), .val (.int b2), .val (.int b3), .val (.int (4 : Int32)), .val (.ref br), .val (.int cut), .val (.int (1 : Int32)), .unset, .unset, .unset, .unset, .unset]) X31 hx (hb hby at_191) rfl rfl ?_
                exact Jrc _ (by decide)
            intro rc hrc
            refine go_newO (q := 196) X31 hx hZ hown (hw _ (List.mem_of_getElem? (i := 2) rfl)) (hw _ (List.mem_of_getElem? (i := 3) rfl)) (hw _ (List.mem_of_getElem? (i := 4) rfl)) e31 (hb hby at_193) rfl (by decide) (by decide) (fun T32 h32 bo eb32 X32 e32 E32 A32 D32 => ?_)
            have g_bo : h0.size ≤ bo := Nat.le_trans hsz (Nat.le_of_eq eb32.symm)
            have ne_br_bo : br ≠ bo := Nat.ne_of_lt (Nat.lt_of_lt_of_eq V_br.lt eb32.symm)
            replace V_br := V_br.ext E32
            replace hsz := Nat.le_trans hsz E32.1
            have E_bo := A32
            have F_relevant_bo : Fld Z h32 bo "com/example/forager/forager/eval/Ranking" "relevant" "[Z" .null := D32 (Or.inr (hw _ (List.mem_of_getElem? (i := 12) rfl))) (ty := (.array .boolean)) (by decide)
            have F_relevantCount_bo : Fld Z h32 bo "com/example/forager/forager/eval/Ranking" "relevantCount" "I" (.int (0 : Int32)) := D32 (Or.inr (hw _ (List.mem_of_getElem? (i := 14) rfl))) (ty := .int) (by decide)
            refine go_dup (q := 197) X32 hx (hb hby at_196) rfl rfl ?_
            refine go_aload (q := 199) X32 hx (hb hby at_197) rfl rfl rfl ?_
            refine go_iload (q := 201) X32 hx (hb hby at_199) rfl rfl ?_
            refine go_callI (q := 204) (W := 1) X32 hx hZ hown e32 rfl (hw _ (List.mem_of_getElem? (i := 5) rfl)) (hw _ (List.mem_of_getElem? (i := 6) rfl)) (hw _ (List.mem_of_getElem? (i := 4) rfl)) (hw _ (List.mem_of_getElem? (i := 7) rfl)) (by decide) bo [(.ref br), (.int rc)] [(.ref bo)] (rm1 l Z a0 hw [] bo br rc h0.size _ _ h32 hsz g_bo E_bo F_relevant_bo F_relevantCount_bo hrc) (by rw [hml]; rfl) rfl (lenOf pd_1 rfl) (Nat.le_of_eq rfl) (by decide) (by decide) (hb hby at_201) rfl (by decide) (by decide) ?_
            rintro T33 L33 v33 X33 ⟨Nq33, rfl, K33, Fr_, Fc_⟩
            have N33 := Fr.app N31 Nq33
            replace V_br := V_br.keep K33 (ninS ne_br_bo nin0)
            replace E_bo := E_bo.keep K33
            replace hsz := Nat.le_trans hsz K33.1
            show Go p e below s (fun v h L => v = some (.int (1 : Int32)) ∧ Fr h0.size L) room_1.cells room_1.slots T33 (mkF m 204 #[.val (.int flags), .val (.int cu), .val (.int cn), .val (.int b0), .val (.int b1), .val (.int b2), .val (.int b3), .val (.int (4 : Int32)), .val (.ref br), .val (.int cut), .val (.int rc), .unset, .unset, .unset, .unset, .unset] [(.ref bo)])
            refine go_astore (q := 206) (l' := #[.val (.int flags), .val (.int cu), .val (.int cn), .val (.int b0), .val (.int b1), .val (.int b2), .val (.int b3), .val (.int (4 : Int32)), .val (.ref br), .val (.int cut), .val (.int rc), .val (.ref bo), .unset, .unset, .unset, .unset]) X33 hx (hb hby at_204) rfl rfl rfl ?_
            refine go_iload (q := 208) X33 hx (hb hby at_206) rfl rfl ?_
            refine go_iload (q := 210) X33 hx (hb hby at_208) rfl rfl ?_
            refine go_callS (q := 213) (W := 0) X33 hx hZ hown rfl (hw _ (List.mem_of_getElem? (i := 15) rfl)) (hw _ (List.mem_of_getElem? (i := 16) rfl)) (hw _ (List.mem_of_getElem? (i := 17) rfl)) (hw _ (List.mem_of_getElem? (i := 18) rfl)) (by decide) [(.int cut), (.int (4 : Int32))] [] (rm3 l Z a0 hw [] cut (4 : Int32) T33.heap) (by rw [hml]; rfl) rfl (lenOf pd_0 rfl) (Nat.le_of_eq rfl) (by decide) (by decide) (hb hby at_210) rfl (by decide) (by decide) ?_
            rintro T34 L34 v34 X34 ⟨Np34, rfl, e34⟩
            have N34 := Fr.app N33 (Np34 _)
            show Go p e below s (fun v h L => v = some (.int (1 : Int32)) ∧ Fr h0.size L) room_1.cells room_1.slots T34 (mkF m 213 #[.val (.int flags), .val (.int cu), .val (.int cn), .val (.int b0), .val (.int b1), .val (.int b2), .val (.int b3), .val (.int (4 : Int32)), .val (.ref br), .val (.int cut), .val (.int rc), .val (.ref bo), .unset, .unset, .unset, .unset] [(.int (if (4 : Int32) < cut then (4 : Int32) else cut))])
            suffices Hm_ : ∀ m_ : Int32, m_ = (if (4 : Int32) < cut then (4 : Int32) else cut) → Go p e below s (fun v h L => v = some (.int (1 : Int32)) ∧ Fr h0.size L) room_1.cells room_1.slots T34 (mkF m 213 #[.val (.int flags), .val (.int cu), .val (.int cn), .val (.int b0), .val (.int b1), .val (.int b2), .val (.int b3), .val (.int (4 : Int32)), .val (.ref br), .val (.int cut), .val (.int rc), .val (.ref bo), .unset, .unset, .unset, .unset] [(.int m_)]) from Hm_ _ rfl
            intro m_ em_
            refine go_istore (q := 215) (l' := #[.val (.int flags), .val (.int cu), .val (.int cn), .val (.int b0), .val (.int b1), .val (.int b2), .val (.int b3), .val (.int (4 : Int32)), .val (.ref br), .val (.int cut), .val (.int rc), .val (.ref bo), .val (.int m_), .unset, .unset, .unset]) X34 hx (hb hby at_213) rfl rfl ?_
            refine go_iconst (q := 216) (v := (0 : Int32)) X34 hx (hb hby at_215) rfl rfl ?_
            refine go_istore (q := 218) (l' := #[.val (.int flags), .val (.int cu), .val (.int cn), .val (.int b0), .val (.int b1), .val (.int b2), .val (.int b3), .val (.int (4 : Int32)), .val (.ref br), .val (.int cut), .val (.int rc), .val (.ref bo), .val (.int m_), .val (.int (0 : Int32)), .unset, .unset]) X34 hx (hb hby at_216) rfl rfl ?_
            refine go_iload (q := 220) X34 hx (hb hby at_218) rfl rfl ?_
            suffices JF0 : ∀ f1 : Int32, f1 = (0 : Int32) + (if (0 : Int32) < m_ then b0 else 0) → Go p e below s (fun v h L => v = some (.int (1 : Int32)) ∧ Fr h0.size L) room_1.cells room_1.slots T34 (mkF m 230 #[.val (.int flags), .val (.int cu), .val (.int cn), .val (.int b0), .val (.int b1), .val (.int b2), .val (.int b3), .val (.int (4 : Int32)), .val (.ref br), .val (.int cut), .val (.int rc), .val (.ref bo), .val (.int m_), .val (.int f1), .unset, .unset] []) by
              refine go_if_le (q := 223) (q' := 230) X34 hx (hb hby at_220) rfl (by decide) rfl (fun hm0 => ?_) (fun hm0 => ?_)
              · exact JF0 _ (by rw [if_neg hm0]; exact (Int32.add_zero _).symm)
              · refine go_iloadN (q := 224) X34 hx (hb hby at_223) rfl rfl ?_
                refine go_if_eq (q := 227) (q' := 230) X34 hx (hb hby at_224) rfl (by decide) rfl (fun hz0 => ?_) (fun hz0 => ?_)
                · exact JF0 _ (by rw [if_pos hm0, hz0]; exact (Int32.add_zero _).symm)
                · refine go_iinc (q := 230) (l' := #[.val (.int flags), .val (.int cu), .val (.int cn), .val (.int b0), .val (.int b1), .val (.int b2), .val (.int b3), .val (.int (4 : Int32)), .val (.ref br), .val (.int cut), .val (.int rc), .val (.ref bo), .val (.int m_), .val (.int (1 : Int32)), .unset, .unset]) X34 hx (hb hby at_227) rfl rfl rfl ?_
                  exact JF0 _ (by rw [if_pos hm0, hb0.resolve_left hz0]; try rfl)
            intro f1 ef1
            refine go_iload (q := 232) X34 hx (hb hby at_230) rfl rfl ?_
            refine go_iconst (q := 233) (v := (1 : Int32)) X34 hx (hb hby at_232) rfl rfl ?_
            suffices JF1 : ∀ f2 : Int32, f2 = f1 + (if (1 : Int32) < m_ then b1 else 0) → Go p e below s (fun v h L => v = some (.int (1 : Int32)) ∧ Fr h0.size L) room_1.cells room_1.slots T34 (mkF m 244 #[.val (.int flags), .val (.int cu), .val (.int cn), .val (.int b0), .val (.int b1), .val (.int b2), .val (.int b3), .val (.int (4 : Int32)), .val (.ref br), .val (.int cut), .val (.int rc), .val (.ref bo), .val (.int m_), .val (.int f2), .unset, .unset] []) by
              refine go_icmp_le (q := 236) (q' := 244) X34 hx (hb hby at_233) rfl (by decide) rfl (fun hm1 => ?_) (fun hm1 => ?_)
              · exact JF1 _ (by rw [if_neg hm1]; exact (Int32.add_zero _).symm)
              · refine go_iload (q := 238) X34 hx (hb hby at_236) rfl rfl ?_
                refine go_if_eq (q := 241) (q' := 244) X34 hx (hb hby at_238) rfl (by decide) rfl (fun hz1 => ?_) (fun hz1 => ?_)
                · exact JF1 _ (by rw [if_pos hm1, hz1]; exact (Int32.add_zero _).symm)
                · refine go_iinc (q := 244) (l' := #[.val (.int flags), .val (.int cu), .val (.int cn), .val (.int b0), .val (.int b1), .val (.int b2), .val (.int b3), .val (.int (4 : Int32)), .val (.ref br), .val (.int cut), .val (.int rc), .val (.ref bo), .val (.int m_), .val (.int (f1 + (1 : Int32))), .unset, .unset]) X34 hx (hb hby at_241) rfl rfl rfl ?_
                  exact JF1 _ (by rw [if_pos hm1, hb1.resolve_left hz1]; try rfl)
            intro f2 ef2
            refine go_iload (q := 246) X34 hx (hb hby at_244) rfl rfl ?_
            refine go_iconst (q := 247) (v := (2 : Int32)) X34 hx (hb hby at_246) rfl rfl ?_
            suffices JF2 : ∀ f3 : Int32, f3 = f2 + (if (2 : Int32) < m_ then b2 else 0) → Go p e below s (fun v h L => v = some (.int (1 : Int32)) ∧ Fr h0.size L) room_1.cells room_1.slots T34 (mkF m 258 #[.val (.int flags), .val (.int cu), .val (.int cn), .val (.int b0), .val (.int b1), .val (.int b2), .val (.int b3), .val (.int (4 : Int32)), .val (.ref br), .val (.int cut), .val (.int rc), .val (.ref bo), .val (.int m_), .val (.int f3), .unset, .unset] []) by
              refine go_icmp_le (q := 250) (q' := 258) X34 hx (hb hby at_247) rfl (by decide) rfl (fun hm2 => ?_) (fun hm2 => ?_)
              · exact JF2 _ (by rw [if_neg hm2]; exact (Int32.add_zero _).symm)
              · refine go_iload (q := 252) X34 hx (hb hby at_250) rfl rfl ?_
                refine go_if_eq (q := 255) (q' := 258) X34 hx (hb hby at_252) rfl (by decide) rfl (fun hz2 => ?_) (fun hz2 => ?_)
                · exact JF2 _ (by rw [if_pos hm2, hz2]; exact (Int32.add_zero _).symm)
                · refine go_iinc (q := 258) (l' := #[.val (.int flags), .val (.int cu), .val (.int cn), .val (.int b0), .val (.int b1), .val (.int b2), .val (.int b3), .val (.int (4 : Int32)), .val (.ref br), .val (.int cut), .val (.int rc), .val (.ref bo), .val (.int m_), .val (.int (f2 + (1 : Int32))), .unset, .unset]) X34 hx (hb hby at_255) rfl rfl rfl ?_
                  exact JF2 _ (by rw [if_pos hm2, hb2.resolve_left hz2]; try rfl)
            intro f3 ef3
            refine go_iload (q := 260) X34 hx (hb hby at_258) rfl rfl ?_
            refine go_iconst (q := 261) (v := (3 : Int32)) X34 hx (hb hby at_260) rfl rfl ?_
            suffices JF3 : ∀ f4 : Int32, f4 = f3 + (if (3 : Int32) < m_ then b3 else 0) → Go p e below s (fun v h L => v = some (.int (1 : Int32)) ∧ Fr h0.size L) room_1.cells room_1.slots T34 (mkF m 272 #[.val (.int flags), .val (.int cu), .val (.int cn), .val (.int b0), .val (.int b1), .val (.int b2), .val (.int b3), .val (.int (4 : Int32)), .val (.ref br), .val (.int cut), .val (.int rc), .val (.ref bo), .val (.int m_), .val (.int f4), .unset, .unset] []) by
              refine go_icmp_le (q := 264) (q' := 272) X34 hx (hb hby at_261) rfl (by decide) rfl (fun hm3 => ?_) (fun hm3 => ?_)
              · exact JF3 _ (by rw [if_neg hm3]; exact (Int32.add_zero _).symm)
              · refine go_iload (q := 266) X34 hx (hb hby at_264) rfl rfl ?_
                refine go_if_eq (q := 269) (q' := 272) X34 hx (hb hby at_266) rfl (by decide) rfl (fun hz3 => ?_) (fun hz3 => ?_)
                · exact JF3 _ (by rw [if_pos hm3, hz3]; exact (Int32.add_zero _).symm)
                · refine go_iinc (q := 272) (l' := #[.val (.int flags), .val (.int cu), .val (.int cn), .val (.int b0), .val (.int b1), .val (.int b2), .val (.int b3), .val (.int (4 : Int32)), .val (.ref br), .val (.int cut), .val (.int rc), .val (.ref bo), .val (.int m_), .val (.int (f3 + (1 : Int32))), .unset, .unset]) X34 hx (hb hby at_269) rfl rfl rfl ?_
                  exact JF3 _ (by rw [if_pos hm3, hb3.resolve_left hz3]; try rfl)
            intro f4 ef4
            refine go_iload (q := 274) X34 hx (hb hby at_272) rfl rfl ?_
            refine go_i2d (q := 275) X34 hx (hb hby at_274) rfl rfl ?_
            refine go_iload (q := 277) X34 hx (hb hby at_275) rfl rfl ?_
            refine go_i2d (q := 278) X34 hx (hb hby at_277) rfl rfl ?_
            refine go_ddiv (q := 279) X34 hx (hb hby at_278) rfl (own_dn hcut _) rfl ?_
            refine go_dstore (q := 281) (l' := #[.val (.int flags), .val (.int cu), .val (.int cn), .val (.int b0), .val (.int b1), .val (.int b2), .val (.int b3), .val (.int (4 : Int32)), .val (.ref br), .val (.int cut), .val (.int rc), .val (.ref bo), .val (.int m_), .val (.int f4), .val (.double (FP.ddiv (FP.i2d f4) (FP.i2d cut))), .second]) X34 hx (hb hby at_279) rfl rfl ?_
            refine go_aload (q := 283) X34 hx (hb hby at_281) rfl rfl rfl ?_
            refine go_iload (q := 285) X34 hx (hb hby at_283) rfl rfl ?_
            refine go_callV (q := 288) (W := 0) X34 hx hZ hown e34 (hw _ (List.mem_of_getElem? (i := 19) rfl)) (hw _ (List.mem_of_getElem? (i := 20) rfl)) (notFace_of_selects (args := #[]) (mvT hZ (hw _ (List.mem_of_getElem? (i := 22) rfl)))) (hw _ (List.mem_of_getElem? (i := 22) rfl)) (hw _ (List.mem_of_getElem? (i := 21) rfl)) (hw _ (List.mem_of_getElem? (i := 4) rfl)) (hw _ (List.mem_of_getElem? (i := 23) rfl)) (by decide) bo [(.int cut)] [] E_bo (rm4_4 l Z a0 hw [] bo cut h0.size br k_br _ b0 b1 b2 b3 T33.heap Fr_ V_br hcut hb0 hb1 hb2 hb3) (by rw [hml]; rfl) rfl (lenOf pd_2 rfl) (Nat.le_of_eq rfl) (by decide) (by decide) (hb hby at_285) rfl (by decide) (by decide) ?_
            rintro T35 L35 v35 X35 ⟨Nq35, rfl, e35⟩
            have N35 := Fr.app N34 Nq35
            show Go p e below s (fun v h L => v = some (.int (1 : Int32)) ∧ Fr h0.size L) room_1.cells room_1.slots T35 (mkF m 288 #[.val (.int flags), .val (.int cu), .val (.int cn), .val (.int b0), .val (.int b1), .val (.int b2), .val (.int b3), .val (.int (4 : Int32)), .val (.ref br), .val (.int cut), .val (.int rc), .val (.ref bo), .val (.int m_), .val (.int f4), .val (.double (FP.ddiv (FP.i2d f4) (FP.i2d cut))), .second] [(.double (FP.ddiv (FP.i2d (cnt4 (if (4 : Int32) < cut then (4 : Int32) else cut) b0 b1 b2 b3)) (FP.i2d cut)))])
            suffices Hgot : ∀ got : UInt64, got = (FP.ddiv (FP.i2d (cnt4 (if (4 : Int32) < cut then (4 : Int32) else cut) b0 b1 b2 b3)) (FP.i2d cut)) → Go p e below s (fun v h L => v = some (.int (1 : Int32)) ∧ Fr h0.size L) room_1.cells room_1.slots T35 (mkF m 288 #[.val (.int flags), .val (.int cu), .val (.int cn), .val (.int b0), .val (.int b1), .val (.int b2), .val (.int b3), .val (.int (4 : Int32)), .val (.ref br), .val (.int cut), .val (.int rc), .val (.ref bo), .val (.int m_), .val (.int f4), .val (.double (FP.ddiv (FP.i2d f4) (FP.i2d cut))), .second] [(.double got)]) from Hgot _ rfl
            intro got egot
            have hgot : got = FP.ddiv (FP.i2d f4) (FP.i2d cut) := by rw [egot, ← em_, ef4, ef3, ef2, ef1]; rfl
            refine go_dload (q := 290) X35 hx (hb hby at_288) rfl rfl ?_
            refine go_dcmp (q := 291) X35 hx (hb hby at_290) rfl rfl ?_
            refine go_if_ne (q := 294) (q' := 298) X35 hx (hb hby at_291) rfl (by decide) rfl (fun hc291 => ?_) (fun hc291 => ?_)
            · exact absurd (dcmpV_eq hgot (hgot ▸ own_dn hcut _) _) hc291
            · refine go_iconst (q := 295) (v := (1 : Int32)) X35 hx (hb hby at_294) rfl rfl ?_
              refine go_goto (q := 299) X35 hx (hb hby at_295) (by decide) rfl ?_
              exact go_retN X35 hx (by simp) hret hlk (hb hby at_299) (by decide) (by decide) ⟨rfl, N35⟩
          · exact absurd hc116 (by decide)
        · exact absurd hc93 (by decide)
      · exact absurd hc75 (by decide)
    · exact absurd hc61 (by decide)
set_option maxRecDepth 65536 in
set_option maxHeartbeats 40000000 in
theorem comes_1 {Post : Tables → Env → Array Value → State → Outcome → State → Prop} (hpost : ∀ tb e args s v u, (limb_1_1.after args s (.returned v) u = true ∧ limb_1_2.after args s (.returned v) u = true ∧ True) → FrameEnd s (.returned v) u (Jvm.fieldLocs frame_1_writes args s ++ Jvm.arrayLocs frame_1_arrays args s ++ Jvm.staticLocs frame_1_statics s) 16 128 → Post tb e args s (.returned v) u) :
    ArmFor flags0 classFile x code maxLocals ret World_1 tables_1 room_1 Calls_1 rest_1 Pre_1 Post := by
  intro l hfl _ _ p e ha hc hk s m args below hf hA hF happ hP
  obtain ⟨hcalls, hrest, hpre⟩ := hP
  obtain ⟨-, -, -, hnamed, -, -, -, hat⟩ := (Spec.applies_iff hf).mp happ
  obtain ⟨hg, hn⟩ := and_e (Cond.before_iff.mp (show (Jvm.Cond.and given_1 narrow_1).before args s = true from hpre))
  obtain ⟨hcnt, hg0⟩ := and_e hg
  obtain ⟨ha0, hg1⟩ := and_e hg0
  obtain ⟨ha1, hg2⟩ := and_e hg1
  have ha2 := hg2
  obtain ⟨w0, w1, w2, rfl⟩ : ∃ w0 w1 w2 : Value, args = #[w0, w1, w2] := by
    have hs : args.size = 3 := by simpa [Cond.value, given_1] using hcnt
    obtain ⟨L⟩ := args
    match L, hs with
    | [w0, w1, w2], _ => exact ⟨w0, w1, w2, rfl⟩
  have hw := fun d (hd : d ∈ tables_1) => atoms_spec (ws := Jvm.Cond.code x code maxLocals ret :: tables_1) hat d (List.mem_cons_of_mem _ hd)
  obtain ⟨i0, ei0⟩ := is_v ha0
  obtain rfl : w0 = (.int i0) := Option.some.inj ei0
  obtain ⟨i1, ei1⟩ := is_v ha1
  obtain rfl : w1 = (.int i1) := Option.some.inj ei1
  obtain ⟨i2, ei2⟩ := is_v ha2
  obtain rfl : w2 = (.int i2) := Option.some.inj ei2
  obtain ⟨n, o, h1, h2, h3, _, L, rfl, ⟨rfl, N⟩, hq⟩ := rm0 l s _ hw tables_1 i0 i1 i2  s.heap  p e ha hc hk s m _ below hf ((Spec.applies_iff_loose hf).mp happ).1 ⟨rfl, State.Warmed39.refl s, rfl⟩ trivial
  refine ⟨n, _, h1, h2, h3, hpost _ _ _ _ _ _ ⟨Cond.after_iff.mpr rfl, Cond.after_iff.mpr (eq_i res_at (Term.int_eval (1)) rfl), trivial⟩ ⟨hq.1, hq.2.1, (hq.2.2.sift fun y hy => Or.inr (N y hy)).mono (by decide) (by decide)⟩⟩
theorem main_1_1 : Claimed_1_1 := comes_1 fun _ _ _ _ _ _ h hF => ⟨h.1, hF⟩
theorem main_1_2 : Claimed_1_2 := comes_1 fun _ _ _ _ _ _ h hF => ⟨h.2.1, hF⟩

end Jvm.Pilot.@@N@@
namespace Jvm.Pilot.@@N@@
open Jvm Jvm.ClassFile Sem Op Lib Jvm.Free Jvm.Stand Jvm.Pilot.@@N@@.Jvm.D
/-! MADE BY PROGRAM (witnessworld.py) out of the Statement's table words and the real class files: 12 classes; the members and pool entries that the words name. The judged class is class 1, her method 1. -/
namespace start1
open Jvm.ClassFile
def u (s : String) : CpInfo := .utf8 (stringToUtf16 s)
/-- a pool by its gaps: so many unusable entries, then the entry; so many at the end -/
def gap : Nat → List CpInfo → List CpInfo
  | 0, r => r
  | n + 1, r => .unusable :: gap n r
def poolList (es : List (Nat × CpInfo)) (last : Nat) : List CpInfo := es.foldr (fun e r => gap e.1 (e.2 :: r)) (gap last [])
def pool (es : List (Nat × CpInfo)) (last : Nat) : Array CpInfo := ⟨poolList es last⟩
def fileOf (pool : Array CpInfo) (this : Nat) (attrs : Array Attribute := #[]) (ms : Array MethodInfo := #[]) (fl : Nat := 33) (sup : Nat := 0) (ifs : Array Nat := #[]) (fds : Array FieldInfo := #[]) : ClassFile where
  minorVersion := 0
  majorVersion := 65
  constantPool := pool
  accessFlags := fl
  thisClass := this
  superClass := sup
  interfaces := ifs
  fields := fds
  methods := ms
  attributes := attrs
def plain (name : String) (sup : Option ClassId) : Class where
  name := name
  kind := .ordinary
  loader := none
  accessFlags := 33
  super := sup
  interfaces := #[]
  cf := none
  fields := #[]
  methods := #[]
  instanceTypes := #[]
  staticTypes := #[]
  resolved := #[]
  callSites := []
  init := .initialized
  statics := none
  mirror := none

def pool0 : Array CpInfo := pool [(5, u "<init>"), (0, u "()V"), (1, .class_ 10), (1, u "java/lang/Object")] 113

def k0c0 : Code := { maxStack := 0, maxLocals := 1, code := object_method_1_code, exceptionTable := #[], attributes := #[] }
def k0m0 : Method := { name := "<init>", desc := "()V", sig := { parameters := [], returnType := none }, accessFlags := 1, code := some k0c0 }
/-- java/lang/Object -/
def k0 : Class := { plain "java/lang/Object" none with
  accessFlags := 33
  interfaces := #[]
  cf := some (fileOf pool0 8 #[] #[{ accessFlags := 1, nameIndex := 5, descriptorIndex := 6, attributes := #[] }] 33 0 #[] #[])
  fields := #[]
  methods := #[k0m0]
  instanceTypes := #[]
  staticTypes := #[]
  resolved := Array.replicate 124 none
  statics := none }

def pool1 : Array CpInfo := pool [(2, .class_ 4), (1, u "java/lang/Object"), (0, u "<init>"), (0, u "()V"), (0, .integer 2147483647), (0, .class_ 9), (0, u "com/example/forager/forager/eval/Ranking"), (0, .methodref 8 11), (0, .nameAndType 5 12), (0, u "([ZI)V"), (0, .methodref 14 15), (0, .class_ 16), (0, .nameAndType 17 18), (0, u "java/lang/Math"), (0, u "min"), (0, u "(II)I"), (0, .methodref 8 20), (0, .nameAndType 21 22), (0, u "precision"), (0, u "(I)D"), (0, .class_ 24), (0, u "com/example/forager/forager/eval/RankingPrecisionPinLaw"), (2, u "law"), (0, u "(III)Z")] 5

def k1m0 : Method := { name := "<init>", desc := "()V", sig := { parameters := [], returnType := none }, accessFlags := 1, code := none }
def k1c1 : Code := { maxStack := 4, maxLocals := 16, code := code, exceptionTable := #[], attributes := #[] }
def k1m1 : Method := { name := "law", desc := "(III)Z", sig := { parameters := [.int, .int, .int], returnType := some .boolean }, accessFlags := 9, code := some k1c1 }
/-- com/example/forager/forager/eval/RankingPrecisionPinLaw -/
def k1 : Class := { plain "com/example/forager/forager/eval/RankingPrecisionPinLaw" (some 0) with
  accessFlags := 49
  interfaces := #[]
  cf := some (fileOf pool1 23 #[] #[{ accessFlags := 1, nameIndex := 5, descriptorIndex := 6, attributes := #[] }, { accessFlags := 9, nameIndex := 27, descriptorIndex := 28, attributes := #[] }] 49 2 #[] #[])
  fields := #[]
  methods := #[k1m0, k1m1]
  instanceTypes := #[]
  staticTypes := #[]
  resolved := Array.replicate 34 none
  statics := none }

def pool2 : Array CpInfo := pool [(1, .methodref 2 3), (0, .class_ 4), (0, .nameAndType 5 6), (0, u "java/lang/Object"), (0, u "<init>"), (0, u "()V"), (3, .fieldref 11 12), (0, .class_ 13), (0, .nameAndType 14 15), (0, u "com/example/forager/forager/eval/Ranking"), (0, u "relevant"), (0, u "[Z"), (0, .fieldref 11 17), (0, .nameAndType 18 19), (0, u "relevantCount"), (0, u "I"), (0, .methodref 21 22), (0, .class_ 23), (0, .nameAndType 24 25), (0, u "java/lang/Math"), (0, u "min"), (0, u "(II)I"), (0, u "([ZI)V"), (4, u "precision"), (0, u "(I)D")] 4

def k2c0 : Code := { maxStack := 2, maxLocals := 3, code := prog_3_method_1_code, exceptionTable := #[], attributes := #[] }
def k2m0 : Method := { name := "<init>", desc := "([ZI)V", sig := { parameters := [(.array .boolean), .int], returnType := none }, accessFlags := 0, code := some k2c0 }
def k2c1 : Code := { maxStack := 4, maxLocals := 4, code := prog_3_method_2_code, exceptionTable := #[], attributes := #[] }
def k2m1 : Method := { name := "precision", desc := "(I)D", sig := { parameters := [.int], returnType := some .double }, accessFlags := 0, code := some k2c1 }
/-- com/example/forager/forager/eval/Ranking -/
def k2 : Class := { plain "com/example/forager/forager/eval/Ranking" (some 0) with
  accessFlags := 48
  interfaces := #[]
  cf := some (fileOf pool2 11 #[] #[{ accessFlags := 0, nameIndex := 5, descriptorIndex := 26, attributes := #[] }, { accessFlags := 0, nameIndex := 31, descriptorIndex := 32, attributes := #[] }] 48 2 #[] #[{ accessFlags := 18, nameIndex := 14, descriptorIndex := 15, attributes := #[] }, { accessFlags := 18, nameIndex := 18, descriptorIndex := 19, attributes := #[] }])
  fields := #[{ name := "relevant", type := (.array .boolean), accessFlags := 18, slot := 0, constantValue := 0 }, { name := "relevantCount", type := .int, accessFlags := 18, slot := 1, constantValue := 0 }]
  methods := #[k2m0, k2m1]
  instanceTypes := #[(.array .boolean), .int]
  staticTypes := #[]
  resolved := Array.replicate 37 none
  statics := none }

def pool3 : Array CpInfo := pool [(1, .class_ 2), (0, u "java/lang/Math"), (1, .class_ 6), (1, u "java/lang/Object"), (0, u "<init>"), (0, u "()V"), (89, .class_ 100), (1, u "java/lang/Math$RandomNumberGeneratorHolder"), (71, u "negativeZeroFloatBits"), (0, u "J"), (2, u "negativeZeroDoubleBits"), (24, u "min"), (43, u "$assertionsDisabled"), (0, u "Z"), (88, u "(II)I"), (2, u "twoToTheDoubleScaleDown"), (0, u "D"), (4, u "twoToTheDoubleScaleUp"), (9, u "E"), (3, u "PI"), (2, u "TAU"), (2, u "DEGREES_TO_RADIANS"), (0, u "RADIANS_TO_DEGREES")] 94

def k3m0 : Method := { name := "<init>", desc := "()V", sig := { parameters := [], returnType := none }, accessFlags := 2, code := none }
def k3c1 : Code := { maxStack := 2, maxLocals := 2, code := jdk_29_method_69_code, exceptionTable := #[], attributes := #[] }
def k3m1 : Method := { name := "min", desc := "(II)I", sig := { parameters := [.int, .int], returnType := some .int }, accessFlags := 9, code := some k3c1 }
/-- java/lang/Math -/
def k3 : Class := { plain "java/lang/Math" (some 0) with
  accessFlags := 49
  interfaces := #[]
  cf := some (fileOf pool3 1 #[.nestMembers #[98]] #[{ accessFlags := 2, nameIndex := 7, descriptorIndex := 8, attributes := #[] }, { accessFlags := 9, nameIndex := 201, descriptorIndex := 335, attributes := #[] }] 49 4 #[] #[{ accessFlags := 25, nameIndex := 354, descriptorIndex := 339, attributes := #[] }, { accessFlags := 25, nameIndex := 358, descriptorIndex := 339, attributes := #[] }, { accessFlags := 25, nameIndex := 361, descriptorIndex := 339, attributes := #[] }, { accessFlags := 26, nameIndex := 364, descriptorIndex := 339, attributes := #[] }, { accessFlags := 26, nameIndex := 365, descriptorIndex := 339, attributes := #[] }, { accessFlags := 26, nameIndex := 172, descriptorIndex := 173, attributes := #[] }, { accessFlags := 26, nameIndex := 176, descriptorIndex := 173, attributes := #[] }, { accessFlags := 8, nameIndex := 344, descriptorIndex := 339, attributes := #[] }, { accessFlags := 8, nameIndex := 338, descriptorIndex := 339, attributes := #[] }, { accessFlags := 4120, nameIndex := 245, descriptorIndex := 246, attributes := #[] }])
  fields := #[{ name := "E", type := .double, accessFlags := 25, slot := 0, constantValue := 0 }, { name := "PI", type := .double, accessFlags := 25, slot := 1, constantValue := 0 }, { name := "TAU", type := .double, accessFlags := 25, slot := 2, constantValue := 0 }, { name := "DEGREES_TO_RADIANS", type := .double, accessFlags := 26, slot := 3, constantValue := 0 }, { name := "RADIANS_TO_DEGREES", type := .double, accessFlags := 26, slot := 4, constantValue := 0 }, { name := "negativeZeroFloatBits", type := .long, accessFlags := 26, slot := 5, constantValue := 0 }, { name := "negativeZeroDoubleBits", type := .long, accessFlags := 26, slot := 6, constantValue := 0 }, { name := "twoToTheDoubleScaleUp", type := .double, accessFlags := 8, slot := 7, constantValue := 0 }, { name := "twoToTheDoubleScaleDown", type := .double, accessFlags := 8, slot := 8, constantValue := 0 }, { name := "$assertionsDisabled", type := .boolean, accessFlags := 4120, slot := 9, constantValue := 0 }]
  methods := #[k3m0, k3m1]
  instanceTypes := #[]
  staticTypes := #[.double, .double, .double, .double, .double, .long, .long, .double, .double, .boolean]
  resolved := Array.replicate 460 none
  statics := none }

def pool4 : Array CpInfo := pool [(1, u "java/lang/Cloneable"), (0, .class_ 1), (0, u "java/lang/Object"), (0, .class_ 3)] 3

/-- java/lang/Cloneable -/
def k4 : Class := { plain "java/lang/Cloneable" (some 0) with
  accessFlags := 1537
  interfaces := #[]
  cf := some (fileOf pool4 2 #[] #[] 1537 4 #[] #[])
  fields := #[]
  methods := #[]
  instanceTypes := #[]
  staticTypes := #[]
  resolved := Array.replicate 8 none
  statics := none }

def pool5 : Array CpInfo := pool [(1, u "java/io/Serializable"), (0, .class_ 1), (0, u "java/lang/Object"), (0, .class_ 3)] 3

/-- java/io/Serializable -/
def k5 : Class := { plain "java/io/Serializable" (some 0) with
  accessFlags := 1537
  interfaces := #[]
  cf := some (fileOf pool5 2 #[] #[] 1537 4 #[] #[])
  fields := #[]
  methods := #[]
  instanceTypes := #[]
  staticTypes := #[]
  resolved := Array.replicate 8 none
  statics := none }

/-- the primitive boolean -/
def k6 : Class := { plain "boolean" none with kind := .primitive 'Z', accessFlags := 0x411 }
/-- [Z -/
def k7 : Class := { plain "[Z" (some 0) with kind := .array 6 .boolean, interfaces := #[4, 5], accessFlags := 1041 }

/-- the primitive byte -/
def k8 : Class := { plain "byte" none with kind := .primitive 'B', accessFlags := 0x411 }
/-- [B -/
def k9 : Class := { plain "[B" (some 0) with kind := .array 8 .byte, interfaces := #[4, 5], accessFlags := 1041 }

/-- the primitive int -/
def k10 : Class := { plain "int" none with kind := .primitive 'I', accessFlags := 0x411 }
/-- [I -/
def k11 : Class := { plain "[I" (some 0) with kind := .array 10 .int, interfaces := #[4, 5], accessFlags := 1041 }

def heap : Heap := #[]
def classes : Array Class := #[k0, k1, k2, k3, k4, k5, k6, k7, k8, k9, k10, k11]
def interned : List (Array UInt16 × Addr) := []
def slotsUsed : Nat := 0
def theMethod : MethodId := ⟨1, 1⟩
def args0 : Array Value := #[.int 23, .int 7, .int 9]
def aboutOver (below : List Frame) : State where
  vm := { classes := classes, interned := interned.toArray }
  heap := heap
  slotsUsed := slotsUsed
  threads := #[{ frames := .invoking theMethod args0 :: below }]
def below0 : List Frame := [.native { method := ⟨0, 0⟩, args := #[] }]
def about1 : State := aboutOver below0
def p0 : Program := .bare "" "" ""
def e0 : Env := launch0.env 0 0 0
theorem w_frames : about1.frames = Frame.invoking theMethod args0 :: below0 := rfl
set_option maxRecDepth 65536 in
theorem w_args : argsFit about1.vm theMethod args0 = true := by decide +kernel
set_option maxRecDepth 65536 in
theorem w_heap : heapFits about1 = true := by decide +kernel
set_option maxRecDepth 65536 in
theorem w_runnable : about1.curStatus? = some .runnable := by decide +kernel
set_option maxRecDepth 65536 in
theorem w_alone : about1.alone = true := by decide +kernel
set_option maxRecDepth 65536 in
theorem w_named : about1.methodNamed? x = some theMethod := by decide +kernel
set_option maxRecDepth 65536 in
theorem w_hears : about1.hears theMethod below0 = true := by decide +kernel
set_option maxRecDepth 65536 in
theorem w_ripe : about1.ripe theMethod args0 below0 = true := by decide +kernel
theorem w_running : about1.status = .running := rfl
set_option maxRecDepth 65536 in
theorem w_room : about1.hasRoom e0.platform room_1 = true :=
  launch0.hasRoom_least _ room_1 (by decide +kernel) (by decide +kernel) (by decide +kernel) (by decide +kernel) (by decide +kernel) (by decide +kernel)
theorem allAtoms_all (ts : List Jvm.Cond) (a : Array Jvm.Value) (st : Jvm.State) : (allAtoms ts).before a st = ts.all (fun c => c.before a st) := by
  induction ts with
  | nil => rfl
  | cons c t ih =>
    show (Jvm.Cond.and c (allAtoms t)).before a st = _
    rw [Jvm.Cond.before_and, ih, List.all_cons]
def words1 : List Jvm.Cond := Jvm.Cond.code x code maxLocals ret :: tables_1
/-- a 'code' word, met by the world's own term for the bytes: nothing is compared byte by byte -/
theorem code_word {y : MethodName} {bytes : ByteArray} {mx : Nat} {rt : Option FieldType} {a : Array Value} {s : State} {m : MethodId} {meth : Method} {c : Code} (h1 : s.methodNamed? y = some m) (h2 : s.vm.method? m = some meth) (h3 : meth.code = some c) (h4 : c.code = bytes)
    (h5 : (c.maxLocals == mx && c.exceptionTable.isEmpty && decide (c.maxStack ≤ mostOperands) && decide (meth.sig.returnType = rt) && !meth.locks && decide (parseMethodDescriptor y.desc = some meth.sig)) = true) : (Jvm.Cond.code y bytes mx rt).before a s = true := by
  simp only [Bool.and_eq_true, beq_iff_eq, Bool.not_eq_true', decide_eq_true_eq] at h5
  obtain ⟨⟨⟨⟨⟨g1, g2⟩, g3⟩, g4⟩, g5⟩, g6⟩ := h5
  simp [Cond.before, Cond.holds, Cond.value, h1, h2, h3, h4, g1, g2, g3, g4, g5, g6]
def isCode : Jvm.Cond → Bool
  | .code _ _ _ _ => true
  | _ => false
theorem all_split {L : List Jvm.Cond} {P : Jvm.Cond → Bool} (h1 : L.all (fun c => isCode c || P c) = true) (h2 : ∀ c ∈ L.filter isCode, P c = true) : L.all P = true := by
  refine List.all_eq_true.mpr fun c hc => ?_
  have h := List.all_eq_true.mp h1 c hc
  rcases Bool.eq_false_or_eq_true (isCode c) with hi | hi
  · exact h2 c (List.mem_filter.mpr ⟨hc, hi⟩)
  · simpa [hi] using h
set_option maxRecDepth 65536 in
theorem w_c0 : (Jvm.Cond.code x code maxLocals ret).before args0 about1 = true := code_word (m := ⟨1, 1⟩) (meth := k1m1) (c := k1c1) (by decide +kernel) rfl rfl rfl (by decide +kernel)
set_option maxRecDepth 65536 in
theorem w_c1 : (Jvm.Cond.code ({ cls := "com/example/forager/forager/eval/Ranking", name := "<init>", desc := "([ZI)V" } : Jvm.MethodName) prog_3_method_1_code (3 : Nat) (Option.none : Option Jvm.ClassFile.FieldType)).before args0 about1 = true := code_word (m := ⟨2, 0⟩) (meth := k2m0) (c := k2c0) (by decide +kernel) rfl rfl rfl (by decide +kernel)
set_option maxRecDepth 65536 in
theorem w_c2 : (Jvm.Cond.code ({ cls := "java/lang/Object", name := "<init>", desc := "()V" } : Jvm.MethodName) object_method_1_code (1 : Nat) (Option.none : Option Jvm.ClassFile.FieldType)).before args0 about1 = true := code_word (m := ⟨0, 0⟩) (meth := k0m0) (c := k0c0) (by decide +kernel) rfl rfl rfl (by decide +kernel)
set_option maxRecDepth 65536 in
theorem w_c3 : (Jvm.Cond.code ({ cls := "java/lang/Math", name := "min", desc := "(II)I" } : Jvm.MethodName) jdk_29_method_69_code (2 : Nat) (Option.some Jvm.ClassFile.FieldType.int)).before args0 about1 = true := code_word (m := ⟨3, 1⟩) (meth := k3m1) (c := k3c1) (by decide +kernel) rfl rfl rfl (by decide +kernel)
set_option maxRecDepth 65536 in
theorem w_c4 : (Jvm.Cond.code ({ cls := "com/example/forager/forager/eval/Ranking", name := "precision", desc := "(I)D" } : Jvm.MethodName) prog_3_method_2_code (4 : Nat) (Option.some Jvm.ClassFile.FieldType.double)).before args0 about1 = true := code_word (m := ⟨2, 1⟩) (meth := k2m1) (c := k2c1) (by decide +kernel) rfl rfl rfl (by decide +kernel)
def codes1 : List Jvm.Cond := [Jvm.Cond.code x code maxLocals ret, Jvm.Cond.code ({ cls := "com/example/forager/forager/eval/Ranking", name := "<init>", desc := "([ZI)V" } : Jvm.MethodName) prog_3_method_1_code (3 : Nat) (Option.none : Option Jvm.ClassFile.FieldType), Jvm.Cond.code ({ cls := "java/lang/Object", name := "<init>", desc := "()V" } : Jvm.MethodName) object_method_1_code (1 : Nat) (Option.none : Option Jvm.ClassFile.FieldType), Jvm.Cond.code ({ cls := "java/lang/Math", name := "min", desc := "(II)I" } : Jvm.MethodName) jdk_29_method_69_code (2 : Nat) (Option.some Jvm.ClassFile.FieldType.int), Jvm.Cond.code ({ cls := "com/example/forager/forager/eval/Ranking", name := "precision", desc := "(I)D" } : Jvm.MethodName) prog_3_method_2_code (4 : Nat) (Option.some Jvm.ClassFile.FieldType.double)]
set_option maxRecDepth 65536 in
theorem codes_eq : words1.filter isCode = codes1 := rfl
theorem w_codes : ∀ c ∈ words1.filter isCode, c.before args0 about1 = true := by
  rw [codes_eq]
  intro c hc
  simp only [codes1, List.mem_cons, List.not_mem_nil, or_false] at hc
  rcases hc with rfl | rfl | rfl | rfl | rfl
  · exact w_c0
  · exact w_c1
  · exact w_c2
  · exact w_c3
  · exact w_c4
set_option maxRecDepth 65536 in
theorem w_t1 : (words1.take 24).all (fun c => isCode c || c.before args0 about1) = true := by decide +kernel
set_option maxRecDepth 65536 in
theorem w_t2 : (words1.drop 24).all (fun c => isCode c || c.before args0 about1) = true := by decide +kernel
theorem w_tables : (allAtoms (Jvm.Cond.code x code maxLocals ret :: tables_1)).before args0 about1 = true := by
  rw [allAtoms_all]
  show words1.all (fun c => c.before args0 about1) = true
  refine all_split ?_ w_codes
  rw [← List.take_append_drop 24 words1, List.all_append, w_t1, w_t2]
  rfl
set_option maxRecDepth 65536 in
theorem w_case : (Jvm.Cond.and given_1 narrow_1).before args0 about1 = true := by decide +kernel
theorem w_applies : (headSpec (Jvm.Cond.code x code maxLocals ret :: tables_1) room_1).applies x e0.platform about1 = true :=
  (Spec.applies_iff w_frames).mpr ⟨w_running, w_runnable, w_alone, w_named, w_hears, w_ripe, w_room, w_tables⟩
theorem atStart : AtStart classFile x code maxLocals ret World_1 tables_1 room_1 Calls_1 rest_1 Pre_1 launch0 p0 e0 about1 theMethod args0 below0 :=
  ⟨lists_1, trivial, launch0.admits_env _ _ _, launch0.least_env, fairChoices_fair.cas, fairChoices_fair.clock, w_frames, w_args, w_heap, w_applies, trivial, trivial, w_case⟩
end start1
theorem witness_1 : WitnessClaimed_1 := ⟨start1.p0, start1.e0, start1.about1, start1.theMethod, start1.args0, start1.below0, start1.atStart⟩
end Jvm.Pilot.@@N@@
