import JvmDerived
import JvmDerived.Pilot.@@N@@Statement
import JvmDerived.Pilot.@@N@@Code
set_option linter.unusedVariables false
set_option linter.unusedSimpArgs false
namespace Jvm.Pilot.@@N@@
open Jvm Jvm.ClassFile Sem Op Lib Jvm.Free Jvm.Stand Jvm.LawKit Jvm.RoadKit Bundle Jvm.Pilot.@@N@@.Jvm.D

section OwnWalk
variable {p : Program} {l : Launch} {e : Env} {R : Room} {s : State} {m : MethodId} {args : Array Value} {below : List Frame} {meth : Method} {c : Code} {T : State} {locs : List Loc} {cells slots : Nat} {Z : State} {h : Heap} {Q : Option Value → Heap → List Loc → Prop} {ce sl : Nat} {pc q q' : Nat} {ls : Array Slot} {st : List Value} {a0 : Array Value}
/-- the rest of a body's run, from the frame g on -/
def Go (p : Program) (e : Env) (below : List Frame) (s : State) (Q : Option Value → Heap → List Loc → Prop) (ce sl : Nat) (T : State) (g : JFrame) : Prop :=
  ∃ s₂ o, Steps p.tables e below (T.setTop g) s₂ ∧ s₂.status = .running ∧ Ended s₂ below o ∧ ∃ v L, o = .returned v ∧ Q v s₂.heap L ∧ FrameEnd s o s₂ L ce sl
theorem Go.to {T' : State} {g g' : JFrame} (k : Go p e below s Q ce sl T' g') (f : ∀ t, Steps p.tables e below (T'.setTop g') t → Steps p.tables e below (T.setTop g) t) : Go p e below s Q ce sl T g := by
  obtain ⟨s2, o, h1, r⟩ := k
  exact ⟨s2, o, f _ h1, r⟩
theorem Go.cast {g g' : JFrame} (w : g = g') (k : Go p e below s Q ce sl T g') : Go p e below s Q ce sl T g := w ▸ k
/-- a body's contract: from these arguments, over this heap, it returns with Q -/
abbrev Con (l : Launch) (y : MethodName) (bytes : ByteArray) (maxL : Nat) (ret : Option FieldType) (ws : List Jvm.Cond) (rm : Room) (Z : State) (as' : Array Value) (h : Heap) (Q : Option Value → Heap → List Loc → Prop) : Prop :=
  MetFree l y (head1 (Jvm.Cond.code y bytes maxL ret :: ws) rm) (fun a U => a = as' ∧ Z.Warmed39 U.vm ∧ U.heap = h) (fun _ _ _ _ _ => True) (fun _ U o U' => ∃ v L, o = .returned v ∧ Q v U'.heap L ∧ FrameEnd U o U' L rm.cells rm.slots)
theorem con_of {y : MethodName} {bytes : ByteArray} {maxL : Nat} {ret : Option FieldType} {ws : List Jvm.Cond} {rm : Room} {as' : Array Value} (hpl : plainFor y = true)
    (body : ∀ (p : Program) (e : Env) (s : State) (m : MethodId) (below : List Frame) (meth : Method) (c : Code) (s₁ : State), Stand p l e rm s m as' below meth c s₁ [] 0 0 → p.tables.exec = Jvm.exec → c.code = bytes → c.maxLocals = maxL → meth.sig.returnType = ret → meth.locks = false → s.vm.findClass y.cls = some m.cls → meth.name = y.name → Z.Warmed39 s.vm → s₁.heap = h → Go p e below s Q rm.cells rm.slots s₁ (entryFrame m as' maxL)) :
    Con l y bytes maxL ret ws rm Z as' h Q := by
  refine MetFree.of_bodySF hpl hisR ?_
  intro p e s m args below meth c s₁ Bd hml0 hP hK
  obtain ⟨rfl, hZ, hh⟩ := hP
  exact body p e s m below meth c s₁ (Stand.of_body Bd) Bd.exec Bd.bytes hml0 Bd.returns Bd.notSynchronized (findClass_of_methodNamed Bd.named) (name_of_methodNamed Bd.named Bd.method).1 hZ (by rw [← hh, Bd.state]; rfl)
theorem go_iload (X : Stand p l e R s m args below meth c T locs cells slots) (hx : p.tables.exec = Jvm.exec) {k : Nat} {v : Int32} (hd : decode c.code pc = .ok (.iload k, 2)) (hp : pc + 2 = q) (hl : ls[k]? = some (.val (.int v))) (K : Go p e below s Q ce sl T (mkF m q ls (.int v :: st))) : Go p e below s Q ce sl T (mkF m pc ls st) := by
  subst hp
  exact K.to fun _ r => XS.iload X.here hx rfl hd hl r
theorem go_iloadN (X : Stand p l e R s m args below meth c T locs cells slots) (hx : p.tables.exec = Jvm.exec) {k : Fin 4} {v : Int32} (hd : decode c.code pc = .ok (.iload_n k, 1)) (hp : pc + 1 = q) (hl : ls[k.val]? = some (.val (.int v))) (K : Go p e below s Q ce sl T (mkF m q ls (.int v :: st))) : Go p e below s Q ce sl T (mkF m pc ls st) := by
  subst hp
  exact K.to fun _ r => XS.iloadN X.here hx rfl hd hl r
theorem go_istore (X : Stand p l e R s m args below meth c T locs cells slots) (hx : p.tables.exec = Jvm.exec) {k : Nat} {v : Int32} {l' : Array Slot} (hd : decode c.code pc = .ok (.istore k, 2)) (hp : pc + 2 = q) (hl : storeLocals ls k (.int v) = some l') (K : Go p e below s Q ce sl T (mkF m q l' st)) : Go p e below s Q ce sl T (mkF m pc ls (.int v :: st)) := by
  subst hp
  exact K.to fun _ r => XS.istore X.here hx rfl hd rfl hl r
theorem go_istoreN (X : Stand p l e R s m args below meth c T locs cells slots) (hx : p.tables.exec = Jvm.exec) {k : Fin 4} {v : Int32} {l' : Array Slot} (hd : decode c.code pc = .ok (.istore_n k, 1)) (hp : pc + 1 = q) (hl : storeLocals ls k.val (.int v) = some l') (K : Go p e below s Q ce sl T (mkF m q l' st)) : Go p e below s Q ce sl T (mkF m pc ls (.int v :: st)) := by
  subst hp
  exact K.to fun _ r => XS.istoreN X.here hx rfl hd rfl hl r
theorem go_lload (X : Stand p l e R s m args below meth c T locs cells slots) (hx : p.tables.exec = Jvm.exec) {k : Nat} {v : Int64} (hd : decode c.code pc = .ok (.lload k, 2)) (hp : pc + 2 = q) (hl : ls[k]? = some (.val (.long v))) (K : Go p e below s Q ce sl T (mkF m q ls (.long v :: st))) : Go p e below s Q ce sl T (mkF m pc ls st) := by
  subst hp
  exact K.to fun _ r => XS.lload X.here hx rfl hd hl r
theorem go_lloadN (X : Stand p l e R s m args below meth c T locs cells slots) (hx : p.tables.exec = Jvm.exec) {k : Fin 4} {v : Int64} (hd : decode c.code pc = .ok (.lload_n k, 1)) (hp : pc + 1 = q) (hl : ls[k.val]? = some (.val (.long v))) (K : Go p e below s Q ce sl T (mkF m q ls (.long v :: st))) : Go p e below s Q ce sl T (mkF m pc ls st) := by
  subst hp
  exact K.to fun _ r => XS.lloadN X.here hx rfl hd hl r
theorem go_lstore (X : Stand p l e R s m args below meth c T locs cells slots) (hx : p.tables.exec = Jvm.exec) {k : Nat} {v : Int64} {l' : Array Slot} (hd : decode c.code pc = .ok (.lstore k, 2)) (hp : pc + 2 = q) (hl : storeLocals ls k (.long v) = some l') (K : Go p e below s Q ce sl T (mkF m q l' st)) : Go p e below s Q ce sl T (mkF m pc ls (.long v :: st)) := by
  subst hp
  exact K.to fun _ r => XS.lstore X.here hx rfl hd rfl hl r
theorem go_lstoreN (X : Stand p l e R s m args below meth c T locs cells slots) (hx : p.tables.exec = Jvm.exec) {k : Fin 4} {v : Int64} {l' : Array Slot} (hd : decode c.code pc = .ok (.lstore_n k, 1)) (hp : pc + 1 = q) (hl : storeLocals ls k.val (.long v) = some l') (K : Go p e below s Q ce sl T (mkF m q l' st)) : Go p e below s Q ce sl T (mkF m pc ls (.long v :: st)) := by
  subst hp
  exact K.to fun _ r => XS.lstoreN X.here hx rfl hd rfl hl r
theorem go_dload (X : Stand p l e R s m args below meth c T locs cells slots) (hx : p.tables.exec = Jvm.exec) {k : Nat} {v : UInt64} (hd : decode c.code pc = .ok (.dload k, 2)) (hp : pc + 2 = q) (hl : ls[k]? = some (.val (.double v))) (K : Go p e below s Q ce sl T (mkF m q ls (.double v :: st))) : Go p e below s Q ce sl T (mkF m pc ls st) := by
  subst hp
  exact K.to fun _ r => XS.dload X.here hx rfl hd hl r
theorem go_dloadN (X : Stand p l e R s m args below meth c T locs cells slots) (hx : p.tables.exec = Jvm.exec) {k : Fin 4} {v : UInt64} (hd : decode c.code pc = .ok (.dload_n k, 1)) (hp : pc + 1 = q) (hl : ls[k.val]? = some (.val (.double v))) (K : Go p e below s Q ce sl T (mkF m q ls (.double v :: st))) : Go p e below s Q ce sl T (mkF m pc ls st) := by
  subst hp
  exact K.to fun _ r => XS.dloadN X.here hx rfl hd hl r
theorem go_dstore (X : Stand p l e R s m args below meth c T locs cells slots) (hx : p.tables.exec = Jvm.exec) {k : Nat} {v : UInt64} {l' : Array Slot} (hd : decode c.code pc = .ok (.dstore k, 2)) (hp : pc + 2 = q) (hl : storeLocals ls k (.double v) = some l') (K : Go p e below s Q ce sl T (mkF m q l' st)) : Go p e below s Q ce sl T (mkF m pc ls (.double v :: st)) := by
  subst hp
  exact K.to fun _ r => XS.dstore X.here hx rfl hd rfl hl r
theorem go_dstoreN (X : Stand p l e R s m args below meth c T locs cells slots) (hx : p.tables.exec = Jvm.exec) {k : Fin 4} {v : UInt64} {l' : Array Slot} (hd : decode c.code pc = .ok (.dstore_n k, 1)) (hp : pc + 1 = q) (hl : storeLocals ls k.val (.double v) = some l') (K : Go p e below s Q ce sl T (mkF m q l' st)) : Go p e below s Q ce sl T (mkF m pc ls (.double v :: st)) := by
  subst hp
  exact K.to fun _ r => XS.dstoreN X.here hx rfl hd rfl hl r
theorem go_fload (X : Stand p l e R s m args below meth c T locs cells slots) (hx : p.tables.exec = Jvm.exec) {k : Nat} {v : UInt32} (hd : decode c.code pc = .ok (.fload k, 2)) (hp : pc + 2 = q) (hl : ls[k]? = some (.val (.float v))) (K : Go p e below s Q ce sl T (mkF m q ls (.float v :: st))) : Go p e below s Q ce sl T (mkF m pc ls st) := by
  subst hp
  exact K.to fun _ r => XS.fload X.here hx rfl hd hl r
theorem go_floadN (X : Stand p l e R s m args below meth c T locs cells slots) (hx : p.tables.exec = Jvm.exec) {k : Fin 4} {v : UInt32} (hd : decode c.code pc = .ok (.fload_n k, 1)) (hp : pc + 1 = q) (hl : ls[k.val]? = some (.val (.float v))) (K : Go p e below s Q ce sl T (mkF m q ls (.float v :: st))) : Go p e below s Q ce sl T (mkF m pc ls st) := by
  subst hp
  exact K.to fun _ r => XS.floadN X.here hx rfl hd hl r
theorem go_fstore (X : Stand p l e R s m args below meth c T locs cells slots) (hx : p.tables.exec = Jvm.exec) {k : Nat} {v : UInt32} {l' : Array Slot} (hd : decode c.code pc = .ok (.fstore k, 2)) (hp : pc + 2 = q) (hl : storeLocals ls k (.float v) = some l') (K : Go p e below s Q ce sl T (mkF m q l' st)) : Go p e below s Q ce sl T (mkF m pc ls (.float v :: st)) := by
  subst hp
  exact K.to fun _ r => XS.fstore X.here hx rfl hd rfl hl r
theorem go_fstoreN (X : Stand p l e R s m args below meth c T locs cells slots) (hx : p.tables.exec = Jvm.exec) {k : Fin 4} {v : UInt32} {l' : Array Slot} (hd : decode c.code pc = .ok (.fstore_n k, 1)) (hp : pc + 1 = q) (hl : storeLocals ls k.val (.float v) = some l') (K : Go p e below s Q ce sl T (mkF m q l' st)) : Go p e below s Q ce sl T (mkF m pc ls (.float v :: st)) := by
  subst hp
  exact K.to fun _ r => XS.fstoreN X.here hx rfl hd rfl hl r
theorem go_aload (X : Stand p l e R s m args below meth c T locs cells slots) (hx : p.tables.exec = Jvm.exec) {k : Nat} {v : Value} (hd : decode c.code pc = .ok (.aload k, 2)) (hp : pc + 2 = q) (hl : ls[k]? = some (.val v)) (hv : v.isRef = true) (K : Go p e below s Q ce sl T (mkF m q ls (v :: st))) : Go p e below s Q ce sl T (mkF m pc ls st) := by
  subst hp
  exact K.to fun _ r => XS.aload X.here hx rfl hd hl hv r
theorem go_aloadN (X : Stand p l e R s m args below meth c T locs cells slots) (hx : p.tables.exec = Jvm.exec) {k : Fin 4} {v : Value} (hd : decode c.code pc = .ok (.aload_n k, 1)) (hp : pc + 1 = q) (hl : ls[k.val]? = some (.val v)) (hv : v.isRef = true) (K : Go p e below s Q ce sl T (mkF m q ls (v :: st))) : Go p e below s Q ce sl T (mkF m pc ls st) := by
  subst hp
  exact K.to fun _ r => XS.aloadN X.here hx rfl hd hl hv r
theorem go_astore (X : Stand p l e R s m args below meth c T locs cells slots) (hx : p.tables.exec = Jvm.exec) {k : Nat} {v : Value} {l' : Array Slot} (hd : decode c.code pc = .ok (.astore k, 2)) (hp : pc + 2 = q) (hv : v.isRef = true) (hl : storeLocals ls k v = some l') (K : Go p e below s Q ce sl T (mkF m q l' st)) : Go p e below s Q ce sl T (mkF m pc ls (v :: st)) := by
  subst hp
  exact K.to fun _ r => XS.astore X.here hx rfl hd rfl hv hl r
theorem go_astoreN (X : Stand p l e R s m args below meth c T locs cells slots) (hx : p.tables.exec = Jvm.exec) {k : Fin 4} {v : Value} {l' : Array Slot} (hd : decode c.code pc = .ok (.astore_n k, 1)) (hp : pc + 1 = q) (hv : v.isRef = true) (hl : storeLocals ls k.val v = some l') (K : Go p e below s Q ce sl T (mkF m q l' st)) : Go p e below s Q ce sl T (mkF m pc ls (v :: st)) := by
  subst hp
  exact K.to fun _ r => XS.astoreN X.here hx rfl hd rfl hv hl r
theorem go_iconst (X : Stand p l e R s m args below meth c T locs cells slots) (hx : p.tables.exec = Jvm.exec) {i : Int} {v : Int32} (hd : decode c.code pc = .ok (.iconst i, 1)) (hp : pc + 1 = q) (hv : Int32.ofInt i = v) (K : Go p e below s Q ce sl T (mkF m q ls (.int v :: st))) : Go p e below s Q ce sl T (mkF m pc ls st) := by
  subst hp
  exact K.to fun _ r => XS.iconst X.here hx rfl hd (hv ▸ r)
theorem go_bipush (X : Stand p l e R s m args below meth c T locs cells slots) (hx : p.tables.exec = Jvm.exec) {i : Int} {v : Int32} (hd : decode c.code pc = .ok (.bipush i, 2)) (hp : pc + 2 = q) (hv : (Int8.ofInt i).toInt32 = v) (K : Go p e below s Q ce sl T (mkF m q ls (.int v :: st))) : Go p e below s Q ce sl T (mkF m pc ls st) := by
  subst hp
  exact K.to fun _ r => XS.bipush X.here hx rfl hd (hv ▸ r)
theorem go_sipush (X : Stand p l e R s m args below meth c T locs cells slots) (hx : p.tables.exec = Jvm.exec) {i : Int} {v : Int32} (hd : decode c.code pc = .ok (.sipush i, 3)) (hp : pc + 3 = q) (hv : (Int16.ofInt i).toInt32 = v) (K : Go p e below s Q ce sl T (mkF m q ls (.int v :: st))) : Go p e below s Q ce sl T (mkF m pc ls st) := by
  subst hp
  exact K.to fun _ r => XS.sipush X.here hx rfl hd (hv ▸ r)
theorem go_lconst (X : Stand p l e R s m args below meth c T locs cells slots) (hx : p.tables.exec = Jvm.exec) {k : Fin 2} {v : Int64} (hd : decode c.code pc = .ok (.lconst k, 1)) (hp : pc + 1 = q) (hv : Int64.ofNat k = v) (K : Go p e below s Q ce sl T (mkF m q ls (.long v :: st))) : Go p e below s Q ce sl T (mkF m pc ls st) := by
  subst hp
  exact K.to fun _ r => XS.lconst X.here hx rfl hd (hv ▸ r)
theorem go_aconstNull (X : Stand p l e R s m args below meth c T locs cells slots) (hx : p.tables.exec = Jvm.exec)  (hd : decode c.code pc = .ok (.aconst_null, 1)) (hp : pc + 1 = q)  (K : Go p e below s Q ce sl T (mkF m q ls (.null :: st))) : Go p e below s Q ce sl T (mkF m pc ls st) := by
  subst hp
  exact K.to fun _ r => XS.aconstNull X.here hx rfl hd r
theorem go_dconst0 (X : Stand p l e R s m args below meth c T locs cells slots) (hx : p.tables.exec = Jvm.exec) {v : UInt64} (hd : decode c.code pc = .ok (.dconst 0, 1)) (hp : pc + 1 = q) (hv : FP.dconst0 = v) (K : Go p e below s Q ce sl T (mkF m q ls (.double v :: st))) : Go p e below s Q ce sl T (mkF m pc ls st) := by
  subst hp
  exact K.to fun _ r => XS.dconst0 X.here hx rfl hd hv r
theorem go_dconst1 (X : Stand p l e R s m args below meth c T locs cells slots) (hx : p.tables.exec = Jvm.exec) {v : UInt64} (hd : decode c.code pc = .ok (.dconst 1, 1)) (hp : pc + 1 = q) (hv : FP.dconst1 = v) (K : Go p e below s Q ce sl T (mkF m q ls (.double v :: st))) : Go p e below s Q ce sl T (mkF m pc ls st) := by
  subst hp
  exact K.to fun _ r => XS.dconst1 X.here hx rfl hd hv r
theorem go_iadd (X : Stand p l e R s m args below meth c T locs cells slots) (hx : p.tables.exec = Jvm.exec) {x y v : Int32} (hd : decode c.code pc = .ok (.iadd, 1)) (hp : pc + 1 = q) (hv : x + y = v) (K : Go p e below s Q ce sl T (mkF m q ls (.int v :: st))) : Go p e below s Q ce sl T (mkF m pc ls (.int y :: .int x :: st)) := by
  subst hp
  exact K.to fun _ r => XS.iadd X.here hx rfl hd rfl (hv ▸ r)
theorem go_isub (X : Stand p l e R s m args below meth c T locs cells slots) (hx : p.tables.exec = Jvm.exec) {x y v : Int32} (hd : decode c.code pc = .ok (.isub, 1)) (hp : pc + 1 = q) (hv : x - y = v) (K : Go p e below s Q ce sl T (mkF m q ls (.int v :: st))) : Go p e below s Q ce sl T (mkF m pc ls (.int y :: .int x :: st)) := by
  subst hp
  exact K.to fun _ r => XS.isub X.here hx rfl hd rfl (hv ▸ r)
theorem go_imul (X : Stand p l e R s m args below meth c T locs cells slots) (hx : p.tables.exec = Jvm.exec) {x y v : Int32} (hd : decode c.code pc = .ok (.imul, 1)) (hp : pc + 1 = q) (hv : x * y = v) (K : Go p e below s Q ce sl T (mkF m q ls (.int v :: st))) : Go p e below s Q ce sl T (mkF m pc ls (.int y :: .int x :: st)) := by
  subst hp
  exact K.to fun _ r => XS.imul X.here hx rfl hd rfl (hv ▸ r)
theorem go_iand (X : Stand p l e R s m args below meth c T locs cells slots) (hx : p.tables.exec = Jvm.exec) {x y v : Int32} (hd : decode c.code pc = .ok (.iand, 1)) (hp : pc + 1 = q) (hv : x &&& y = v) (K : Go p e below s Q ce sl T (mkF m q ls (.int v :: st))) : Go p e below s Q ce sl T (mkF m pc ls (.int y :: .int x :: st)) := by
  subst hp
  exact K.to fun _ r => XS.iand X.here hx rfl hd rfl (hv ▸ r)
theorem go_ior (X : Stand p l e R s m args below meth c T locs cells slots) (hx : p.tables.exec = Jvm.exec) {x y v : Int32} (hd : decode c.code pc = .ok (.ior, 1)) (hp : pc + 1 = q) (hv : x ||| y = v) (K : Go p e below s Q ce sl T (mkF m q ls (.int v :: st))) : Go p e below s Q ce sl T (mkF m pc ls (.int y :: .int x :: st)) := by
  subst hp
  exact K.to fun _ r => XS.ior X.here hx rfl hd rfl (hv ▸ r)
theorem go_ixor (X : Stand p l e R s m args below meth c T locs cells slots) (hx : p.tables.exec = Jvm.exec) {x y v : Int32} (hd : decode c.code pc = .ok (.ixor, 1)) (hp : pc + 1 = q) (hv : x ^^^ y = v) (K : Go p e below s Q ce sl T (mkF m q ls (.int v :: st))) : Go p e below s Q ce sl T (mkF m pc ls (.int y :: .int x :: st)) := by
  subst hp
  exact K.to fun _ r => XS.ixor X.here hx rfl hd rfl (hv ▸ r)
theorem go_ineg (X : Stand p l e R s m args below meth c T locs cells slots) (hx : p.tables.exec = Jvm.exec) {x v : Int32} (hd : decode c.code pc = .ok (.ineg, 1)) (hp : pc + 1 = q) (hv : -x = v) (K : Go p e below s Q ce sl T (mkF m q ls (.int v :: st))) : Go p e below s Q ce sl T (mkF m pc ls (.int x :: st)) := by
  subst hp
  exact K.to fun _ r => XS.ineg X.here hx rfl hd rfl (hv ▸ r)
theorem go_idiv (X : Stand p l e R s m args below meth c T locs cells slots) (hx : p.tables.exec = Jvm.exec) {x y v : Int32} (hd : decode c.code pc = .ok (.idiv, 1)) (hp : pc + 1 = q) (hy : y ≠ 0) (hv : x / y = v) (K : Go p e below s Q ce sl T (mkF m q ls (.int v :: st))) : Go p e below s Q ce sl T (mkF m pc ls (.int y :: .int x :: st)) := by
  subst hp
  exact K.to fun _ r => XS.idiv X.here hx rfl hd rfl hy (hv ▸ r)
theorem go_ladd (X : Stand p l e R s m args below meth c T locs cells slots) (hx : p.tables.exec = Jvm.exec) {x y v : Int64} (hd : decode c.code pc = .ok (.ladd, 1)) (hp : pc + 1 = q) (hv : x + y = v) (K : Go p e below s Q ce sl T (mkF m q ls (.long v :: st))) : Go p e below s Q ce sl T (mkF m pc ls (.long y :: .long x :: st)) := by
  subst hp
  exact K.to fun _ r => XS.ladd X.here hx rfl hd rfl (hv ▸ r)
theorem go_lsub (X : Stand p l e R s m args below meth c T locs cells slots) (hx : p.tables.exec = Jvm.exec) {x y v : Int64} (hd : decode c.code pc = .ok (.lsub, 1)) (hp : pc + 1 = q) (hv : x - y = v) (K : Go p e below s Q ce sl T (mkF m q ls (.long v :: st))) : Go p e below s Q ce sl T (mkF m pc ls (.long y :: .long x :: st)) := by
  subst hp
  exact K.to fun _ r => XS.lsub X.here hx rfl hd rfl (hv ▸ r)
theorem go_lmul (X : Stand p l e R s m args below meth c T locs cells slots) (hx : p.tables.exec = Jvm.exec) {x y v : Int64} (hd : decode c.code pc = .ok (.lmul, 1)) (hp : pc + 1 = q) (hv : x * y = v) (K : Go p e below s Q ce sl T (mkF m q ls (.long v :: st))) : Go p e below s Q ce sl T (mkF m pc ls (.long y :: .long x :: st)) := by
  subst hp
  exact K.to fun _ r => XS.lmul X.here hx rfl hd rfl (hv ▸ r)
theorem go_land (X : Stand p l e R s m args below meth c T locs cells slots) (hx : p.tables.exec = Jvm.exec) {x y v : Int64} (hd : decode c.code pc = .ok (.land, 1)) (hp : pc + 1 = q) (hv : x &&& y = v) (K : Go p e below s Q ce sl T (mkF m q ls (.long v :: st))) : Go p e below s Q ce sl T (mkF m pc ls (.long y :: .long x :: st)) := by
  subst hp
  exact K.to fun _ r => XS.land X.here hx rfl hd rfl (hv ▸ r)
theorem go_lor (X : Stand p l e R s m args below meth c T locs cells slots) (hx : p.tables.exec = Jvm.exec) {x y v : Int64} (hd : decode c.code pc = .ok (.lor, 1)) (hp : pc + 1 = q) (hv : x ||| y = v) (K : Go p e below s Q ce sl T (mkF m q ls (.long v :: st))) : Go p e below s Q ce sl T (mkF m pc ls (.long y :: .long x :: st)) := by
  subst hp
  exact K.to fun _ r => XS.lor X.here hx rfl hd rfl (hv ▸ r)
theorem go_lxor (X : Stand p l e R s m args below meth c T locs cells slots) (hx : p.tables.exec = Jvm.exec) {x y v : Int64} (hd : decode c.code pc = .ok (.lxor, 1)) (hp : pc + 1 = q) (hv : x ^^^ y = v) (K : Go p e below s Q ce sl T (mkF m q ls (.long v :: st))) : Go p e below s Q ce sl T (mkF m pc ls (.long y :: .long x :: st)) := by
  subst hp
  exact K.to fun _ r => XS.lxor X.here hx rfl hd rfl (hv ▸ r)
theorem go_lneg (X : Stand p l e R s m args below meth c T locs cells slots) (hx : p.tables.exec = Jvm.exec) {x v : Int64} (hd : decode c.code pc = .ok (.lneg, 1)) (hp : pc + 1 = q) (hv : -x = v) (K : Go p e below s Q ce sl T (mkF m q ls (.long v :: st))) : Go p e below s Q ce sl T (mkF m pc ls (.long x :: st)) := by
  subst hp
  exact K.to fun _ r => XS.lneg X.here hx rfl hd rfl (hv ▸ r)
theorem go_ldiv (X : Stand p l e R s m args below meth c T locs cells slots) (hx : p.tables.exec = Jvm.exec) {x y v : Int64} (hd : decode c.code pc = .ok (.ldiv, 1)) (hp : pc + 1 = q) (hy : y ≠ 0) (hv : x / y = v) (K : Go p e below s Q ce sl T (mkF m q ls (.long v :: st))) : Go p e below s Q ce sl T (mkF m pc ls (.long y :: .long x :: st)) := by
  subst hp
  exact K.to fun _ r => XS.ldiv X.here hx rfl hd rfl hy (hv ▸ r)
theorem go_irem (X : Stand p l e R s m args below meth c T locs cells slots) (hx : p.tables.exec = Jvm.exec) {x y v : Int32} (hd : decode c.code pc = .ok (.irem, 1)) (hp : pc + 1 = q) (hy : y ≠ 0) (hv : x % y = v) (K : Go p e below s Q ce sl T (mkF m q ls (.int v :: st))) : Go p e below s Q ce sl T (mkF m pc ls (.int y :: .int x :: st)) := by
  subst hp
  exact K.to fun _ r => iremM X hx rfl hd rfl hy (hv ▸ r)
theorem go_lrem (X : Stand p l e R s m args below meth c T locs cells slots) (hx : p.tables.exec = Jvm.exec) {x y v : Int64} (hd : decode c.code pc = .ok (.lrem, 1)) (hp : pc + 1 = q) (hy : y ≠ 0) (hv : x % y = v) (K : Go p e below s Q ce sl T (mkF m q ls (.long v :: st))) : Go p e below s Q ce sl T (mkF m pc ls (.long y :: .long x :: st)) := by
  subst hp
  exact K.to fun _ r => XS.lrem X.here hx rfl hd rfl hy ((lrem_mod x y).symm ▸ hv ▸ r)
theorem go_ishl (X : Stand p l e R s m args below meth c T locs cells slots) (hx : p.tables.exec = Jvm.exec) {x v : Int32} {y : Int32} (hd : decode c.code pc = .ok (.ishl, 1)) (hp : pc + 1 = q) (hv : (x <<< (y &&& 31)) = v) (K : Go p e below s Q ce sl T (mkF m q ls (.int v :: st))) : Go p e below s Q ce sl T (mkF m pc ls (.int y :: .int x :: st)) := by
  subst hp
  exact K.to fun _ r => XS.ishl X.here hx rfl hd rfl (hv ▸ r)
theorem go_ishr (X : Stand p l e R s m args below meth c T locs cells slots) (hx : p.tables.exec = Jvm.exec) {x v : Int32} {y : Int32} (hd : decode c.code pc = .ok (.ishr, 1)) (hp : pc + 1 = q) (hv : (x >>> (y &&& 31)) = v) (K : Go p e below s Q ce sl T (mkF m q ls (.int v :: st))) : Go p e below s Q ce sl T (mkF m pc ls (.int y :: .int x :: st)) := by
  subst hp
  exact K.to fun _ r => XS.ishr X.here hx rfl hd rfl (hv ▸ r)
theorem go_iushr (X : Stand p l e R s m args below meth c T locs cells slots) (hx : p.tables.exec = Jvm.exec) {x v : Int32} {y : Int32} (hd : decode c.code pc = .ok (.iushr, 1)) (hp : pc + 1 = q) (hv : ((x.toUInt32 >>> (y &&& 31).toUInt32).toInt32) = v) (K : Go p e below s Q ce sl T (mkF m q ls (.int v :: st))) : Go p e below s Q ce sl T (mkF m pc ls (.int y :: .int x :: st)) := by
  subst hp
  exact K.to fun _ r => XS.iushr X.here hx rfl hd rfl (hv ▸ r)
theorem go_lshl (X : Stand p l e R s m args below meth c T locs cells slots) (hx : p.tables.exec = Jvm.exec) {x v : Int64} {y : Int32} (hd : decode c.code pc = .ok (.lshl, 1)) (hp : pc + 1 = q) (hv : (x <<< (y &&& 0x3f).toInt64) = v) (K : Go p e below s Q ce sl T (mkF m q ls (.long v :: st))) : Go p e below s Q ce sl T (mkF m pc ls (.int y :: .long x :: st)) := by
  subst hp
  exact K.to fun _ r => XS.lshl X.here hx rfl hd rfl (hv ▸ r)
theorem go_lshr (X : Stand p l e R s m args below meth c T locs cells slots) (hx : p.tables.exec = Jvm.exec) {x v : Int64} {y : Int32} (hd : decode c.code pc = .ok (.lshr, 1)) (hp : pc + 1 = q) (hv : (x >>> (y &&& 0x3f).toInt64) = v) (K : Go p e below s Q ce sl T (mkF m q ls (.long v :: st))) : Go p e below s Q ce sl T (mkF m pc ls (.int y :: .long x :: st)) := by
  subst hp
  exact K.to fun _ r => XS.lshr X.here hx rfl hd rfl (hv ▸ r)
theorem go_lushr (X : Stand p l e R s m args below meth c T locs cells slots) (hx : p.tables.exec = Jvm.exec) {x v : Int64} {y : Int32} (hd : decode c.code pc = .ok (.lushr, 1)) (hp : pc + 1 = q) (hv : ((x.toUInt64 >>> (y &&& 0x3f).toInt64.toUInt64).toInt64) = v) (K : Go p e below s Q ce sl T (mkF m q ls (.long v :: st))) : Go p e below s Q ce sl T (mkF m pc ls (.int y :: .long x :: st)) := by
  subst hp
  exact K.to fun _ r => XS.lushr X.here hx rfl hd rfl (hv ▸ r)
theorem go_i2l (X : Stand p l e R s m args below meth c T locs cells slots) (hx : p.tables.exec = Jvm.exec) {x : Int32} {v : Int64} (hd : decode c.code pc = .ok (.i2l, 1)) (hp : pc + 1 = q) (hv : x.toInt64 = v) (K : Go p e below s Q ce sl T (mkF m q ls (.long v :: st))) : Go p e below s Q ce sl T (mkF m pc ls (.int x :: st)) := by
  subst hp
  exact K.to fun _ r => XS.i2l X.here hx rfl hd rfl (hv ▸ r)
theorem go_l2i (X : Stand p l e R s m args below meth c T locs cells slots) (hx : p.tables.exec = Jvm.exec) {x : Int64} {v : Int32} (hd : decode c.code pc = .ok (.l2i, 1)) (hp : pc + 1 = q) (hv : x.toInt32 = v) (K : Go p e below s Q ce sl T (mkF m q ls (.int v :: st))) : Go p e below s Q ce sl T (mkF m pc ls (.long x :: st)) := by
  subst hp
  exact K.to fun _ r => XS.l2i X.here hx rfl hd rfl (hv ▸ r)
theorem go_i2b (X : Stand p l e R s m args below meth c T locs cells slots) (hx : p.tables.exec = Jvm.exec) {x : Int32} {v : Int32} (hd : decode c.code pc = .ok (.i2b, 1)) (hp : pc + 1 = q) (hv : x.toInt8.toInt32 = v) (K : Go p e below s Q ce sl T (mkF m q ls (.int v :: st))) : Go p e below s Q ce sl T (mkF m pc ls (.int x :: st)) := by
  subst hp
  exact K.to fun _ r => XS.i2b X.here hx rfl hd rfl (hv ▸ r)
theorem go_i2s (X : Stand p l e R s m args below meth c T locs cells slots) (hx : p.tables.exec = Jvm.exec) {x : Int32} {v : Int32} (hd : decode c.code pc = .ok (.i2s, 1)) (hp : pc + 1 = q) (hv : x.toInt16.toInt32 = v) (K : Go p e below s Q ce sl T (mkF m q ls (.int v :: st))) : Go p e below s Q ce sl T (mkF m pc ls (.int x :: st)) := by
  subst hp
  exact K.to fun _ r => XS.i2s X.here hx rfl hd rfl (hv ▸ r)
theorem go_i2c (X : Stand p l e R s m args below meth c T locs cells slots) (hx : p.tables.exec = Jvm.exec) {x : Int32} {v : Int32} (hd : decode c.code pc = .ok (.i2c, 1)) (hp : pc + 1 = q) (hv : x.toUInt32.toUInt16.toUInt32.toInt32 = v) (K : Go p e below s Q ce sl T (mkF m q ls (.int v :: st))) : Go p e below s Q ce sl T (mkF m pc ls (.int x :: st)) := by
  subst hp
  exact K.to fun _ r => XS.i2c X.here hx rfl hd rfl (hv ▸ r)
theorem go_lcmp (X : Stand p l e R s m args below meth c T locs cells slots) (hx : p.tables.exec = Jvm.exec) {x y : Int64} (hd : decode c.code pc = .ok (.lcmp, 1)) (hp : pc + 1 = q)  (K : Go p e below s Q ce sl T (mkF m q ls (.int (lcmpW x y) :: st))) : Go p e below s Q ce sl T (mkF m pc ls (.long y :: .long x :: st)) := by
  subst hp
  exact K.to fun _ r => XS.lcmp X.here hx rfl hd rfl r
theorem go_i2d (X : Stand p l e R s m args below meth c T locs cells slots) (hx : p.tables.exec = Jvm.exec) {x : Int32} {v : UInt64} (hd : decode c.code pc = .ok (.i2d, 1)) (hp : pc + 1 = q) (hv : FP.i2d x = v) (K : Go p e below s Q ce sl T (mkF m q ls (.double v :: st))) : Go p e below s Q ce sl T (mkF m pc ls (.int x :: st)) := by
  subst hp
  exact K.to fun _ r => XS.i2dS X.here hx rfl hd rfl hv r
theorem go_l2d (X : Stand p l e R s m args below meth c T locs cells slots) (hx : p.tables.exec = Jvm.exec) {x : Int64} {v : UInt64} (hd : decode c.code pc = .ok (.l2d, 1)) (hp : pc + 1 = q) (hv : FP.l2d x = v) (K : Go p e below s Q ce sl T (mkF m q ls (.double v :: st))) : Go p e below s Q ce sl T (mkF m pc ls (.long x :: st)) := by
  subst hp
  exact K.to fun _ r => XS.l2dS X.here hx rfl hd rfl hv r
theorem go_d2l (X : Stand p l e R s m args below meth c T locs cells slots) (hx : p.tables.exec = Jvm.exec) {x : UInt64} {v : Int64} (hd : decode c.code pc = .ok (.d2l, 1)) (hp : pc + 1 = q) (hv : FP.d2l x = v) (K : Go p e below s Q ce sl T (mkF m q ls (.long v :: st))) : Go p e below s Q ce sl T (mkF m pc ls (.double x :: st)) := by
  subst hp
  exact K.to fun _ r => XS.d2lS X.here hx rfl hd rfl hv r
theorem go_i2f (X : Stand p l e R s m args below meth c T locs cells slots) (hx : p.tables.exec = Jvm.exec) {x : Int32} {v : UInt32} (hd : decode c.code pc = .ok (.i2f, 1)) (hp : pc + 1 = q) (hv : FP.i2f x = v) (K : Go p e below s Q ce sl T (mkF m q ls (.float v :: st))) : Go p e below s Q ce sl T (mkF m pc ls (.int x :: st)) := by
  subst hp
  exact K.to fun _ r => XS.i2fS X.here hx rfl hd rfl hv r
theorem go_f2d (X : Stand p l e R s m args below meth c T locs cells slots) (hx : p.tables.exec = Jvm.exec) {x : UInt32} {v : UInt64} (hd : decode c.code pc = .ok (.f2d, 1)) (hp : pc + 1 = q) (hn : Jvm.Free.Fl.NoNaN64 (FP.f2d x)) (hv : FP.f2d x = v) (K : Go p e below s Q ce sl T (mkF m q ls (.double v :: st))) : Go p e below s Q ce sl T (mkF m pc ls (.float x :: st)) := by
  subst hp
  exact K.to fun _ r => XS.f2dS X.here hx rfl hd rfl hn hv r
theorem go_dcmp (X : Stand p l e R s m args below meth c T locs cells slots) (hx : p.tables.exec = Jvm.exec) {o : CmpOp} {x y : UInt64} {v : Int32} (hd : decode c.code pc = .ok (.dcmp o, 1)) (hp : pc + 1 = q) (hv : cmpValue (FP.dcmp x y) o = v) (K : Go p e below s Q ce sl T (mkF m q ls (.int v :: st))) : Go p e below s Q ce sl T (mkF m pc ls (.double y :: .double x :: st)) := by
  subst hp
  exact K.to fun _ r => XS.dcmpS X.here hx rfl hd rfl hv r
theorem go_dadd (X : Stand p l e R s m args below meth c T locs cells slots) (hx : p.tables.exec = Jvm.exec) {x y v : UInt64} (hd : decode c.code pc = .ok (.dadd, 1)) (hp : pc + 1 = q) (hn : Jvm.Free.Fl.NoNaN64 (FP.dadd x y)) (hv : FP.dadd x y = v) (K : Go p e below s Q ce sl T (mkF m q ls (.double v :: st))) : Go p e below s Q ce sl T (mkF m pc ls (.double y :: .double x :: st)) := by
  subst hp
  exact K.to fun _ r => XS.daddS X.here hx rfl hd rfl hn hv r
theorem go_dsub (X : Stand p l e R s m args below meth c T locs cells slots) (hx : p.tables.exec = Jvm.exec) {x y v : UInt64} (hd : decode c.code pc = .ok (.dsub, 1)) (hp : pc + 1 = q) (hn : Jvm.Free.Fl.NoNaN64 (FP.dsub x y)) (hv : FP.dsub x y = v) (K : Go p e below s Q ce sl T (mkF m q ls (.double v :: st))) : Go p e below s Q ce sl T (mkF m pc ls (.double y :: .double x :: st)) := by
  subst hp
  exact K.to fun _ r => XS.dsubS X.here hx rfl hd rfl hn hv r
theorem go_dmul (X : Stand p l e R s m args below meth c T locs cells slots) (hx : p.tables.exec = Jvm.exec) {x y v : UInt64} (hd : decode c.code pc = .ok (.dmul, 1)) (hp : pc + 1 = q) (hn : Jvm.Free.Fl.NoNaN64 (FP.dmul x y)) (hv : FP.dmul x y = v) (K : Go p e below s Q ce sl T (mkF m q ls (.double v :: st))) : Go p e below s Q ce sl T (mkF m pc ls (.double y :: .double x :: st)) := by
  subst hp
  exact K.to fun _ r => XS.dmulS X.here hx rfl hd rfl hn hv r
theorem go_ddiv (X : Stand p l e R s m args below meth c T locs cells slots) (hx : p.tables.exec = Jvm.exec) {x y v : UInt64} (hd : decode c.code pc = .ok (.ddiv, 1)) (hp : pc + 1 = q) (hn : Jvm.Free.Fl.NoNaN64 (FP.ddiv x y)) (hv : FP.ddiv x y = v) (K : Go p e below s Q ce sl T (mkF m q ls (.double v :: st))) : Go p e below s Q ce sl T (mkF m pc ls (.double y :: .double x :: st)) := by
  subst hp
  exact K.to fun _ r => XS.ddivS X.here hx rfl hd rfl hn hv r
theorem go_dup (X : Stand p l e R s m args below meth c T locs cells slots) (hx : p.tables.exec = Jvm.exec) {v : Value} (hd : decode c.code pc = .ok (.dup, 1)) (hp : pc + 1 = q) (hv : v.category = 1) (K : Go p e below s Q ce sl T (mkF m q ls (v :: v :: st))) : Go p e below s Q ce sl T (mkF m pc ls (v :: st)) := by
  subst hp
  exact K.to fun _ r => XS.dup X.here hx rfl hd rfl hv r
theorem go_pop (X : Stand p l e R s m args below meth c T locs cells slots) (hx : p.tables.exec = Jvm.exec) {v : Value} (hd : decode c.code pc = .ok (.pop, 1)) (hp : pc + 1 = q) (hv : v.category = 1) (K : Go p e below s Q ce sl T (mkF m q ls st)) : Go p e below s Q ce sl T (mkF m pc ls (v :: st)) := by
  subst hp
  exact K.to fun _ r => XS.pop X.here hx rfl hd rfl hv r
theorem go_iinc (X : Stand p l e R s m args below meth c T locs cells slots) (hx : p.tables.exec = Jvm.exec) {k : Nat} {i : Int} {v : Int32} {l' : Array Slot} (hd : decode c.code pc = .ok (.iinc k i, 3)) (hp : pc + 3 = q) (hl : ls[k]? = some (.val (.int v))) (hs : storeLocals ls k (.int (v + Int32.ofInt i)) = some l') (K : Go p e below s Q ce sl T (mkF m q l' st)) : Go p e below s Q ce sl T (mkF m pc ls st) := by
  subst hp
  exact K.to fun _ r => XS.iinc X.here hx rfl hd hl hs r
theorem go_goto (X : Stand p l e R s m args below meth c T locs cells slots) (hx : p.tables.exec = Jvm.exec) {o : Int} (hd : decode c.code pc = .ok (.goto o, 3)) (ho : 0 ≤ (pc : Int) + o) (hq : ((pc : Int) + o).toNat = q) (K : Go p e below s Q ce sl T (mkF m q ls st)) : Go p e below s Q ce sl T (mkF m pc ls st) :=
  K.to fun _ r => XS.goto X.here hx rfl (pc0 := pc) rfl hd ho hq r
theorem go_icmp_lt (X : Stand p l e R s m args below meth c T locs cells slots) (hx : p.tables.exec = Jvm.exec) {x y : Int32} {o : Int} (hd : decode c.code pc = .ok (.if_icmp .lt o, 3)) (hp : pc + 3 = q) (ho : 0 ≤ (pc : Int) + o) (hq : ((pc : Int) + o).toNat = q') (KY : x < y → Go p e below s Q ce sl T (mkF m q' ls st)) (KN : ¬ x < y → Go p e below s Q ce sl T (mkF m q ls st)) : Go p e below s Q ce sl T (mkF m pc ls (.int y :: .int x :: st)) := by
  subst hp
  by_cases hc : x < y
  · exact (KY hc).to fun _ r => XS.icmpYes X.here hx rfl (pc0 := pc) rfl hd rfl (tlt hc).1 ho hq r
  · exact (KN hc).to fun _ r => XS.icmpNo X.here hx rfl hd rfl (flt hc).1 r
theorem go_if_lt (X : Stand p l e R s m args below meth c T locs cells slots) (hx : p.tables.exec = Jvm.exec) {x : Int32} {o : Int} (hd : decode c.code pc = .ok (.ifCond .lt o, 3)) (hp : pc + 3 = q) (ho : 0 ≤ (pc : Int) + o) (hq : ((pc : Int) + o).toNat = q') (KY : x < (0 : Int32) → Go p e below s Q ce sl T (mkF m q' ls st)) (KN : ¬ x < (0 : Int32) → Go p e below s Q ce sl T (mkF m q ls st)) : Go p e below s Q ce sl T (mkF m pc ls (.int x :: st)) := by
  subst hp
  by_cases hc : x < (0 : Int32)
  · exact (KY hc).to fun _ r => XS.ifYes X.here hx rfl (pc0 := pc) rfl hd rfl ((if0 _ _).trans (tlt hc).1) ho hq r
  · exact (KN hc).to fun _ r => XS.ifNo X.here hx rfl hd rfl ((if0 _ _).trans (flt hc).1) r
theorem go_lif_lt (X : Stand p l e R s m args below meth c T locs cells slots) (hx : p.tables.exec = Jvm.exec) {a b : Int64} {o : Int} (hd : decode c.code pc = .ok (.ifCond .lt o, 3)) (hp : pc + 3 = q) (ho : 0 ≤ (pc : Int) + o) (hq : ((pc : Int) + o).toNat = q') (KY : a < b → Go p e below s Q ce sl T (mkF m q' ls st)) (KN : ¬ a < b → Go p e below s Q ce sl T (mkF m q ls st)) : Go p e below s Q ce sl T (mkF m pc ls (.int (lcmpW a b) :: st)) :=
  go_if_lt X hx hd hp ho hq (fun w => KY ((lw_lt _ _).mp w)) (fun w => KN (fun z => w ((lw_lt _ _).mpr z)))
theorem go_icmp_ge (X : Stand p l e R s m args below meth c T locs cells slots) (hx : p.tables.exec = Jvm.exec) {x y : Int32} {o : Int} (hd : decode c.code pc = .ok (.if_icmp .ge o, 3)) (hp : pc + 3 = q) (ho : 0 ≤ (pc : Int) + o) (hq : ((pc : Int) + o).toNat = q') (KY : ¬ x < y → Go p e below s Q ce sl T (mkF m q' ls st)) (KN : x < y → Go p e below s Q ce sl T (mkF m q ls st)) : Go p e below s Q ce sl T (mkF m pc ls (.int y :: .int x :: st)) := by
  subst hp
  by_cases hc : x < y
  · exact (KN hc).to fun _ r => XS.icmpNo X.here hx rfl hd rfl (tlt hc).2.1 r
  · exact (KY hc).to fun _ r => XS.icmpYes X.here hx rfl (pc0 := pc) rfl hd rfl (flt hc).2.1 ho hq r
theorem go_if_ge (X : Stand p l e R s m args below meth c T locs cells slots) (hx : p.tables.exec = Jvm.exec) {x : Int32} {o : Int} (hd : decode c.code pc = .ok (.ifCond .ge o, 3)) (hp : pc + 3 = q) (ho : 0 ≤ (pc : Int) + o) (hq : ((pc : Int) + o).toNat = q') (KY : ¬ x < (0 : Int32) → Go p e below s Q ce sl T (mkF m q' ls st)) (KN : x < (0 : Int32) → Go p e below s Q ce sl T (mkF m q ls st)) : Go p e below s Q ce sl T (mkF m pc ls (.int x :: st)) := by
  subst hp
  by_cases hc : x < (0 : Int32)
  · exact (KN hc).to fun _ r => XS.ifNo X.here hx rfl hd rfl ((if0 _ _).trans (tlt hc).2.1) r
  · exact (KY hc).to fun _ r => XS.ifYes X.here hx rfl (pc0 := pc) rfl hd rfl ((if0 _ _).trans (flt hc).2.1) ho hq r
theorem go_lif_ge (X : Stand p l e R s m args below meth c T locs cells slots) (hx : p.tables.exec = Jvm.exec) {a b : Int64} {o : Int} (hd : decode c.code pc = .ok (.ifCond .ge o, 3)) (hp : pc + 3 = q) (ho : 0 ≤ (pc : Int) + o) (hq : ((pc : Int) + o).toNat = q') (KY : ¬ a < b → Go p e below s Q ce sl T (mkF m q' ls st)) (KN : a < b → Go p e below s Q ce sl T (mkF m q ls st)) : Go p e below s Q ce sl T (mkF m pc ls (.int (lcmpW a b) :: st)) :=
  go_if_ge X hx hd hp ho hq (fun w => KY (fun z => w ((lw_lt _ _).mpr z))) (fun w => KN ((lw_lt _ _).mp w))
theorem go_icmp_gt (X : Stand p l e R s m args below meth c T locs cells slots) (hx : p.tables.exec = Jvm.exec) {x y : Int32} {o : Int} (hd : decode c.code pc = .ok (.if_icmp .gt o, 3)) (hp : pc + 3 = q) (ho : 0 ≤ (pc : Int) + o) (hq : ((pc : Int) + o).toNat = q') (KY : y < x → Go p e below s Q ce sl T (mkF m q' ls st)) (KN : ¬ y < x → Go p e below s Q ce sl T (mkF m q ls st)) : Go p e below s Q ce sl T (mkF m pc ls (.int y :: .int x :: st)) := by
  subst hp
  by_cases hc : y < x
  · exact (KY hc).to fun _ r => XS.icmpYes X.here hx rfl (pc0 := pc) rfl hd rfl (tlt hc).2.2.1 ho hq r
  · exact (KN hc).to fun _ r => XS.icmpNo X.here hx rfl hd rfl (flt hc).2.2.1 r
theorem go_if_gt (X : Stand p l e R s m args below meth c T locs cells slots) (hx : p.tables.exec = Jvm.exec) {x : Int32} {o : Int} (hd : decode c.code pc = .ok (.ifCond .gt o, 3)) (hp : pc + 3 = q) (ho : 0 ≤ (pc : Int) + o) (hq : ((pc : Int) + o).toNat = q') (KY : (0 : Int32) < x → Go p e below s Q ce sl T (mkF m q' ls st)) (KN : ¬ (0 : Int32) < x → Go p e below s Q ce sl T (mkF m q ls st)) : Go p e below s Q ce sl T (mkF m pc ls (.int x :: st)) := by
  subst hp
  by_cases hc : (0 : Int32) < x
  · exact (KY hc).to fun _ r => XS.ifYes X.here hx rfl (pc0 := pc) rfl hd rfl ((if0 _ _).trans (tlt hc).2.2.1) ho hq r
  · exact (KN hc).to fun _ r => XS.ifNo X.here hx rfl hd rfl ((if0 _ _).trans (flt hc).2.2.1) r
theorem go_lif_gt (X : Stand p l e R s m args below meth c T locs cells slots) (hx : p.tables.exec = Jvm.exec) {a b : Int64} {o : Int} (hd : decode c.code pc = .ok (.ifCond .gt o, 3)) (hp : pc + 3 = q) (ho : 0 ≤ (pc : Int) + o) (hq : ((pc : Int) + o).toNat = q') (KY : b < a → Go p e below s Q ce sl T (mkF m q' ls st)) (KN : ¬ b < a → Go p e below s Q ce sl T (mkF m q ls st)) : Go p e below s Q ce sl T (mkF m pc ls (.int (lcmpW a b) :: st)) :=
  go_if_gt X hx hd hp ho hq (fun w => KY ((lw_gt _ _).mp w)) (fun w => KN (fun z => w ((lw_gt _ _).mpr z)))
theorem go_icmp_le (X : Stand p l e R s m args below meth c T locs cells slots) (hx : p.tables.exec = Jvm.exec) {x y : Int32} {o : Int} (hd : decode c.code pc = .ok (.if_icmp .le o, 3)) (hp : pc + 3 = q) (ho : 0 ≤ (pc : Int) + o) (hq : ((pc : Int) + o).toNat = q') (KY : ¬ y < x → Go p e below s Q ce sl T (mkF m q' ls st)) (KN : y < x → Go p e below s Q ce sl T (mkF m q ls st)) : Go p e below s Q ce sl T (mkF m pc ls (.int y :: .int x :: st)) := by
  subst hp
  by_cases hc : y < x
  · exact (KN hc).to fun _ r => XS.icmpNo X.here hx rfl hd rfl (tlt hc).2.2.2 r
  · exact (KY hc).to fun _ r => XS.icmpYes X.here hx rfl (pc0 := pc) rfl hd rfl (flt hc).2.2.2 ho hq r
theorem go_if_le (X : Stand p l e R s m args below meth c T locs cells slots) (hx : p.tables.exec = Jvm.exec) {x : Int32} {o : Int} (hd : decode c.code pc = .ok (.ifCond .le o, 3)) (hp : pc + 3 = q) (ho : 0 ≤ (pc : Int) + o) (hq : ((pc : Int) + o).toNat = q') (KY : ¬ (0 : Int32) < x → Go p e below s Q ce sl T (mkF m q' ls st)) (KN : (0 : Int32) < x → Go p e below s Q ce sl T (mkF m q ls st)) : Go p e below s Q ce sl T (mkF m pc ls (.int x :: st)) := by
  subst hp
  by_cases hc : (0 : Int32) < x
  · exact (KN hc).to fun _ r => XS.ifNo X.here hx rfl hd rfl ((if0 _ _).trans (tlt hc).2.2.2) r
  · exact (KY hc).to fun _ r => XS.ifYes X.here hx rfl (pc0 := pc) rfl hd rfl ((if0 _ _).trans (flt hc).2.2.2) ho hq r
theorem go_lif_le (X : Stand p l e R s m args below meth c T locs cells slots) (hx : p.tables.exec = Jvm.exec) {a b : Int64} {o : Int} (hd : decode c.code pc = .ok (.ifCond .le o, 3)) (hp : pc + 3 = q) (ho : 0 ≤ (pc : Int) + o) (hq : ((pc : Int) + o).toNat = q') (KY : ¬ b < a → Go p e below s Q ce sl T (mkF m q' ls st)) (KN : b < a → Go p e below s Q ce sl T (mkF m q ls st)) : Go p e below s Q ce sl T (mkF m pc ls (.int (lcmpW a b) :: st)) :=
  go_if_le X hx hd hp ho hq (fun w => KY (fun z => w ((lw_gt _ _).mpr z))) (fun w => KN ((lw_gt _ _).mp w))
theorem go_icmp_eq (X : Stand p l e R s m args below meth c T locs cells slots) (hx : p.tables.exec = Jvm.exec) {x y : Int32} {o : Int} (hd : decode c.code pc = .ok (.if_icmp .eq o, 3)) (hp : pc + 3 = q) (ho : 0 ≤ (pc : Int) + o) (hq : ((pc : Int) + o).toNat = q') (KY : x = y → Go p e below s Q ce sl T (mkF m q' ls st)) (KN : ¬ x = y → Go p e below s Q ce sl T (mkF m q ls st)) : Go p e below s Q ce sl T (mkF m pc ls (.int y :: .int x :: st)) := by
  subst hp
  by_cases hc : x = y
  · exact (KY hc).to fun _ r => XS.icmpYes X.here hx rfl (pc0 := pc) rfl hd rfl (teq hc).1 ho hq r
  · exact (KN hc).to fun _ r => XS.icmpNo X.here hx rfl hd rfl (feq hc).1 r
theorem go_if_eq (X : Stand p l e R s m args below meth c T locs cells slots) (hx : p.tables.exec = Jvm.exec) {x : Int32} {o : Int} (hd : decode c.code pc = .ok (.ifCond .eq o, 3)) (hp : pc + 3 = q) (ho : 0 ≤ (pc : Int) + o) (hq : ((pc : Int) + o).toNat = q') (KY : x = (0 : Int32) → Go p e below s Q ce sl T (mkF m q' ls st)) (KN : ¬ x = (0 : Int32) → Go p e below s Q ce sl T (mkF m q ls st)) : Go p e below s Q ce sl T (mkF m pc ls (.int x :: st)) := by
  subst hp
  by_cases hc : x = (0 : Int32)
  · exact (KY hc).to fun _ r => XS.ifYes X.here hx rfl (pc0 := pc) rfl hd rfl ((if0 _ _).trans (teq hc).1) ho hq r
  · exact (KN hc).to fun _ r => XS.ifNo X.here hx rfl hd rfl ((if0 _ _).trans (feq hc).1) r
theorem go_lif_eq (X : Stand p l e R s m args below meth c T locs cells slots) (hx : p.tables.exec = Jvm.exec) {a b : Int64} {o : Int} (hd : decode c.code pc = .ok (.ifCond .eq o, 3)) (hp : pc + 3 = q) (ho : 0 ≤ (pc : Int) + o) (hq : ((pc : Int) + o).toNat = q') (KY : a = b → Go p e below s Q ce sl T (mkF m q' ls st)) (KN : ¬ a = b → Go p e below s Q ce sl T (mkF m q ls st)) : Go p e below s Q ce sl T (mkF m pc ls (.int (lcmpW a b) :: st)) :=
  go_if_eq X hx hd hp ho hq (fun w => KY ((lw_eq _ _).mp w)) (fun w => KN (fun z => w ((lw_eq _ _).mpr z)))
theorem go_icmp_ne (X : Stand p l e R s m args below meth c T locs cells slots) (hx : p.tables.exec = Jvm.exec) {x y : Int32} {o : Int} (hd : decode c.code pc = .ok (.if_icmp .ne o, 3)) (hp : pc + 3 = q) (ho : 0 ≤ (pc : Int) + o) (hq : ((pc : Int) + o).toNat = q') (KY : ¬ x = y → Go p e below s Q ce sl T (mkF m q' ls st)) (KN : x = y → Go p e below s Q ce sl T (mkF m q ls st)) : Go p e below s Q ce sl T (mkF m pc ls (.int y :: .int x :: st)) := by
  subst hp
  by_cases hc : x = y
  · exact (KN hc).to fun _ r => XS.icmpNo X.here hx rfl hd rfl (teq hc).2 r
  · exact (KY hc).to fun _ r => XS.icmpYes X.here hx rfl (pc0 := pc) rfl hd rfl (feq hc).2 ho hq r
theorem go_if_ne (X : Stand p l e R s m args below meth c T locs cells slots) (hx : p.tables.exec = Jvm.exec) {x : Int32} {o : Int} (hd : decode c.code pc = .ok (.ifCond .ne o, 3)) (hp : pc + 3 = q) (ho : 0 ≤ (pc : Int) + o) (hq : ((pc : Int) + o).toNat = q') (KY : ¬ x = (0 : Int32) → Go p e below s Q ce sl T (mkF m q' ls st)) (KN : x = (0 : Int32) → Go p e below s Q ce sl T (mkF m q ls st)) : Go p e below s Q ce sl T (mkF m pc ls (.int x :: st)) := by
  subst hp
  by_cases hc : x = (0 : Int32)
  · exact (KN hc).to fun _ r => XS.ifNo X.here hx rfl hd rfl ((if0 _ _).trans (teq hc).2) r
  · exact (KY hc).to fun _ r => XS.ifYes X.here hx rfl (pc0 := pc) rfl hd rfl ((if0 _ _).trans (feq hc).2) ho hq r
theorem go_lif_ne (X : Stand p l e R s m args below meth c T locs cells slots) (hx : p.tables.exec = Jvm.exec) {a b : Int64} {o : Int} (hd : decode c.code pc = .ok (.ifCond .ne o, 3)) (hp : pc + 3 = q) (ho : 0 ≤ (pc : Int) + o) (hq : ((pc : Int) + o).toNat = q') (KY : ¬ a = b → Go p e below s Q ce sl T (mkF m q' ls st)) (KN : a = b → Go p e below s Q ce sl T (mkF m q ls st)) : Go p e below s Q ce sl T (mkF m pc ls (.int (lcmpW a b) :: st)) :=
  go_if_ne X hx hd hp ho hq (fun w => KY (fun z => w ((lw_eq _ _).mpr z))) (fun w => KN ((lw_eq _ _).mp w))
theorem go_ret (X : Stand p l e R s m args below meth c T locs cells slots) (hx : p.tables.exec = Jvm.exec) {w : Value} {t : FieldType} {i : Instr} (hret : meth.sig.returnType = some t) (hlk : meth.locks = false) (hn : narrow t w = w)
    (hi : (i = .ireturn ∧ (t = .int ∨ t = .boolean ∨ t = .byte ∨ t = .char ∨ t = .short) ∧ ∃ z, w = .int z) ∨ (i = .lreturn ∧ t = .long ∧ ∃ z, w = .long z) ∨ (i = .dreturn ∧ t = .double ∧ ∃ z, w = .double z) ∨ (i = .freturn ∧ t = .float ∧ ∃ z, w = .float z) ∨ (i = .areturn ∧ t.isReference = true ∧ w.isRef = true))
    (hd : decode c.code pc = .ok (i, 1)) (hc : cells ≤ ce) (hs : slots ≤ sl) (hQ : Q (some w) T.heap locs) : Go p e below s Q ce sl T (mkF m pc ls (w :: st)) := by
  obtain ⟨fs, hr, hrun, hended, hW, hsame⟩ := X.leave (v := some w) (fun h => by rw [hret] at h; cases h) hlk
  exact ⟨_, _, retOut X hx hret hn hi hd hr, hrun, hended, _, _, rfl, hQ, ⟨_, rfl⟩, hW, hsame.mono hc hs⟩
theorem go_retD (X : Stand p l e R s m args below meth c T locs cells slots) (hx : p.tables.exec = Jvm.exec) {v : UInt64} (hret : meth.sig.returnType = some .double) (hlk : meth.locks = false) (hd : decode c.code pc = .ok (.dreturn, 1)) (hc : cells ≤ ce) (hs : slots ≤ sl) (hQ : Q (some (.double v)) T.heap locs) : Go p e below s Q ce sl T (mkF m pc ls (.double v :: st)) :=
  go_ret X hx hret hlk rfl (Or.inr (Or.inr (Or.inl ⟨rfl, rfl, v, rfl⟩))) hd hc hs hQ
theorem go_retJ (X : Stand p l e R s m args below meth c T locs cells slots) (hx : p.tables.exec = Jvm.exec) {v : Int64} (hret : meth.sig.returnType = some .long) (hlk : meth.locks = false) (hd : decode c.code pc = .ok (.lreturn, 1)) (hc : cells ≤ ce) (hs : slots ≤ sl) (hQ : Q (some (.long v)) T.heap locs) : Go p e below s Q ce sl T (mkF m pc ls (.long v :: st)) :=
  go_ret X hx hret hlk rfl (Or.inr (Or.inl ⟨rfl, rfl, v, rfl⟩)) hd hc hs hQ
theorem go_retI (X : Stand p l e R s m args below meth c T locs cells slots) (hx : p.tables.exec = Jvm.exec) {v : Int32} (hret : meth.sig.returnType = some .int) (hlk : meth.locks = false) (hd : decode c.code pc = .ok (.ireturn, 1)) (hc : cells ≤ ce) (hs : slots ≤ sl) (hQ : Q (some (.int v)) T.heap locs) : Go p e below s Q ce sl T (mkF m pc ls (.int v :: st)) :=
  go_ret X hx hret hlk rfl (Or.inl ⟨rfl, Or.inl rfl, v, rfl⟩) hd hc hs hQ
theorem go_retA (X : Stand p l e R s m args below meth c T locs cells slots) (hx : p.tables.exec = Jvm.exec) {v : Value} {t : FieldType} (hret : meth.sig.returnType = some t) (hlk : meth.locks = false) (ht : t.isReference = true) (hv : v.isRef = true) (hn : narrow t v = v) (hd : decode c.code pc = .ok (.areturn, 1)) (hc : cells ≤ ce) (hs : slots ≤ sl) (hQ : Q (some v) T.heap locs) : Go p e below s Q ce sl T (mkF m pc ls (v :: st)) :=
  go_ret X hx hret hlk hn (Or.inr (Or.inr (Or.inr (Or.inr ⟨rfl, ht, hv⟩)))) hd hc hs hQ
theorem go_retN (X : Stand p l e R s m args below meth c T locs cells slots) (hx : p.tables.exec = Jvm.exec) {z : Int32} {t : FieldType} (ht : t = .boolean ∨ t = .byte ∨ t = .char ∨ t = .short) (hret : meth.sig.returnType = some t) (hlk : meth.locks = false) (hd : decode c.code pc = .ok (.ireturn, 1)) (hc : cells ≤ ce) (hs : slots ≤ sl) (hQ : Q (some (.int (nar t z))) T.heap locs) : Go p e below s Q ce sl T (mkF m pc ls (.int z :: st)) := by
  obtain ⟨fs, hr, hrun, hended, hW, hsame⟩ := X.leave (v := some (.int (nar t z))) (fun h => by rw [hret] at h; cases h) hlk
  exact ⟨_, _, retN X hx hret ht hd hr, hrun, hended, _, _, rfl, hQ, ⟨_, rfl⟩, hW, hsame.mono hc hs⟩
theorem go_retV (X : Stand p l e R s m args below meth c T locs cells slots) (hx : p.tables.exec = Jvm.exec) (hret : meth.sig.returnType = none) (hlk : meth.locks = false) (hd : decode c.code pc = .ok (.return_, 1)) (hc : cells ≤ ce) (hs : slots ≤ sl) (hQ : Q none T.heap locs) : Go p e below s Q ce sl T (mkF m pc ls []) := by
  obtain ⟨fs, hr, hrun, hended, hW, hsame⟩ := X.leave (v := none) (fun _ => rfl) hlk
  exact ⟨_, _, X.returnOut hx hret hd hr, hrun, hended, _, _, rfl, hQ, ⟨_, rfl⟩, hW, hsame.mono hc hs⟩
theorem go_ldcI (X : Stand p l e R s m args below meth c T locs cells slots) (hx : p.tables.exec = Jvm.exec) (hZ : Z.Warmed39 s.vm) {own : String} {index : Nat} {v : Int32} (hown : s.vm.findClass own = some m.cls) (w : (Jvm.Cond.constant own index v).before a0 Z = true) (hd : decode c.code pc = .ok (.ldc index, 2)) (hp : pc + 2 = q) (K : Go p e below s Q ce sl T (mkF m q ls (.int v :: st))) : Go p e below s Q ce sl T (mkF m pc ls st) := by
  subst hp
  exact K.to fun t r => X.ldcInt hx hown (mvT hZ w) (g := mkF m pc ls st) rfl hd t r
theorem go_ldc2J (X : Stand p l e R s m args below meth c T locs cells slots) (hx : p.tables.exec = Jvm.exec) (hZ : Z.Warmed39 s.vm) {own : String} {index : Nat} {v : Int64} (hown : s.vm.findClass own = some m.cls) (w : (Jvm.Cond.constantLong own index v).before a0 Z = true) (hd : decode c.code pc = .ok (.ldc2_w index, 3)) (hp : pc + 3 = q) (K : Go p e below s Q ce sl T (mkF m q ls (.long v :: st))) : Go p e below s Q ce sl T (mkF m pc ls st) := by
  subst hp
  exact K.to fun t r => X.ldc2Long hx hown (mvT hZ w) (g := mkF m pc ls st) rfl hd t r
theorem go_ldc2D (X : Stand p l e R s m args below meth c T locs cells slots) (hx : p.tables.exec = Jvm.exec) (hZ : Z.Warmed39 s.vm) {own : String} {index : Nat} {v : UInt64} (hown : s.vm.findClass own = some m.cls) (w : (Jvm.Cond.constantDouble own index v).before a0 Z = true) (hd : decode c.code pc = .ok (.ldc2_w index, 3)) (hp : pc + 3 = q) (K : Go p e below s Q ce sl T (mkF m q ls (.double v :: st))) : Go p e below s Q ce sl T (mkF m pc ls st) := by
  subst hp
  exact K.to fun t r => X.ldc2DoubleC hx hown (mvT hZ w) (g := mkF m pc ls st) rfl hd t r
theorem go_callS (X : Stand p l e R s m args below meth c T locs cells slots) (hx : p.tables.exec = Jvm.exec) (hZ : Z.Warmed39 s.vm) {own : String} {index : Nat} {y : MethodName} {bytes : ByteArray} {maxL : Nat} {ret : Option FieldType} {rm : Room} {W : Nat} {Qc : Option Value → Heap → List Loc → Prop} (hown : s.vm.findClass own = some m.cls) (eT : T.heap = h)
    (w1 : (Jvm.Cond.methodLink own index y).before a0 Z = true) (w2 : (Jvm.Cond.static y).before a0 Z = true) (w3 : (Jvm.Cond.initialized y.cls).before a0 Z = true) (w4 : (Jvm.Cond.code y bytes maxL ret).before a0 Z = true) (hy : y.cls ≠ "java/lang/invoke/MethodHandle" ∧ y.cls ≠ "java/lang/invoke/VarHandle")
    (argsL rest : List Value) (hM : Con l y bytes maxL ret [] rm Z argsL.toArray h Qc) (hsz : ls.size = c.maxLocals) (hst : st = argsL.reverse ++ rest) (hlen : ∀ sig, parseMethodDescriptor y.desc = some sig → argsL.length = sig.parameters.length) (hW : (rest.map fun v => v.category).sum ≤ W)
    (hf : rm.frames + 1 ≤ R.frames) (hl : W + (maxL + 11) + rm.locals ≤ R.locals) (hd : decode c.code pc = .ok (.invokestatic index, 3)) (hp : pc + 3 = q) (hc : cells + rm.cells ≤ R.cells) (hs : slots + rm.slots ≤ R.slots)
    (K : ∀ (T' : State) (L : List Loc) (v : Option Value), Stand p l e R s m args below meth c T' (locs ++ L) (cells + rm.cells) (slots + rm.slots) → Qc v T'.heap L → Go p e below s Q ce sl T' (mkF m q ls (v.toList ++ rest))) : Go p e below s Q ce sl T (mkF m pc ls st) := by
  subst hp
  obtain ⟨v, _, ⟨T', L', k', n'⟩, -, X', ⟨Lc, hQ, l1, y1, z1⟩, stp⟩ := Jvm.LawKit.callS X hx (y := y) hown (mvT hZ w1) (mvT hZ w2) (mvT hZ w3) (mvT hZ w4) hy (backOf (W := W) hM hZ w4 w3 hf hl) (g := mkF m pc ls st) rfl hsz (argsL := argsL) (rest := rest) hlen hst (by show 2 * 0 + _ ≤ _; omega) hd (fun _ _ => ⟨rfl, eT, hc, hs⟩)
  dsimp only [Pt.U, Pt.locs, Pt.cells, Pt.slots] at X' l1 y1 z1 stp hQ
  subst l1 y1 z1
  exact (K T' Lc v X' hQ).to fun t r => stp t r
theorem go_callI (X : Stand p l e R s m args below meth c T locs cells slots) (hx : p.tables.exec = Jvm.exec) (hZ : Z.Warmed39 s.vm) {own : String} {index : Nat} {y : MethodName} {bytes : ByteArray} {maxL : Nat} {rm : Room} {W : Nat} {Qc : Option Value → Heap → List Loc → Prop} (hown : s.vm.findClass own = some m.cls) (eT : T.heap = h) (hy1 : y.name = "<init>")
    (w1 : (Jvm.Cond.methodLink own index y).before a0 Z = true) (w2 : (Jvm.Cond.instanceMethod y).before a0 Z = true) (w3 : (Jvm.Cond.initialized y.cls).before a0 Z = true) (w4 : (Jvm.Cond.code y bytes maxL none).before a0 Z = true) (hy : y.cls ≠ "java/lang/invoke/MethodHandle" ∧ y.cls ≠ "java/lang/invoke/VarHandle")
    (a : Addr) (argsL rest : List Value) (hM : Con l y bytes maxL none [] rm Z (.ref a :: argsL).toArray h Qc) (hsz : ls.size = c.maxLocals) (hst : st = argsL.reverse ++ .ref a :: rest) (hlen : ∀ sig, parseMethodDescriptor y.desc = some sig → argsL.length = sig.parameters.length) (hW : (rest.map fun v => v.category).sum ≤ W)
    (hf : rm.frames + 1 ≤ R.frames) (hl : W + (maxL + 11) + rm.locals ≤ R.locals) (hd : decode c.code pc = .ok (.invokespecial index, 3)) (hp : pc + 3 = q) (hc : cells + rm.cells ≤ R.cells) (hs : slots + rm.slots ≤ R.slots)
    (K : ∀ (T' : State) (L : List Loc) (v : Option Value), Stand p l e R s m args below meth c T' (locs ++ L) (cells + rm.cells) (slots + rm.slots) → Qc v T'.heap L → Go p e below s Q ce sl T' (mkF m q ls (v.toList ++ rest))) : Go p e below s Q ce sl T (mkF m pc ls st) := by
  subst hp
  obtain ⟨v, _, ⟨T', L', k', n'⟩, -, X', ⟨Lc, hQ, l1, y1, z1⟩, stp⟩ := X.specialBack hx (y := y) hy1 hown (mvT hZ w1) (mvT hZ w2) (mvT hZ w4) hy (backOf (W := W) hM hZ w4 w3 hf hl) (g := mkF m pc ls st) rfl hsz (Steps.refl _) (a := a) (argsL := argsL) (rest := rest) hlen hst (by show 2 * 0 + _ ≤ _; omega) hd (fun _ _ => ⟨rfl, eT, hc, hs⟩)
  dsimp only [Pt.U, Pt.locs, Pt.cells, Pt.slots] at X' l1 y1 z1 stp hQ
  subst l1 y1 z1
  exact (K T' Lc v X' hQ).to fun t r => stp.trans r
theorem go_callV (X : Stand p l e R s m args below meth c T locs cells slots) (hx : p.tables.exec = Jvm.exec) (hZ : Z.Warmed39 s.vm) {own C : String} {index : Nat} {y : MethodName} {bytes : ByteArray} {maxL : Nat} {ret : Option FieldType} {rm : Room} {W : Nat} {Qc : Option Value → Heap → List Loc → Prop} {z : MethodName} (hown : s.vm.findClass own = some m.cls) (eT : T.heap = h)
    (w1 : (Jvm.Cond.methodLink own index y).before a0 Z = true) (w2 : (Jvm.Cond.declares y).before a0 Z = true) (hnf : NotFace s y) (w3 : (Jvm.Cond.selects C y z).before a0 Z = true) (w5 : (Jvm.Cond.instanceMethod z).before a0 Z = true) (w6 : (Jvm.Cond.initialized z.cls).before a0 Z = true) (w4 : (Jvm.Cond.code z bytes maxL ret).before a0 Z = true) (hy : y.cls ≠ "java/lang/invoke/MethodHandle" ∧ y.cls ≠ "java/lang/invoke/VarHandle")
    (a : Addr) (argsL rest : List Value) (E : Exa Z h a C) (hM : Con l z bytes maxL ret [] rm Z (.ref a :: argsL).toArray h Qc) (hsz : ls.size = c.maxLocals) (hst : st = argsL.reverse ++ .ref a :: rest) (hlen : ∀ sig, parseMethodDescriptor y.desc = some sig → argsL.length = sig.parameters.length) (hW : (rest.map fun v => v.category).sum ≤ W)
    (hf : rm.frames + 1 ≤ R.frames) (hl : W + (maxL + 11) + rm.locals ≤ R.locals) (hd : decode c.code pc = .ok (.invokevirtual index, 3)) (hp : pc + 3 = q) (hc : cells + rm.cells ≤ R.cells) (hs : slots + rm.slots ≤ R.slots)
    (K : ∀ (T' : State) (L : List Loc) (v : Option Value), Stand p l e R s m args below meth c T' (locs ++ L) (cells + rm.cells) (slots + rm.slots) → Qc v T'.heap L → Go p e below s Q ce sl T' (mkF m q ls (v.toList ++ rest))) : Go p e below s Q ce sl T (mkF m pc ls st) := by
  subst hp
  obtain ⟨cq, kq, qa, qb, qc⟩ := isOf hZ eT E
  obtain ⟨v, _, ⟨T', L', k', n'⟩, -, X', ⟨Lc, hQ, l1, y1, z1⟩, stp⟩ := X.virtualBack hx (y := y) (z := z) hown (mvT hZ w1) (mvT hZ w2) hnf (mvT hZ w3) (mvT hZ w5) hy (backOf (W := W) hM hZ w4 w6 hf hl) qa qc (g := mkF m pc ls st) rfl hsz (Steps.refl _) (argsL := argsL) (rest := rest) hlen hst (by show 2 * 0 + _ ≤ _; omega) hd (fun _ _ => ⟨rfl, eT, hc, hs⟩)
  dsimp only [Pt.U, Pt.locs, Pt.cells, Pt.slots] at X' l1 y1 z1 stp hQ
  subst l1 y1 z1
  exact (K T' Lc v X' hQ).to fun t r => stp.trans r
end OwnWalk

section OwnFloat
open Jvm.FP Jvm.FP.Core
/-- the datum with its exponent moved down by k -/
def sh (k : Int) : Datum → Datum
  | .fin s c q => .fin s c (q - k)
  | d => d
/-- the datum's value is i * 2^k -/
def Dy (k i : Int) (d : Datum) : Prop := Whole i (sh k d)
theorem dy_zero_iff {i : Int} {d : Datum} : Dy 0 i d ↔ Whole i d := by
  cases d <;> simp [Dy, sh]
theorem sh_sum (k : Int) (x y : Datum) : exactSum (sh k x) (sh k y) = sh k (exactSum x y) := by
  cases x <;> cases y <;> try rfl
  · rename_i a b; by_cases q : a = b <;> simp [sh, exactSum, q]
  · rename_i s c q t d r
    have e1 : min (q - k) (r - k) = min q r - k := by omega
    have e2 : q - k - (min q r - k) = q - min q r := by omega
    have e3 : r - k - (min q r - k) = r - min q r := by omega
    simp [sh, exactSum, sumUnits, inUnits, e1, e2, e3]
theorem sh_product (k l : Int) {x y : Datum} {s t : Bool} {c d : Nat} {q r : Int} (hx : x = .fin s c q) (hy : y = .fin t d r) : exactProduct (sh k x) (sh l y) = sh (k + l) (exactProduct x y) := by
  subst hx hy
  have e1 : q - k + (r - l) = q + r - (k + l) := by omega
  simp [sh, exactProduct, e1]
theorem sh_negate (k : Int) (x : Datum) : negate (sh k x) = sh k (negate x) := by cases x <;> rfl
theorem sh_order (k : Int) (x y : Datum) : order (sh k x) (sh k y) = order x y := by
  cases x <;> cases y <;> try rfl
  rename_i s c q t d r
  have e1 : min (q - k) (r - k) = min q r - k := by omega
  have e2 : q - k - (min q r - k) = q - min q r := by omega
  have e3 : r - k - (min q r - k) = r - min q r := by omega
  simp [sh, order, inUnits, e1, e2, e3]
theorem dy_fin {k i : Int} {d : Datum} (h : Dy k i d) : ∃ s c q, d = .fin s c q := by
  cases d with
  | nan => exact h.elim
  | inf s => exact h.elim
  | fin s c q => exact ⟨s, c, q, rfl⟩
theorem dy_sum {k i j : Int} {x y : Datum} (hx : Dy k i x) (hy : Dy k j y) : Dy k (i + j) (exactSum x y) := by
  unfold Dy; rw [← sh_sum]; exact whole_sum hx hy
theorem dy_negate {k i : Int} {x : Datum} (hx : Dy k i x) : Dy k (-i) (negate x) := by
  unfold Dy; rw [← sh_negate]; exact whole_negate hx
theorem dy_product {k l i j : Int} {x y : Datum} (hx : Dy k i x) (hy : Dy l j y) : Dy (k + l) (i * j) (exactProduct x y) := by
  obtain ⟨s, c, q, ex⟩ := dy_fin hx
  obtain ⟨t, d, r, ey⟩ := dy_fin hy
  unfold Dy; rw [← sh_product k l ex ey]; exact whole_product hx hy
theorem dy_order {k i j : Int} {x y : Datum} (hx : Dy k i x) (hy : Dy k j y) : order x y = some (compare i j) := by
  rw [← sh_order k]; exact order_whole hx hy
/-- c * 2^q and A * 2^k are alike: by differences, or with both exponents raised -/
theorem p2 {c A : Nat} {q k : Int} (N : Nat) (h1 : 0 ≤ q + N) (h2 : 0 ≤ k + N) : c * 2 ^ (q - k).toNat = A * 2 ^ (k - q).toNat ↔ c * 2 ^ (q + N).toNat = A * 2 ^ (k + N).toNat := by
  rcases Int.le_total q k with hqk | hqk
  · have e1 : (q - k).toNat = 0 := by omega
    have e2 : (k + N).toNat = (k - q).toNat + (q + N).toNat := by omega
    rw [e1, e2, Nat.pow_zero, Nat.mul_one, Nat.pow_add, ← Nat.mul_assoc]
    exact ⟨fun h => by rw [h], fun h => Nat.eq_of_mul_eq_mul_right (Nat.two_pow_pos _) h⟩
  · have e1 : (k - q).toNat = 0 := by omega
    have e2 : (q + N).toNat = (q - k).toNat + (k + N).toNat := by omega
    rw [e1, e2, Nat.pow_zero, Nat.mul_one, Nat.pow_add, ← Nat.mul_assoc]
    exact ⟨fun h => by rw [h], fun h => Nat.eq_of_mul_eq_mul_right (Nat.two_pow_pos _) h⟩
theorem dy_abs {k i : Int} {s : Bool} {c : Nat} {q : Int} (h : Dy k i (.fin s c q)) : c * 2 ^ (q - k).toNat = i.natAbs * 2 ^ (k - q).toNat := by
  have h' : signed s (c * 2 ^ (q - k).toNat) = i * ((2 ^ (-(q - k)).toNat : Nat) : Int) := h
  have e := congrArg Int.natAbs h'
  rw [natAbs_signed, Int.natAbs_mul, Int.natAbs_natCast, show -(q - k) = k - q by omega] at e
  exact e
theorem dy_sgn {k i : Int} {s : Bool} {c : Nat} {q : Int} (h : Dy k i (.fin s c q)) : signed s i.natAbs = i := by
  have h' : signed s (c * 2 ^ (q - k).toNat) = i * ((2 ^ (-(q - k)).toNat : Nat) : Int) := h
  rw [dy_abs h, signed_mul, show -(q - k) = k - q by omega] at h'
  exact Int.eq_of_mul_eq_mul_right (by have := Nat.two_pow_pos (k - q).toNat; omega) h'
theorem dy_mk {k i : Int} {s : Bool} {c : Nat} {q : Int} (h1 : c * 2 ^ (q - k).toNat = i.natAbs * 2 ^ (k - q).toNat) (h2 : signed s i.natAbs = i) : Dy k i (.fin s c q) := by
  show signed s (c * 2 ^ (q - k).toNat) = i * ((2 ^ (-(q - k)).toNat : Nat) : Int)
  rw [h1, signed_mul, h2, show -(q - k) = k - q by omega]
theorem dy_of_units {k i : Int} {s : Bool} {c' : Nat} {q' : Int} (hq : -1074 ≤ q') (hk : -1074 ≤ k) (e2 : inUnits c' q' (-1074) = inUnits i.natAbs k (-1074)) (h2 : signed s i.natAbs = i) : Dy k i (.fin s c' q') := by
  refine dy_mk ?_ h2
  rw [p2 1074 (by omega) (by omega)]
  unfold inUnits at e2
  rw [show q' - -1074 = q' + (1074 : Nat) by omega, show k - -1074 = k + (1074 : Nat) by omega] at e2
  exact e2
theorem dy_roundRatio {k m : Int} {S : Bool} {c d : Nat} {e : Int} (hd : 0 < d) (h : c * 2 ^ (e - k).toNat = m.natAbs * d * 2 ^ (k - e).toNat) (hm : m.natAbs < 2 ^ 53) (k1 : -1074 ≤ k) (k2 : k ≤ 971) (h2 : signed S m.natAbs = m) : Dy k m (roundRatio b64 S c d e) := by
  have hr : roundRatio b64 S c d e = round b64 (.fin S m.natAbs k) := roundRatio_congr (A := c) (B := d) (A' := m.natAbs) (B' := 1) (e := e) (e' := k) hd (by decide) (by rw [Nat.mul_one]; exact h)
  obtain ⟨c', q', e1, e2⟩ := round_exact good_b64 S (c := m.natAbs) (q := k) hm (by rw [qmin_b64]; exact k1) (by show k ≤ 971; exact k2)
  have hf : Core.fits b64 (.fin S c' q') := by rw [← e1]; exact round_fits good_b64 _
  have hq : -1074 ≤ q' := by have := hf.2.1; rw [qmin_b64] at this; exact this
  rw [hr, e1]
  rw [qmin_b64] at e2
  exact dy_of_units hq k1 e2 h2
theorem dy_round {k i : Int} {d : Datum} (h : Dy k i d) (hi : i.natAbs < 2 ^ 53) (k1 : -1074 ≤ k) (k2 : k ≤ 971) : Dy k i (round b64 d) := by
  obtain ⟨s, c, q, rfl⟩ := dy_fin h
  exact dy_roundRatio (d := 1) (by decide) (by rw [Nat.mul_one]; exact dy_abs h) hi k1 k2 (dy_sgn h)
theorem signed_xor1 (s t : Bool) (a b : Nat) : signed (s != t) (a * b) = signed s a * signed t b := signed_xor s t a b
theorem dy_quotient {k l i j m : Int} {x y : Datum} (hx : Dy k i x) (hy : Dy l j y) (hj : j ≠ 0) (hm : i = m * j) (hb : m.natAbs < 2 ^ 53) (k1 : -1074 ≤ k - l) (k2 : k - l ≤ 971) : Dy (k - l) m (quotient b64 x y) := by
  obtain ⟨s, c, q, rfl⟩ := dy_fin hx
  obtain ⟨t, d, r, rfl⟩ := dy_fin hy
  have a1 := dy_abs hx
  have a2 := dy_abs hy
  have jpos : 0 < j.natAbs := by omega
  have dpos : 0 < d := by
    rcases Nat.eq_zero_or_pos d with rfl | h
    · rw [Nat.zero_mul] at a2
      have := Nat.mul_pos jpos (Nat.two_pow_pos (l - r).toNat)
      omega
    · exact h
  have ea : i.natAbs = m.natAbs * j.natAbs := by rw [hm, Int.natAbs_mul]
  show Dy (k - l) m (if d = 0 then (if c = 0 then .nan else .inf (s != t)) else roundRatio b64 (s != t) c d (q - r))
  rw [if_neg (by omega)]
  refine dy_roundRatio dpos ?_ hb k1 k2 ?_
  · have N : Nat := 0
    obtain ⟨M, hM⟩ : ∃ M : Nat, 0 ≤ q + M ∧ 0 ≤ k + M ∧ 0 ≤ r + M ∧ 0 ≤ l + M := ⟨q.natAbs + k.natAbs + r.natAbs + l.natAbs, by omega, by omega, by omega, by omega⟩
    rw [p2 M hM.1 hM.2.1] at a1
    rw [p2 M hM.2.2.1 hM.2.2.2] at a2
    have e1 : q - r - (k - l) = (q + l) - (k + r) := by omega
    have e2 : k - l - (q - r) = (k + r) - (q + l) := by omega
    rw [e1, e2, p2 (2 * M) (by omega) (by omega)]
    have f1 : (q + l + ((2 * M : Nat) : Int)).toNat = (q + M).toNat + (l + M).toNat := by omega
    have f2 : (k + r + ((2 * M : Nat) : Int)).toNat = (k + M).toNat + (r + M).toNat := by omega
    rw [f1, f2, Nat.pow_add, Nat.pow_add]
    refine Nat.eq_of_mul_eq_mul_right jpos ?_
    calc c * (2 ^ (q + M).toNat * 2 ^ (l + M).toNat) * j.natAbs
        = (c * 2 ^ (q + M).toNat) * (j.natAbs * 2 ^ (l + M).toNat) := by ac_rfl
      _ = (i.natAbs * 2 ^ (k + M).toNat) * (d * 2 ^ (r + M).toNat) := by rw [a1, a2]
      _ = m.natAbs * d * (2 ^ (k + M).toNat * 2 ^ (r + M).toNat) * j.natAbs := by rw [ea]; ac_rfl
  · have s1 := dy_sgn hx
    have s2 := dy_sgn hy
    have s3 : signed (s != t) (i.natAbs * j.natAbs) = i * j := by rw [signed_xor, s1, s2]
    have e3 : i.natAbs * j.natAbs = m.natAbs * (j.natAbs * j.natAbs) := by rw [ea, Nat.mul_assoc]
    rw [e3, signed_mul, Int.natAbs_mul_self, hm, Int.mul_assoc] at s3
    exact Int.eq_of_mul_eq_mul_right (Int.mul_ne_zero hj hj) s3
theorem dy_scale {k i : Int} {d : Datum} (h : Dy k i d) (n : Nat) : Dy (k - n) (i * 2 ^ n) d := by
  obtain ⟨s, c, q, rfl⟩ := dy_fin h
  have a1 := dy_abs h
  have s1 := dy_sgn h
  have e0 : (i * 2 ^ n).natAbs = i.natAbs * 2 ^ n := by rw [Int.natAbs_mul, Int.natAbs_pow]; rfl
  refine dy_mk ?_ ?_
  · obtain ⟨M, h1, h2⟩ : ∃ M : Nat, 0 ≤ q + M ∧ 0 ≤ k - n + M := ⟨q.natAbs + k.natAbs + n, by omega, by omega⟩
    rw [p2 M h1 (by omega)] at a1
    rw [p2 M h1 h2, a1, e0]
    have : (k + (M : Int)).toNat = n + (k - n + M).toNat := by omega
    rw [this, Nat.pow_add, Nat.mul_assoc]
  · rw [e0, signed_mul, s1]; congr 1
/-- the double x is worth i * 2^k, and |i| is at most A -/
def DB (k : Int) (A : Nat) (i : Int) (x : UInt64) : Prop := Dy k i (val64 x) ∧ i.natAbs ≤ A
theorem DB.fin {k i : Int} {A : Nat} {x : UInt64} (h : DB k A i x) : DFin x := dy_fin h.1
theorem DB.nn {k i : Int} {A : Nat} {x : UInt64} (h : DB k A i x) : Jvm.Free.Fl.NoNaN64 x := Jvm.Free.Fl.noNaN64_no.mpr h.fin.notNaN
theorem DB.le {k i : Int} {A B : Nat} {x : UInt64} (h : DB k A i x) (hb : i.natAbs ≤ B) : DB k B i x := ⟨h.1, hb⟩
theorem DB.eqv {k i j : Int} {A : Nat} {x : UInt64} (h : DB k A i x) (e : i = j) : DB k A j x := e ▸ h
theorem db_add {k i j : Int} {A B : Nat} {x y : UInt64} (hx : DB k A i x) (hy : DB k B j y) (hA : A + B < 9007199254740992) (k1 : -1074 ≤ k) (k2 : k ≤ 971) : DB k (A + B) (i + j) (FP.dadd x y) := by
  have h1 := hx.2; have h2 := hy.2
  have hb : (i + j).natAbs ≤ A + B := by omega
  refine ⟨?_, hb⟩
  show Dy k (i + j) (val64 (Core.dadd x y))
  rw [val64_dadd]; exact dy_round (dy_sum hx.1 hy.1) (by omega) k1 k2
theorem db_sub {k i j : Int} {A B : Nat} {x y : UInt64} (hx : DB k A i x) (hy : DB k B j y) (hA : A + B < 9007199254740992) (k1 : -1074 ≤ k) (k2 : k ≤ 971) : DB k (A + B) (i - j) (FP.dsub x y) := by
  have h1 := hx.2; have h2 := hy.2
  have hb : (i - j).natAbs ≤ A + B := by omega
  refine ⟨?_, hb⟩
  show Dy k (i - j) (val64 (Core.dsub x y))
  rw [val64_dsub]; exact dy_round (by rw [Int.sub_eq_add_neg]; exact dy_sum hx.1 (dy_negate hy.1)) (by omega) k1 k2
theorem db_mul {k l i j : Int} {A B : Nat} {x y : UInt64} (hx : DB k A i x) (hy : DB l B j y) (hA : A * B < 9007199254740992) (k1 : -1074 ≤ k + l) (k2 : k + l ≤ 971) : DB (k + l) (A * B) (i * j) (FP.dmul x y) := by
  have hb : (i * j).natAbs ≤ A * B := by rw [Int.natAbs_mul]; exact Nat.mul_le_mul hx.2 hy.2
  refine ⟨?_, hb⟩
  show Dy (k + l) (i * j) (val64 (Core.dmul x y))
  rw [val64_dmul]; exact dy_round (dy_product hx.1 hy.1) (by omega) k1 k2
theorem db_div {k l i j : Int} {A B : Nat} {x y : UInt64} (m : Int) (hx : DB k A i x) (hy : DB l B j y) (hj : j ≠ 0) (hm : i = m * j) (hA : A < 9007199254740992) (k1 : -1074 ≤ k - l) (k2 : k - l ≤ 971) : DB (k - l) A m (FP.ddiv x y) := by
  have h1 : m.natAbs ≤ i.natAbs := by rw [hm, Int.natAbs_mul]; exact Nat.le_mul_of_pos_right _ (by omega)
  have h2 := hx.2
  refine ⟨?_, by omega⟩
  show Dy (k - l) m (val64 (Core.ddiv x y))
  rw [val64_ddiv]; exact dy_quotient hx.1 hy.1 hj hm (by omega) k1 k2
theorem DB.scale {k i : Int} {A : Nat} {x : UInt64} (h : DB k A i x) (n : Nat) : DB (k - n) (A * 2 ^ n) (i * 2 ^ n) x :=
  ⟨dy_scale h.1 n, by rw [Int.natAbs_mul, Int.natAbs_pow]; exact Nat.mul_le_mul_right _ h.2⟩
theorem db_i2d (v : Int32) : DB 0 2147483648 v.toInt (FP.i2d v) := ⟨dy_zero_iff.mpr (i2d_int v), by have := Int32.toInt_lt v; have := Int32.le_toInt v; omega⟩
theorem db_i2d' {v : Int32} {A : Nat} (h : v.toInt.natAbs ≤ A) : DB 0 A v.toInt (FP.i2d v) := (db_i2d v).le h
theorem db_l2d {v : Int64} {A : Nat} (h : v.toInt.natAbs ≤ A) (hA : A ≤ 9007199254740992) : DB 0 A v.toInt (FP.l2d v) := ⟨dy_zero_iff.mpr (l2d_int (by omega)), h⟩
theorem db_dcmp {k i j : Int} {A B : Nat} {x y : UInt64} (hx : DB k A i x) (hy : DB k B j y) : FP.dcmp x y = some (compare i j) := dy_order hx.1 hy.1
theorem db_cv {k i j : Int} {A B : Nat} {x y : UInt64} (hx : DB k A i x) (hy : DB k B j y) (o : CmpOp) : cmpValue (FP.dcmp x y) o = if i < j then -1 else if i = j then 0 else 1 := by
  rw [db_dcmp hx hy, compare_ite]
  by_cases h1 : i < j
  · simp [h1]; rfl
  · by_cases h2 : i = j
    · simp [h2]; rfl
    · simp [h1, h2]; rfl
theorem db_lt {k i j : Int} {A B : Nat} {x y : UInt64} (hx : DB k A i x) (hy : DB k B j y) (o : CmpOp) : cmpValue (FP.dcmp x y) o < 0 ↔ i < j := by
  rw [db_cv hx hy]
  by_cases h1 : i < j
  · simp [h1]
  · by_cases h2 : i = j
    · simp [h2]
    · simp [h1, h2]
theorem db_gt {k i j : Int} {A B : Nat} {x y : UInt64} (hx : DB k A i x) (hy : DB k B j y) (o : CmpOp) : 0 < cmpValue (FP.dcmp x y) o ↔ j < i := by
  rw [db_cv hx hy]
  by_cases h1 : i < j
  · simp [h1, show ¬ j < i by omega]
  · by_cases h2 : i = j
    · simp [h2]
    · simp [h1, h2, show j < i by omega]
theorem db_eq {k i j : Int} {A B : Nat} {x y : UInt64} (hx : DB k A i x) (hy : DB k B j y) (o : CmpOp) : cmpValue (FP.dcmp x y) o = 0 ↔ i = j := by
  rw [db_cv hx hy]
  by_cases h1 : i < j
  · simp [h1, show ¬ i = j by omega]
  · by_cases h2 : i = j
    · simp [h2]
    · simp [h1, h2]
theorem db_c0 : DB 0 0 0 0 := ⟨by rw [show val64 0 = .fin false 0 (-1074) by decide +kernel]; exact dy_mk (by simp) rfl, by decide⟩
theorem db_c1 : DB 0 1 1 4607182418800017408 := ⟨by rw [show val64 4607182418800017408 = .fin false (2 ^ 52) (-52) by decide +kernel]; exact dy_mk (by decide +kernel) rfl, by decide⟩
theorem db_c2 : DB 0 2 2 4611686018427387904 := ⟨by rw [show val64 4611686018427387904 = .fin false (2 ^ 52) (-51) by decide +kernel]; exact dy_mk (by decide +kernel) rfl, by decide⟩
end OwnFloat

section OwnFloatGo
variable {p : Program} {l : Launch} {e : Env} {R : Room} {s : State} {m : MethodId} {args : Array Value} {below : List Frame} {meth : Method} {c : Code} {T : State} {locs : List Loc} {cells slots : Nat} {Z : State} {h : Heap} {Q : Option Value → Heap → List Loc → Prop} {ce sl : Nat} {pc q q' : Nat} {ls : Array Slot} {st : List Value} {a0 : Array Value}
theorem go_i2dB (X : Stand p l e R s m args below meth c T locs cells slots) (hx : p.tables.exec = Jvm.exec) {x : Int32} {A : Nat} {i : Int} (hd : decode c.code pc = .ok (.i2d, 1)) (hp : pc + 1 = q) (hA : DB 0 A i (FP.i2d x)) (K : ∀ z, DB 0 A i z → Go p e below s Q ce sl T (mkF m q ls (.double z :: st))) : Go p e below s Q ce sl T (mkF m pc ls (.int x :: st)) :=
  go_i2d X hx hd hp rfl (K _ hA)
theorem go_l2dB (X : Stand p l e R s m args below meth c T locs cells slots) (hx : p.tables.exec = Jvm.exec) {x : Int64} {A : Nat} {i : Int} (hd : decode c.code pc = .ok (.l2d, 1)) (hp : pc + 1 = q) (hA : DB 0 A i (FP.l2d x)) (K : ∀ z, DB 0 A i z → Go p e below s Q ce sl T (mkF m q ls (.double z :: st))) : Go p e below s Q ce sl T (mkF m pc ls (.long x :: st)) :=
  go_l2d X hx hd hp rfl (K _ hA)
theorem go_f2dB (X : Stand p l e R s m args below meth c T locs cells slots) (hx : p.tables.exec = Jvm.exec) {x : UInt32} {A : Nat} {i : Int} (hd : decode c.code pc = .ok (.f2d, 1)) (hp : pc + 1 = q) (hA : DB 0 A i (FP.f2d x)) (K : ∀ z, DB 0 A i z → Go p e below s Q ce sl T (mkF m q ls (.double z :: st))) : Go p e below s Q ce sl T (mkF m pc ls (.float x :: st)) :=
  go_f2d X hx hd hp hA.nn rfl (K _ hA)
theorem go_daddB (X : Stand p l e R s m args below meth c T locs cells slots) (hx : p.tables.exec = Jvm.exec) {x y : UInt64} {k i j : Int} {A B C : Nat} (hd : decode c.code pc = .ok (.dadd, 1)) (hp : pc + 1 = q) (hA : DB k A i x) (hB : DB k B j y) (b1 : A + B < 9007199254740992) (k1 : -1074 ≤ k) (k2 : k ≤ 971) (hC : A + B = C) (K : ∀ z, DB k C (i + j) z → Go p e below s Q ce sl T (mkF m q ls (.double z :: st))) : Go p e below s Q ce sl T (mkF m pc ls (.double y :: .double x :: st)) :=
  go_dadd X hx hd hp (db_add hA hB b1 k1 k2).nn rfl (K _ (hC ▸ db_add hA hB b1 k1 k2))
theorem go_dsubB (X : Stand p l e R s m args below meth c T locs cells slots) (hx : p.tables.exec = Jvm.exec) {x y : UInt64} {k i j : Int} {A B C : Nat} (hd : decode c.code pc = .ok (.dsub, 1)) (hp : pc + 1 = q) (hA : DB k A i x) (hB : DB k B j y) (b1 : A + B < 9007199254740992) (k1 : -1074 ≤ k) (k2 : k ≤ 971) (hC : A + B = C) (K : ∀ z, DB k C (i - j) z → Go p e below s Q ce sl T (mkF m q ls (.double z :: st))) : Go p e below s Q ce sl T (mkF m pc ls (.double y :: .double x :: st)) :=
  go_dsub X hx hd hp (db_sub hA hB b1 k1 k2).nn rfl (K _ (hC ▸ db_sub hA hB b1 k1 k2))
theorem go_dmulB (X : Stand p l e R s m args below meth c T locs cells slots) (hx : p.tables.exec = Jvm.exec) {x y : UInt64} {k k' kk i j : Int} {A B C : Nat} (hd : decode c.code pc = .ok (.dmul, 1)) (hp : pc + 1 = q) (hA : DB k A i x) (hB : DB k' B j y) (b1 : A * B < 9007199254740992) (k1 : -1074 ≤ k + k') (k2 : k + k' ≤ 971) (hk : k + k' = kk) (hC : A * B = C) (K : ∀ z, DB kk C (i * j) z → Go p e below s Q ce sl T (mkF m q ls (.double z :: st))) : Go p e below s Q ce sl T (mkF m pc ls (.double y :: .double x :: st)) :=
  go_dmul X hx hd hp (db_mul hA hB b1 k1 k2).nn rfl (K _ (hC ▸ hk ▸ db_mul hA hB b1 k1 k2))
theorem go_ddivB (X : Stand p l e R s m args below meth c T locs cells slots) (hx : p.tables.exec = Jvm.exec) {x y : UInt64} {k k' kk i j w0 : Int} {A B : Nat} (hd : decode c.code pc = .ok (.ddiv, 1)) (hp : pc + 1 = q) (hA : DB k A i x) (hB : DB k' B j y) (hj : j ≠ 0) (hm : i = w0 * j) (b1 : A < 9007199254740992) (k1 : -1074 ≤ k - k') (k2 : k - k' ≤ 971) (hk : k - k' = kk) (K : ∀ z, DB kk A w0 z → Go p e below s Q ce sl T (mkF m q ls (.double z :: st))) : Go p e below s Q ce sl T (mkF m pc ls (.double y :: .double x :: st)) :=
  go_ddiv X hx hd hp (db_div w0 hA hB hj hm b1 k1 k2).nn rfl (K _ (hk ▸ db_div w0 hA hB hj hm b1 k1 k2))
theorem go_dif_lt (X : Stand p l e R s m args below meth c T locs cells slots) (hx : p.tables.exec = Jvm.exec) {x y : UInt64} {k i j : Int} {A B : Nat} {cm : CmpOp} {o : Int} (hd : decode c.code pc = .ok (.ifCond .lt o, 3)) (hp : pc + 3 = q) (ho : 0 ≤ (pc : Int) + o) (hq : ((pc : Int) + o).toNat = q') (hA : DB k A i x) (hB : DB k B j y) (KY : i < j → Go p e below s Q ce sl T (mkF m q' ls st)) (KN : ¬ i < j → Go p e below s Q ce sl T (mkF m q ls st)) : Go p e below s Q ce sl T (mkF m pc ls (.int (cmpValue (FP.dcmp x y) cm) :: st)) :=
  go_if_lt X hx hd hp ho hq (fun w => KY ((db_lt hA hB _).mp w)) (fun w => KN (fun z => w ((db_lt hA hB _).mpr z)))
theorem go_dif_ge (X : Stand p l e R s m args below meth c T locs cells slots) (hx : p.tables.exec = Jvm.exec) {x y : UInt64} {k i j : Int} {A B : Nat} {cm : CmpOp} {o : Int} (hd : decode c.code pc = .ok (.ifCond .ge o, 3)) (hp : pc + 3 = q) (ho : 0 ≤ (pc : Int) + o) (hq : ((pc : Int) + o).toNat = q') (hA : DB k A i x) (hB : DB k B j y) (KY : ¬ i < j → Go p e below s Q ce sl T (mkF m q' ls st)) (KN : i < j → Go p e below s Q ce sl T (mkF m q ls st)) : Go p e below s Q ce sl T (mkF m pc ls (.int (cmpValue (FP.dcmp x y) cm) :: st)) :=
  go_if_ge X hx hd hp ho hq (fun w => KY (fun z => w ((db_lt hA hB _).mpr z))) (fun w => KN ((db_lt hA hB _).mp w))
theorem go_dif_gt (X : Stand p l e R s m args below meth c T locs cells slots) (hx : p.tables.exec = Jvm.exec) {x y : UInt64} {k i j : Int} {A B : Nat} {cm : CmpOp} {o : Int} (hd : decode c.code pc = .ok (.ifCond .gt o, 3)) (hp : pc + 3 = q) (ho : 0 ≤ (pc : Int) + o) (hq : ((pc : Int) + o).toNat = q') (hA : DB k A i x) (hB : DB k B j y) (KY : j < i → Go p e below s Q ce sl T (mkF m q' ls st)) (KN : ¬ j < i → Go p e below s Q ce sl T (mkF m q ls st)) : Go p e below s Q ce sl T (mkF m pc ls (.int (cmpValue (FP.dcmp x y) cm) :: st)) :=
  go_if_gt X hx hd hp ho hq (fun w => KY ((db_gt hA hB _).mp w)) (fun w => KN (fun z => w ((db_gt hA hB _).mpr z)))
theorem go_dif_le (X : Stand p l e R s m args below meth c T locs cells slots) (hx : p.tables.exec = Jvm.exec) {x y : UInt64} {k i j : Int} {A B : Nat} {cm : CmpOp} {o : Int} (hd : decode c.code pc = .ok (.ifCond .le o, 3)) (hp : pc + 3 = q) (ho : 0 ≤ (pc : Int) + o) (hq : ((pc : Int) + o).toNat = q') (hA : DB k A i x) (hB : DB k B j y) (KY : ¬ j < i → Go p e below s Q ce sl T (mkF m q' ls st)) (KN : j < i → Go p e below s Q ce sl T (mkF m q ls st)) : Go p e below s Q ce sl T (mkF m pc ls (.int (cmpValue (FP.dcmp x y) cm) :: st)) :=
  go_if_le X hx hd hp ho hq (fun w => KY (fun z => w ((db_gt hA hB _).mpr z))) (fun w => KN ((db_gt hA hB _).mp w))
theorem go_dif_eq (X : Stand p l e R s m args below meth c T locs cells slots) (hx : p.tables.exec = Jvm.exec) {x y : UInt64} {k i j : Int} {A B : Nat} {cm : CmpOp} {o : Int} (hd : decode c.code pc = .ok (.ifCond .eq o, 3)) (hp : pc + 3 = q) (ho : 0 ≤ (pc : Int) + o) (hq : ((pc : Int) + o).toNat = q') (hA : DB k A i x) (hB : DB k B j y) (KY : i = j → Go p e below s Q ce sl T (mkF m q' ls st)) (KN : ¬ i = j → Go p e below s Q ce sl T (mkF m q ls st)) : Go p e below s Q ce sl T (mkF m pc ls (.int (cmpValue (FP.dcmp x y) cm) :: st)) :=
  go_if_eq X hx hd hp ho hq (fun w => KY ((db_eq hA hB _).mp w)) (fun w => KN (fun z => w ((db_eq hA hB _).mpr z)))
theorem go_dif_ne (X : Stand p l e R s m args below meth c T locs cells slots) (hx : p.tables.exec = Jvm.exec) {x y : UInt64} {k i j : Int} {A B : Nat} {cm : CmpOp} {o : Int} (hd : decode c.code pc = .ok (.ifCond .ne o, 3)) (hp : pc + 3 = q) (ho : 0 ≤ (pc : Int) + o) (hq : ((pc : Int) + o).toNat = q') (hA : DB k A i x) (hB : DB k B j y) (KY : ¬ i = j → Go p e below s Q ce sl T (mkF m q' ls st)) (KN : i = j → Go p e below s Q ce sl T (mkF m q ls st)) : Go p e below s Q ce sl T (mkF m pc ls (.int (cmpValue (FP.dcmp x y) cm) :: st)) :=
  go_if_ne X hx hd hp ho hq (fun w => KY (fun z => w ((db_eq hA hB _).mpr z))) (fun w => KN ((db_eq hA hB _).mp w))
end OwnFloatGo

theorem own_sc3 {A : Nat} {i : Int} {x : UInt64} (h : DB 0 A i x) : DB (-3) (A * 8) (i * 8) x := h.scale 3
theorem own_0m3 : DB (-3) 0 0 0 := ⟨by rw [show FP.Core.val64 0 = .fin false 0 (-1074) by decide +kernel]; exact dy_mk (by simp) rfl, by decide⟩
theorem own_1m3 : DB (-3) 8 8 4607182418800017408 := own_sc3 db_c1
theorem own_c8 : DB 3 1 1 4620693217682128896 := ⟨by rw [show FP.Core.val64 4620693217682128896 = .fin false (2 ^ 52) (-49) by decide +kernel]; exact dy_mk (by decide +kernel) rfl, by decide⟩
theorem own_sh21 (y : Int32) : (y >>> ((21 : Int32) &&& 31)).toInt.natAbs ≤ 1024 := by
  rw [c_ishr y 21 21 (by decide), show ((2 ^ 21 : Nat) : Int) = 2097152 from rfl]; have := rng32 y; omega
theorem own_k (y : Int32) : -8 ≤ ((y &&& (31 : Int32)) - (8 : Int32)).toInt ∧ ((y &&& (31 : Int32)) - (8 : Int32)).toInt ≤ 23 := by
  have h1 := c_and y 31 (by decide); have h2 := c_isub (y &&& 31) 8; have h3 := rng32 ((y &&& 31) - 8)
  have e1 : (31 : Int32).toInt = 31 := rfl
  have e2 : (8 : Int32).toInt = 8 := rfl
  omega
theorem own_mulb {a b : Int} {A B : Nat} (ha : a.natAbs ≤ A) (hb : b.natAbs ≤ B) : (a * b).natAbs ≤ A * B := by rw [Int.natAbs_mul]; exact Nat.mul_le_mul ha hb
theorem own_mul64 {a b : Int32} (h : (a.toInt * b.toInt).natAbs ≤ 4611686018427387904) : (a.toInt64 * b.toInt64).toInt = a.toInt * b.toInt := by
  rw [Int64.toInt_mul, Int32.toInt_toInt64, Int32.toInt_toInt64]; exact Int.bmod_eq_of_le (by omega) (by omega)
theorem own_lin {a k u j v : Int32} (hk : k.toInt.natAbs ≤ 31) (hu : u.toInt.natAbs ≤ 1024) (hj : j.toInt.natAbs ≤ 31) (hv : v.toInt.natAbs ≤ 1024) :
    (a.toInt64 + k.toInt64 * u.toInt64 - j.toInt64 * v.toInt64).toInt = a.toInt + k.toInt * u.toInt - j.toInt * v.toInt ∧ (a.toInt64 + k.toInt64 * u.toInt64 - j.toInt64 * v.toInt64).toInt.natAbs ≤ 2147547136 := by
  have m1 := own_mulb hk hu; have m2 := own_mulb hj hv; have ra := rng32 a
  have e1 := own_mul64 (a := k) (b := u) (by omega); have e2 := own_mul64 (a := j) (b := v) (by omega)
  have e3 := c_ladd a.toInt64 (k.toInt64 * u.toInt64); have e4 := c_lsub (a.toInt64 + k.toInt64 * u.toInt64) (j.toInt64 * v.toInt64)
  have r3 := rng64 (a.toInt64 + k.toInt64 * u.toInt64); have r4 := rng64 (a.toInt64 + k.toInt64 * u.toInt64 - j.toInt64 * v.toInt64)
  rw [c_i2l] at e3
  omega
theorem own_8 {u : Int32} (h : u.toInt.natAbs ≤ 1024) : ((8 : Int32) * u).toInt = 8 * u.toInt := by
  have h1 := c_imul 8 u; have h2 := rng32 (8 * u); have e2 : (8 : Int32).toInt = 8 := rfl
  rw [e2] at h1; omega
theorem own_cr {a b c d : Int32} (ha : a.toInt.natAbs ≤ 1024) (hb : b.toInt.natAbs ≤ 1024) (hc : c.toInt.natAbs ≤ 1024) (hd : d.toInt.natAbs ≤ 1024) : (a.toInt64 * b.toInt64 - c.toInt64 * d.toInt64).toInt = a.toInt * b.toInt - c.toInt * d.toInt := by
  have m1 := own_mulb ha hb; have m2 := own_mulb hc hd
  have e1 := own_mul64 (a := a) (b := b) (by omega); have e2 := own_mul64 (a := c) (b := d) (by omega)
  have e4 := c_lsub (a.toInt64 * b.toInt64) (c.toInt64 * d.toInt64); have r4 := rng64 (a.toInt64 * b.toInt64 - c.toInt64 * d.toInt64)
  omega

theorem pd_0 : parseMethodDescriptor "(DDDDDDDD)D" = some ⟨[.double, .double, .double, .double, .double, .double, .double, .double], some .double⟩ := by decide +kernel
theorem d1_0 : decode prog_28_method_9_code 0 = .ok (.dload 4, 2) := by decide +kernel
theorem d1_2 : decode prog_28_method_9_code 2 = .ok (.dload 14, 2) := by decide +kernel
theorem d1_4 : decode prog_28_method_9_code 4 = .ok (.dmul, 1) := by decide +kernel
theorem d1_5 : decode prog_28_method_9_code 5 = .ok (.dload 6, 2) := by decide +kernel
theorem d1_7 : decode prog_28_method_9_code 7 = .ok (.dload 12, 2) := by decide +kernel
theorem d1_9 : decode prog_28_method_9_code 9 = .ok (.dmul, 1) := by decide +kernel
theorem d1_10 : decode prog_28_method_9_code 10 = .ok (.dsub, 1) := by decide +kernel
theorem d1_11 : decode prog_28_method_9_code 11 = .ok (.dstore 16, 2) := by decide +kernel
theorem d1_13 : decode prog_28_method_9_code 13 = .ok (.dload 16, 2) := by decide +kernel
theorem d1_15 : decode prog_28_method_9_code 15 = .ok (.dconst 0, 1) := by decide +kernel
theorem d1_16 : decode prog_28_method_9_code 16 = .ok (.dcmp .l, 1) := by decide +kernel
theorem d1_17 : decode prog_28_method_9_code 17 = .ok (.ifCond .ne 7, 3) := by decide +kernel
theorem d1_20 : decode prog_28_method_9_code 20 = .ok (.ldc2_w 207, 3) := by decide +kernel
theorem d1_23 : decode prog_28_method_9_code 23 = .ok (.dreturn, 1) := by decide +kernel
theorem d1_24 : decode prog_28_method_9_code 24 = .ok (.dload 8, 2) := by decide +kernel
theorem d1_26 : decode prog_28_method_9_code 26 = .ok (.dload_n 0, 1) := by decide +kernel
theorem d1_27 : decode prog_28_method_9_code 27 = .ok (.dsub, 1) := by decide +kernel
theorem d1_28 : decode prog_28_method_9_code 28 = .ok (.dload 14, 2) := by decide +kernel
theorem d1_30 : decode prog_28_method_9_code 30 = .ok (.dmul, 1) := by decide +kernel
theorem d1_31 : decode prog_28_method_9_code 31 = .ok (.dload 10, 2) := by decide +kernel
theorem d1_33 : decode prog_28_method_9_code 33 = .ok (.dload_n 2, 1) := by decide +kernel
theorem d1_34 : decode prog_28_method_9_code 34 = .ok (.dsub, 1) := by decide +kernel
theorem d1_35 : decode prog_28_method_9_code 35 = .ok (.dload 12, 2) := by decide +kernel
theorem d1_37 : decode prog_28_method_9_code 37 = .ok (.dmul, 1) := by decide +kernel
theorem d1_38 : decode prog_28_method_9_code 38 = .ok (.dsub, 1) := by decide +kernel
theorem d1_39 : decode prog_28_method_9_code 39 = .ok (.dload 16, 2) := by decide +kernel
theorem d1_41 : decode prog_28_method_9_code 41 = .ok (.ddiv, 1) := by decide +kernel
theorem d1_42 : decode prog_28_method_9_code 42 = .ok (.dstore 18, 2) := by decide +kernel
theorem d1_44 : decode prog_28_method_9_code 44 = .ok (.dload 8, 2) := by decide +kernel
theorem d1_46 : decode prog_28_method_9_code 46 = .ok (.dload_n 0, 1) := by decide +kernel
theorem d1_47 : decode prog_28_method_9_code 47 = .ok (.dsub, 1) := by decide +kernel
theorem d1_48 : decode prog_28_method_9_code 48 = .ok (.dload 6, 2) := by decide +kernel
theorem d1_50 : decode prog_28_method_9_code 50 = .ok (.dmul, 1) := by decide +kernel
theorem d1_51 : decode prog_28_method_9_code 51 = .ok (.dload 10, 2) := by decide +kernel
theorem d1_53 : decode prog_28_method_9_code 53 = .ok (.dload_n 2, 1) := by decide +kernel
theorem d1_54 : decode prog_28_method_9_code 54 = .ok (.dsub, 1) := by decide +kernel
theorem d1_55 : decode prog_28_method_9_code 55 = .ok (.dload 4, 2) := by decide +kernel
theorem d1_57 : decode prog_28_method_9_code 57 = .ok (.dmul, 1) := by decide +kernel
theorem d1_58 : decode prog_28_method_9_code 58 = .ok (.dsub, 1) := by decide +kernel
theorem d1_59 : decode prog_28_method_9_code 59 = .ok (.dload 16, 2) := by decide +kernel
theorem d1_61 : decode prog_28_method_9_code 61 = .ok (.ddiv, 1) := by decide +kernel
theorem d1_62 : decode prog_28_method_9_code 62 = .ok (.dstore 20, 2) := by decide +kernel
theorem d1_64 : decode prog_28_method_9_code 64 = .ok (.dload 18, 2) := by decide +kernel
theorem d1_66 : decode prog_28_method_9_code 66 = .ok (.dconst 0, 1) := by decide +kernel
theorem d1_67 : decode prog_28_method_9_code 67 = .ok (.dcmp .l, 1) := by decide +kernel
theorem d1_68 : decode prog_28_method_9_code 68 = .ok (.ifCond .lt 29, 3) := by decide +kernel
theorem d1_71 : decode prog_28_method_9_code 71 = .ok (.dload 18, 2) := by decide +kernel
theorem d1_73 : decode prog_28_method_9_code 73 = .ok (.dconst 1, 1) := by decide +kernel
theorem d1_74 : decode prog_28_method_9_code 74 = .ok (.dcmp .g, 1) := by decide +kernel
theorem d1_75 : decode prog_28_method_9_code 75 = .ok (.ifCond .gt 22, 3) := by decide +kernel
theorem d1_78 : decode prog_28_method_9_code 78 = .ok (.dload 20, 2) := by decide +kernel
theorem d1_80 : decode prog_28_method_9_code 80 = .ok (.dconst 0, 1) := by decide +kernel
theorem d1_81 : decode prog_28_method_9_code 81 = .ok (.dcmp .l, 1) := by decide +kernel
theorem d1_82 : decode prog_28_method_9_code 82 = .ok (.ifCond .lt 15, 3) := by decide +kernel
theorem d1_85 : decode prog_28_method_9_code 85 = .ok (.dload 20, 2) := by decide +kernel
theorem d1_87 : decode prog_28_method_9_code 87 = .ok (.dconst 1, 1) := by decide +kernel
theorem d1_88 : decode prog_28_method_9_code 88 = .ok (.dcmp .g, 1) := by decide +kernel
theorem d1_89 : decode prog_28_method_9_code 89 = .ok (.ifCond .gt 8, 3) := by decide +kernel
theorem d1_92 : decode prog_28_method_9_code 92 = .ok (.dload 18, 2) := by decide +kernel
theorem d1_94 : decode prog_28_method_9_code 94 = .ok (.goto 6, 3) := by decide +kernel
theorem d1_97 : decode prog_28_method_9_code 97 = .ok (.ldc2_w 207, 3) := by decide +kernel
theorem d1_100 : decode prog_28_method_9_code 100 = .ok (.dreturn, 1) := by decide +kernel
theorem pn_1 : plainName "com/example/orbweave/orbweave/plane/NoFit" = true := by first | (simp [plainName, overriddenIn]; done) | decide +kernel
theorem ef_1 (m : MethodId) (x0 : UInt64) (x1 : UInt64) (x2 : UInt64) (x3 : UInt64) (x4 : UInt64) (x5 : UInt64) (x6 : UInt64) (x7 : UInt64) : entryFrame m #[(.double x0), (.double x1), (.double x2), (.double x3), (.double x4), (.double x5), (.double x6), (.double x7)] 22 = mkF m 0 #[.val (.double x0), .second, .val (.double x1), .second, .val (.double x2), .second, .val (.double x3), .second, .val (.double x4), .second, .val (.double x5), .second, .val (.double x6), .second, .val (.double x7), .second, .unset, .unset, .unset, .unset, .unset, .unset] [] := by first | (simp [entryFrame, mkF, argsToLocals, Value.category]; done) | rfl
set_option maxRecDepth 65536 in
set_option maxHeartbeats 40000000 in
theorem rm1 (l : Launch) (Z : State) (a0 : Array Value) (hw : ∀ d ∈ tables_1, d.before a0 Z = true) (ws : List Jvm.Cond) (d0 : UInt64) (d1 : UInt64) (d2 : UInt64) (d3 : UInt64) (d4 : UInt64) (d5 : UInt64) (d6 : UInt64) (d7 : UInt64) (n0 n1 n2 n3 n4 n5 n6 n7 kk jj : Int) (h0 : Heap) (F0 : DB 0 2147483648 n0 d0) (F1 : DB 0 2147483648 n1 d1) (F2 : DB 0 8192 n2 d2) (F3 : DB 0 8192 n3 d3) (F4 : DB 0 2147547136 n4 d4) (F5 : DB 0 2147547136 n5 d5) (F6 : DB 0 8192 n6 d6) (F7 : DB 0 8192 n7 d7) (hkk : kk.natAbs ≤ 31) (hjj : jj.natAbs ≤ 31) (e1 : ((n4 - n0) * n7 - (n5 - n1) * n6) * 8 = kk * (n2 * n7 - n3 * n6)) (e2 : ((n4 - n0) * n3 - (n5 - n1) * n2) * 8 = jj * (n2 * n7 - n3 * n6)) :
    Con l (⟨"com/example/orbweave/orbweave/plane/NoFit", "crossing", "(DDDDDDDD)D"⟩ : MethodName) prog_28_method_9_code 22 (some .double) ws ({ frames := 0, cells := 0, slots := 0, locals := 0 } : Room) Z #[(.double d0), (.double d1), (.double d2), (.double d3), (.double d4), (.double d5), (.double d6), (.double d7)] h0 (fun v h L => ∃ r : UInt64, v = some (.double r) ∧ (((n2 * n7 - n3 * n6) ≠ 0 ∧ 0 ≤ kk ∧ kk ≤ 8 ∧ 0 ≤ jj ∧ jj ≤ 8) → DB (-3) 31 kk r) ∧ (¬ ((n2 * n7 - n3 * n6) ≠ 0 ∧ 0 ≤ kk ∧ kk ≤ 8 ∧ 0 ≤ jj ∧ jj ≤ 8) → r = 9221120237041090560) ∧ L = [] ∧ h = h0) := by
  refine con_of (plainFor_of_name pn_1) ?_
  intro p e s m below meth c s₁ X0 hx hby hml hret hlk hown hnm hZ e0
  refine Go.cast (ef_1 m d0 d1 d2 d3 d4 d5 d6 d7) ?_
  refine go_dload (q := 2) X0 hx (hb hby d1_0) rfl rfl ?_
  refine go_dload (q := 4) X0 hx (hb hby d1_2) rfl rfl ?_
  refine go_dmulB (q := 5) (kk := 0) (C := 67108864) X0 hx (hb hby d1_4) rfl F2 F7 (by decide) (by decide) (by decide) rfl rfl (fun z1 hz1 => ?_)
  refine go_dload (q := 7) X0 hx (hb hby d1_5) rfl rfl ?_
  refine go_dload (q := 9) X0 hx (hb hby d1_7) rfl rfl ?_
  refine go_dmulB (q := 10) (kk := 0) (C := 67108864) X0 hx (hb hby d1_9) rfl F3 F6 (by decide) (by decide) (by decide) rfl rfl (fun z2 hz2 => ?_)
  refine go_dsubB (q := 11) (C := 134217728) X0 hx (hb hby d1_10) rfl hz1 hz2 (by decide) (by decide) (by decide) rfl (fun z3 hz3 => ?_)
  refine go_dstore (q := 13) (l' := #[.val (.double d0), .second, .val (.double d1), .second, .val (.double d2), .second, .val (.double d3), .second, .val (.double d4), .second, .val (.double d5), .second, .val (.double d6), .second, .val (.double d7), .second, .val (.double z3), .second, .unset, .unset, .unset, .unset]) X0 hx (hb hby d1_11) rfl rfl ?_
  refine go_dload (q := 15) X0 hx (hb hby d1_13) rfl rfl ?_
  refine go_dconst0 (q := 16) (v := (0 : UInt64)) X0 hx (hb hby d1_15) rfl rfl ?_
  refine go_dcmp (q := 17) X0 hx (hb hby d1_16) rfl rfl ?_
  refine go_dif_ne (q := 20) (q' := 24) X0 hx (hb hby d1_17) rfl (by decide) rfl hz3 db_c0 (fun hc17 => ?_) (fun hc17 => ?_)
  · refine go_dload (q := 26) X0 hx (hb hby d1_24) rfl rfl ?_
    refine go_dloadN (q := 27) X0 hx (hb hby d1_26) rfl rfl ?_
    refine go_dsubB (q := 28) (C := 4295030784) X0 hx (hb hby d1_27) rfl F4 F0 (by decide) (by decide) (by decide) rfl (fun z4 hz4 => ?_)
    refine go_dload (q := 30) X0 hx (hb hby d1_28) rfl rfl ?_
    refine go_dmulB (q := 31) (kk := 0) (C := 35184892182528) X0 hx (hb hby d1_30) rfl hz4 F7 (by decide) (by decide) (by decide) rfl rfl (fun z5 hz5 => ?_)
    refine go_dload (q := 33) X0 hx (hb hby d1_31) rfl rfl ?_
    refine go_dloadN (q := 34) X0 hx (hb hby d1_33) rfl rfl ?_
    refine go_dsubB (q := 35) (C := 4295030784) X0 hx (hb hby d1_34) rfl F5 F1 (by decide) (by decide) (by decide) rfl (fun z6 hz6 => ?_)
    refine go_dload (q := 37) X0 hx (hb hby d1_35) rfl rfl ?_
    refine go_dmulB (q := 38) (kk := 0) (C := 35184892182528) X0 hx (hb hby d1_37) rfl hz6 F6 (by decide) (by decide) (by decide) rfl rfl (fun z7 hz7 => ?_)
    refine go_dsubB (q := 39) (C := 70369784365056) X0 hx (hb hby d1_38) rfl hz5 hz7 (by decide) (by decide) (by decide) rfl (fun z8 hz8 => ?_)
    have sz8 := own_sc3 hz8
    refine go_dload (q := 41) X0 hx (hb hby d1_39) rfl rfl ?_
    refine go_ddivB (q := 42) (kk := (-3)) (w0 := kk) X0 hx (hb hby d1_41) rfl sz8 hz3 hc17 e1 (by decide) (by decide) (by decide) rfl (fun z9 hz9 => ?_)
    have lz9 := hz9.le (B := 31) hkk
    refine go_dstore (q := 44) (l' := #[.val (.double d0), .second, .val (.double d1), .second, .val (.double d2), .second, .val (.double d3), .second, .val (.double d4), .second, .val (.double d5), .second, .val (.double d6), .second, .val (.double d7), .second, .val (.double z3), .second, .val (.double z9), .second, .unset, .unset]) X0 hx (hb hby d1_42) rfl rfl ?_
    refine go_dload (q := 46) X0 hx (hb hby d1_44) rfl rfl ?_
    refine go_dloadN (q := 47) X0 hx (hb hby d1_46) rfl rfl ?_
    refine go_dsubB (q := 48) (C := 4295030784) X0 hx (hb hby d1_47) rfl F4 F0 (by decide) (by decide) (by decide) rfl (fun z10 hz10 => ?_)
    refine go_dload (q := 50) X0 hx (hb hby d1_48) rfl rfl ?_
    refine go_dmulB (q := 51) (kk := 0) (C := 35184892182528) X0 hx (hb hby d1_50) rfl hz10 F3 (by decide) (by decide) (by decide) rfl rfl (fun z11 hz11 => ?_)
    refine go_dload (q := 53) X0 hx (hb hby d1_51) rfl rfl ?_
    refine go_dloadN (q := 54) X0 hx (hb hby d1_53) rfl rfl ?_
    refine go_dsubB (q := 55) (C := 4295030784) X0 hx (hb hby d1_54) rfl F5 F1 (by decide) (by decide) (by decide) rfl (fun z12 hz12 => ?_)
    refine go_dload (q := 57) X0 hx (hb hby d1_55) rfl rfl ?_
    refine go_dmulB (q := 58) (kk := 0) (C := 35184892182528) X0 hx (hb hby d1_57) rfl hz12 F2 (by decide) (by decide) (by decide) rfl rfl (fun z13 hz13 => ?_)
    refine go_dsubB (q := 59) (C := 70369784365056) X0 hx (hb hby d1_58) rfl hz11 hz13 (by decide) (by decide) (by decide) rfl (fun z14 hz14 => ?_)
    have sz14 := own_sc3 hz14
    refine go_dload (q := 61) X0 hx (hb hby d1_59) rfl rfl ?_
    refine go_ddivB (q := 62) (kk := (-3)) (w0 := jj) X0 hx (hb hby d1_61) rfl sz14 hz3 hc17 e2 (by decide) (by decide) (by decide) rfl (fun z15 hz15 => ?_)
    have lz15 := hz15.le (B := 31) hjj
    refine go_dstore (q := 64) (l' := #[.val (.double d0), .second, .val (.double d1), .second, .val (.double d2), .second, .val (.double d3), .second, .val (.double d4), .second, .val (.double d5), .second, .val (.double d6), .second, .val (.double d7), .second, .val (.double z3), .second, .val (.double z9), .second, .val (.double z15), .second]) X0 hx (hb hby d1_62) rfl rfl ?_
    refine go_dload (q := 66) X0 hx (hb hby d1_64) rfl rfl ?_
    refine go_dconst0 (q := 67) (v := (0 : UInt64)) X0 hx (hb hby d1_66) rfl rfl ?_
    refine go_dcmp (q := 68) X0 hx (hb hby d1_67) rfl rfl ?_
    refine go_dif_lt (q := 71) (q' := 97) X0 hx (hb hby d1_68) rfl (by decide) rfl lz9 own_0m3 (fun hc68 => ?_) (fun hc68 => ?_)
    · refine go_ldc2D (q := 100) (v := (9221120237041090560 : UInt64)) X0 hx hZ hown (hw _ (List.mem_of_getElem? (i := 4) rfl)) (hb hby d1_97) rfl ?_
      exact go_retD X0 hx hret hlk (hb hby d1_100) (by decide) (by decide) ⟨_, rfl, fun hcc => absurd hcc (by omega), fun _ => rfl, rfl, e0⟩
    · refine go_dload (q := 73) X0 hx (hb hby d1_71) rfl rfl ?_
      refine go_dconst1 (q := 74) (v := (4607182418800017408 : UInt64)) X0 hx (hb hby d1_73) rfl rfl ?_
      refine go_dcmp (q := 75) X0 hx (hb hby d1_74) rfl rfl ?_
      refine go_dif_gt (q := 78) (q' := 97) X0 hx (hb hby d1_75) rfl (by decide) rfl lz9 own_1m3 (fun hc75 => ?_) (fun hc75 => ?_)
      · refine go_ldc2D (q := 100) (v := (9221120237041090560 : UInt64)) X0 hx hZ hown (hw _ (List.mem_of_getElem? (i := 4) rfl)) (hb hby d1_97) rfl ?_
        exact go_retD X0 hx hret hlk (hb hby d1_100) (by decide) (by decide) ⟨_, rfl, fun hcc => absurd hcc (by omega), fun _ => rfl, rfl, e0⟩
      · refine go_dload (q := 80) X0 hx (hb hby d1_78) rfl rfl ?_
        refine go_dconst0 (q := 81) (v := (0 : UInt64)) X0 hx (hb hby d1_80) rfl rfl ?_
        refine go_dcmp (q := 82) X0 hx (hb hby d1_81) rfl rfl ?_
        refine go_dif_lt (q := 85) (q' := 97) X0 hx (hb hby d1_82) rfl (by decide) rfl lz15 own_0m3 (fun hc82 => ?_) (fun hc82 => ?_)
        · refine go_ldc2D (q := 100) (v := (9221120237041090560 : UInt64)) X0 hx hZ hown (hw _ (List.mem_of_getElem? (i := 4) rfl)) (hb hby d1_97) rfl ?_
          exact go_retD X0 hx hret hlk (hb hby d1_100) (by decide) (by decide) ⟨_, rfl, fun hcc => absurd hcc (by omega), fun _ => rfl, rfl, e0⟩
        · refine go_dload (q := 87) X0 hx (hb hby d1_85) rfl rfl ?_
          refine go_dconst1 (q := 88) (v := (4607182418800017408 : UInt64)) X0 hx (hb hby d1_87) rfl rfl ?_
          refine go_dcmp (q := 89) X0 hx (hb hby d1_88) rfl rfl ?_
          refine go_dif_gt (q := 92) (q' := 97) X0 hx (hb hby d1_89) rfl (by decide) rfl lz15 own_1m3 (fun hc89 => ?_) (fun hc89 => ?_)
          · refine go_ldc2D (q := 100) (v := (9221120237041090560 : UInt64)) X0 hx hZ hown (hw _ (List.mem_of_getElem? (i := 4) rfl)) (hb hby d1_97) rfl ?_
            exact go_retD X0 hx hret hlk (hb hby d1_100) (by decide) (by decide) ⟨_, rfl, fun hcc => absurd hcc (by omega), fun _ => rfl, rfl, e0⟩
          · refine go_dload (q := 94) X0 hx (hb hby d1_92) rfl rfl ?_
            refine go_goto (q := 100) X0 hx (hb hby d1_94) (by decide) rfl ?_
            exact go_retD X0 hx hret hlk (hb hby d1_100) (by decide) (by decide) ⟨_, rfl, fun _ => lz9, fun hcc => absurd (by omega) hcc, rfl, e0⟩
  · refine go_ldc2D (q := 23) (v := (9221120237041090560 : UInt64)) X0 hx hZ hown (hw _ (List.mem_of_getElem? (i := 4) rfl)) (hb hby d1_20) rfl ?_
    exact go_retD X0 hx hret hlk (hb hby d1_23) (by decide) (by decide) ⟨_, rfl, fun hcc => absurd hcc (by omega), fun _ => rfl, rfl, e0⟩
theorem pn_0 : plainName "com/example/orbweave/orbweave/plane/NoFitCrossingPinLaw" = true := by first | (simp [plainName, overriddenIn]; done) | decide +kernel
theorem ef_0 (m : MethodId) (x0 : Int32) (x1 : Int32) (x2 : Int32) (x3 : Int32) (x4 : Int32) : entryFrame m #[(.int x0), (.int x1), (.int x2), (.int x3), (.int x4)] maxLocals = mkF m 0 #[.val (.int x0), .val (.int x1), .val (.int x2), .val (.int x3), .val (.int x4), .unset, .unset, .unset, .unset, .unset, .unset, .unset, .unset, .unset, .unset, .unset, .unset, .unset, .unset] [] := by first | (simp [entryFrame, mkF, argsToLocals, Value.category, maxLocals]; done) | rfl
set_option maxRecDepth 65536 in
set_option maxHeartbeats 40000000 in
theorem rm0 (l : Launch) (Z : State) (a0 : Array Value) (hw : ∀ d ∈ tables_1, d.before a0 Z = true) (ws : List Jvm.Cond) (ax : Int32) (ay : Int32) (u_ : Int32) (v_ : Int32) (kj : Int32)  (h0 : Heap)  :
    Con l x code maxLocals ret ws room_1 Z #[(.int ax), (.int ay), (.int u_), (.int v_), (.int kj)] h0 (fun v h L => v = some (.int (1 : Int32)) ∧ Fr h0.size L) := by
  refine con_of (plainFor_of_name pn_0) ?_
  intro p e s m below meth c s₁ X0 hx hby hml hret hlk hown hnm hZ e0
  refine Go.cast (ef_0 m ax ay u_ v_ kj) ?_
  refine go_iloadN (q := 1) X0 hx (hb hby at_0) rfl rfl ?_
  refine go_bipush (q := 3) (v := (21 : Int32)) X0 hx (hb hby at_1) rfl rfl ?_
  refine go_ishl (q := 4) (v := (u_ <<< ((21 : Int32) &&& 31))) X0 hx (hb hby at_3) rfl rfl ?_
  refine go_bipush (q := 6) (v := (21 : Int32)) X0 hx (hb hby at_4) rfl rfl ?_
  refine go_ishr (q := 7) (v := ((u_ <<< ((21 : Int32) &&& 31)) >>> ((21 : Int32) &&& 31))) X0 hx (hb hby at_6) rfl rfl ?_
  refine go_istore (q := 9) (l' := #[.val (.int ax), .val (.int ay), .val (.int u_), .val (.int v_), .val (.int kj), .val (.int ((u_ <<< ((21 : Int32) &&& 31)) >>> ((21 : Int32) &&& 31))), .unset, .unset, .unset, .unset, .unset, .unset, .unset, .unset, .unset, .unset, .unset, .unset, .unset]) X0 hx (hb hby at_7) rfl rfl ?_
  suffices Hux : ∀ ux : Int32, ux = ((u_ <<< ((21 : Int32) &&& 31)) >>> ((21 : Int32) &&& 31)) → Go p e below s (fun v h L => v = some (.int (1 : Int32)) ∧ Fr h0.size L) room_1.cells room_1.slots s₁ (mkF m 9 #[.val (.int ax), .val (.int ay), .val (.int u_), .val (.int v_), .val (.int kj), .val (.int ux), .unset, .unset, .unset, .unset, .unset, .unset, .unset, .unset, .unset, .unset, .unset, .unset, .unset] []) from Hux _ rfl
  intro ux eux
  have hux : ux.toInt.natAbs ≤ 1024 := by rw [eux]; exact own_sh21 _
  refine go_iloadN (q := 10) X0 hx (hb hby at_9) rfl rfl ?_
  refine go_bipush (q := 12) (v := (10 : Int32)) X0 hx (hb hby at_10) rfl rfl ?_
  refine go_ishl (q := 13) (v := (u_ <<< ((10 : Int32) &&& 31))) X0 hx (hb hby at_12) rfl rfl ?_
  refine go_bipush (q := 15) (v := (21 : Int32)) X0 hx (hb hby at_13) rfl rfl ?_
  refine go_ishr (q := 16) (v := ((u_ <<< ((10 : Int32) &&& 31)) >>> ((21 : Int32) &&& 31))) X0 hx (hb hby at_15) rfl rfl ?_
  refine go_istore (q := 18) (l' := #[.val (.int ax), .val (.int ay), .val (.int u_), .val (.int v_), .val (.int kj), .val (.int ux), .val (.int ((u_ <<< ((10 : Int32) &&& 31)) >>> ((21 : Int32) &&& 31))), .unset, .unset, .unset, .unset, .unset, .unset, .unset, .unset, .unset, .unset, .unset, .unset]) X0 hx (hb hby at_16) rfl rfl ?_
  suffices Huy : ∀ uy : Int32, uy = ((u_ <<< ((10 : Int32) &&& 31)) >>> ((21 : Int32) &&& 31)) → Go p e below s (fun v h L => v = some (.int (1 : Int32)) ∧ Fr h0.size L) room_1.cells room_1.slots s₁ (mkF m 18 #[.val (.int ax), .val (.int ay), .val (.int u_), .val (.int v_), .val (.int kj), .val (.int ux), .val (.int uy), .unset, .unset, .unset, .unset, .unset, .unset, .unset, .unset, .unset, .unset, .unset, .unset] []) from Huy _ rfl
  intro uy euy
  have huy : uy.toInt.natAbs ≤ 1024 := by rw [euy]; exact own_sh21 _
  refine go_iloadN (q := 19) X0 hx (hb hby at_18) rfl rfl ?_
  refine go_bipush (q := 21) (v := (21 : Int32)) X0 hx (hb hby at_19) rfl rfl ?_
  refine go_ishl (q := 22) (v := (v_ <<< ((21 : Int32) &&& 31))) X0 hx (hb hby at_21) rfl rfl ?_
  refine go_bipush (q := 24) (v := (21 : Int32)) X0 hx (hb hby at_22) rfl rfl ?_
  refine go_ishr (q := 25) (v := ((v_ <<< ((21 : Int32) &&& 31)) >>> ((21 : Int32) &&& 31))) X0 hx (hb hby at_24) rfl rfl ?_
  refine go_istore (q := 27) (l' := #[.val (.int ax), .val (.int ay), .val (.int u_), .val (.int v_), .val (.int kj), .val (.int ux), .val (.int uy), .val (.int ((v_ <<< ((21 : Int32) &&& 31)) >>> ((21 : Int32) &&& 31))), .unset, .unset, .unset, .unset, .unset, .unset, .unset, .unset, .unset, .unset, .unset]) X0 hx (hb hby at_25) rfl rfl ?_
  suffices Hvx : ∀ vx : Int32, vx = ((v_ <<< ((21 : Int32) &&& 31)) >>> ((21 : Int32) &&& 31)) → Go p e below s (fun v h L => v = some (.int (1 : Int32)) ∧ Fr h0.size L) room_1.cells room_1.slots s₁ (mkF m 27 #[.val (.int ax), .val (.int ay), .val (.int u_), .val (.int v_), .val (.int kj), .val (.int ux), .val (.int uy), .val (.int vx), .unset, .unset, .unset, .unset, .unset, .unset, .unset, .unset, .unset, .unset, .unset] []) from Hvx _ rfl
  intro vx evx
  have hvx : vx.toInt.natAbs ≤ 1024 := by rw [evx]; exact own_sh21 _
  refine go_iloadN (q := 28) X0 hx (hb hby at_27) rfl rfl ?_
  refine go_bipush (q := 30) (v := (10 : Int32)) X0 hx (hb hby at_28) rfl rfl ?_
  refine go_ishl (q := 31) (v := (v_ <<< ((10 : Int32) &&& 31))) X0 hx (hb hby at_30) rfl rfl ?_
  refine go_bipush (q := 33) (v := (21 : Int32)) X0 hx (hb hby at_31) rfl rfl ?_
  refine go_ishr (q := 34) (v := ((v_ <<< ((10 : Int32) &&& 31)) >>> ((21 : Int32) &&& 31))) X0 hx (hb hby at_33) rfl rfl ?_
  refine go_istore (q := 36) (l' := #[.val (.int ax), .val (.int ay), .val (.int u_), .val (.int v_), .val (.int kj), .val (.int ux), .val (.int uy), .val (.int vx), .val (.int ((v_ <<< ((10 : Int32) &&& 31)) >>> ((21 : Int32) &&& 31))), .unset, .unset, .unset, .unset, .unset, .unset, .unset, .unset, .unset, .unset]) X0 hx (hb hby at_34) rfl rfl ?_
  suffices Hvy : ∀ vy : Int32, vy = ((v_ <<< ((10 : Int32) &&& 31)) >>> ((21 : Int32) &&& 31)) → Go p e below s (fun v h L => v = some (.int (1 : Int32)) ∧ Fr h0.size L) room_1.cells room_1.slots s₁ (mkF m 36 #[.val (.int ax), .val (.int ay), .val (.int u_), .val (.int v_), .val (.int kj), .val (.int ux), .val (.int uy), .val (.int vx), .val (.int vy), .unset, .unset, .unset, .unset, .unset, .unset, .unset, .unset, .unset, .unset] []) from Hvy _ rfl
  intro vy evy
  have hvy : vy.toInt.natAbs ≤ 1024 := by rw [evy]; exact own_sh21 _
  refine go_iload (q := 38) X0 hx (hb hby at_36) rfl rfl ?_
  refine go_bipush (q := 40) (v := (31 : Int32)) X0 hx (hb hby at_38) rfl rfl ?_
  refine go_iand (q := 41) (v := (kj &&& (31 : Int32))) X0 hx (hb hby at_40) rfl rfl ?_
  refine go_bipush (q := 43) (v := (8 : Int32)) X0 hx (hb hby at_41) rfl rfl ?_
  refine go_isub (q := 44) (v := ((kj &&& (31 : Int32)) - (8 : Int32))) X0 hx (hb hby at_43) rfl rfl ?_
  refine go_istore (q := 46) (l' := #[.val (.int ax), .val (.int ay), .val (.int u_), .val (.int v_), .val (.int kj), .val (.int ux), .val (.int uy), .val (.int vx), .val (.int vy), .val (.int ((kj &&& (31 : Int32)) - (8 : Int32))), .unset, .unset, .unset, .unset, .unset, .unset, .unset, .unset, .unset]) X0 hx (hb hby at_44) rfl rfl ?_
  suffices Hk_ : ∀ k_ : Int32, k_ = ((kj &&& (31 : Int32)) - (8 : Int32)) → Go p e below s (fun v h L => v = some (.int (1 : Int32)) ∧ Fr h0.size L) room_1.cells room_1.slots s₁ (mkF m 46 #[.val (.int ax), .val (.int ay), .val (.int u_), .val (.int v_), .val (.int kj), .val (.int ux), .val (.int uy), .val (.int vx), .val (.int vy), .val (.int k_), .unset, .unset, .unset, .unset, .unset, .unset, .unset, .unset, .unset] []) from Hk_ _ rfl
  intro k_ ek_
  have hk_ : -8 ≤ k_.toInt ∧ k_.toInt ≤ 23 := by rw [ek_]; exact own_k _
  refine go_iload (q := 48) X0 hx (hb hby at_46) rfl rfl ?_
  refine go_iconst (q := 49) (v := (5 : Int32)) X0 hx (hb hby at_48) rfl rfl ?_
  refine go_iushr (q := 50) (v := ((kj.toUInt32 >>> ((5 : Int32) &&& 31).toUInt32).toInt32)) X0 hx (hb hby at_49) rfl rfl ?_
  refine go_bipush (q := 52) (v := (31 : Int32)) X0 hx (hb hby at_50) rfl rfl ?_
  refine go_iand (q := 53) (v := (((kj.toUInt32 >>> ((5 : Int32) &&& 31).toUInt32).toInt32) &&& (31 : Int32))) X0 hx (hb hby at_52) rfl rfl ?_
  refine go_bipush (q := 55) (v := (8 : Int32)) X0 hx (hb hby at_53) rfl rfl ?_
  refine go_isub (q := 56) (v := ((((kj.toUInt32 >>> ((5 : Int32) &&& 31).toUInt32).toInt32) &&& (31 : Int32)) - (8 : Int32))) X0 hx (hb hby at_55) rfl rfl ?_
  refine go_istore (q := 58) (l' := #[.val (.int ax), .val (.int ay), .val (.int u_), .val (.int v_), .val (.int kj), .val (.int ux), .val (.int uy), .val (.int vx), .val (.int vy), .val (.int k_), .val (.int ((((kj.toUInt32 >>> ((5 : Int32) &&& 31).toUInt32).toInt32) &&& (31 : Int32)) - (8 : Int32))), .unset, .unset, .unset, .unset, .unset, .unset, .unset, .unset]) X0 hx (hb hby at_56) rfl rfl ?_
  suffices Hj_ : ∀ j_ : Int32, j_ = ((((kj.toUInt32 >>> ((5 : Int32) &&& 31).toUInt32).toInt32) &&& (31 : Int32)) - (8 : Int32)) → Go p e below s (fun v h L => v = some (.int (1 : Int32)) ∧ Fr h0.size L) room_1.cells room_1.slots s₁ (mkF m 58 #[.val (.int ax), .val (.int ay), .val (.int u_), .val (.int v_), .val (.int kj), .val (.int ux), .val (.int uy), .val (.int vx), .val (.int vy), .val (.int k_), .val (.int j_), .unset, .unset, .unset, .unset, .unset, .unset, .unset, .unset] []) from Hj_ _ rfl
  intro j_ ej_
  have hj_ : -8 ≤ j_.toInt ∧ j_.toInt ≤ 23 := by rw [ej_]; exact own_k _
  refine go_iloadN (q := 59) X0 hx (hb hby at_58) rfl rfl ?_
  refine go_i2l (q := 60) (v := (ax.toInt64)) X0 hx (hb hby at_59) rfl rfl ?_
  refine go_iload (q := 62) X0 hx (hb hby at_60) rfl rfl ?_
  refine go_i2l (q := 63) (v := (k_.toInt64)) X0 hx (hb hby at_62) rfl rfl ?_
  refine go_iload (q := 65) X0 hx (hb hby at_63) rfl rfl ?_
  refine go_i2l (q := 66) (v := (ux.toInt64)) X0 hx (hb hby at_65) rfl rfl ?_
  refine go_lmul (q := 67) (v := ((k_.toInt64) * (ux.toInt64))) X0 hx (hb hby at_66) rfl rfl ?_
  refine go_ladd (q := 68) (v := ((ax.toInt64) + ((k_.toInt64) * (ux.toInt64)))) X0 hx (hb hby at_67) rfl rfl ?_
  refine go_iload (q := 70) X0 hx (hb hby at_68) rfl rfl ?_
  refine go_i2l (q := 71) (v := (j_.toInt64)) X0 hx (hb hby at_70) rfl rfl ?_
  refine go_iload (q := 73) X0 hx (hb hby at_71) rfl rfl ?_
  refine go_i2l (q := 74) (v := (vx.toInt64)) X0 hx (hb hby at_73) rfl rfl ?_
  refine go_lmul (q := 75) (v := ((j_.toInt64) * (vx.toInt64))) X0 hx (hb hby at_74) rfl rfl ?_
  refine go_lsub (q := 76) (v := (((ax.toInt64) + ((k_.toInt64) * (ux.toInt64))) - ((j_.toInt64) * (vx.toInt64)))) X0 hx (hb hby at_75) rfl rfl ?_
  refine go_lstore (q := 78) (l' := #[.val (.int ax), .val (.int ay), .val (.int u_), .val (.int v_), .val (.int kj), .val (.int ux), .val (.int uy), .val (.int vx), .val (.int vy), .val (.int k_), .val (.int j_), .val (.long (((ax.toInt64) + ((k_.toInt64) * (ux.toInt64))) - ((j_.toInt64) * (vx.toInt64)))), .second, .unset, .unset, .unset, .unset, .unset, .unset]) X0 hx (hb hby at_76) rfl rfl ?_
  suffices Hcx : ∀ cx : Int64, cx = (((ax.toInt64) + ((k_.toInt64) * (ux.toInt64))) - ((j_.toInt64) * (vx.toInt64))) → Go p e below s (fun v h L => v = some (.int (1 : Int32)) ∧ Fr h0.size L) room_1.cells room_1.slots s₁ (mkF m 78 #[.val (.int ax), .val (.int ay), .val (.int u_), .val (.int v_), .val (.int kj), .val (.int ux), .val (.int uy), .val (.int vx), .val (.int vy), .val (.int k_), .val (.int j_), .val (.long cx), .second, .unset, .unset, .unset, .unset, .unset, .unset] []) from Hcx _ rfl
  intro cx ecx
  have hcx := own_lin (a := ax) (k := k_) (u := ux) (j := j_) (v := vx) (by omega) hux (by omega) hvx
  rw [← ecx] at hcx
  refine go_iloadN (q := 79) X0 hx (hb hby at_78) rfl rfl ?_
  refine go_i2l (q := 80) (v := (ay.toInt64)) X0 hx (hb hby at_79) rfl rfl ?_
  refine go_iload (q := 82) X0 hx (hb hby at_80) rfl rfl ?_
  refine go_i2l (q := 83) (v := (k_.toInt64)) X0 hx (hb hby at_82) rfl rfl ?_
  refine go_iload (q := 85) X0 hx (hb hby at_83) rfl rfl ?_
  refine go_i2l (q := 86) (v := (uy.toInt64)) X0 hx (hb hby at_85) rfl rfl ?_
  refine go_lmul (q := 87) (v := ((k_.toInt64) * (uy.toInt64))) X0 hx (hb hby at_86) rfl rfl ?_
  refine go_ladd (q := 88) (v := ((ay.toInt64) + ((k_.toInt64) * (uy.toInt64)))) X0 hx (hb hby at_87) rfl rfl ?_
  refine go_iload (q := 90) X0 hx (hb hby at_88) rfl rfl ?_
  refine go_i2l (q := 91) (v := (j_.toInt64)) X0 hx (hb hby at_90) rfl rfl ?_
  refine go_iload (q := 93) X0 hx (hb hby at_91) rfl rfl ?_
  refine go_i2l (q := 94) (v := (vy.toInt64)) X0 hx (hb hby at_93) rfl rfl ?_
  refine go_lmul (q := 95) (v := ((j_.toInt64) * (vy.toInt64))) X0 hx (hb hby at_94) rfl rfl ?_
  refine go_lsub (q := 96) (v := (((ay.toInt64) + ((k_.toInt64) * (uy.toInt64))) - ((j_.toInt64) * (vy.toInt64)))) X0 hx (hb hby at_95) rfl rfl ?_
  refine go_lstore (q := 98) (l' := #[.val (.int ax), .val (.int ay), .val (.int u_), .val (.int v_), .val (.int kj), .val (.int ux), .val (.int uy), .val (.int vx), .val (.int vy), .val (.int k_), .val (.int j_), .val (.long cx), .second, .val (.long (((ay.toInt64) + ((k_.toInt64) * (uy.toInt64))) - ((j_.toInt64) * (vy.toInt64)))), .second, .unset, .unset, .unset, .unset]) X0 hx (hb hby at_96) rfl rfl ?_
  suffices Hcy : ∀ cy : Int64, cy = (((ay.toInt64) + ((k_.toInt64) * (uy.toInt64))) - ((j_.toInt64) * (vy.toInt64))) → Go p e below s (fun v h L => v = some (.int (1 : Int32)) ∧ Fr h0.size L) room_1.cells room_1.slots s₁ (mkF m 98 #[.val (.int ax), .val (.int ay), .val (.int u_), .val (.int v_), .val (.int kj), .val (.int ux), .val (.int uy), .val (.int vx), .val (.int vy), .val (.int k_), .val (.int j_), .val (.long cx), .second, .val (.long cy), .second, .unset, .unset, .unset, .unset] []) from Hcy _ rfl
  intro cy ecy
  have hcy := own_lin (a := ay) (k := k_) (u := uy) (j := j_) (v := vy) (by omega) huy (by omega) hvy
  rw [← ecy] at hcy
  refine go_iloadN (q := 99) X0 hx (hb hby at_98) rfl rfl ?_
  refine go_i2dB (q := 100) X0 hx (hb hby at_99) rfl (db_i2d _) (fun z1 hz1 => ?_)
  refine go_iloadN (q := 101) X0 hx (hb hby at_100) rfl rfl ?_
  refine go_i2dB (q := 102) X0 hx (hb hby at_101) rfl (db_i2d _) (fun z2 hz2 => ?_)
  refine go_bipush (q := 104) (v := (8 : Int32)) X0 hx (hb hby at_102) rfl rfl ?_
  refine go_iload (q := 106) X0 hx (hb hby at_104) rfl rfl ?_
  refine go_imul (q := 107) (v := ((8 : Int32) * ux)) X0 hx (hb hby at_106) rfl rfl ?_
  refine go_i2dB (q := 108) X0 hx (hb hby at_107) rfl (db_i2d' (A := 8192) (by rw [own_8 hux]; omega)) (fun z3 hz3 => ?_)
  refine go_bipush (q := 110) (v := (8 : Int32)) X0 hx (hb hby at_108) rfl rfl ?_
  refine go_iload (q := 112) X0 hx (hb hby at_110) rfl rfl ?_
  refine go_imul (q := 113) (v := ((8 : Int32) * uy)) X0 hx (hb hby at_112) rfl rfl ?_
  refine go_i2dB (q := 114) X0 hx (hb hby at_113) rfl (db_i2d' (A := 8192) (by rw [own_8 huy]; omega)) (fun z4 hz4 => ?_)
  refine go_lload (q := 116) X0 hx (hb hby at_114) rfl rfl ?_
  refine go_l2dB (q := 117) X0 hx (hb hby at_116) rfl (db_l2d (A := 2147547136) hcx.2 (by decide)) (fun z5 hz5 => ?_)
  refine go_lload (q := 119) X0 hx (hb hby at_117) rfl rfl ?_
  refine go_l2dB (q := 120) X0 hx (hb hby at_119) rfl (db_l2d (A := 2147547136) hcy.2 (by decide)) (fun z6 hz6 => ?_)
  refine go_bipush (q := 122) (v := (8 : Int32)) X0 hx (hb hby at_120) rfl rfl ?_
  refine go_iload (q := 124) X0 hx (hb hby at_122) rfl rfl ?_
  refine go_imul (q := 125) (v := ((8 : Int32) * vx)) X0 hx (hb hby at_124) rfl rfl ?_
  refine go_i2dB (q := 126) X0 hx (hb hby at_125) rfl (db_i2d' (A := 8192) (by rw [own_8 hvx]; omega)) (fun z7 hz7 => ?_)
  refine go_bipush (q := 128) (v := (8 : Int32)) X0 hx (hb hby at_126) rfl rfl ?_
  refine go_iload (q := 130) X0 hx (hb hby at_128) rfl rfl ?_
  refine go_imul (q := 131) (v := ((8 : Int32) * vy)) X0 hx (hb hby at_130) rfl rfl ?_
  refine go_i2dB (q := 132) X0 hx (hb hby at_131) rfl (db_i2d' (A := 8192) (by rw [own_8 hvy]; omega)) (fun z8 hz8 => ?_)
  refine go_callS (q := 135) (W := 0) X0 hx hZ hown e0 (hw _ (List.mem_of_getElem? (i := 0) rfl)) (hw _ (List.mem_of_getElem? (i := 1) rfl)) (hw _ (List.mem_of_getElem? (i := 2) rfl)) (hw _ (List.mem_of_getElem? (i := 3) rfl)) (by decide) [(.double z1), (.double z2), (.double z3), (.double z4), (.double z5), (.double z6), (.double z7), (.double z8)] [] (rm1 l Z a0 hw [] z1 z2 z3 z4 z5 z6 z7 z8 _ _ _ _ _ _ _ _ k_.toInt j_.toInt h0 hz1 hz2 hz3 hz4 hz5 hz6 hz7 hz8 (by omega) (by omega) (by rw [own_8 hux, own_8 huy, own_8 hvx, own_8 hvy, hcx.1, hcy.1]; grind) (by rw [own_8 hux, own_8 huy, own_8 hvx, own_8 hvy, hcx.1, hcy.1]; grind)) (by rw [hml]; rfl) rfl (lenOf pd_0 rfl) (Nat.le_of_eq rfl) (by decide) (by decide) (hb hby at_132) rfl (by decide) (by decide) ?_
  rintro T9 L9 v9 X9 ⟨r_, rfl, hr1, hr2, rfl, e1⟩
  show Go p e below s (fun v h L => v = some (.int (1 : Int32)) ∧ Fr h0.size L) room_1.cells room_1.slots T9 (mkF m 135 #[.val (.int ax), .val (.int ay), .val (.int u_), .val (.int v_), .val (.int kj), .val (.int ux), .val (.int uy), .val (.int vx), .val (.int vy), .val (.int k_), .val (.int j_), .val (.long cx), .second, .val (.long cy), .second, .unset, .unset, .unset, .unset] [(.double r_)])
  rw [own_8 hux, own_8 huy, own_8 hvx, own_8 hvy] at hr1 hr2
  refine go_dstore (q := 137) (l' := #[.val (.int ax), .val (.int ay), .val (.int u_), .val (.int v_), .val (.int kj), .val (.int ux), .val (.int uy), .val (.int vx), .val (.int vy), .val (.int k_), .val (.int j_), .val (.long cx), .second, .val (.long cy), .second, .val (.double r_), .second, .unset, .unset]) X9 hx (hb hby at_135) rfl rfl ?_
  refine go_iload (q := 139) X9 hx (hb hby at_137) rfl rfl ?_
  refine go_i2l (q := 140) (v := (ux.toInt64)) X9 hx (hb hby at_139) rfl rfl ?_
  refine go_iload (q := 142) X9 hx (hb hby at_140) rfl rfl ?_
  refine go_i2l (q := 143) (v := (vy.toInt64)) X9 hx (hb hby at_142) rfl rfl ?_
  refine go_lmul (q := 144) (v := ((ux.toInt64) * (vy.toInt64))) X9 hx (hb hby at_143) rfl rfl ?_
  refine go_iload (q := 146) X9 hx (hb hby at_144) rfl rfl ?_
  refine go_i2l (q := 147) (v := (uy.toInt64)) X9 hx (hb hby at_146) rfl rfl ?_
  refine go_iload (q := 149) X9 hx (hb hby at_147) rfl rfl ?_
  refine go_i2l (q := 150) (v := (vx.toInt64)) X9 hx (hb hby at_149) rfl rfl ?_
  refine go_lmul (q := 151) (v := ((uy.toInt64) * (vx.toInt64))) X9 hx (hb hby at_150) rfl rfl ?_
  refine go_lsub (q := 152) (v := (((ux.toInt64) * (vy.toInt64)) - ((uy.toInt64) * (vx.toInt64)))) X9 hx (hb hby at_151) rfl rfl ?_
  refine go_lstore (q := 154) (l' := #[.val (.int ax), .val (.int ay), .val (.int u_), .val (.int v_), .val (.int kj), .val (.int ux), .val (.int uy), .val (.int vx), .val (.int vy), .val (.int k_), .val (.int j_), .val (.long cx), .second, .val (.long cy), .second, .val (.double r_), .second, .val (.long (((ux.toInt64) * (vy.toInt64)) - ((uy.toInt64) * (vx.toInt64)))), .second]) X9 hx (hb hby at_152) rfl rfl ?_
  suffices Hcr : ∀ cr : Int64, cr = (((ux.toInt64) * (vy.toInt64)) - ((uy.toInt64) * (vx.toInt64))) → Go p e below s (fun v h L => v = some (.int (1 : Int32)) ∧ Fr h0.size L) room_1.cells room_1.slots T9 (mkF m 154 #[.val (.int ax), .val (.int ay), .val (.int u_), .val (.int v_), .val (.int kj), .val (.int ux), .val (.int uy), .val (.int vx), .val (.int vy), .val (.int k_), .val (.int j_), .val (.long cx), .second, .val (.long cy), .second, .val (.double r_), .second, .val (.long cr), .second] []) from Hcr _ rfl
  intro cr ecr
  have hcr : cr.toInt = ux.toInt * vy.toInt - uy.toInt * vx.toInt := by rw [ecr]; exact own_cr hux hvy huy hvx
  have hdn : 8 * ux.toInt * (8 * vy.toInt) - 8 * uy.toInt * (8 * vx.toInt) = 64 * cr.toInt := by rw [hcr]; grind
  rw [hdn] at hr1 hr2
  refine go_lload (q := 156) X9 hx (hb hby at_154) rfl rfl ?_
  refine go_lconst (q := 157) (v := (0 : Int64)) X9 hx (hb hby at_156) rfl rfl ?_
  refine go_lcmp (q := 158) X9 hx (hb hby at_157) rfl ?_
  refine go_lif_ne (q := 161) (q' := 175) X9 hx (hb hby at_158) rfl (by decide) rfl (fun hc158 => ?_) (fun hc158 => ?_)
  · have hcr0 : cr.toInt ≠ 0 := fun q => hc158 (Int64.toInt_inj.mp q)
    have z32 : (0 : Int32).toInt = 0 := rfl
    have e32 : (8 : Int32).toInt = 8 := rfl
    refine go_iload (q := 177) X9 hx (hb hby at_175) rfl rfl ?_
    refine go_if_lt (q := 180) (q' := 218) X9 hx (hb hby at_177) rfl (by decide) rfl (fun hc177 => ?_) (fun hc177 => ?_)
    · have er_ := hr2 (by rw [Int32.lt_iff_toInt_lt] at hc177; omega)
      refine go_dload (q := 220) X9 hx (hb hby at_218) rfl rfl ?_
      refine go_dload (q := 222) X9 hx (hb hby at_220) rfl rfl ?_
      refine go_dcmp (q := 223) X9 hx (hb hby at_222) rfl rfl ?_
      refine go_if_eq (q := 226) (q' := 230) X9 hx (hb hby at_223) rfl (by decide) rfl (fun hc223 => ?_) (fun hc223 => ?_)
      · exact absurd hc223 (by rw [er_]; decide +kernel)
      · refine go_iconst (q := 227) (v := (1 : Int32)) X9 hx (hb hby at_226) rfl rfl ?_
        refine go_goto (q := 231) X9 hx (hb hby at_227) (by decide) rfl ?_
        exact go_retN X9 hx (by simp) hret hlk (hb hby at_231) (by decide) (by decide) ⟨rfl, Fr.nil _⟩
    · refine go_iload (q := 182) X9 hx (hb hby at_180) rfl rfl ?_
      refine go_bipush (q := 184) (v := (8 : Int32)) X9 hx (hb hby at_182) rfl rfl ?_
      refine go_icmp_gt (q := 187) (q' := 218) X9 hx (hb hby at_184) rfl (by decide) rfl (fun hc184 => ?_) (fun hc184 => ?_)
      · have er_ := hr2 (by rw [Int32.lt_iff_toInt_lt] at hc184; omega)
        refine go_dload (q := 220) X9 hx (hb hby at_218) rfl rfl ?_
        refine go_dload (q := 222) X9 hx (hb hby at_220) rfl rfl ?_
        refine go_dcmp (q := 223) X9 hx (hb hby at_222) rfl rfl ?_
        refine go_if_eq (q := 226) (q' := 230) X9 hx (hb hby at_223) rfl (by decide) rfl (fun hc223 => ?_) (fun hc223 => ?_)
        · exact absurd hc223 (by rw [er_]; decide +kernel)
        · refine go_iconst (q := 227) (v := (1 : Int32)) X9 hx (hb hby at_226) rfl rfl ?_
          refine go_goto (q := 231) X9 hx (hb hby at_227) (by decide) rfl ?_
          exact go_retN X9 hx (by simp) hret hlk (hb hby at_231) (by decide) (by decide) ⟨rfl, Fr.nil _⟩
      · refine go_iload (q := 189) X9 hx (hb hby at_187) rfl rfl ?_
        refine go_if_lt (q := 192) (q' := 218) X9 hx (hb hby at_189) rfl (by decide) rfl (fun hc189 => ?_) (fun hc189 => ?_)
        · have er_ := hr2 (by rw [Int32.lt_iff_toInt_lt] at hc189; omega)
          refine go_dload (q := 220) X9 hx (hb hby at_218) rfl rfl ?_
          refine go_dload (q := 222) X9 hx (hb hby at_220) rfl rfl ?_
          refine go_dcmp (q := 223) X9 hx (hb hby at_222) rfl rfl ?_
          refine go_if_eq (q := 226) (q' := 230) X9 hx (hb hby at_223) rfl (by decide) rfl (fun hc223 => ?_) (fun hc223 => ?_)
          · exact absurd hc223 (by rw [er_]; decide +kernel)
          · refine go_iconst (q := 227) (v := (1 : Int32)) X9 hx (hb hby at_226) rfl rfl ?_
            refine go_goto (q := 231) X9 hx (hb hby at_227) (by decide) rfl ?_
            exact go_retN X9 hx (by simp) hret hlk (hb hby at_231) (by decide) (by decide) ⟨rfl, Fr.nil _⟩
        · refine go_iload (q := 194) X9 hx (hb hby at_192) rfl rfl ?_
          refine go_bipush (q := 196) (v := (8 : Int32)) X9 hx (hb hby at_194) rfl rfl ?_
          refine go_icmp_gt (q := 199) (q' := 218) X9 hx (hb hby at_196) rfl (by decide) rfl (fun hc196 => ?_) (fun hc196 => ?_)
          · have er_ := hr2 (by rw [Int32.lt_iff_toInt_lt] at hc196; omega)
            refine go_dload (q := 220) X9 hx (hb hby at_218) rfl rfl ?_
            refine go_dload (q := 222) X9 hx (hb hby at_220) rfl rfl ?_
            refine go_dcmp (q := 223) X9 hx (hb hby at_222) rfl rfl ?_
            refine go_if_eq (q := 226) (q' := 230) X9 hx (hb hby at_223) rfl (by decide) rfl (fun hc223 => ?_) (fun hc223 => ?_)
            · exact absurd hc223 (by rw [er_]; decide +kernel)
            · refine go_iconst (q := 227) (v := (1 : Int32)) X9 hx (hb hby at_226) rfl rfl ?_
              refine go_goto (q := 231) X9 hx (hb hby at_227) (by decide) rfl ?_
              exact go_retN X9 hx (by simp) hret hlk (hb hby at_231) (by decide) (by decide) ⟨rfl, Fr.nil _⟩
          · have er_ := hr1 (by rw [Int32.lt_iff_toInt_lt] at hc177 hc184 hc189 hc196; omega)
            refine go_dload (q := 201) X9 hx (hb hby at_199) rfl rfl ?_
            refine go_iload (q := 203) X9 hx (hb hby at_201) rfl rfl ?_
            refine go_i2dB (q := 204) X9 hx (hb hby at_203) rfl (db_i2d' (A := 31) (by omega)) (fun z10 hz10 => ?_)
            refine go_ldc2D (q := 207) (v := (4620693217682128896 : UInt64)) X9 hx hZ hown (hw _ (List.mem_of_getElem? (i := 5) rfl)) (hb hby at_204) rfl ?_
            refine go_ddivB (q := 208) (kk := (-3)) (w0 := k_.toInt) X9 hx (hb hby at_207) rfl hz10 own_c8 (by decide) (by omega) (by decide) (by decide) (by decide) rfl (fun z11 hz11 => ?_)
            refine go_dcmp (q := 209) X9 hx (hb hby at_208) rfl rfl ?_
            refine go_dif_ne (q := 212) (q' := 216) X9 hx (hb hby at_209) rfl (by decide) rfl er_ hz11 (fun hc209 => ?_) (fun hc209 => ?_)
            · exact absurd rfl hc209
            · refine go_iconst (q := 213) (v := (1 : Int32)) X9 hx (hb hby at_212) rfl rfl ?_
              refine go_goto (q := 217) X9 hx (hb hby at_213) (by decide) rfl ?_
              exact go_retN X9 hx (by simp) hret hlk (hb hby at_217) (by decide) (by decide) ⟨rfl, Fr.nil _⟩
  · have er_ := hr2 (by rw [hc158]; intro q; exact q.1 rfl)
    refine go_dload (q := 163) X9 hx (hb hby at_161) rfl rfl ?_
    refine go_dload (q := 165) X9 hx (hb hby at_163) rfl rfl ?_
    refine go_dcmp (q := 166) X9 hx (hb hby at_165) rfl rfl ?_
    refine go_if_eq (q := 169) (q' := 173) X9 hx (hb hby at_166) rfl (by decide) rfl (fun hc166 => ?_) (fun hc166 => ?_)
    · exact absurd hc166 (by rw [er_]; decide +kernel)
    · refine go_iconst (q := 170) (v := (1 : Int32)) X9 hx (hb hby at_169) rfl rfl ?_
      refine go_goto (q := 174) X9 hx (hb hby at_170) (by decide) rfl ?_
      exact go_retN X9 hx (by simp) hret hlk (hb hby at_174) (by decide) (by decide) ⟨rfl, Fr.nil _⟩
set_option maxRecDepth 65536 in
set_option maxHeartbeats 40000000 in
theorem comes_1 {Post : Tables → Env → Array Value → State → Outcome → State → Prop} (hpost : ∀ tb e args s v u, (limb_1_1.after args s (.returned v) u = true ∧ limb_1_2.after args s (.returned v) u = true ∧ True) → FrameEnd s (.returned v) u (Jvm.fieldLocs frame_1_writes args s ++ Jvm.arrayLocs frame_1_arrays args s ++ Jvm.staticLocs frame_1_statics s) 0 0 → Post tb e args s (.returned v) u) :
    ArmFor flags0 classFile x code maxLocals ret World_1 tables_1 room_1 Calls_1 rest_1 Pre_1 Post := by
  intro l hfl _ _ p e ha hc hk s m args below hf hA hF happ hP
  obtain ⟨hcalls, hrest, hpre⟩ := hP
  obtain ⟨-, -, -, hnamed, -, -, -, hat⟩ := (Spec.applies_iff hf).mp happ
  obtain ⟨hg, hn⟩ := and_e (Cond.before_iff.mp (show (Jvm.Cond.and given_1 narrow_1).before args s = true from hpre))
  obtain ⟨hcnt, hg0⟩ := and_e hg
  obtain ⟨ha0, hg1⟩ := and_e hg0
  obtain ⟨ha1, hg2⟩ := and_e hg1
  obtain ⟨ha2, hg3⟩ := and_e hg2
  obtain ⟨ha3, hg4⟩ := and_e hg3
  have ha4 := hg4
  obtain ⟨w0, w1, w2, w3, w4, rfl⟩ : ∃ w0 w1 w2 w3 w4 : Value, args = #[w0, w1, w2, w3, w4] := by
    have hs : args.size = 5 := by simpa [Cond.value, given_1] using hcnt
    obtain ⟨L⟩ := args
    match L, hs with
    | [w0, w1, w2, w3, w4], _ => exact ⟨w0, w1, w2, w3, w4, rfl⟩
  have hw := fun d (hd : d ∈ tables_1) => atoms_spec (ws := Jvm.Cond.code x code maxLocals ret :: tables_1) hat d (List.mem_cons_of_mem _ hd)
  obtain ⟨i0, ei0⟩ := is_v ha0
  obtain rfl : w0 = (.int i0) := Option.some.inj ei0
  obtain ⟨i1, ei1⟩ := is_v ha1
  obtain rfl : w1 = (.int i1) := Option.some.inj ei1
  obtain ⟨i2, ei2⟩ := is_v ha2
  obtain rfl : w2 = (.int i2) := Option.some.inj ei2
  obtain ⟨i3, ei3⟩ := is_v ha3
  obtain rfl : w3 = (.int i3) := Option.some.inj ei3
  obtain ⟨i4, ei4⟩ := is_v ha4
  obtain rfl : w4 = (.int i4) := Option.some.inj ei4
  obtain ⟨n, o, h1, h2, h3, _, L, rfl, ⟨rfl, N⟩, hq⟩ := rm0 l s _ hw tables_1 i0 i1 i2 i3 i4  s.heap  p e ha hc hk s m _ below hf ((Spec.applies_iff_loose hf).mp happ).1 ⟨rfl, State.Warmed39.refl s, rfl⟩ trivial
  refine ⟨n, _, h1, h2, h3, hpost _ _ _ _ _ _ ⟨Cond.after_iff.mpr rfl, Cond.after_iff.mpr (eq_i res_at (Term.int_eval (1)) rfl), trivial⟩ ⟨hq.1, hq.2.1, (hq.2.2.sift fun y hy => Or.inr (N y hy)).mono (by decide) (by decide)⟩⟩
theorem main_1_1 : Claimed_1_1 := comes_1 fun _ _ _ _ _ _ h hF => ⟨h.1, hF⟩
theorem main_1_2 : Claimed_1_2 := comes_1 fun _ _ _ _ _ _ h hF => ⟨h.2.1, hF⟩

end Jvm.Pilot.@@N@@
namespace Jvm.Pilot.@@N@@
open Jvm Jvm.ClassFile Sem Op Lib Jvm.Free Jvm.Stand Jvm.Pilot.@@N@@.Jvm.D
/-! MADE BY PROGRAM (witnessworld.py) out of the Statement's table words and the real class files: 9 classes; the members and pool entries that the words name. The judged class is class 1, her method 1. -/
namespace start1
open Jvm.ClassFile
def u (s : String) : CpInfo := .utf8 (stringToUtf16 s)
/-- a pool by its gaps: so many unusable entries, then the entry; so many at the end -/
def gap : Nat → List CpInfo → List CpInfo
  | 0, r => r
  | n + 1, r => .unusable :: gap n r
def poolList (es : List (Nat × CpInfo)) (last : Nat) : List CpInfo := es.foldr (fun e r => gap e.1 (e.2 :: r)) (gap last [])
def pool (es : List (Nat × CpInfo)) (last : Nat) : Array CpInfo := ⟨poolList es last⟩
def fileOf (pool : Array CpInfo) (this : Nat) (attrs : Array Attribute := #[]) (ms : Array MethodInfo := #[]) (fl : Nat := 33) (sup : Nat := 0) (ifs : Array Nat := #[]) (fds : Array FieldInfo := #[]) : ClassFile where
  minorVersion := 0
  majorVersion := 65
  constantPool := pool
  accessFlags := fl
  thisClass := this
  superClass := sup
  interfaces := ifs
  fields := fds
  methods := ms
  attributes := attrs
def plain (name : String) (sup : Option ClassId) : Class where
  name := name
  kind := .ordinary
  loader := none
  accessFlags := 33
  super := sup
  interfaces := #[]
  cf := none
  fields := #[]
  methods := #[]
  instanceTypes := #[]
  staticTypes := #[]
  resolved := #[]
  callSites := []
  init := .initialized
  statics := none
  mirror := none

def pool0 : Array CpInfo := pool [(5, u "<init>"), (0, u "()V"), (1, .class_ 10), (1, u "java/lang/Object")] 113

def k0m0 : Method := { name := "<init>", desc := "()V", sig := { parameters := [], returnType := none }, accessFlags := 1, code := none }
/-- java/lang/Object -/
def k0 : Class := { plain "java/lang/Object" none with
  accessFlags := 33
  interfaces := #[]
  cf := some (fileOf pool0 8 #[] #[{ accessFlags := 1, nameIndex := 5, descriptorIndex := 6, attributes := #[] }] 33 0 #[] #[])
  fields := #[]
  methods := #[k0m0]
  instanceTypes := #[]
  staticTypes := #[]
  resolved := Array.replicate 124 none
  statics := none }

def pool1 : Array CpInfo := pool [(2, .class_ 4), (1, u "java/lang/Object"), (0, u "<init>"), (0, u "()V"), (0, .methodref 8 9), (0, .class_ 10), (0, .nameAndType 11 12), (0, u "com/example/orbweave/orbweave/plane/NoFit"), (0, u "crossing"), (0, u "(DDDDDDDD)D"), (0, .double 4620693217682128896), (1, .class_ 16), (0, u "com/example/orbweave/orbweave/plane/NoFitCrossingPinLaw"), (2, u "law"), (0, u "(IIIII)Z")] 3

def k1m0 : Method := { name := "<init>", desc := "()V", sig := { parameters := [], returnType := none }, accessFlags := 1, code := none }
def k1c1 : Code := { maxStack := 16, maxLocals := 19, code := code, exceptionTable := #[], attributes := #[] }
def k1m1 : Method := { name := "law", desc := "(IIIII)Z", sig := { parameters := [.int, .int, .int, .int, .int], returnType := some .boolean }, accessFlags := 9, code := some k1c1 }
/-- com/example/orbweave/orbweave/plane/NoFitCrossingPinLaw -/
def k1 : Class := { plain "com/example/orbweave/orbweave/plane/NoFitCrossingPinLaw" (some 0) with
  accessFlags := 49
  interfaces := #[]
  cf := some (fileOf pool1 15 #[] #[{ accessFlags := 1, nameIndex := 5, descriptorIndex := 6, attributes := #[] }, { accessFlags := 9, nameIndex := 19, descriptorIndex := 20, attributes := #[] }] 49 2 #[] #[])
  fields := #[]
  methods := #[k1m0, k1m1]
  instanceTypes := #[]
  staticTypes := #[]
  resolved := Array.replicate 24 none
  statics := none }

def pool2 : Array CpInfo := pool [(2, .class_ 4), (1, u "java/lang/Object"), (9, .class_ 16), (1, u "com/example/orbweave/orbweave/plane/NoFit"), (0, u "pieces"), (0, u "Ljava/util/List;"), (28, u "minX"), (0, u "D"), (3, u "minY"), (6, u "maxX"), (3, u "maxY"), (2, u "segments"), (0, u "[D"), (69, .class_ 138), (0, u "com/example/orbweave/orbweave/plane/NoFit$Cuts"), (26, u "crossing"), (0, u "(DDDDDDDD)D"), (40, .double 9221120237041090560)] 56

def k2c0 : Code := { maxStack := 6, maxLocals := 22, code := prog_28_method_9_code, exceptionTable := #[], attributes := #[] }
def k2m0 : Method := { name := "crossing", desc := "(DDDDDDDD)D", sig := { parameters := [.double, .double, .double, .double, .double, .double, .double, .double], returnType := some .double }, accessFlags := 8, code := some k2c0 }
/-- com/example/orbweave/orbweave/plane/NoFit -/
def k2 : Class := { plain "com/example/orbweave/orbweave/plane/NoFit" (some 0) with
  accessFlags := 48
  interfaces := #[]
  cf := some (fileOf pool2 14 #[.nestMembers #[137]] #[{ accessFlags := 8, nameIndex := 165, descriptorIndex := 166, attributes := #[] }] 48 2 #[] #[{ accessFlags := 16, nameIndex := 17, descriptorIndex := 18, attributes := #[] }, { accessFlags := 16, nameIndex := 47, descriptorIndex := 48, attributes := #[] }, { accessFlags := 16, nameIndex := 52, descriptorIndex := 48, attributes := #[] }, { accessFlags := 16, nameIndex := 59, descriptorIndex := 48, attributes := #[] }, { accessFlags := 16, nameIndex := 63, descriptorIndex := 48, attributes := #[] }, { accessFlags := 16, nameIndex := 66, descriptorIndex := 67, attributes := #[] }])
  fields := #[{ name := "pieces", type := (.object "java/util/List"), accessFlags := 16, slot := 0, constantValue := 0 }, { name := "minX", type := .double, accessFlags := 16, slot := 1, constantValue := 0 }, { name := "minY", type := .double, accessFlags := 16, slot := 2, constantValue := 0 }, { name := "maxX", type := .double, accessFlags := 16, slot := 3, constantValue := 0 }, { name := "maxY", type := .double, accessFlags := 16, slot := 4, constantValue := 0 }, { name := "segments", type := (.array .double), accessFlags := 16, slot := 5, constantValue := 0 }]
  methods := #[k2m0]
  instanceTypes := #[(.object "java/util/List"), .double, .double, .double, .double, (.array .double)]
  staticTypes := #[]
  resolved := Array.replicate 264 none
  statics := none }

def pool3 : Array CpInfo := pool [(1, u "java/lang/Cloneable"), (0, .class_ 1), (0, u "java/lang/Object"), (0, .class_ 3)] 3

/-- java/lang/Cloneable -/
def k3 : Class := { plain "java/lang/Cloneable" (some 0) with
  accessFlags := 1537
  interfaces := #[]
  cf := some (fileOf pool3 2 #[] #[] 1537 4 #[] #[])
  fields := #[]
  methods := #[]
  instanceTypes := #[]
  staticTypes := #[]
  resolved := Array.replicate 8 none
  statics := none }

def pool4 : Array CpInfo := pool [(1, u "java/io/Serializable"), (0, .class_ 1), (0, u "java/lang/Object"), (0, .class_ 3)] 3

/-- java/io/Serializable -/
def k4 : Class := { plain "java/io/Serializable" (some 0) with
  accessFlags := 1537
  interfaces := #[]
  cf := some (fileOf pool4 2 #[] #[] 1537 4 #[] #[])
  fields := #[]
  methods := #[]
  instanceTypes := #[]
  staticTypes := #[]
  resolved := Array.replicate 8 none
  statics := none }

/-- the primitive byte -/
def k5 : Class := { plain "byte" none with kind := .primitive 'B', accessFlags := 0x411 }
/-- [B -/
def k6 : Class := { plain "[B" (some 0) with kind := .array 5 .byte, interfaces := #[3, 4], accessFlags := 1041 }

/-- the primitive int -/
def k7 : Class := { plain "int" none with kind := .primitive 'I', accessFlags := 0x411 }
/-- [I -/
def k8 : Class := { plain "[I" (some 0) with kind := .array 7 .int, interfaces := #[3, 4], accessFlags := 1041 }

def heap : Heap := #[]
def classes : Array Class := #[k0, k1, k2, k3, k4, k5, k6, k7, k8]
def interned : List (Array UInt16 × Addr) := []
def slotsUsed : Nat := 0
def theMethod : MethodId := ⟨1, 1⟩
def args0 : Array Value := #[.int 1, .int 2, .int 2049, .int 4096, .int 300]
def aboutOver (below : List Frame) : State where
  vm := { classes := classes, interned := interned.toArray }
  heap := heap
  slotsUsed := slotsUsed
  threads := #[{ frames := .invoking theMethod args0 :: below }]
def below0 : List Frame := [.native { method := ⟨0, 0⟩, args := #[] }]
def about1 : State := aboutOver below0
def p0 : Program := .bare "" "" ""
def e0 : Env := launch0.env 0 0 0
theorem w_frames : about1.frames = Frame.invoking theMethod args0 :: below0 := rfl
set_option maxRecDepth 65536 in
theorem w_args : argsFit about1.vm theMethod args0 = true := by decide +kernel
set_option maxRecDepth 65536 in
theorem w_heap : heapFits about1 = true := by decide +kernel
set_option maxRecDepth 65536 in
theorem w_runnable : about1.curStatus? = some .runnable := by decide +kernel
set_option maxRecDepth 65536 in
theorem w_alone : about1.alone = true := by decide +kernel
set_option maxRecDepth 65536 in
theorem w_named : about1.methodNamed? x = some theMethod := by decide +kernel
set_option maxRecDepth 65536 in
theorem w_hears : about1.hears theMethod below0 = true := by decide +kernel
set_option maxRecDepth 65536 in
theorem w_ripe : about1.ripe theMethod args0 below0 = true := by decide +kernel
theorem w_running : about1.status = .running := rfl
set_option maxRecDepth 65536 in
theorem w_room : about1.hasRoom e0.platform room_1 = true :=
  launch0.hasRoom_least _ room_1 (by decide +kernel) (by decide +kernel) (by decide +kernel) (by decide +kernel) (by decide +kernel) (by decide +kernel)
theorem allAtoms_all (ts : List Jvm.Cond) (a : Array Jvm.Value) (st : Jvm.State) : (allAtoms ts).before a st = ts.all (fun c => c.before a st) := by
  induction ts with
  | nil => rfl
  | cons c t ih =>
    show (Jvm.Cond.and c (allAtoms t)).before a st = _
    rw [Jvm.Cond.before_and, ih, List.all_cons]
def words1 : List Jvm.Cond := Jvm.Cond.code x code maxLocals ret :: tables_1
/-- a 'code' word, met by the world's own term for the bytes: nothing is compared byte by byte -/
theorem code_word {y : MethodName} {bytes : ByteArray} {mx : Nat} {rt : Option FieldType} {a : Array Value} {s : State} {m : MethodId} {meth : Method} {c : Code} (h1 : s.methodNamed? y = some m) (h2 : s.vm.method? m = some meth) (h3 : meth.code = some c) (h4 : c.code = bytes)
    (h5 : (c.maxLocals == mx && c.exceptionTable.isEmpty && decide (c.maxStack ≤ mostOperands) && decide (meth.sig.returnType = rt) && !meth.locks && decide (parseMethodDescriptor y.desc = some meth.sig)) = true) : (Jvm.Cond.code y bytes mx rt).before a s = true := by
  simp only [Bool.and_eq_true, beq_iff_eq, Bool.not_eq_true', decide_eq_true_eq] at h5
  obtain ⟨⟨⟨⟨⟨g1, g2⟩, g3⟩, g4⟩, g5⟩, g6⟩ := h5
  simp [Cond.before, Cond.holds, Cond.value, h1, h2, h3, h4, g1, g2, g3, g4, g5, g6]
def isCode : Jvm.Cond → Bool
  | .code _ _ _ _ => true
  | _ => false
theorem all_split {L : List Jvm.Cond} {P : Jvm.Cond → Bool} (h1 : L.all (fun c => isCode c || P c) = true) (h2 : ∀ c ∈ L.filter isCode, P c = true) : L.all P = true := by
  refine List.all_eq_true.mpr fun c hc => ?_
  have h := List.all_eq_true.mp h1 c hc
  rcases Bool.eq_false_or_eq_true (isCode c) with hi | hi
  · exact h2 c (List.mem_filter.mpr ⟨hc, hi⟩)
  · simpa [hi] using h
set_option maxRecDepth 65536 in
theorem w_c0 : (Jvm.Cond.code x code maxLocals ret).before args0 about1 = true := code_word (m := ⟨1, 1⟩) (meth := k1m1) (c := k1c1) (by decide +kernel) rfl rfl rfl (by decide +kernel)
set_option maxRecDepth 65536 in
theorem w_c1 : (Jvm.Cond.code ({ cls := "com/example/orbweave/orbweave/plane/NoFit", name := "crossing", desc := "(DDDDDDDD)D" } : Jvm.MethodName) prog_28_method_9_code (22 : Nat) (Option.some Jvm.ClassFile.FieldType.double)).before args0 about1 = true := code_word (m := ⟨2, 0⟩) (meth := k2m0) (c := k2c0) (by decide +kernel) rfl rfl rfl (by decide +kernel)
def codes1 : List Jvm.Cond := [Jvm.Cond.code x code maxLocals ret, Jvm.Cond.code ({ cls := "com/example/orbweave/orbweave/plane/NoFit", name := "crossing", desc := "(DDDDDDDD)D" } : Jvm.MethodName) prog_28_method_9_code (22 : Nat) (Option.some Jvm.ClassFile.FieldType.double)]
set_option maxRecDepth 65536 in
theorem codes_eq : words1.filter isCode = codes1 := rfl
theorem w_codes : ∀ c ∈ words1.filter isCode, c.before args0 about1 = true := by
  rw [codes_eq]
  intro c hc
  simp only [codes1, List.mem_cons, List.not_mem_nil, or_false] at hc
  rcases hc with rfl | rfl
  · exact w_c0
  · exact w_c1
set_option maxRecDepth 65536 in
theorem w_t1 : words1.all (fun c => isCode c || c.before args0 about1) = true := by decide +kernel
theorem w_tables : (allAtoms (Jvm.Cond.code x code maxLocals ret :: tables_1)).before args0 about1 = true := by
  rw [allAtoms_all]
  show words1.all (fun c => c.before args0 about1) = true
  refine all_split ?_ w_codes
  rw [w_t1]
set_option maxRecDepth 65536 in
theorem w_case : (Jvm.Cond.and given_1 narrow_1).before args0 about1 = true := by decide +kernel
theorem w_applies : (headSpec (Jvm.Cond.code x code maxLocals ret :: tables_1) room_1).applies x e0.platform about1 = true :=
  (Spec.applies_iff w_frames).mpr ⟨w_running, w_runnable, w_alone, w_named, w_hears, w_ripe, w_room, w_tables⟩
theorem atStart : AtStart classFile x code maxLocals ret World_1 tables_1 room_1 Calls_1 rest_1 Pre_1 launch0 p0 e0 about1 theMethod args0 below0 :=
  ⟨lists_1, trivial, launch0.admits_env _ _ _, launch0.least_env, fairChoices_fair.cas, fairChoices_fair.clock, w_frames, w_args, w_heap, w_applies, trivial, trivial, w_case⟩
end start1
theorem witness_1 : WitnessClaimed_1 := ⟨start1.p0, start1.e0, start1.about1, start1.theMethod, start1.args0, start1.below0, start1.atStart⟩
end Jvm.Pilot.@@N@@
